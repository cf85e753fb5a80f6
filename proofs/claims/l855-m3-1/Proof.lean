import JvmDerived
import JvmDerived.Pilot.@@N@@Statement
import JvmDerived.Pilot.@@N@@Code
set_option linter.unusedVariables false
set_option linter.unusedSimpArgs false
namespace Jvm.OwnK
open Sem ClassFile Op Lib Jvm.Stand Jvm.Free Jvm.LawKit Jvm.RoadKit
section
variable {p : Program} {l : Launch} {e : Env} {R : Room} {s : State} {m : MethodId} {args : Array Value} {below : List Frame} {meth : Method} {c : Code} {T : State} {locs : List Loc} {cells slots : Nat} {Cn Sn : Nat} {Q : Option Value → Heap → List Loc → Prop}
/-- from the frame f the run comes to an end that Q takes -/
def KEnds (p : Program) (e : Env) (below : List Frame) (s : State) (Cn Sn : Nat) (Q : Option Value → Heap → List Loc → Prop) (T : State) (f : JFrame) : Prop :=
  ∃ s₂ o, Steps p.tables e below (T.setTop f) s₂ ∧ s₂.status = .running ∧ Ended s₂ below o ∧ ∃ v L, o = .returned v ∧ Q v s₂.heap L ∧ FrameEnd s o s₂ L Cn Sn
theorem k_via {T' : State} {f f' : JFrame} (st : ∀ t, Steps p.tables e below (T'.setTop f') t → Steps p.tables e below (T.setTop f) t) (k : KEnds p e below s Cn Sn Q T' f') : KEnds p e below s Cn Sn Q T f := by
  obtain ⟨s₂, o, h, r⟩ := k
  exact ⟨s₂, o, st _ h, r⟩
theorem k_ushr0 (x : Int64) : ((x.toUInt64 >>> ((0 : Int32) &&& 0x3f).toInt64.toUInt64).toInt64) = x := by
  have : ((0 : Int32) &&& 0x3f).toInt64.toUInt64 = 0 := by decide
  rw [this]; simp
theorem k_iloadN (X : Stand p l e R s m args below meth c T locs cells slots) (hx : p.tables.exec = Jvm.exec) {pc pc' : Nat} {Ls : Array Slot} {St : List Value} {i : Fin 4} {v : Int32} (hd : decode c.code pc = .ok (.iload_n i, 1)) (hl : Ls[i.val]? = some (.val (.int v))) (hpc : pc + 1 = pc') (k : KEnds p e below s Cn Sn Q T (mkF m pc' Ls (.int v :: St))) : KEnds p e below s Cn Sn Q T (mkF m pc Ls (St)) := by
  subst hpc; exact k_via (fun t h => XS.iloadN X.here hx rfl hd hl h) k
theorem k_iload (X : Stand p l e R s m args below meth c T locs cells slots) (hx : p.tables.exec = Jvm.exec) {pc pc' : Nat} {Ls : Array Slot} {St : List Value} {i : Nat} {v : Int32} (hd : decode c.code pc = .ok (.iload i, 2)) (hl : Ls[i]? = some (.val (.int v))) (hpc : pc + 2 = pc') (k : KEnds p e below s Cn Sn Q T (mkF m pc' Ls (.int v :: St))) : KEnds p e below s Cn Sn Q T (mkF m pc Ls (St)) := by
  subst hpc; exact k_via (fun t h => XS.iload X.here hx rfl hd hl h) k
theorem k_istoreN (X : Stand p l e R s m args below meth c T locs cells slots) (hx : p.tables.exec = Jvm.exec) {pc pc' : Nat} {Ls : Array Slot} {St : List Value} {i : Fin 4} {v : Int32} {Ls' : Array Slot} (hd : decode c.code pc = .ok (.istore_n i, 1)) (hl : storeLocals Ls i.val (.int v) = some Ls') (hpc : pc + 1 = pc') (k : KEnds p e below s Cn Sn Q T (mkF m pc' Ls' (St))) : KEnds p e below s Cn Sn Q T (mkF m pc Ls (.int v :: St)) := by
  subst hpc; exact k_via (fun t h => XS.istoreN X.here hx rfl hd rfl hl h) k
theorem k_istore (X : Stand p l e R s m args below meth c T locs cells slots) (hx : p.tables.exec = Jvm.exec) {pc pc' : Nat} {Ls : Array Slot} {St : List Value} {i : Nat} {v : Int32} {Ls' : Array Slot} (hd : decode c.code pc = .ok (.istore i, 2)) (hl : storeLocals Ls i (.int v) = some Ls') (hpc : pc + 2 = pc') (k : KEnds p e below s Cn Sn Q T (mkF m pc' Ls' (St))) : KEnds p e below s Cn Sn Q T (mkF m pc Ls (.int v :: St)) := by
  subst hpc; exact k_via (fun t h => XS.istore X.here hx rfl hd rfl hl h) k
theorem k_lloadN (X : Stand p l e R s m args below meth c T locs cells slots) (hx : p.tables.exec = Jvm.exec) {pc pc' : Nat} {Ls : Array Slot} {St : List Value} {i : Fin 4} {v : Int64} (hd : decode c.code pc = .ok (.lload_n i, 1)) (hl : Ls[i.val]? = some (.val (.long v))) (hpc : pc + 1 = pc') (k : KEnds p e below s Cn Sn Q T (mkF m pc' Ls (.long v :: St))) : KEnds p e below s Cn Sn Q T (mkF m pc Ls (St)) := by
  subst hpc; exact k_via (fun t h => XS.lloadN X.here hx rfl hd hl h) k
theorem k_lload (X : Stand p l e R s m args below meth c T locs cells slots) (hx : p.tables.exec = Jvm.exec) {pc pc' : Nat} {Ls : Array Slot} {St : List Value} {i : Nat} {v : Int64} (hd : decode c.code pc = .ok (.lload i, 2)) (hl : Ls[i]? = some (.val (.long v))) (hpc : pc + 2 = pc') (k : KEnds p e below s Cn Sn Q T (mkF m pc' Ls (.long v :: St))) : KEnds p e below s Cn Sn Q T (mkF m pc Ls (St)) := by
  subst hpc; exact k_via (fun t h => XS.lload X.here hx rfl hd hl h) k
theorem k_lstore (X : Stand p l e R s m args below meth c T locs cells slots) (hx : p.tables.exec = Jvm.exec) {pc pc' : Nat} {Ls : Array Slot} {St : List Value} {i : Nat} {v : Int64} {Ls' : Array Slot} (hd : decode c.code pc = .ok (.lstore i, 2)) (hl : storeLocals Ls i (.long v) = some Ls') (hpc : pc + 2 = pc') (k : KEnds p e below s Cn Sn Q T (mkF m pc' Ls' (St))) : KEnds p e below s Cn Sn Q T (mkF m pc Ls (.long v :: St)) := by
  subst hpc; exact k_via (fun t h => XS.lstore X.here hx rfl hd rfl hl h) k
theorem k_aloadN (X : Stand p l e R s m args below meth c T locs cells slots) (hx : p.tables.exec = Jvm.exec) {pc pc' : Nat} {Ls : Array Slot} {St : List Value} {i : Fin 4} {v : Value} (hd : decode c.code pc = .ok (.aload_n i, 1)) (hl : Ls[i.val]? = some (.val v)) (hv : v.isRef = true) (hpc : pc + 1 = pc') (k : KEnds p e below s Cn Sn Q T (mkF m pc' Ls (v :: St))) : KEnds p e below s Cn Sn Q T (mkF m pc Ls (St)) := by
  subst hpc; exact k_via (fun t h => XS.aloadN X.here hx rfl hd hl hv h) k
theorem k_aload (X : Stand p l e R s m args below meth c T locs cells slots) (hx : p.tables.exec = Jvm.exec) {pc pc' : Nat} {Ls : Array Slot} {St : List Value} {i : Nat} {v : Value} (hd : decode c.code pc = .ok (.aload i, 2)) (hl : Ls[i]? = some (.val v)) (hv : v.isRef = true) (hpc : pc + 2 = pc') (k : KEnds p e below s Cn Sn Q T (mkF m pc' Ls (v :: St))) : KEnds p e below s Cn Sn Q T (mkF m pc Ls (St)) := by
  subst hpc; exact k_via (fun t h => XS.aload X.here hx rfl hd hl hv h) k
theorem k_astore (X : Stand p l e R s m args below meth c T locs cells slots) (hx : p.tables.exec = Jvm.exec) {pc pc' : Nat} {Ls : Array Slot} {St : List Value} {i : Nat} {v : Value} {Ls' : Array Slot} (hd : decode c.code pc = .ok (.astore i, 2)) (hv : v.isRef = true) (hl : storeLocals Ls i v = some Ls') (hpc : pc + 2 = pc') (k : KEnds p e below s Cn Sn Q T (mkF m pc' Ls' (St))) : KEnds p e below s Cn Sn Q T (mkF m pc Ls (v :: St)) := by
  subst hpc; exact k_via (fun t h => XS.astore X.here hx rfl hd rfl hv hl h) k
theorem k_iconst (X : Stand p l e R s m args below meth c T locs cells slots) (hx : p.tables.exec = Jvm.exec) {pc pc' : Nat} {Ls : Array Slot} {St : List Value} {i : Int} {z : Int32} (hd : decode c.code pc = .ok (.iconst i, 1)) (hpc : pc + 1 = pc') (hz : Int32.ofInt i = z) (k : KEnds p e below s Cn Sn Q T (mkF m pc' Ls (.int z :: St))) : KEnds p e below s Cn Sn Q T (mkF m pc Ls St) := by
  subst hpc hz; exact k_via (fun t h => XS.iconst X.here hx rfl hd h) k
theorem k_bipush (X : Stand p l e R s m args below meth c T locs cells slots) (hx : p.tables.exec = Jvm.exec) {pc pc' : Nat} {Ls : Array Slot} {St : List Value} {i : Int} {z : Int32} (hd : decode c.code pc = .ok (.bipush i, 2)) (hpc : pc + 2 = pc') (hz : (Int8.ofInt i).toInt32 = z) (k : KEnds p e below s Cn Sn Q T (mkF m pc' Ls (.int z :: St))) : KEnds p e below s Cn Sn Q T (mkF m pc Ls St) := by
  subst hpc hz; exact k_via (fun t h => XS.bipush X.here hx rfl hd h) k
theorem k_lconst (X : Stand p l e R s m args below meth c T locs cells slots) (hx : p.tables.exec = Jvm.exec) {pc pc' : Nat} {Ls : Array Slot} {St : List Value} {i : Fin 2} {z : Int64} (hd : decode c.code pc = .ok (.lconst i, 1)) (hpc : pc + 1 = pc') (hz : Int64.ofNat i = z) (k : KEnds p e below s Cn Sn Q T (mkF m pc' Ls (.long z :: St))) : KEnds p e below s Cn Sn Q T (mkF m pc Ls St) := by
  subst hpc hz; exact k_via (fun t h => XS.lconst X.here hx rfl hd h) k
theorem k_iaddL (X : Stand p l e R s m args below meth c T locs cells slots) (hx : p.tables.exec = Jvm.exec) {pc pc' : Nat} {Ls : Array Slot} {St : List Value} {x y : Int32} {z : Int32} (hd : decode c.code pc = .ok (.iadd, 1))  (hpc : pc + 1 = pc') (hz : x + y = z) (k : KEnds p e below s Cn Sn Q T (mkF m pc' Ls (.int z :: St))) : KEnds p e below s Cn Sn Q T (mkF m pc Ls (.int y :: .int x :: St)) := by
  subst hpc hz; exact k_via (fun t h => XS.iadd X.here hx rfl hd rfl h) k
theorem k_imulL (X : Stand p l e R s m args below meth c T locs cells slots) (hx : p.tables.exec = Jvm.exec) {pc pc' : Nat} {Ls : Array Slot} {St : List Value} {x y : Int32} {z : Int32} (hd : decode c.code pc = .ok (.imul, 1))  (hpc : pc + 1 = pc') (hz : x * y = z) (k : KEnds p e below s Cn Sn Q T (mkF m pc' Ls (.int z :: St))) : KEnds p e below s Cn Sn Q T (mkF m pc Ls (.int y :: .int x :: St)) := by
  subst hpc hz; exact k_via (fun t h => XS.imul X.here hx rfl hd rfl h) k
theorem k_iand (X : Stand p l e R s m args below meth c T locs cells slots) (hx : p.tables.exec = Jvm.exec) {pc pc' : Nat} {Ls : Array Slot} {St : List Value} {x y : Int32} (hd : decode c.code pc = .ok (.iand, 1))  (hpc : pc + 1 = pc') (k : ∀ z : Int32, z = x &&& y → KEnds p e below s Cn Sn Q T (mkF m pc' Ls (.int z :: St))) : KEnds p e below s Cn Sn Q T (mkF m pc Ls (.int y :: .int x :: St)) := by
  subst hpc; exact k_via (fun t h => XS.iand X.here hx rfl hd rfl h) (k _ rfl)
theorem k_ladd (X : Stand p l e R s m args below meth c T locs cells slots) (hx : p.tables.exec = Jvm.exec) {pc pc' : Nat} {Ls : Array Slot} {St : List Value} {x y : Int64} (hd : decode c.code pc = .ok (.ladd, 1))  (hpc : pc + 1 = pc') (k : ∀ z : Int64, z = x + y → KEnds p e below s Cn Sn Q T (mkF m pc' Ls (.long z :: St))) : KEnds p e below s Cn Sn Q T (mkF m pc Ls (.long y :: .long x :: St)) := by
  subst hpc; exact k_via (fun t h => XS.ladd X.here hx rfl hd rfl h) (k _ rfl)
theorem k_landL (X : Stand p l e R s m args below meth c T locs cells slots) (hx : p.tables.exec = Jvm.exec) {pc pc' : Nat} {Ls : Array Slot} {St : List Value} {x y : Int64} {z : Int64} (hd : decode c.code pc = .ok (.land, 1))  (hpc : pc + 1 = pc') (hz : x &&& y = z) (k : KEnds p e below s Cn Sn Q T (mkF m pc' Ls (.long z :: St))) : KEnds p e below s Cn Sn Q T (mkF m pc Ls (.long y :: .long x :: St)) := by
  subst hpc hz; exact k_via (fun t h => XS.land X.here hx rfl hd rfl h) k
theorem k_land (X : Stand p l e R s m args below meth c T locs cells slots) (hx : p.tables.exec = Jvm.exec) {pc pc' : Nat} {Ls : Array Slot} {St : List Value} {x y : Int64} (hd : decode c.code pc = .ok (.land, 1))  (hpc : pc + 1 = pc') (k : ∀ z : Int64, z = x &&& y → KEnds p e below s Cn Sn Q T (mkF m pc' Ls (.long z :: St))) : KEnds p e below s Cn Sn Q T (mkF m pc Ls (.long y :: .long x :: St)) := by
  subst hpc; exact k_via (fun t h => XS.land X.here hx rfl hd rfl h) (k _ rfl)
theorem k_lxor (X : Stand p l e R s m args below meth c T locs cells slots) (hx : p.tables.exec = Jvm.exec) {pc pc' : Nat} {Ls : Array Slot} {St : List Value} {x y : Int64} (hd : decode c.code pc = .ok (.lxor, 1))  (hpc : pc + 1 = pc') (k : ∀ z : Int64, z = x ^^^ y → KEnds p e below s Cn Sn Q T (mkF m pc' Ls (.long z :: St))) : KEnds p e below s Cn Sn Q T (mkF m pc Ls (.long y :: .long x :: St)) := by
  subst hpc; exact k_via (fun t h => XS.lxor X.here hx rfl hd rfl h) (k _ rfl)
theorem k_lshl (X : Stand p l e R s m args below meth c T locs cells slots) (hx : p.tables.exec = Jvm.exec) {pc pc' : Nat} {Ls : Array Slot} {St : List Value} {x : Int64} {y : Int32} (hd : decode c.code pc = .ok (.lshl, 1))  (hpc : pc + 1 = pc') (k : ∀ z : Int64, z = x <<< (y &&& 0x3f).toInt64 → KEnds p e below s Cn Sn Q T (mkF m pc' Ls (.long z :: St))) : KEnds p e below s Cn Sn Q T (mkF m pc Ls (.int y :: .long x :: St)) := by
  subst hpc; exact k_via (fun t h => XS.lshl X.here hx rfl hd rfl h) (k _ rfl)
theorem k_lushrL (X : Stand p l e R s m args below meth c T locs cells slots) (hx : p.tables.exec = Jvm.exec) {pc pc' : Nat} {Ls : Array Slot} {St : List Value} {x : Int64} {y : Int32} {z : Int64} (hd : decode c.code pc = .ok (.lushr, 1))  (hpc : pc + 1 = pc') (hz : ((x.toUInt64 >>> (y &&& 0x3f).toInt64.toUInt64).toInt64) = z) (k : KEnds p e below s Cn Sn Q T (mkF m pc' Ls (.long z :: St))) : KEnds p e below s Cn Sn Q T (mkF m pc Ls (.int y :: .long x :: St)) := by
  subst hpc hz; exact k_via (fun t h => XS.lushr X.here hx rfl hd rfl h) k
theorem k_lushr (X : Stand p l e R s m args below meth c T locs cells slots) (hx : p.tables.exec = Jvm.exec) {pc pc' : Nat} {Ls : Array Slot} {St : List Value} {x : Int64} {y : Int32} (hd : decode c.code pc = .ok (.lushr, 1))  (hpc : pc + 1 = pc') (k : ∀ z : Int64, z = ((x.toUInt64 >>> (y &&& 0x3f).toInt64.toUInt64).toInt64) → KEnds p e below s Cn Sn Q T (mkF m pc' Ls (.long z :: St))) : KEnds p e below s Cn Sn Q T (mkF m pc Ls (.int y :: .long x :: St)) := by
  subst hpc; exact k_via (fun t h => XS.lushr X.here hx rfl hd rfl h) (k _ rfl)
theorem k_iremL (X : Stand p l e R s m args below meth c T locs cells slots) (hx : p.tables.exec = Jvm.exec) {pc pc' : Nat} {Ls : Array Slot} {St : List Value} {x y : Int32} {z : Int32} (hd : decode c.code pc = .ok (.irem, 1)) (hy : y ≠ 0) (hpc : pc + 1 = pc') (hz : x % y = z) (k : KEnds p e below s Cn Sn Q T (mkF m pc' Ls (.int z :: St))) : KEnds p e below s Cn Sn Q T (mkF m pc Ls (.int y :: .int x :: St)) := by
  subst hpc hz; exact k_via (fun t h => iremM X hx rfl hd rfl hy h) k
theorem k_idivL (X : Stand p l e R s m args below meth c T locs cells slots) (hx : p.tables.exec = Jvm.exec) {pc pc' : Nat} {Ls : Array Slot} {St : List Value} {x y : Int32} {z : Int32} (hd : decode c.code pc = .ok (.idiv, 1)) (hy : y ≠ 0) (hpc : pc + 1 = pc') (hz : x / y = z) (k : KEnds p e below s Cn Sn Q T (mkF m pc' Ls (.int z :: St))) : KEnds p e below s Cn Sn Q T (mkF m pc Ls (.int y :: .int x :: St)) := by
  subst hpc hz; exact k_via (fun t h => XS.idiv X.here hx rfl hd rfl hy h) k
theorem k_iinc (X : Stand p l e R s m args below meth c T locs cells slots) (hx : p.tables.exec = Jvm.exec) {pc pc' : Nat} {Ls : Array Slot} {St : List Value} {i : Nat} {cst : Int} {x z : Int32} {Ls' : Array Slot} (hd : decode c.code pc = .ok (.iinc i cst, 3)) (hl : Ls[i]? = some (.val (.int x))) (hpc : pc + 3 = pc') (hz : x + Int32.ofInt cst = z) (hl' : storeLocals Ls i (.int z) = some Ls') (k : KEnds p e below s Cn Sn Q T (mkF m pc' Ls' St)) : KEnds p e below s Cn Sn Q T (mkF m pc Ls St) := by
  subst hpc hz; exact k_via (fun t h => XS.iinc X.here hx rfl hd hl hl' h) k
theorem k_goto (X : Stand p l e R s m args below meth c T locs cells slots) (hx : p.tables.exec = Jvm.exec) {pc pc' : Nat} {Ls : Array Slot} {St : List Value} {o : Int} (hd : decode c.code pc = .ok (.goto o, 3)) (hp : (pc : Int) + o = (pc' : Int)) (k : KEnds p e below s Cn Sn Q T (mkF m pc' Ls St)) : KEnds p e below s Cn Sn Q T (mkF m pc Ls St) :=
  k_via (fun t h => XS.goto X.here hx rfl (pc0 := pc) rfl hd (by omega) (by omega) h) k
theorem k_if_lt (X : Stand p l e R s m args below meth c T locs cells slots) (hx : p.tables.exec = Jvm.exec) {pc pn py : Nat} {Ls : Array Slot} {St : List Value} {x : Int32} {o : Int} (hd : decode c.code pc = .ok (.ifCond .lt o, 3)) (hn : pc + 3 = pn) (hp : (pc : Int) + o = (py : Int)) (ky : x < (0 : Int32) → KEnds p e below s Cn Sn Q T (mkF m py Ls St)) (kn : ¬ x < (0 : Int32) → KEnds p e below s Cn Sn Q T (mkF m pn Ls St)) : KEnds p e below s Cn Sn Q T (mkF m pc Ls (.int x :: St)) := by
  subst hn
  by_cases hc : x < (0 : Int32)
  · exact k_via (fun t h => XS.ifYes X.here hx rfl (pc0 := pc) rfl hd rfl ((if0 _ _).trans (tlt hc).1) (by omega) (by omega) h) (ky hc)
  · exact k_via (fun t h => XS.ifNo X.here hx rfl hd rfl ((if0 _ _).trans (flt hc).1) h) (kn hc)
theorem k_lcif_lt (X : Stand p l e R s m args below meth c T locs cells slots) (hx : p.tables.exec = Jvm.exec) {pc pn py : Nat} {Ls : Array Slot} {St : List Value} {x y : Int64} {o : Int} {pm : Nat} (hd0 : decode c.code pc = .ok (.lcmp, 1)) (hm : pc + 1 = pm) (hd : decode c.code pm = .ok (.ifCond .lt o, 3)) (hn : pm + 3 = pn) (hp : (pm : Int) + o = (py : Int)) (ky : x < y → KEnds p e below s Cn Sn Q T (mkF m py Ls St)) (kn : ¬ x < y → KEnds p e below s Cn Sn Q T (mkF m pn Ls St)) : KEnds p e below s Cn Sn Q T (mkF m pc Ls (.long y :: .long x :: St)) := by
  subst hm
  have F := k_if_lt (Q := Q) (Cn := Cn) (Sn := Sn) (Ls := Ls) (St := St) (x := lcmpW x y) X hx hd hn hp (fun hc => ky ((lw_lt x y).mp hc)) (fun hc => kn (fun q => hc ((lw_lt x y).mpr q)))
  exact k_via (fun t h => XS.lcmp X.here hx rfl hd0 rfl h) F
theorem k_icmp_ge (X : Stand p l e R s m args below meth c T locs cells slots) (hx : p.tables.exec = Jvm.exec) {pc pn py : Nat} {Ls : Array Slot} {St : List Value} {x y : Int32} {o : Int} (hd : decode c.code pc = .ok (.if_icmp .ge o, 3)) (hn : pc + 3 = pn) (hp : (pc : Int) + o = (py : Int)) (ky : ¬ x < y → KEnds p e below s Cn Sn Q T (mkF m py Ls St)) (kn : x < y → KEnds p e below s Cn Sn Q T (mkF m pn Ls St)) : KEnds p e below s Cn Sn Q T (mkF m pc Ls (.int y :: .int x :: St)) := by
  subst hn
  by_cases hc : x < y
  · exact k_via (fun t h => XS.icmpNo X.here hx rfl hd rfl (tlt hc).2.1 h) (kn hc)
  · exact k_via (fun t h => XS.icmpYes X.here hx rfl (pc0 := pc) rfl hd rfl (flt hc).2.1 (by omega) (by omega) h) (ky hc)
theorem k_if_gt (X : Stand p l e R s m args below meth c T locs cells slots) (hx : p.tables.exec = Jvm.exec) {pc pn py : Nat} {Ls : Array Slot} {St : List Value} {x : Int32} {o : Int} (hd : decode c.code pc = .ok (.ifCond .gt o, 3)) (hn : pc + 3 = pn) (hp : (pc : Int) + o = (py : Int)) (ky : (0 : Int32) < x → KEnds p e below s Cn Sn Q T (mkF m py Ls St)) (kn : ¬ (0 : Int32) < x → KEnds p e below s Cn Sn Q T (mkF m pn Ls St)) : KEnds p e below s Cn Sn Q T (mkF m pc Ls (.int x :: St)) := by
  subst hn
  by_cases hc : (0 : Int32) < x
  · exact k_via (fun t h => XS.ifYes X.here hx rfl (pc0 := pc) rfl hd rfl ((if0 _ _).trans (tlt hc).2.2.1) (by omega) (by omega) h) (ky hc)
  · exact k_via (fun t h => XS.ifNo X.here hx rfl hd rfl ((if0 _ _).trans (flt hc).2.2.1) h) (kn hc)
theorem k_lcif_gt (X : Stand p l e R s m args below meth c T locs cells slots) (hx : p.tables.exec = Jvm.exec) {pc pn py : Nat} {Ls : Array Slot} {St : List Value} {x y : Int64} {o : Int} {pm : Nat} (hd0 : decode c.code pc = .ok (.lcmp, 1)) (hm : pc + 1 = pm) (hd : decode c.code pm = .ok (.ifCond .gt o, 3)) (hn : pm + 3 = pn) (hp : (pm : Int) + o = (py : Int)) (ky : y < x → KEnds p e below s Cn Sn Q T (mkF m py Ls St)) (kn : ¬ y < x → KEnds p e below s Cn Sn Q T (mkF m pn Ls St)) : KEnds p e below s Cn Sn Q T (mkF m pc Ls (.long y :: .long x :: St)) := by
  subst hm
  have F := k_if_gt (Q := Q) (Cn := Cn) (Sn := Sn) (Ls := Ls) (St := St) (x := lcmpW x y) X hx hd hn hp (fun hc => ky ((lw_gt x y).mp hc)) (fun hc => kn (fun q => hc ((lw_gt x y).mpr q)))
  exact k_via (fun t h => XS.lcmp X.here hx rfl hd0 rfl h) F
theorem k_if_eq (X : Stand p l e R s m args below meth c T locs cells slots) (hx : p.tables.exec = Jvm.exec) {pc pn py : Nat} {Ls : Array Slot} {St : List Value} {x : Int32} {o : Int} (hd : decode c.code pc = .ok (.ifCond .eq o, 3)) (hn : pc + 3 = pn) (hp : (pc : Int) + o = (py : Int)) (ky : x = (0 : Int32) → KEnds p e below s Cn Sn Q T (mkF m py Ls St)) (kn : ¬ x = (0 : Int32) → KEnds p e below s Cn Sn Q T (mkF m pn Ls St)) : KEnds p e below s Cn Sn Q T (mkF m pc Ls (.int x :: St)) := by
  subst hn
  by_cases hc : x = (0 : Int32)
  · exact k_via (fun t h => XS.ifYes X.here hx rfl (pc0 := pc) rfl hd rfl ((if0 _ _).trans (teq hc).1) (by omega) (by omega) h) (ky hc)
  · exact k_via (fun t h => XS.ifNo X.here hx rfl hd rfl ((if0 _ _).trans (feq hc).1) h) (kn hc)
theorem k_if_ne (X : Stand p l e R s m args below meth c T locs cells slots) (hx : p.tables.exec = Jvm.exec) {pc pn py : Nat} {Ls : Array Slot} {St : List Value} {x : Int32} {o : Int} (hd : decode c.code pc = .ok (.ifCond .ne o, 3)) (hn : pc + 3 = pn) (hp : (pc : Int) + o = (py : Int)) (ky : ¬ x = (0 : Int32) → KEnds p e below s Cn Sn Q T (mkF m py Ls St)) (kn : x = (0 : Int32) → KEnds p e below s Cn Sn Q T (mkF m pn Ls St)) : KEnds p e below s Cn Sn Q T (mkF m pc Ls (.int x :: St)) := by
  subst hn
  by_cases hc : x = (0 : Int32)
  · exact k_via (fun t h => XS.ifNo X.here hx rfl hd rfl ((if0 _ _).trans (teq hc).2) h) (kn hc)
  · exact k_via (fun t h => XS.ifYes X.here hx rfl (pc0 := pc) rfl hd rfl ((if0 _ _).trans (feq hc).2) (by omega) (by omega) h) (ky hc)
theorem k_lcif_ne (X : Stand p l e R s m args below meth c T locs cells slots) (hx : p.tables.exec = Jvm.exec) {pc pn py : Nat} {Ls : Array Slot} {St : List Value} {x y : Int64} {o : Int} {pm : Nat} (hd0 : decode c.code pc = .ok (.lcmp, 1)) (hm : pc + 1 = pm) (hd : decode c.code pm = .ok (.ifCond .ne o, 3)) (hn : pm + 3 = pn) (hp : (pm : Int) + o = (py : Int)) (ky : ¬ x = y → KEnds p e below s Cn Sn Q T (mkF m py Ls St)) (kn : x = y → KEnds p e below s Cn Sn Q T (mkF m pn Ls St)) : KEnds p e below s Cn Sn Q T (mkF m pc Ls (.long y :: .long x :: St)) := by
  subst hm
  have F := k_if_ne (Q := Q) (Cn := Cn) (Sn := Sn) (Ls := Ls) (St := St) (x := lcmpW x y) X hx hd hn hp (fun hc => ky (fun q => hc ((lw_eq x y).mpr q))) (fun hc => kn ((lw_eq x y).mp hc))
  exact k_via (fun t h => XS.lcmp X.here hx rfl hd0 rfl h) F
theorem k_retN (X : Stand p l e R s m args below meth c T locs cells slots) (hx : p.tables.exec = Jvm.exec) {pc : Nat} {Ls : Array Slot} {St : List Value} {t : FieldType} {z z' : Int32} (hret : meth.sig.returnType = some t) (ht : t = .boolean ∨ t = .byte ∨ t = .char ∨ t = .short) (hd : decode c.code pc = .ok (.ireturn, 1)) (hlk : meth.locks = false) (hC : cells ≤ Cn) (hS : slots ≤ Sn) (hz : nar t z = z') (q : Q (some (.int z')) T.heap locs) : KEnds p e below s Cn Sn Q T (mkF m pc Ls (.int z :: St)) := by
  subst hz
  obtain ⟨fs, hr, hrun, hended, hW, hsame⟩ := X.leave (v := some (.int (nar t z))) (fun h => by rw [hret] at h; cases h) hlk
  exact ⟨_, _, retN X hx hret ht hd hr, hrun, hended, _, _, rfl, q, ⟨_, rfl⟩, hW, hsame.mono hC hS⟩
theorem k_ret (X : Stand p l e R s m args below meth c T locs cells slots) (hx : p.tables.exec = Jvm.exec) {pc : Nat} {Ls : Array Slot} (hret : meth.sig.returnType = none) (hd : decode c.code pc = .ok (.return_, 1)) (hlk : meth.locks = false) (hC : cells ≤ Cn) (hS : slots ≤ Sn) (q : Q none T.heap locs) : KEnds p e below s Cn Sn Q T (mkF m pc Ls []) := by
  obtain ⟨fs, hr, hrun, hended, hW, hsame⟩ := X.leave (v := none) (fun _ => rfl) hlk
  exact ⟨_, _, X.returnOut hx hret hd hr, hrun, hended, _, _, rfl, q, ⟨_, rfl⟩, hW, hsame.mono hC hS⟩
variable {Z : State} {a0 : Array Value} {h : Heap} {own : String}
theorem k_ldcL (X : Stand p l e R s m args below meth c T locs cells slots) (hx : p.tables.exec = Jvm.exec) (hZ : Z.Warmed39 s.vm) (hown : s.vm.findClass own = some m.cls) {pc pc' : Nat} {Ls : Array Slot} {St : List Value} {index : Nat} {v : Int64} (w : (Cond.constantLong own index v).before a0 Z = true) (hd : decode c.code pc = .ok (.ldc2_w index, 3)) (hpc : pc + 3 = pc') (k : KEnds p e below s Cn Sn Q T (mkF m pc' Ls (.long v :: St))) : KEnds p e below s Cn Sn Q T (mkF m pc Ls St) := by
  subst hpc; exact k_via (X.ldc2Long hx hown (mvT hZ w) (g := mkF m pc Ls St) rfl hd) k
theorem k_newA (X : Stand p l e R s m args below meth c T locs cells slots) (hx : p.tables.exec = Jvm.exec) (hZ : Z.Warmed39 s.vm) {pc pc' : Nat} {Ls : Array Slot} {St : List Value} {aty : ArrayType} (w : (Cond.arrayClass (newarray.typeOf aty)).before a0 Z = true) (eT : T.heap = h) (hd : decode c.code pc = .ok (.newarray aty, 2)) {n : Int32} (hn : ¬ n < 0) {cap : Nat} (hcap : n.toNatClampNeg ≤ cap) (hb : cap * 8 ≤ 536870912) (hc : cells + 1 ≤ R.cells) (hl : slots + cap ≤ R.slots) (hpc : pc + 2 = pc') (k : ∀ T' h' a cA, a = h.size → Stand p l e R s m args below meth c T' locs (cells + 1) (slots + cap) → T'.heap = h' → Ext h h' → Arv Z h' a cA (newarray.typeOf aty) n (List.replicate cap (defaultValue (newarray.typeOf aty))) (defaultValue (newarray.typeOf aty)) → KEnds p e below s Cn Sn Q T' (mkF m pc' Ls (.ref a :: St))) : KEnds p e below s Cn Sn Q T (mkF m pc Ls (.int n :: St)) := by
  subst hpc
  obtain ⟨T', h', cA, X', e', E', A', st⟩ := newP X hx hZ w eT (g := mkF m pc Ls (.int n :: St)) rfl hd rfl hn hcap hb hc hl
  exact k_via st (k T' h' _ cA rfl X' e' E' ((Arv.new A' hn).pad (pad_rep [] _ cap)))
theorem k_lastore (X : Stand p l e R s m args below meth c T locs cells slots) (hx : p.tables.exec = Jvm.exec) (hZ : Z.Warmed39 s.vm) {pc pc' : Nat} {Ls : Array Slot} {St : List Value} (eT : T.heap = h) {a : Addr} {kA : ClassId} {z j : Int32} {x : Int64} {vs : List Value} {dv : Value} (F : Arv Z h a kA .long z vs dv) (hj : ¬ j < 0 ∧ j < z) {i : Nat} (hi : j.toNatClampNeg = i) (hil : i < vs.length) (hd : decode c.code pc = .ok (.lastore, 1)) (hpc : pc + 1 = pc') (k : ∀ T' h', Stand p l e R s m args below meth c T' (locs ++ [⟨a, j.toNatClampNeg⟩]) cells slots → T'.heap = h' → Wr h h' a j.toNatClampNeg (.long (x)) → Arv Z h' a kA .long z (vs.set i (.long (x))) dv → KEnds p e below s Cn Sn Q T' (mkF m pc' Ls St)) : KEnds p e below s Cn Sn Q T (mkF m pc Ls (.long x :: .int j :: .ref a :: St)) := by
  subst hpc
  obtain ⟨cl, A, q1, S, N, H, G⟩ := F
  obtain ⟨T', h', X', e', W', st⟩ := stJ X hx hZ eT A (inb_of S hj) (g := mkF m pc Ls (.long x :: .int j :: .ref a :: St)) rfl rfl hd
  exact k_via st (k T' h' X' e' W' (Arv.set A q1 S N H G rfl W' i hi hil))
theorem k_laload (X : Stand p l e R s m args below meth c T locs cells slots) (hx : p.tables.exec = Jvm.exec) (hZ : Z.Warmed39 s.vm) {pc pc' : Nat} {Ls : Array Slot} {St : List Value} (eT : T.heap = h) {a : Addr} {kA : ClassId} {z j : Int32} {v : Value} {vs : List Value} {dv : Value} (F : Arv Z h a kA .long z vs dv) (hj : ¬ j < 0 ∧ j < z) (hv : vs.getD j.toNatClampNeg dv = v) (hd : decode c.code pc = .ok (.laload, 1)) (hpc : pc + 1 = pc') (k : KEnds p e below s Cn Sn Q T (mkF m pc' Ls (v :: St))) : KEnds p e below s Cn Sn Q T (mkF m pc Ls (.int j :: .ref a :: St)) := by
  subst hpc
  obtain ⟨cl, A, q1, S, N, H, G⟩ := F
  exact k_via (fun t hs => X.laload hx (by rw [eT]; exact A.1) (State.isArrayOf_alike hZ.alike A.2.1) A.2.2 (inb_of S hj) (H.at (inb_of S hj) hv) (g := mkF m pc Ls (.int j :: .ref a :: St)) rfl rfl hd t hs) k
theorem k_callS (X : Stand p l e R s m args below meth c T locs cells slots) (hx : p.tables.exec = Jvm.exec) (hZ : Z.Warmed39 s.vm) (hown : s.vm.findClass own = some m.cls) {pc pc' : Nat} {Ls : Array Slot} {St : List Value} {y : MethodName} {bytes : ByteArray} {maxL : Nat} {ret : Option FieldType} {rm : Room} {index W : Nat} {as' : Array Value} {Q' : Option Value → Heap → List Loc → Prop} (w1 : (Cond.methodLink own index y).before a0 Z = true) (w2 : (Cond.static y).before a0 Z = true) (w3 : (Cond.initialized y.cls).before a0 Z = true) (w4 : (Cond.code y bytes maxL ret).before a0 Z = true) (hy : y.cls ≠ "java/lang/invoke/MethodHandle" ∧ y.cls ≠ "java/lang/invoke/VarHandle") (hM : MetFree l y (head1 [Cond.code y bytes maxL ret] rm) (fun a U => a = as' ∧ Z.Warmed39 U.vm ∧ U.heap = h) (fun _ _ _ _ _ => True) (fun _ U o U' => ∃ v L, o = .returned v ∧ Q' v U'.heap L ∧ FrameEnd U o U' L rm.cells rm.slots)) (hf : rm.frames + 1 ≤ R.frames) (hl : W + (maxL + 11) + rm.locals ≤ R.locals) (eT : T.heap = h) (hsize : Ls.size = c.maxLocals) {argsL rest : List Value} (hlen : ∀ sig, parseMethodDescriptor y.desc = some sig → argsL.length = sig.parameters.length) (hst : St = argsL.reverse ++ rest) (hW : (rest.map fun v => v.category).sum ≤ W) (has : argsL.toArray = as') (hd : decode c.code pc = .ok (.invokestatic index, 3)) (hce : cells + rm.cells ≤ R.cells) (hsl : slots + rm.slots ≤ R.slots) (hpc : pc + 3 = pc') (k : ∀ T' L v, Stand p l e R s m args below meth c T' (locs ++ L) (cells + rm.cells) (slots + rm.slots) → Q' v T'.heap L → KEnds p e below s Cn Sn Q T' (mkF m pc' Ls (v.toList ++ rest))) : KEnds p e below s Cn Sn Q T (mkF m pc Ls St) := by
  subst hpc
  obtain ⟨v, _, ⟨T', L', k', n'⟩, -, X', ⟨Lc, hQ, l', y', z'⟩, st⟩ := Jvm.LawKit.callS X hx (y := y) hown (mvT hZ w1) (mvT hZ w2) (mvT hZ w3) (mvT hZ w4) hy (backOf (W := W) hM hZ w4 w3 hf hl) (g := mkF m pc Ls St) rfl hsize hlen hst (by show 2 * 0 + _ ≤ _; omega) hd (fun _ _ => ⟨has, eT, hce, hsl⟩)
  dsimp only [Pt.U, Pt.locs, Pt.cells, Pt.slots] at X' l' y' z' st hQ
  subst l' y' z'
  exact k_via st (k T' Lc v X' hQ)
end
end Jvm.OwnK
namespace Jvm.Pilot.@@N@@
open Jvm Jvm.ClassFile Sem Op Lib Jvm.Free Jvm.Stand Jvm.LawKit Jvm.RoadKit Jvm.OwnK Bundle Jvm.Pilot.@@N@@.Jvm.D
theorem d1_0 : decode prog_3_method_11_code 0 = .ok (.iconst 0, 1) := by decide +kernel
theorem d1_1 : decode prog_3_method_11_code 1 = .ok (.istore_n 3, 1) := by decide +kernel
theorem d1_2 : decode prog_3_method_11_code 2 = .ok (.iload_n 3, 1) := by decide +kernel
theorem d1_3 : decode prog_3_method_11_code 3 = .ok (.bipush 9, 2) := by decide +kernel
theorem d1_5 : decode prog_3_method_11_code 5 = .ok (.if_icmp .ge 30, 3) := by decide +kernel
theorem d1_8 : decode prog_3_method_11_code 8 = .ok (.aload_n 0, 1) := by decide +kernel
theorem d1_9 : decode prog_3_method_11_code 9 = .ok (.iload_n 3, 1) := by decide +kernel
theorem d1_10 : decode prog_3_method_11_code 10 = .ok (.aload_n 1, 1) := by decide +kernel
theorem d1_11 : decode prog_3_method_11_code 11 = .ok (.iload_n 2, 1) := by decide +kernel
theorem d1_12 : decode prog_3_method_11_code 12 = .ok (.iload_n 3, 1) := by decide +kernel
theorem d1_13 : decode prog_3_method_11_code 13 = .ok (.iconst 2, 1) := by decide +kernel
theorem d1_14 : decode prog_3_method_11_code 14 = .ok (.idiv, 1) := by decide +kernel
theorem d1_15 : decode prog_3_method_11_code 15 = .ok (.iadd, 1) := by decide +kernel
theorem d1_16 : decode prog_3_method_11_code 16 = .ok (.laload, 1) := by decide +kernel
theorem d1_17 : decode prog_3_method_11_code 17 = .ok (.iload_n 3, 1) := by decide +kernel
theorem d1_18 : decode prog_3_method_11_code 18 = .ok (.iconst 2, 1) := by decide +kernel
theorem d1_19 : decode prog_3_method_11_code 19 = .ok (.irem, 1) := by decide +kernel
theorem d1_20 : decode prog_3_method_11_code 20 = .ok (.bipush 29, 2) := by decide +kernel
theorem d1_22 : decode prog_3_method_11_code 22 = .ok (.imul, 1) := by decide +kernel
theorem d1_23 : decode prog_3_method_11_code 23 = .ok (.lushr, 1) := by decide +kernel
theorem d1_24 : decode prog_3_method_11_code 24 = .ok (.ldc2_w 115, 3) := by decide +kernel
theorem d1_27 : decode prog_3_method_11_code 27 = .ok (.land, 1) := by decide +kernel
theorem d1_28 : decode prog_3_method_11_code 28 = .ok (.lastore, 1) := by decide +kernel
theorem d1_29 : decode prog_3_method_11_code 29 = .ok (.iinc 3 1, 3) := by decide +kernel
theorem d1_32 : decode prog_3_method_11_code 32 = .ok (.goto (-30), 3) := by decide +kernel
theorem d1_35 : decode prog_3_method_11_code 35 = .ok (.return_, 1) := by decide +kernel
abbrev R1_32 : Room := { frames := 0, cells := 0, slots := 0, locals := 0 }
def Q1_32 (Z : State) (a1 : Addr) (a2 : Addr) (k3 : ClassId) (p4 : Int64) (p5 : Int64) (p6 : Int64) (p7 : Int64) (p8 : Int64) (p9 : Int64) (k10 : ClassId) (h0 : Heap) (n0 : Nat) (v : Option Value) (h : Heap) (L : List Loc) : Prop := Fr n0 L ∧ ((∃ (v33 : Int64) (v36 : Int64) (v37 : Int64) (v40 : Int64) (v43 : Int64) (v44 : Int64) (v47 : Int64) (v50 : Int64) (v51 : Int64) (v54 : Int64) (v57 : Int64) (v58 : Int64) (v61 : Int64), v33 = p4 &&& (536870911 : Int64) ∧ v36 = ((p4.toUInt64 >>> ((29 : Int32) &&& 0x3f).toInt64.toUInt64).toInt64) ∧ v37 = v36 &&& (536870911 : Int64) ∧ v40 = p5 &&& (536870911 : Int64) ∧ v43 = ((p5.toUInt64 >>> ((29 : Int32) &&& 0x3f).toInt64.toUInt64).toInt64) ∧ v44 = v43 &&& (536870911 : Int64) ∧ v47 = p6 &&& (536870911 : Int64) ∧ v50 = ((p6.toUInt64 >>> ((29 : Int32) &&& 0x3f).toInt64.toUInt64).toInt64) ∧ v51 = v50 &&& (536870911 : Int64) ∧ v54 = p7 &&& (536870911 : Int64) ∧ v57 = ((p7.toUInt64 >>> ((29 : Int32) &&& 0x3f).toInt64.toUInt64).toInt64) ∧ v58 = v57 &&& (536870911 : Int64) ∧ v61 = p8 &&& (536870911 : Int64) ∧ v = none ∧ Arv Z h a2 k3 .long (8 : Int32) [(.long p4), (.long p5), (.long p6), (.long p7), (.long p8), (.long p9), (.long p9), (.long p9)] (.long (0 : Int64)) ∧ Arv Z h a1 k10 .long (9 : Int32) [(.long v33), (.long v37), (.long v40), (.long v44), (.long v47), (.long v51), (.long v54), (.long v58), (.long v61)] (.long (0 : Int64)) ∧ n0 ≤ h.size))
theorem ef1_32 (m : MethodId) (x0 : Addr) (x1 : Addr) : entryFrame m #[(.ref x0), (.ref x1), (.int (0 : Int32))] 4 = mkF m 0 #[.val (.ref x0), .val (.ref x1), .val (.int (0 : Int32)), .unset] [] := by first | (simp [entryFrame, mkF, argsToLocals, Value.category]; done) | rfl
theorem pn_0 : plainName "com/example/portcullis/portcullis/protocol/Field" = true := by first | (simp [plainName, overriddenIn]; done) | decide +kernel
set_option maxRecDepth 65536 in
set_option maxHeartbeats 40000000 in
theorem rm1_32 (l : Launch) (Z : State) (a0 : Array Value) (hw : ∀ d ∈ tables_1, d.before a0 Z = true) (ws : List Jvm.Cond) (a1 : Addr) (a2 : Addr) (k3 : ClassId) (p4 : Int64) (p5 : Int64) (p6 : Int64) (p7 : Int64) (p8 : Int64) (p9 : Int64) (k10 : ClassId) (h0 : Heap) (n0 : Nat) (Z0 : n0 ≤ h0.size) (F0_0 : Arv Z h0 a2 k3 .long (8 : Int32) [(.long p4), (.long p5), (.long p6), (.long p7), (.long p8), (.long p9), (.long p9), (.long p9)] (.long (0 : Int64))) (g_a2 : n0 ≤ a2) (F0_2 : Arv Z h0 a1 k10 .long (9 : Int32) [(.long (-1 : Int64)), (.long (-1 : Int64)), (.long (-1 : Int64)), (.long (-1 : Int64)), (.long (-1 : Int64)), (.long (-1 : Int64)), (.long (-1 : Int64)), (.long (-1 : Int64)), (.long (-1 : Int64))] (.long (0 : Int64))) (g_a1 : n0 ≤ a1) (lt0_0 : a2 < a1) :
    MetFree l (⟨"com/example/portcullis/portcullis/protocol/Field", "unpack", "([J[JI)V"⟩ : MethodName) (head1 (Jvm.Cond.code (⟨"com/example/portcullis/portcullis/protocol/Field", "unpack", "([J[JI)V"⟩ : MethodName) prog_3_method_11_code 4 none :: ws) R1_32) (fun a U => a = #[(.ref a1), (.ref a2), (.int (0 : Int32))] ∧ Z.Warmed39 U.vm ∧ U.heap = h0) (fun _ _ _ _ _ => True) (fun _ U o U' => ∃ v L, o = .returned v ∧ Q1_32 Z a1 a2 k3 p4 p5 p6 p7 p8 p9 k10 h0 n0 v U'.heap L ∧ FrameEnd U o U' L R1_32.cells R1_32.slots) := by
 refine MetFree.of_bodySF (plainFor_of_name pn_0) hisR ?_
 intro p e s m args below meth c s₁ Bd hml0 hP hK
 obtain ⟨rfl, hZ, hh⟩ := hP
 have hx := Bd.exec
 have hby := Bd.bytes
 have hml : c.maxLocals = 4 := hml0
 have hlk : meth.locks = false := Bd.notSynchronized
 have hown : s.vm.findClass "com/example/portcullis/portcullis/protocol/Field" = some m.cls := findClass_of_methodNamed Bd.named
 have hnm := (name_of_methodNamed Bd.named Bd.method).1
 have X0 : Stand p l e R1_32 s m #[(.ref a1), (.ref a2), (.int (0 : Int32))] below meth c s₁ [] 0 0 := Stand.of_body Bd
 have e0 : s₁.heap = h0 := by rw [← hh, Bd.state]; rfl
 have N0 := Fr.nil n0
 rw [ef1_32 m a1 a2]
 show KEnds p e below s R1_32.cells R1_32.slots (Q1_32 Z a1 a2 k3 p4 p5 p6 p7 p8 p9 k10 h0 n0) s₁ (mkF m 0 #[.val (.ref a1), .val (.ref a2), .val (.int (0 : Int32)), .unset] [])
 refine k_iconst X0 hx (hb hby d1_0) (pc' := 1) rfl (z := (0 : Int32)) rfl ?_
 refine k_istoreN X0 hx (hb hby d1_1) (Ls' := #[.val (.ref a1), .val (.ref a2), .val (.int (0 : Int32)), .val (.int (0 : Int32))]) rfl (pc' := 2) rfl ?_
 refine k_iloadN X0 hx (hb hby d1_2) rfl (pc' := 3) rfl ?_
 refine k_bipush X0 hx (hb hby d1_3) (pc' := 5) rfl (z := (9 : Int32)) rfl ?_
 refine k_icmp_ge X0 hx (hb hby d1_5) (pn := 8) rfl (py := 35) (by decide) (fun hc => absurd (by decide) hc) (fun _ => ?_)
 refine k_aloadN X0 hx (hb hby d1_8) rfl rfl (pc' := 9) rfl ?_
 refine k_iloadN X0 hx (hb hby d1_9) rfl (pc' := 10) rfl ?_
 refine k_aloadN X0 hx (hb hby d1_10) rfl rfl (pc' := 11) rfl ?_
 refine k_iloadN X0 hx (hb hby d1_11) rfl (pc' := 12) rfl ?_
 refine k_iloadN X0 hx (hb hby d1_12) rfl (pc' := 13) rfl ?_
 refine k_iconst X0 hx (hb hby d1_13) (pc' := 14) rfl (z := (2 : Int32)) rfl ?_
 refine k_idivL X0 hx (hb hby d1_14) (by decide) (pc' := 15) rfl (z := (0 : Int32)) (by decide) ?_
 refine k_iaddL X0 hx (hb hby d1_15) (pc' := 16) rfl (z := (0 : Int32)) (by decide) ?_
 refine k_laload X0 hx hZ e0 F0_0 ⟨by decide, by decide⟩ (v := (.long p4)) rfl (hb hby d1_16) (pc' := 17) rfl ?_
 refine k_iloadN X0 hx (hb hby d1_17) rfl (pc' := 18) rfl ?_
 refine k_iconst X0 hx (hb hby d1_18) (pc' := 19) rfl (z := (2 : Int32)) rfl ?_
 refine k_iremL X0 hx (hb hby d1_19) (by decide) (pc' := 20) rfl (z := (0 : Int32)) (by decide) ?_
 refine k_bipush X0 hx (hb hby d1_20) (pc' := 22) rfl (z := (29 : Int32)) rfl ?_
 refine k_imulL X0 hx (hb hby d1_22) (pc' := 23) rfl (z := (0 : Int32)) (by decide) ?_
 refine k_lushrL X0 hx (hb hby d1_23) (pc' := 24) rfl (z := p4) (k_ushr0 _) ?_
 refine k_ldcL X0 hx hZ hown (hw _ (List.mem_of_getElem? (i := 6) rfl)) (hb hby d1_24) (pc' := 27) rfl ?_
 refine k_land X0 hx (hb hby d1_27) (pc' := 28) rfl (fun v33 hv33 => ?_)
 refine k_lastore X0 hx hZ e0 F0_2 ⟨by decide, by decide⟩ (i := 0) rfl (Nat.le_of_ble_eq_true rfl) (hb hby d1_28) (pc' := 29) rfl (fun T34 h34 X34 e34 W34 V34 => ?_)
 have Vw34 : Arv Z h34 a1 k10 .long (9 : Int32) [(.long v33), (.long (-1 : Int64)), (.long (-1 : Int64)), (.long (-1 : Int64)), (.long (-1 : Int64)), (.long (-1 : Int64)), (.long (-1 : Int64)), (.long (-1 : Int64)), (.long (-1 : Int64))] (.long (0 : Int64)) := V34
 have N34 := Fr.snoc X34 N0 g_a1
 have Z34 : n0 ≤ h34.size := Nat.le_trans Z0 (Nat.le_of_eq W34.size.symm)
 refine k_iinc X34 hx (hb hby d1_29) rfl (pc' := 32) rfl (z := (1 : Int32)) (by decide) (Ls' := #[.val (.ref a1), .val (.ref a2), .val (.int (0 : Int32)), .val (.int (1 : Int32))]) rfl ?_
 refine k_goto X34 hx (hb hby d1_32) (pc' := 2) (by decide) ?_
 refine k_iloadN X34 hx (hb hby d1_2) rfl (pc' := 3) rfl ?_
 refine k_bipush X34 hx (hb hby d1_3) (pc' := 5) rfl (z := (9 : Int32)) rfl ?_
 refine k_icmp_ge X34 hx (hb hby d1_5) (pn := 8) rfl (py := 35) (by decide) (fun hc => absurd (by decide) hc) (fun _ => ?_)
 refine k_aloadN X34 hx (hb hby d1_8) rfl rfl (pc' := 9) rfl ?_
 refine k_iloadN X34 hx (hb hby d1_9) rfl (pc' := 10) rfl ?_
 refine k_aloadN X34 hx (hb hby d1_10) rfl rfl (pc' := 11) rfl ?_
 refine k_iloadN X34 hx (hb hby d1_11) rfl (pc' := 12) rfl ?_
 refine k_iloadN X34 hx (hb hby d1_12) rfl (pc' := 13) rfl ?_
 refine k_iconst X34 hx (hb hby d1_13) (pc' := 14) rfl (z := (2 : Int32)) rfl ?_
 refine k_idivL X34 hx (hb hby d1_14) (by decide) (pc' := 15) rfl (z := (0 : Int32)) (by decide) ?_
 refine k_iaddL X34 hx (hb hby d1_15) (pc' := 16) rfl (z := (0 : Int32)) (by decide) ?_
 have F35 := (F0_0.other W34 (Nat.ne_of_lt lt0_0))
 refine k_laload X34 hx hZ e34 F35 ⟨by decide, by decide⟩ (v := (.long p4)) rfl (hb hby d1_16) (pc' := 17) rfl ?_
 refine k_iloadN X34 hx (hb hby d1_17) rfl (pc' := 18) rfl ?_
 refine k_iconst X34 hx (hb hby d1_18) (pc' := 19) rfl (z := (2 : Int32)) rfl ?_
 refine k_iremL X34 hx (hb hby d1_19) (by decide) (pc' := 20) rfl (z := (1 : Int32)) (by decide) ?_
 refine k_bipush X34 hx (hb hby d1_20) (pc' := 22) rfl (z := (29 : Int32)) rfl ?_
 refine k_imulL X34 hx (hb hby d1_22) (pc' := 23) rfl (z := (29 : Int32)) (by decide) ?_
 refine k_lushr X34 hx (hb hby d1_23) (pc' := 24) rfl (fun v36 hv36 => ?_)
 refine k_ldcL X34 hx hZ hown (hw _ (List.mem_of_getElem? (i := 6) rfl)) (hb hby d1_24) (pc' := 27) rfl ?_
 refine k_land X34 hx (hb hby d1_27) (pc' := 28) rfl (fun v37 hv37 => ?_)
 refine k_lastore X34 hx hZ e34 Vw34 ⟨by decide, by decide⟩ (i := 1) rfl (Nat.le_of_ble_eq_true rfl) (hb hby d1_28) (pc' := 29) rfl (fun T38 h38 X38 e38 W38 V38 => ?_)
 have Vw38 : Arv Z h38 a1 k10 .long (9 : Int32) [(.long v33), (.long v37), (.long (-1 : Int64)), (.long (-1 : Int64)), (.long (-1 : Int64)), (.long (-1 : Int64)), (.long (-1 : Int64)), (.long (-1 : Int64)), (.long (-1 : Int64))] (.long (0 : Int64)) := V38
 have N38 := Fr.snoc X38 N34 g_a1
 have Z38 : n0 ≤ h38.size := Nat.le_trans Z34 (Nat.le_of_eq W38.size.symm)
 refine k_iinc X38 hx (hb hby d1_29) rfl (pc' := 32) rfl (z := (2 : Int32)) (by decide) (Ls' := #[.val (.ref a1), .val (.ref a2), .val (.int (0 : Int32)), .val (.int (2 : Int32))]) rfl ?_
 refine k_goto X38 hx (hb hby d1_32) (pc' := 2) (by decide) ?_
 refine k_iloadN X38 hx (hb hby d1_2) rfl (pc' := 3) rfl ?_
 refine k_bipush X38 hx (hb hby d1_3) (pc' := 5) rfl (z := (9 : Int32)) rfl ?_
 refine k_icmp_ge X38 hx (hb hby d1_5) (pn := 8) rfl (py := 35) (by decide) (fun hc => absurd (by decide) hc) (fun _ => ?_)
 refine k_aloadN X38 hx (hb hby d1_8) rfl rfl (pc' := 9) rfl ?_
 refine k_iloadN X38 hx (hb hby d1_9) rfl (pc' := 10) rfl ?_
 refine k_aloadN X38 hx (hb hby d1_10) rfl rfl (pc' := 11) rfl ?_
 refine k_iloadN X38 hx (hb hby d1_11) rfl (pc' := 12) rfl ?_
 refine k_iloadN X38 hx (hb hby d1_12) rfl (pc' := 13) rfl ?_
 refine k_iconst X38 hx (hb hby d1_13) (pc' := 14) rfl (z := (2 : Int32)) rfl ?_
 refine k_idivL X38 hx (hb hby d1_14) (by decide) (pc' := 15) rfl (z := (1 : Int32)) (by decide) ?_
 refine k_iaddL X38 hx (hb hby d1_15) (pc' := 16) rfl (z := (1 : Int32)) (by decide) ?_
 have F39 := (F35.other W38 (Nat.ne_of_lt lt0_0))
 refine k_laload X38 hx hZ e38 F39 ⟨by decide, by decide⟩ (v := (.long p5)) rfl (hb hby d1_16) (pc' := 17) rfl ?_
 refine k_iloadN X38 hx (hb hby d1_17) rfl (pc' := 18) rfl ?_
 refine k_iconst X38 hx (hb hby d1_18) (pc' := 19) rfl (z := (2 : Int32)) rfl ?_
 refine k_iremL X38 hx (hb hby d1_19) (by decide) (pc' := 20) rfl (z := (0 : Int32)) (by decide) ?_
 refine k_bipush X38 hx (hb hby d1_20) (pc' := 22) rfl (z := (29 : Int32)) rfl ?_
 refine k_imulL X38 hx (hb hby d1_22) (pc' := 23) rfl (z := (0 : Int32)) (by decide) ?_
 refine k_lushrL X38 hx (hb hby d1_23) (pc' := 24) rfl (z := p5) (k_ushr0 _) ?_
 refine k_ldcL X38 hx hZ hown (hw _ (List.mem_of_getElem? (i := 6) rfl)) (hb hby d1_24) (pc' := 27) rfl ?_
 refine k_land X38 hx (hb hby d1_27) (pc' := 28) rfl (fun v40 hv40 => ?_)
 refine k_lastore X38 hx hZ e38 Vw38 ⟨by decide, by decide⟩ (i := 2) rfl (Nat.le_of_ble_eq_true rfl) (hb hby d1_28) (pc' := 29) rfl (fun T41 h41 X41 e41 W41 V41 => ?_)
 have Vw41 : Arv Z h41 a1 k10 .long (9 : Int32) [(.long v33), (.long v37), (.long v40), (.long (-1 : Int64)), (.long (-1 : Int64)), (.long (-1 : Int64)), (.long (-1 : Int64)), (.long (-1 : Int64)), (.long (-1 : Int64))] (.long (0 : Int64)) := V41
 have N41 := Fr.snoc X41 N38 g_a1
 have Z41 : n0 ≤ h41.size := Nat.le_trans Z38 (Nat.le_of_eq W41.size.symm)
 refine k_iinc X41 hx (hb hby d1_29) rfl (pc' := 32) rfl (z := (3 : Int32)) (by decide) (Ls' := #[.val (.ref a1), .val (.ref a2), .val (.int (0 : Int32)), .val (.int (3 : Int32))]) rfl ?_
 refine k_goto X41 hx (hb hby d1_32) (pc' := 2) (by decide) ?_
 refine k_iloadN X41 hx (hb hby d1_2) rfl (pc' := 3) rfl ?_
 refine k_bipush X41 hx (hb hby d1_3) (pc' := 5) rfl (z := (9 : Int32)) rfl ?_
 refine k_icmp_ge X41 hx (hb hby d1_5) (pn := 8) rfl (py := 35) (by decide) (fun hc => absurd (by decide) hc) (fun _ => ?_)
 refine k_aloadN X41 hx (hb hby d1_8) rfl rfl (pc' := 9) rfl ?_
 refine k_iloadN X41 hx (hb hby d1_9) rfl (pc' := 10) rfl ?_
 refine k_aloadN X41 hx (hb hby d1_10) rfl rfl (pc' := 11) rfl ?_
 refine k_iloadN X41 hx (hb hby d1_11) rfl (pc' := 12) rfl ?_
 refine k_iloadN X41 hx (hb hby d1_12) rfl (pc' := 13) rfl ?_
 refine k_iconst X41 hx (hb hby d1_13) (pc' := 14) rfl (z := (2 : Int32)) rfl ?_
 refine k_idivL X41 hx (hb hby d1_14) (by decide) (pc' := 15) rfl (z := (1 : Int32)) (by decide) ?_
 refine k_iaddL X41 hx (hb hby d1_15) (pc' := 16) rfl (z := (1 : Int32)) (by decide) ?_
 have F42 := (F39.other W41 (Nat.ne_of_lt lt0_0))
 refine k_laload X41 hx hZ e41 F42 ⟨by decide, by decide⟩ (v := (.long p5)) rfl (hb hby d1_16) (pc' := 17) rfl ?_
 refine k_iloadN X41 hx (hb hby d1_17) rfl (pc' := 18) rfl ?_
 refine k_iconst X41 hx (hb hby d1_18) (pc' := 19) rfl (z := (2 : Int32)) rfl ?_
 refine k_iremL X41 hx (hb hby d1_19) (by decide) (pc' := 20) rfl (z := (1 : Int32)) (by decide) ?_
 refine k_bipush X41 hx (hb hby d1_20) (pc' := 22) rfl (z := (29 : Int32)) rfl ?_
 refine k_imulL X41 hx (hb hby d1_22) (pc' := 23) rfl (z := (29 : Int32)) (by decide) ?_
 refine k_lushr X41 hx (hb hby d1_23) (pc' := 24) rfl (fun v43 hv43 => ?_)
 refine k_ldcL X41 hx hZ hown (hw _ (List.mem_of_getElem? (i := 6) rfl)) (hb hby d1_24) (pc' := 27) rfl ?_
 refine k_land X41 hx (hb hby d1_27) (pc' := 28) rfl (fun v44 hv44 => ?_)
 refine k_lastore X41 hx hZ e41 Vw41 ⟨by decide, by decide⟩ (i := 3) rfl (Nat.le_of_ble_eq_true rfl) (hb hby d1_28) (pc' := 29) rfl (fun T45 h45 X45 e45 W45 V45 => ?_)
 have Vw45 : Arv Z h45 a1 k10 .long (9 : Int32) [(.long v33), (.long v37), (.long v40), (.long v44), (.long (-1 : Int64)), (.long (-1 : Int64)), (.long (-1 : Int64)), (.long (-1 : Int64)), (.long (-1 : Int64))] (.long (0 : Int64)) := V45
 have N45 := Fr.snoc X45 N41 g_a1
 have Z45 : n0 ≤ h45.size := Nat.le_trans Z41 (Nat.le_of_eq W45.size.symm)
 refine k_iinc X45 hx (hb hby d1_29) rfl (pc' := 32) rfl (z := (4 : Int32)) (by decide) (Ls' := #[.val (.ref a1), .val (.ref a2), .val (.int (0 : Int32)), .val (.int (4 : Int32))]) rfl ?_
 refine k_goto X45 hx (hb hby d1_32) (pc' := 2) (by decide) ?_
 refine k_iloadN X45 hx (hb hby d1_2) rfl (pc' := 3) rfl ?_
 refine k_bipush X45 hx (hb hby d1_3) (pc' := 5) rfl (z := (9 : Int32)) rfl ?_
 refine k_icmp_ge X45 hx (hb hby d1_5) (pn := 8) rfl (py := 35) (by decide) (fun hc => absurd (by decide) hc) (fun _ => ?_)
 refine k_aloadN X45 hx (hb hby d1_8) rfl rfl (pc' := 9) rfl ?_
 refine k_iloadN X45 hx (hb hby d1_9) rfl (pc' := 10) rfl ?_
 refine k_aloadN X45 hx (hb hby d1_10) rfl rfl (pc' := 11) rfl ?_
 refine k_iloadN X45 hx (hb hby d1_11) rfl (pc' := 12) rfl ?_
 refine k_iloadN X45 hx (hb hby d1_12) rfl (pc' := 13) rfl ?_
 refine k_iconst X45 hx (hb hby d1_13) (pc' := 14) rfl (z := (2 : Int32)) rfl ?_
 refine k_idivL X45 hx (hb hby d1_14) (by decide) (pc' := 15) rfl (z := (2 : Int32)) (by decide) ?_
 refine k_iaddL X45 hx (hb hby d1_15) (pc' := 16) rfl (z := (2 : Int32)) (by decide) ?_
 have F46 := (F42.other W45 (Nat.ne_of_lt lt0_0))
 refine k_laload X45 hx hZ e45 F46 ⟨by decide, by decide⟩ (v := (.long p6)) rfl (hb hby d1_16) (pc' := 17) rfl ?_
 refine k_iloadN X45 hx (hb hby d1_17) rfl (pc' := 18) rfl ?_
 refine k_iconst X45 hx (hb hby d1_18) (pc' := 19) rfl (z := (2 : Int32)) rfl ?_
 refine k_iremL X45 hx (hb hby d1_19) (by decide) (pc' := 20) rfl (z := (0 : Int32)) (by decide) ?_
 refine k_bipush X45 hx (hb hby d1_20) (pc' := 22) rfl (z := (29 : Int32)) rfl ?_
 refine k_imulL X45 hx (hb hby d1_22) (pc' := 23) rfl (z := (0 : Int32)) (by decide) ?_
 refine k_lushrL X45 hx (hb hby d1_23) (pc' := 24) rfl (z := p6) (k_ushr0 _) ?_
 refine k_ldcL X45 hx hZ hown (hw _ (List.mem_of_getElem? (i := 6) rfl)) (hb hby d1_24) (pc' := 27) rfl ?_
 refine k_land X45 hx (hb hby d1_27) (pc' := 28) rfl (fun v47 hv47 => ?_)
 refine k_lastore X45 hx hZ e45 Vw45 ⟨by decide, by decide⟩ (i := 4) rfl (Nat.le_of_ble_eq_true rfl) (hb hby d1_28) (pc' := 29) rfl (fun T48 h48 X48 e48 W48 V48 => ?_)
 have Vw48 : Arv Z h48 a1 k10 .long (9 : Int32) [(.long v33), (.long v37), (.long v40), (.long v44), (.long v47), (.long (-1 : Int64)), (.long (-1 : Int64)), (.long (-1 : Int64)), (.long (-1 : Int64))] (.long (0 : Int64)) := V48
 have N48 := Fr.snoc X48 N45 g_a1
 have Z48 : n0 ≤ h48.size := Nat.le_trans Z45 (Nat.le_of_eq W48.size.symm)
 refine k_iinc X48 hx (hb hby d1_29) rfl (pc' := 32) rfl (z := (5 : Int32)) (by decide) (Ls' := #[.val (.ref a1), .val (.ref a2), .val (.int (0 : Int32)), .val (.int (5 : Int32))]) rfl ?_
 refine k_goto X48 hx (hb hby d1_32) (pc' := 2) (by decide) ?_
 refine k_iloadN X48 hx (hb hby d1_2) rfl (pc' := 3) rfl ?_
 refine k_bipush X48 hx (hb hby d1_3) (pc' := 5) rfl (z := (9 : Int32)) rfl ?_
 refine k_icmp_ge X48 hx (hb hby d1_5) (pn := 8) rfl (py := 35) (by decide) (fun hc => absurd (by decide) hc) (fun _ => ?_)
 refine k_aloadN X48 hx (hb hby d1_8) rfl rfl (pc' := 9) rfl ?_
 refine k_iloadN X48 hx (hb hby d1_9) rfl (pc' := 10) rfl ?_
 refine k_aloadN X48 hx (hb hby d1_10) rfl rfl (pc' := 11) rfl ?_
 refine k_iloadN X48 hx (hb hby d1_11) rfl (pc' := 12) rfl ?_
 refine k_iloadN X48 hx (hb hby d1_12) rfl (pc' := 13) rfl ?_
 refine k_iconst X48 hx (hb hby d1_13) (pc' := 14) rfl (z := (2 : Int32)) rfl ?_
 refine k_idivL X48 hx (hb hby d1_14) (by decide) (pc' := 15) rfl (z := (2 : Int32)) (by decide) ?_
 refine k_iaddL X48 hx (hb hby d1_15) (pc' := 16) rfl (z := (2 : Int32)) (by decide) ?_
 have F49 := (F46.other W48 (Nat.ne_of_lt lt0_0))
 refine k_laload X48 hx hZ e48 F49 ⟨by decide, by decide⟩ (v := (.long p6)) rfl (hb hby d1_16) (pc' := 17) rfl ?_
 refine k_iloadN X48 hx (hb hby d1_17) rfl (pc' := 18) rfl ?_
 refine k_iconst X48 hx (hb hby d1_18) (pc' := 19) rfl (z := (2 : Int32)) rfl ?_
 refine k_iremL X48 hx (hb hby d1_19) (by decide) (pc' := 20) rfl (z := (1 : Int32)) (by decide) ?_
 refine k_bipush X48 hx (hb hby d1_20) (pc' := 22) rfl (z := (29 : Int32)) rfl ?_
 refine k_imulL X48 hx (hb hby d1_22) (pc' := 23) rfl (z := (29 : Int32)) (by decide) ?_
 refine k_lushr X48 hx (hb hby d1_23) (pc' := 24) rfl (fun v50 hv50 => ?_)
 refine k_ldcL X48 hx hZ hown (hw _ (List.mem_of_getElem? (i := 6) rfl)) (hb hby d1_24) (pc' := 27) rfl ?_
 refine k_land X48 hx (hb hby d1_27) (pc' := 28) rfl (fun v51 hv51 => ?_)
 refine k_lastore X48 hx hZ e48 Vw48 ⟨by decide, by decide⟩ (i := 5) rfl (Nat.le_of_ble_eq_true rfl) (hb hby d1_28) (pc' := 29) rfl (fun T52 h52 X52 e52 W52 V52 => ?_)
 have Vw52 : Arv Z h52 a1 k10 .long (9 : Int32) [(.long v33), (.long v37), (.long v40), (.long v44), (.long v47), (.long v51), (.long (-1 : Int64)), (.long (-1 : Int64)), (.long (-1 : Int64))] (.long (0 : Int64)) := V52
 have N52 := Fr.snoc X52 N48 g_a1
 have Z52 : n0 ≤ h52.size := Nat.le_trans Z48 (Nat.le_of_eq W52.size.symm)
 refine k_iinc X52 hx (hb hby d1_29) rfl (pc' := 32) rfl (z := (6 : Int32)) (by decide) (Ls' := #[.val (.ref a1), .val (.ref a2), .val (.int (0 : Int32)), .val (.int (6 : Int32))]) rfl ?_
 refine k_goto X52 hx (hb hby d1_32) (pc' := 2) (by decide) ?_
 refine k_iloadN X52 hx (hb hby d1_2) rfl (pc' := 3) rfl ?_
 refine k_bipush X52 hx (hb hby d1_3) (pc' := 5) rfl (z := (9 : Int32)) rfl ?_
 refine k_icmp_ge X52 hx (hb hby d1_5) (pn := 8) rfl (py := 35) (by decide) (fun hc => absurd (by decide) hc) (fun _ => ?_)
 refine k_aloadN X52 hx (hb hby d1_8) rfl rfl (pc' := 9) rfl ?_
 refine k_iloadN X52 hx (hb hby d1_9) rfl (pc' := 10) rfl ?_
 refine k_aloadN X52 hx (hb hby d1_10) rfl rfl (pc' := 11) rfl ?_
 refine k_iloadN X52 hx (hb hby d1_11) rfl (pc' := 12) rfl ?_
 refine k_iloadN X52 hx (hb hby d1_12) rfl (pc' := 13) rfl ?_
 refine k_iconst X52 hx (hb hby d1_13) (pc' := 14) rfl (z := (2 : Int32)) rfl ?_
 refine k_idivL X52 hx (hb hby d1_14) (by decide) (pc' := 15) rfl (z := (3 : Int32)) (by decide) ?_
 refine k_iaddL X52 hx (hb hby d1_15) (pc' := 16) rfl (z := (3 : Int32)) (by decide) ?_
 have F53 := (F49.other W52 (Nat.ne_of_lt lt0_0))
 refine k_laload X52 hx hZ e52 F53 ⟨by decide, by decide⟩ (v := (.long p7)) rfl (hb hby d1_16) (pc' := 17) rfl ?_
 refine k_iloadN X52 hx (hb hby d1_17) rfl (pc' := 18) rfl ?_
 refine k_iconst X52 hx (hb hby d1_18) (pc' := 19) rfl (z := (2 : Int32)) rfl ?_
 refine k_iremL X52 hx (hb hby d1_19) (by decide) (pc' := 20) rfl (z := (0 : Int32)) (by decide) ?_
 refine k_bipush X52 hx (hb hby d1_20) (pc' := 22) rfl (z := (29 : Int32)) rfl ?_
 refine k_imulL X52 hx (hb hby d1_22) (pc' := 23) rfl (z := (0 : Int32)) (by decide) ?_
 refine k_lushrL X52 hx (hb hby d1_23) (pc' := 24) rfl (z := p7) (k_ushr0 _) ?_
 refine k_ldcL X52 hx hZ hown (hw _ (List.mem_of_getElem? (i := 6) rfl)) (hb hby d1_24) (pc' := 27) rfl ?_
 refine k_land X52 hx (hb hby d1_27) (pc' := 28) rfl (fun v54 hv54 => ?_)
 refine k_lastore X52 hx hZ e52 Vw52 ⟨by decide, by decide⟩ (i := 6) rfl (Nat.le_of_ble_eq_true rfl) (hb hby d1_28) (pc' := 29) rfl (fun T55 h55 X55 e55 W55 V55 => ?_)
 have Vw55 : Arv Z h55 a1 k10 .long (9 : Int32) [(.long v33), (.long v37), (.long v40), (.long v44), (.long v47), (.long v51), (.long v54), (.long (-1 : Int64)), (.long (-1 : Int64))] (.long (0 : Int64)) := V55
 have N55 := Fr.snoc X55 N52 g_a1
 have Z55 : n0 ≤ h55.size := Nat.le_trans Z52 (Nat.le_of_eq W55.size.symm)
 refine k_iinc X55 hx (hb hby d1_29) rfl (pc' := 32) rfl (z := (7 : Int32)) (by decide) (Ls' := #[.val (.ref a1), .val (.ref a2), .val (.int (0 : Int32)), .val (.int (7 : Int32))]) rfl ?_
 refine k_goto X55 hx (hb hby d1_32) (pc' := 2) (by decide) ?_
 refine k_iloadN X55 hx (hb hby d1_2) rfl (pc' := 3) rfl ?_
 refine k_bipush X55 hx (hb hby d1_3) (pc' := 5) rfl (z := (9 : Int32)) rfl ?_
 refine k_icmp_ge X55 hx (hb hby d1_5) (pn := 8) rfl (py := 35) (by decide) (fun hc => absurd (by decide) hc) (fun _ => ?_)
 refine k_aloadN X55 hx (hb hby d1_8) rfl rfl (pc' := 9) rfl ?_
 refine k_iloadN X55 hx (hb hby d1_9) rfl (pc' := 10) rfl ?_
 refine k_aloadN X55 hx (hb hby d1_10) rfl rfl (pc' := 11) rfl ?_
 refine k_iloadN X55 hx (hb hby d1_11) rfl (pc' := 12) rfl ?_
 refine k_iloadN X55 hx (hb hby d1_12) rfl (pc' := 13) rfl ?_
 refine k_iconst X55 hx (hb hby d1_13) (pc' := 14) rfl (z := (2 : Int32)) rfl ?_
 refine k_idivL X55 hx (hb hby d1_14) (by decide) (pc' := 15) rfl (z := (3 : Int32)) (by decide) ?_
 refine k_iaddL X55 hx (hb hby d1_15) (pc' := 16) rfl (z := (3 : Int32)) (by decide) ?_
 have F56 := (F53.other W55 (Nat.ne_of_lt lt0_0))
 refine k_laload X55 hx hZ e55 F56 ⟨by decide, by decide⟩ (v := (.long p7)) rfl (hb hby d1_16) (pc' := 17) rfl ?_
 refine k_iloadN X55 hx (hb hby d1_17) rfl (pc' := 18) rfl ?_
 refine k_iconst X55 hx (hb hby d1_18) (pc' := 19) rfl (z := (2 : Int32)) rfl ?_
 refine k_iremL X55 hx (hb hby d1_19) (by decide) (pc' := 20) rfl (z := (1 : Int32)) (by decide) ?_
 refine k_bipush X55 hx (hb hby d1_20) (pc' := 22) rfl (z := (29 : Int32)) rfl ?_
 refine k_imulL X55 hx (hb hby d1_22) (pc' := 23) rfl (z := (29 : Int32)) (by decide) ?_
 refine k_lushr X55 hx (hb hby d1_23) (pc' := 24) rfl (fun v57 hv57 => ?_)
 refine k_ldcL X55 hx hZ hown (hw _ (List.mem_of_getElem? (i := 6) rfl)) (hb hby d1_24) (pc' := 27) rfl ?_
 refine k_land X55 hx (hb hby d1_27) (pc' := 28) rfl (fun v58 hv58 => ?_)
 refine k_lastore X55 hx hZ e55 Vw55 ⟨by decide, by decide⟩ (i := 7) rfl (Nat.le_of_ble_eq_true rfl) (hb hby d1_28) (pc' := 29) rfl (fun T59 h59 X59 e59 W59 V59 => ?_)
 have Vw59 : Arv Z h59 a1 k10 .long (9 : Int32) [(.long v33), (.long v37), (.long v40), (.long v44), (.long v47), (.long v51), (.long v54), (.long v58), (.long (-1 : Int64))] (.long (0 : Int64)) := V59
 have N59 := Fr.snoc X59 N55 g_a1
 have Z59 : n0 ≤ h59.size := Nat.le_trans Z55 (Nat.le_of_eq W59.size.symm)
 refine k_iinc X59 hx (hb hby d1_29) rfl (pc' := 32) rfl (z := (8 : Int32)) (by decide) (Ls' := #[.val (.ref a1), .val (.ref a2), .val (.int (0 : Int32)), .val (.int (8 : Int32))]) rfl ?_
 refine k_goto X59 hx (hb hby d1_32) (pc' := 2) (by decide) ?_
 refine k_iloadN X59 hx (hb hby d1_2) rfl (pc' := 3) rfl ?_
 refine k_bipush X59 hx (hb hby d1_3) (pc' := 5) rfl (z := (9 : Int32)) rfl ?_
 refine k_icmp_ge X59 hx (hb hby d1_5) (pn := 8) rfl (py := 35) (by decide) (fun hc => absurd (by decide) hc) (fun _ => ?_)
 refine k_aloadN X59 hx (hb hby d1_8) rfl rfl (pc' := 9) rfl ?_
 refine k_iloadN X59 hx (hb hby d1_9) rfl (pc' := 10) rfl ?_
 refine k_aloadN X59 hx (hb hby d1_10) rfl rfl (pc' := 11) rfl ?_
 refine k_iloadN X59 hx (hb hby d1_11) rfl (pc' := 12) rfl ?_
 refine k_iloadN X59 hx (hb hby d1_12) rfl (pc' := 13) rfl ?_
 refine k_iconst X59 hx (hb hby d1_13) (pc' := 14) rfl (z := (2 : Int32)) rfl ?_
 refine k_idivL X59 hx (hb hby d1_14) (by decide) (pc' := 15) rfl (z := (4 : Int32)) (by decide) ?_
 refine k_iaddL X59 hx (hb hby d1_15) (pc' := 16) rfl (z := (4 : Int32)) (by decide) ?_
 have F60 := (F56.other W59 (Nat.ne_of_lt lt0_0))
 refine k_laload X59 hx hZ e59 F60 ⟨by decide, by decide⟩ (v := (.long p8)) rfl (hb hby d1_16) (pc' := 17) rfl ?_
 refine k_iloadN X59 hx (hb hby d1_17) rfl (pc' := 18) rfl ?_
 refine k_iconst X59 hx (hb hby d1_18) (pc' := 19) rfl (z := (2 : Int32)) rfl ?_
 refine k_iremL X59 hx (hb hby d1_19) (by decide) (pc' := 20) rfl (z := (0 : Int32)) (by decide) ?_
 refine k_bipush X59 hx (hb hby d1_20) (pc' := 22) rfl (z := (29 : Int32)) rfl ?_
 refine k_imulL X59 hx (hb hby d1_22) (pc' := 23) rfl (z := (0 : Int32)) (by decide) ?_
 refine k_lushrL X59 hx (hb hby d1_23) (pc' := 24) rfl (z := p8) (k_ushr0 _) ?_
 refine k_ldcL X59 hx hZ hown (hw _ (List.mem_of_getElem? (i := 6) rfl)) (hb hby d1_24) (pc' := 27) rfl ?_
 refine k_land X59 hx (hb hby d1_27) (pc' := 28) rfl (fun v61 hv61 => ?_)
 refine k_lastore X59 hx hZ e59 Vw59 ⟨by decide, by decide⟩ (i := 8) rfl (Nat.le_of_ble_eq_true rfl) (hb hby d1_28) (pc' := 29) rfl (fun T62 h62 X62 e62 W62 V62 => ?_)
 have Vw62 : Arv Z h62 a1 k10 .long (9 : Int32) [(.long v33), (.long v37), (.long v40), (.long v44), (.long v47), (.long v51), (.long v54), (.long v58), (.long v61)] (.long (0 : Int64)) := V62
 have N62 := Fr.snoc X62 N59 g_a1
 have Z62 : n0 ≤ h62.size := Nat.le_trans Z59 (Nat.le_of_eq W62.size.symm)
 refine k_iinc X62 hx (hb hby d1_29) rfl (pc' := 32) rfl (z := (9 : Int32)) (by decide) (Ls' := #[.val (.ref a1), .val (.ref a2), .val (.int (0 : Int32)), .val (.int (9 : Int32))]) rfl ?_
 refine k_goto X62 hx (hb hby d1_32) (pc' := 2) (by decide) ?_
 refine k_iloadN X62 hx (hb hby d1_2) rfl (pc' := 3) rfl ?_
 refine k_bipush X62 hx (hb hby d1_3) (pc' := 5) rfl (z := (9 : Int32)) rfl ?_
 refine k_icmp_ge X62 hx (hb hby d1_5) (pn := 8) rfl (py := 35) (by decide) (fun _ => ?_) (fun hc => absurd hc (by decide))
 have F63 := (F60.other W62 (Nat.ne_of_lt lt0_0))
 exact k_ret X62 hx Bd.returns (hb hby d1_35) hlk (by decide) (by decide) (by rw [e62]; exact ⟨N62, ⟨v33, v36, v37, v40, v43, v44, v47, v50, v51, v54, v57, v58, v61, hv33, hv36, hv37, hv40, hv43, hv44, hv47, hv50, hv51, hv54, hv57, hv58, hv61, rfl, F63, Vw62, Z62⟩⟩)
theorem pd_0 : parseMethodDescriptor "([J[JI)V" = some ⟨[(.array .long), (.array .long), .int], none⟩ := by decide +kernel
theorem d2_0 : decode method_3_code 0 = .ok (.lload_n 0, 1) := by decide +kernel
theorem d2_1 : decode method_3_code 1 = .ok (.lconst 0, 1) := by decide +kernel
theorem d2_2 : decode method_3_code 2 = .ok (.lcmp, 1) := by decide +kernel
theorem d2_3 : decode method_3_code 3 = .ok (.ifCond .lt 45, 3) := by decide +kernel
theorem d2_48 : decode method_3_code 48 = .ok (.iconst 0, 1) := by decide +kernel
theorem d2_49 : decode method_3_code 49 = .ok (.ireturn, 1) := by decide +kernel
theorem d2_6 : decode method_3_code 6 = .ok (.lload_n 0, 1) := by decide +kernel
theorem d2_7 : decode method_3_code 7 = .ok (.ldc2_w 21, 3) := by decide +kernel
theorem d2_10 : decode method_3_code 10 = .ok (.lcmp, 1) := by decide +kernel
theorem d2_11 : decode method_3_code 11 = .ok (.ifCond .gt 37, 3) := by decide +kernel
theorem d2_14 : decode method_3_code 14 = .ok (.lload_n 2, 1) := by decide +kernel
theorem d2_15 : decode method_3_code 15 = .ok (.lconst 0, 1) := by decide +kernel
theorem d2_16 : decode method_3_code 16 = .ok (.lcmp, 1) := by decide +kernel
theorem d2_17 : decode method_3_code 17 = .ok (.ifCond .lt 31, 3) := by decide +kernel
theorem d2_20 : decode method_3_code 20 = .ok (.lload_n 2, 1) := by decide +kernel
theorem d2_21 : decode method_3_code 21 = .ok (.ldc2_w 21, 3) := by decide +kernel
theorem d2_24 : decode method_3_code 24 = .ok (.lcmp, 1) := by decide +kernel
theorem d2_25 : decode method_3_code 25 = .ok (.ifCond .gt 23, 3) := by decide +kernel
theorem d2_28 : decode method_3_code 28 = .ok (.lload_n 0, 1) := by decide +kernel
theorem d2_29 : decode method_3_code 29 = .ok (.lload_n 2, 1) := by decide +kernel
theorem d2_30 : decode method_3_code 30 = .ok (.bipush 29, 2) := by decide +kernel
theorem d2_32 : decode method_3_code 32 = .ok (.lshl, 1) := by decide +kernel
theorem d2_33 : decode method_3_code 33 = .ok (.ladd, 1) := by decide +kernel
theorem d2_34 : decode method_3_code 34 = .ok (.lload 4, 2) := by decide +kernel
theorem d2_36 : decode method_3_code 36 = .ok (.ldc2_w 23, 3) := by decide +kernel
theorem d2_39 : decode method_3_code 39 = .ok (.land, 1) := by decide +kernel
theorem d2_40 : decode method_3_code 40 = .ok (.lcmp, 1) := by decide +kernel
theorem d2_41 : decode method_3_code 41 = .ok (.ifCond .ne 7, 3) := by decide +kernel
theorem d2_44 : decode method_3_code 44 = .ok (.iconst 1, 1) := by decide +kernel
theorem d2_45 : decode method_3_code 45 = .ok (.goto 4, 3) := by decide +kernel
abbrev R2_94 : Room := { frames := 0, cells := 0, slots := 0, locals := 0 }
def Q2_94 (Z : State) (p1 : Int64) (p2 : Int64) (p3 : Int64) (h0 : Heap) (n0 : Nat) (v : Option Value) (h : Heap) (L : List Loc) : Prop := Fr n0 L ∧ h = h0 ∧ ((p1 < (0 : Int64) ∧ v = some (.int (0 : Int32))) ∨ (¬ p1 < (0 : Int64) ∧ (536870911 : Int64) < p1 ∧ v = some (.int (0 : Int32))) ∨ (¬ p1 < (0 : Int64) ∧ ¬ (536870911 : Int64) < p1 ∧ p2 < (0 : Int64) ∧ v = some (.int (0 : Int32))) ∨ (¬ p1 < (0 : Int64) ∧ ¬ (536870911 : Int64) < p1 ∧ ¬ p2 < (0 : Int64) ∧ (536870911 : Int64) < p2 ∧ v = some (.int (0 : Int32))) ∨ (∃ (v99 : Int64) (v100 : Int64) (v101 : Int64), v99 = p2 <<< ((29 : Int32) &&& 0x3f).toInt64 ∧ v100 = p1 + v99 ∧ v101 = p3 &&& (288230376151711743 : Int64) ∧ ¬ p1 < (0 : Int64) ∧ ¬ (536870911 : Int64) < p1 ∧ ¬ p2 < (0 : Int64) ∧ ¬ (536870911 : Int64) < p2 ∧ ¬ v100 = v101 ∧ v = some (.int (0 : Int32))) ∨ (∃ (v99 : Int64) (v100 : Int64) (v101 : Int64), v99 = p2 <<< ((29 : Int32) &&& 0x3f).toInt64 ∧ v100 = p1 + v99 ∧ v101 = p3 &&& (288230376151711743 : Int64) ∧ ¬ p1 < (0 : Int64) ∧ ¬ (536870911 : Int64) < p1 ∧ ¬ p2 < (0 : Int64) ∧ ¬ (536870911 : Int64) < p2 ∧ v100 = v101 ∧ v = some (.int (1 : Int32))))
theorem ef2_94 (m : MethodId) (x0 : Int64) (x1 : Int64) (x2 : Int64) : entryFrame m #[(.long x0), (.long x1), (.long x2)] 6 = mkF m 0 #[.val (.long x0), .second, .val (.long x1), .second, .val (.long x2), .second] [] := by first | (simp [entryFrame, mkF, argsToLocals, Value.category]; done) | rfl
theorem pn_1 : plainName "com/example/portcullis/portcullis/protocol/FieldUnpackPinLaw" = true := by first | (simp [plainName, overriddenIn]; done) | decide +kernel
set_option maxRecDepth 65536 in
set_option maxHeartbeats 40000000 in
theorem rm2_94 (l : Launch) (Z : State) (a0 : Array Value) (hw : ∀ d ∈ tables_1, d.before a0 Z = true) (ws : List Jvm.Cond) (p1 : Int64) (p2 : Int64) (p3 : Int64) (h0 : Heap) (n0 : Nat) (Z0 : n0 ≤ h0.size)  :
    MetFree l (⟨"com/example/portcullis/portcullis/protocol/FieldUnpackPinLaw", "pair", "(JJJ)Z"⟩ : MethodName) (head1 (Jvm.Cond.code (⟨"com/example/portcullis/portcullis/protocol/FieldUnpackPinLaw", "pair", "(JJJ)Z"⟩ : MethodName) method_3_code 6 (some .boolean) :: ws) R2_94) (fun a U => a = #[(.long p1), (.long p2), (.long p3)] ∧ Z.Warmed39 U.vm ∧ U.heap = h0) (fun _ _ _ _ _ => True) (fun _ U o U' => ∃ v L, o = .returned v ∧ Q2_94 Z p1 p2 p3 h0 n0 v U'.heap L ∧ FrameEnd U o U' L R2_94.cells R2_94.slots) := by
 refine MetFree.of_bodySF (plainFor_of_name pn_1) hisR ?_
 intro p e s m args below meth c s₁ Bd hml0 hP hK
 obtain ⟨rfl, hZ, hh⟩ := hP
 have hx := Bd.exec
 have hby := Bd.bytes
 have hml : c.maxLocals = 6 := hml0
 have hlk : meth.locks = false := Bd.notSynchronized
 have hown : s.vm.findClass "com/example/portcullis/portcullis/protocol/FieldUnpackPinLaw" = some m.cls := findClass_of_methodNamed Bd.named
 have hnm := (name_of_methodNamed Bd.named Bd.method).1
 have X0 : Stand p l e R2_94 s m #[(.long p1), (.long p2), (.long p3)] below meth c s₁ [] 0 0 := Stand.of_body Bd
 have e0 : s₁.heap = h0 := by rw [← hh, Bd.state]; rfl
 have N0 := Fr.nil n0
 rw [ef2_94 m p1 p2 p3]
 show KEnds p e below s R2_94.cells R2_94.slots (Q2_94 Z p1 p2 p3 h0 n0) s₁ (mkF m 0 #[.val (.long p1), .second, .val (.long p2), .second, .val (.long p3), .second] [])
 refine k_lloadN X0 hx (hb hby d2_0) rfl (pc' := 1) rfl ?_
 refine k_lconst X0 hx (hb hby d2_1) (pc' := 2) rfl (z := (0 : Int64)) rfl ?_
 refine k_lcif_lt X0 hx (hb hby d2_2) (pm := 3) rfl (hb hby d2_3) (pn := 6) rfl (py := 48) (by decide) (fun hc95 => ?_) (fun hc95 => ?_)
 ·
  refine k_iconst X0 hx (hb hby d2_48) (pc' := 49) rfl (z := (0 : Int32)) rfl ?_
  exact k_retN X0 hx (t := .boolean) Bd.returns (by simp) (hb hby d2_49) hlk (by decide) (by decide) (z' := (0 : Int32)) rfl ⟨N0, e0, (Or.inl ⟨hc95, rfl⟩)⟩
 ·
  refine k_lloadN X0 hx (hb hby d2_6) rfl (pc' := 7) rfl ?_
  refine k_ldcL X0 hx hZ hown (hw _ (List.mem_of_getElem? (i := 11) rfl)) (hb hby d2_7) (pc' := 10) rfl ?_
  refine k_lcif_gt X0 hx (hb hby d2_10) (pm := 11) rfl (hb hby d2_11) (pn := 14) rfl (py := 48) (by decide) (fun hc96 => ?_) (fun hc96 => ?_)
  ·
   refine k_iconst X0 hx (hb hby d2_48) (pc' := 49) rfl (z := (0 : Int32)) rfl ?_
   exact k_retN X0 hx (t := .boolean) Bd.returns (by simp) (hb hby d2_49) hlk (by decide) (by decide) (z' := (0 : Int32)) rfl ⟨N0, e0, (Or.inr (Or.inl ⟨hc95, hc96, rfl⟩))⟩
  ·
   refine k_lloadN X0 hx (hb hby d2_14) rfl (pc' := 15) rfl ?_
   refine k_lconst X0 hx (hb hby d2_15) (pc' := 16) rfl (z := (0 : Int64)) rfl ?_
   refine k_lcif_lt X0 hx (hb hby d2_16) (pm := 17) rfl (hb hby d2_17) (pn := 20) rfl (py := 48) (by decide) (fun hc97 => ?_) (fun hc97 => ?_)
   ·
    refine k_iconst X0 hx (hb hby d2_48) (pc' := 49) rfl (z := (0 : Int32)) rfl ?_
    exact k_retN X0 hx (t := .boolean) Bd.returns (by simp) (hb hby d2_49) hlk (by decide) (by decide) (z' := (0 : Int32)) rfl ⟨N0, e0, (Or.inr (Or.inr (Or.inl ⟨hc95, hc96, hc97, rfl⟩)))⟩
   ·
    refine k_lloadN X0 hx (hb hby d2_20) rfl (pc' := 21) rfl ?_
    refine k_ldcL X0 hx hZ hown (hw _ (List.mem_of_getElem? (i := 11) rfl)) (hb hby d2_21) (pc' := 24) rfl ?_
    refine k_lcif_gt X0 hx (hb hby d2_24) (pm := 25) rfl (hb hby d2_25) (pn := 28) rfl (py := 48) (by decide) (fun hc98 => ?_) (fun hc98 => ?_)
    ·
     refine k_iconst X0 hx (hb hby d2_48) (pc' := 49) rfl (z := (0 : Int32)) rfl ?_
     exact k_retN X0 hx (t := .boolean) Bd.returns (by simp) (hb hby d2_49) hlk (by decide) (by decide) (z' := (0 : Int32)) rfl ⟨N0, e0, (Or.inr (Or.inr (Or.inr (Or.inl ⟨hc95, hc96, hc97, hc98, rfl⟩))))⟩
    ·
     refine k_lloadN X0 hx (hb hby d2_28) rfl (pc' := 29) rfl ?_
     refine k_lloadN X0 hx (hb hby d2_29) rfl (pc' := 30) rfl ?_
     refine k_bipush X0 hx (hb hby d2_30) (pc' := 32) rfl (z := (29 : Int32)) rfl ?_
     refine k_lshl X0 hx (hb hby d2_32) (pc' := 33) rfl (fun v99 hv99 => ?_)
     refine k_ladd X0 hx (hb hby d2_33) (pc' := 34) rfl (fun v100 hv100 => ?_)
     refine k_lload X0 hx (hb hby d2_34) rfl (pc' := 36) rfl ?_
     refine k_ldcL X0 hx hZ hown (hw _ (List.mem_of_getElem? (i := 12) rfl)) (hb hby d2_36) (pc' := 39) rfl ?_
     refine k_land X0 hx (hb hby d2_39) (pc' := 40) rfl (fun v101 hv101 => ?_)
     refine k_lcif_ne X0 hx (hb hby d2_40) (pm := 41) rfl (hb hby d2_41) (pn := 44) rfl (py := 48) (by decide) (fun hc102 => ?_) (fun hc102 => ?_)
     ·
      refine k_iconst X0 hx (hb hby d2_48) (pc' := 49) rfl (z := (0 : Int32)) rfl ?_
      exact k_retN X0 hx (t := .boolean) Bd.returns (by simp) (hb hby d2_49) hlk (by decide) (by decide) (z' := (0 : Int32)) rfl ⟨N0, e0, (Or.inr (Or.inr (Or.inr (Or.inr (Or.inl ⟨v99, v100, v101, hv99, hv100, hv101, hc95, hc96, hc97, hc98, hc102, rfl⟩)))))⟩
     ·
      refine k_iconst X0 hx (hb hby d2_44) (pc' := 45) rfl (z := (1 : Int32)) rfl ?_
      refine k_goto X0 hx (hb hby d2_45) (pc' := 49) (by decide) ?_
      exact k_retN X0 hx (t := .boolean) Bd.returns (by simp) (hb hby d2_49) hlk (by decide) (by decide) (z' := (1 : Int32)) rfl ⟨N0, e0, (Or.inr (Or.inr (Or.inr (Or.inr (Or.inr ⟨v99, v100, v101, hv99, hv100, hv101, hc95, hc96, hc97, hc98, hc102, rfl⟩)))))⟩
theorem pd_1 : parseMethodDescriptor "(JJJ)Z" = some ⟨[.long, .long, .long], some .boolean⟩ := by decide +kernel
abbrev R1_386 : Room := { frames := 0, cells := 0, slots := 0, locals := 0 }
def Q1_386 (Z : State) (a1 : Addr) (a2 : Addr) (k3 : ClassId) (p4 : Int64) (p5 : Int64) (p6 : Int64) (p7 : Int64) (p8 : Int64) (p9 : Int64) (k10 : ClassId) (h0 : Heap) (n0 : Nat) (v : Option Value) (h : Heap) (L : List Loc) : Prop := Fr n0 L ∧ ((∃ (v387 : Int64) (v390 : Int64) (v391 : Int64) (v394 : Int64) (v397 : Int64) (v398 : Int64) (v401 : Int64) (v404 : Int64) (v405 : Int64) (v408 : Int64) (v411 : Int64) (v412 : Int64) (v415 : Int64), v387 = p5 &&& (536870911 : Int64) ∧ v390 = ((p5.toUInt64 >>> ((29 : Int32) &&& 0x3f).toInt64.toUInt64).toInt64) ∧ v391 = v390 &&& (536870911 : Int64) ∧ v394 = p6 &&& (536870911 : Int64) ∧ v397 = ((p6.toUInt64 >>> ((29 : Int32) &&& 0x3f).toInt64.toUInt64).toInt64) ∧ v398 = v397 &&& (536870911 : Int64) ∧ v401 = p7 &&& (536870911 : Int64) ∧ v404 = ((p7.toUInt64 >>> ((29 : Int32) &&& 0x3f).toInt64.toUInt64).toInt64) ∧ v405 = v404 &&& (536870911 : Int64) ∧ v408 = p8 &&& (536870911 : Int64) ∧ v411 = ((p8.toUInt64 >>> ((29 : Int32) &&& 0x3f).toInt64.toUInt64).toInt64) ∧ v412 = v411 &&& (536870911 : Int64) ∧ v415 = p9 &&& (536870911 : Int64) ∧ v = none ∧ Arv Z h a2 k3 .long (8 : Int32) [(.long p4), (.long p5), (.long p6), (.long p7), (.long p8), (.long p9), (.long p4), (.long p4)] (.long (0 : Int64)) ∧ Arv Z h a1 k10 .long (9 : Int32) [(.long v387), (.long v391), (.long v394), (.long v398), (.long v401), (.long v405), (.long v408), (.long v412), (.long v415)] (.long (0 : Int64)) ∧ n0 ≤ h.size))
theorem ef1_386 (m : MethodId) (x0 : Addr) (x1 : Addr) : entryFrame m #[(.ref x0), (.ref x1), (.int (1 : Int32))] 4 = mkF m 0 #[.val (.ref x0), .val (.ref x1), .val (.int (1 : Int32)), .unset] [] := by first | (simp [entryFrame, mkF, argsToLocals, Value.category]; done) | rfl
set_option maxRecDepth 65536 in
set_option maxHeartbeats 40000000 in
theorem rm1_386 (l : Launch) (Z : State) (a0 : Array Value) (hw : ∀ d ∈ tables_1, d.before a0 Z = true) (ws : List Jvm.Cond) (a1 : Addr) (a2 : Addr) (k3 : ClassId) (p4 : Int64) (p5 : Int64) (p6 : Int64) (p7 : Int64) (p8 : Int64) (p9 : Int64) (k10 : ClassId) (h0 : Heap) (n0 : Nat) (Z0 : n0 ≤ h0.size) (F0_0 : Arv Z h0 a2 k3 .long (8 : Int32) [(.long p4), (.long p5), (.long p6), (.long p7), (.long p8), (.long p9), (.long p4), (.long p4)] (.long (0 : Int64))) (g_a2 : n0 ≤ a2) (F0_2 : Arv Z h0 a1 k10 .long (9 : Int32) [(.long (-1 : Int64)), (.long (-1 : Int64)), (.long (-1 : Int64)), (.long (-1 : Int64)), (.long (-1 : Int64)), (.long (-1 : Int64)), (.long (-1 : Int64)), (.long (-1 : Int64)), (.long (-1 : Int64))] (.long (0 : Int64))) (g_a1 : n0 ≤ a1) (lt0_0 : a2 < a1) :
    MetFree l (⟨"com/example/portcullis/portcullis/protocol/Field", "unpack", "([J[JI)V"⟩ : MethodName) (head1 (Jvm.Cond.code (⟨"com/example/portcullis/portcullis/protocol/Field", "unpack", "([J[JI)V"⟩ : MethodName) prog_3_method_11_code 4 none :: ws) R1_386) (fun a U => a = #[(.ref a1), (.ref a2), (.int (1 : Int32))] ∧ Z.Warmed39 U.vm ∧ U.heap = h0) (fun _ _ _ _ _ => True) (fun _ U o U' => ∃ v L, o = .returned v ∧ Q1_386 Z a1 a2 k3 p4 p5 p6 p7 p8 p9 k10 h0 n0 v U'.heap L ∧ FrameEnd U o U' L R1_386.cells R1_386.slots) := by
 refine MetFree.of_bodySF (plainFor_of_name pn_0) hisR ?_
 intro p e s m args below meth c s₁ Bd hml0 hP hK
 obtain ⟨rfl, hZ, hh⟩ := hP
 have hx := Bd.exec
 have hby := Bd.bytes
 have hml : c.maxLocals = 4 := hml0
 have hlk : meth.locks = false := Bd.notSynchronized
 have hown : s.vm.findClass "com/example/portcullis/portcullis/protocol/Field" = some m.cls := findClass_of_methodNamed Bd.named
 have hnm := (name_of_methodNamed Bd.named Bd.method).1
 have X0 : Stand p l e R1_386 s m #[(.ref a1), (.ref a2), (.int (1 : Int32))] below meth c s₁ [] 0 0 := Stand.of_body Bd
 have e0 : s₁.heap = h0 := by rw [← hh, Bd.state]; rfl
 have N0 := Fr.nil n0
 rw [ef1_386 m a1 a2]
 show KEnds p e below s R1_386.cells R1_386.slots (Q1_386 Z a1 a2 k3 p4 p5 p6 p7 p8 p9 k10 h0 n0) s₁ (mkF m 0 #[.val (.ref a1), .val (.ref a2), .val (.int (1 : Int32)), .unset] [])
 refine k_iconst X0 hx (hb hby d1_0) (pc' := 1) rfl (z := (0 : Int32)) rfl ?_
 refine k_istoreN X0 hx (hb hby d1_1) (Ls' := #[.val (.ref a1), .val (.ref a2), .val (.int (1 : Int32)), .val (.int (0 : Int32))]) rfl (pc' := 2) rfl ?_
 refine k_iloadN X0 hx (hb hby d1_2) rfl (pc' := 3) rfl ?_
 refine k_bipush X0 hx (hb hby d1_3) (pc' := 5) rfl (z := (9 : Int32)) rfl ?_
 refine k_icmp_ge X0 hx (hb hby d1_5) (pn := 8) rfl (py := 35) (by decide) (fun hc => absurd (by decide) hc) (fun _ => ?_)
 refine k_aloadN X0 hx (hb hby d1_8) rfl rfl (pc' := 9) rfl ?_
 refine k_iloadN X0 hx (hb hby d1_9) rfl (pc' := 10) rfl ?_
 refine k_aloadN X0 hx (hb hby d1_10) rfl rfl (pc' := 11) rfl ?_
 refine k_iloadN X0 hx (hb hby d1_11) rfl (pc' := 12) rfl ?_
 refine k_iloadN X0 hx (hb hby d1_12) rfl (pc' := 13) rfl ?_
 refine k_iconst X0 hx (hb hby d1_13) (pc' := 14) rfl (z := (2 : Int32)) rfl ?_
 refine k_idivL X0 hx (hb hby d1_14) (by decide) (pc' := 15) rfl (z := (0 : Int32)) (by decide) ?_
 refine k_iaddL X0 hx (hb hby d1_15) (pc' := 16) rfl (z := (1 : Int32)) (by decide) ?_
 refine k_laload X0 hx hZ e0 F0_0 ⟨by decide, by decide⟩ (v := (.long p5)) rfl (hb hby d1_16) (pc' := 17) rfl ?_
 refine k_iloadN X0 hx (hb hby d1_17) rfl (pc' := 18) rfl ?_
 refine k_iconst X0 hx (hb hby d1_18) (pc' := 19) rfl (z := (2 : Int32)) rfl ?_
 refine k_iremL X0 hx (hb hby d1_19) (by decide) (pc' := 20) rfl (z := (0 : Int32)) (by decide) ?_
 refine k_bipush X0 hx (hb hby d1_20) (pc' := 22) rfl (z := (29 : Int32)) rfl ?_
 refine k_imulL X0 hx (hb hby d1_22) (pc' := 23) rfl (z := (0 : Int32)) (by decide) ?_
 refine k_lushrL X0 hx (hb hby d1_23) (pc' := 24) rfl (z := p5) (k_ushr0 _) ?_
 refine k_ldcL X0 hx hZ hown (hw _ (List.mem_of_getElem? (i := 6) rfl)) (hb hby d1_24) (pc' := 27) rfl ?_
 refine k_land X0 hx (hb hby d1_27) (pc' := 28) rfl (fun v387 hv387 => ?_)
 refine k_lastore X0 hx hZ e0 F0_2 ⟨by decide, by decide⟩ (i := 0) rfl (Nat.le_of_ble_eq_true rfl) (hb hby d1_28) (pc' := 29) rfl (fun T388 h388 X388 e388 W388 V388 => ?_)
 have Vw388 : Arv Z h388 a1 k10 .long (9 : Int32) [(.long v387), (.long (-1 : Int64)), (.long (-1 : Int64)), (.long (-1 : Int64)), (.long (-1 : Int64)), (.long (-1 : Int64)), (.long (-1 : Int64)), (.long (-1 : Int64)), (.long (-1 : Int64))] (.long (0 : Int64)) := V388
 have N388 := Fr.snoc X388 N0 g_a1
 have Z388 : n0 ≤ h388.size := Nat.le_trans Z0 (Nat.le_of_eq W388.size.symm)
 refine k_iinc X388 hx (hb hby d1_29) rfl (pc' := 32) rfl (z := (1 : Int32)) (by decide) (Ls' := #[.val (.ref a1), .val (.ref a2), .val (.int (1 : Int32)), .val (.int (1 : Int32))]) rfl ?_
 refine k_goto X388 hx (hb hby d1_32) (pc' := 2) (by decide) ?_
 refine k_iloadN X388 hx (hb hby d1_2) rfl (pc' := 3) rfl ?_
 refine k_bipush X388 hx (hb hby d1_3) (pc' := 5) rfl (z := (9 : Int32)) rfl ?_
 refine k_icmp_ge X388 hx (hb hby d1_5) (pn := 8) rfl (py := 35) (by decide) (fun hc => absurd (by decide) hc) (fun _ => ?_)
 refine k_aloadN X388 hx (hb hby d1_8) rfl rfl (pc' := 9) rfl ?_
 refine k_iloadN X388 hx (hb hby d1_9) rfl (pc' := 10) rfl ?_
 refine k_aloadN X388 hx (hb hby d1_10) rfl rfl (pc' := 11) rfl ?_
 refine k_iloadN X388 hx (hb hby d1_11) rfl (pc' := 12) rfl ?_
 refine k_iloadN X388 hx (hb hby d1_12) rfl (pc' := 13) rfl ?_
 refine k_iconst X388 hx (hb hby d1_13) (pc' := 14) rfl (z := (2 : Int32)) rfl ?_
 refine k_idivL X388 hx (hb hby d1_14) (by decide) (pc' := 15) rfl (z := (0 : Int32)) (by decide) ?_
 refine k_iaddL X388 hx (hb hby d1_15) (pc' := 16) rfl (z := (1 : Int32)) (by decide) ?_
 have F389 := (F0_0.other W388 (Nat.ne_of_lt lt0_0))
 refine k_laload X388 hx hZ e388 F389 ⟨by decide, by decide⟩ (v := (.long p5)) rfl (hb hby d1_16) (pc' := 17) rfl ?_
 refine k_iloadN X388 hx (hb hby d1_17) rfl (pc' := 18) rfl ?_
 refine k_iconst X388 hx (hb hby d1_18) (pc' := 19) rfl (z := (2 : Int32)) rfl ?_
 refine k_iremL X388 hx (hb hby d1_19) (by decide) (pc' := 20) rfl (z := (1 : Int32)) (by decide) ?_
 refine k_bipush X388 hx (hb hby d1_20) (pc' := 22) rfl (z := (29 : Int32)) rfl ?_
 refine k_imulL X388 hx (hb hby d1_22) (pc' := 23) rfl (z := (29 : Int32)) (by decide) ?_
 refine k_lushr X388 hx (hb hby d1_23) (pc' := 24) rfl (fun v390 hv390 => ?_)
 refine k_ldcL X388 hx hZ hown (hw _ (List.mem_of_getElem? (i := 6) rfl)) (hb hby d1_24) (pc' := 27) rfl ?_
 refine k_land X388 hx (hb hby d1_27) (pc' := 28) rfl (fun v391 hv391 => ?_)
 refine k_lastore X388 hx hZ e388 Vw388 ⟨by decide, by decide⟩ (i := 1) rfl (Nat.le_of_ble_eq_true rfl) (hb hby d1_28) (pc' := 29) rfl (fun T392 h392 X392 e392 W392 V392 => ?_)
 have Vw392 : Arv Z h392 a1 k10 .long (9 : Int32) [(.long v387), (.long v391), (.long (-1 : Int64)), (.long (-1 : Int64)), (.long (-1 : Int64)), (.long (-1 : Int64)), (.long (-1 : Int64)), (.long (-1 : Int64)), (.long (-1 : Int64))] (.long (0 : Int64)) := V392
 have N392 := Fr.snoc X392 N388 g_a1
 have Z392 : n0 ≤ h392.size := Nat.le_trans Z388 (Nat.le_of_eq W392.size.symm)
 refine k_iinc X392 hx (hb hby d1_29) rfl (pc' := 32) rfl (z := (2 : Int32)) (by decide) (Ls' := #[.val (.ref a1), .val (.ref a2), .val (.int (1 : Int32)), .val (.int (2 : Int32))]) rfl ?_
 refine k_goto X392 hx (hb hby d1_32) (pc' := 2) (by decide) ?_
 refine k_iloadN X392 hx (hb hby d1_2) rfl (pc' := 3) rfl ?_
 refine k_bipush X392 hx (hb hby d1_3) (pc' := 5) rfl (z := (9 : Int32)) rfl ?_
 refine k_icmp_ge X392 hx (hb hby d1_5) (pn := 8) rfl (py := 35) (by decide) (fun hc => absurd (by decide) hc) (fun _ => ?_)
 refine k_aloadN X392 hx (hb hby d1_8) rfl rfl (pc' := 9) rfl ?_
 refine k_iloadN X392 hx (hb hby d1_9) rfl (pc' := 10) rfl ?_
 refine k_aloadN X392 hx (hb hby d1_10) rfl rfl (pc' := 11) rfl ?_
 refine k_iloadN X392 hx (hb hby d1_11) rfl (pc' := 12) rfl ?_
 refine k_iloadN X392 hx (hb hby d1_12) rfl (pc' := 13) rfl ?_
 refine k_iconst X392 hx (hb hby d1_13) (pc' := 14) rfl (z := (2 : Int32)) rfl ?_
 refine k_idivL X392 hx (hb hby d1_14) (by decide) (pc' := 15) rfl (z := (1 : Int32)) (by decide) ?_
 refine k_iaddL X392 hx (hb hby d1_15) (pc' := 16) rfl (z := (2 : Int32)) (by decide) ?_
 have F393 := (F389.other W392 (Nat.ne_of_lt lt0_0))
 refine k_laload X392 hx hZ e392 F393 ⟨by decide, by decide⟩ (v := (.long p6)) rfl (hb hby d1_16) (pc' := 17) rfl ?_
 refine k_iloadN X392 hx (hb hby d1_17) rfl (pc' := 18) rfl ?_
 refine k_iconst X392 hx (hb hby d1_18) (pc' := 19) rfl (z := (2 : Int32)) rfl ?_
 refine k_iremL X392 hx (hb hby d1_19) (by decide) (pc' := 20) rfl (z := (0 : Int32)) (by decide) ?_
 refine k_bipush X392 hx (hb hby d1_20) (pc' := 22) rfl (z := (29 : Int32)) rfl ?_
 refine k_imulL X392 hx (hb hby d1_22) (pc' := 23) rfl (z := (0 : Int32)) (by decide) ?_
 refine k_lushrL X392 hx (hb hby d1_23) (pc' := 24) rfl (z := p6) (k_ushr0 _) ?_
 refine k_ldcL X392 hx hZ hown (hw _ (List.mem_of_getElem? (i := 6) rfl)) (hb hby d1_24) (pc' := 27) rfl ?_
 refine k_land X392 hx (hb hby d1_27) (pc' := 28) rfl (fun v394 hv394 => ?_)
 refine k_lastore X392 hx hZ e392 Vw392 ⟨by decide, by decide⟩ (i := 2) rfl (Nat.le_of_ble_eq_true rfl) (hb hby d1_28) (pc' := 29) rfl (fun T395 h395 X395 e395 W395 V395 => ?_)
 have Vw395 : Arv Z h395 a1 k10 .long (9 : Int32) [(.long v387), (.long v391), (.long v394), (.long (-1 : Int64)), (.long (-1 : Int64)), (.long (-1 : Int64)), (.long (-1 : Int64)), (.long (-1 : Int64)), (.long (-1 : Int64))] (.long (0 : Int64)) := V395
 have N395 := Fr.snoc X395 N392 g_a1
 have Z395 : n0 ≤ h395.size := Nat.le_trans Z392 (Nat.le_of_eq W395.size.symm)
 refine k_iinc X395 hx (hb hby d1_29) rfl (pc' := 32) rfl (z := (3 : Int32)) (by decide) (Ls' := #[.val (.ref a1), .val (.ref a2), .val (.int (1 : Int32)), .val (.int (3 : Int32))]) rfl ?_
 refine k_goto X395 hx (hb hby d1_32) (pc' := 2) (by decide) ?_
 refine k_iloadN X395 hx (hb hby d1_2) rfl (pc' := 3) rfl ?_
 refine k_bipush X395 hx (hb hby d1_3) (pc' := 5) rfl (z := (9 : Int32)) rfl ?_
 refine k_icmp_ge X395 hx (hb hby d1_5) (pn := 8) rfl (py := 35) (by decide) (fun hc => absurd (by decide) hc) (fun _ => ?_)
 refine k_aloadN X395 hx (hb hby d1_8) rfl rfl (pc' := 9) rfl ?_
 refine k_iloadN X395 hx (hb hby d1_9) rfl (pc' := 10) rfl ?_
 refine k_aloadN X395 hx (hb hby d1_10) rfl rfl (pc' := 11) rfl ?_
 refine k_iloadN X395 hx (hb hby d1_11) rfl (pc' := 12) rfl ?_
 refine k_iloadN X395 hx (hb hby d1_12) rfl (pc' := 13) rfl ?_
 refine k_iconst X395 hx (hb hby d1_13) (pc' := 14) rfl (z := (2 : Int32)) rfl ?_
 refine k_idivL X395 hx (hb hby d1_14) (by decide) (pc' := 15) rfl (z := (1 : Int32)) (by decide) ?_
 refine k_iaddL X395 hx (hb hby d1_15) (pc' := 16) rfl (z := (2 : Int32)) (by decide) ?_
 have F396 := (F393.other W395 (Nat.ne_of_lt lt0_0))
 refine k_laload X395 hx hZ e395 F396 ⟨by decide, by decide⟩ (v := (.long p6)) rfl (hb hby d1_16) (pc' := 17) rfl ?_
 refine k_iloadN X395 hx (hb hby d1_17) rfl (pc' := 18) rfl ?_
 refine k_iconst X395 hx (hb hby d1_18) (pc' := 19) rfl (z := (2 : Int32)) rfl ?_
 refine k_iremL X395 hx (hb hby d1_19) (by decide) (pc' := 20) rfl (z := (1 : Int32)) (by decide) ?_
 refine k_bipush X395 hx (hb hby d1_20) (pc' := 22) rfl (z := (29 : Int32)) rfl ?_
 refine k_imulL X395 hx (hb hby d1_22) (pc' := 23) rfl (z := (29 : Int32)) (by decide) ?_
 refine k_lushr X395 hx (hb hby d1_23) (pc' := 24) rfl (fun v397 hv397 => ?_)
 refine k_ldcL X395 hx hZ hown (hw _ (List.mem_of_getElem? (i := 6) rfl)) (hb hby d1_24) (pc' := 27) rfl ?_
 refine k_land X395 hx (hb hby d1_27) (pc' := 28) rfl (fun v398 hv398 => ?_)
 refine k_lastore X395 hx hZ e395 Vw395 ⟨by decide, by decide⟩ (i := 3) rfl (Nat.le_of_ble_eq_true rfl) (hb hby d1_28) (pc' := 29) rfl (fun T399 h399 X399 e399 W399 V399 => ?_)
 have Vw399 : Arv Z h399 a1 k10 .long (9 : Int32) [(.long v387), (.long v391), (.long v394), (.long v398), (.long (-1 : Int64)), (.long (-1 : Int64)), (.long (-1 : Int64)), (.long (-1 : Int64)), (.long (-1 : Int64))] (.long (0 : Int64)) := V399
 have N399 := Fr.snoc X399 N395 g_a1
 have Z399 : n0 ≤ h399.size := Nat.le_trans Z395 (Nat.le_of_eq W399.size.symm)
 refine k_iinc X399 hx (hb hby d1_29) rfl (pc' := 32) rfl (z := (4 : Int32)) (by decide) (Ls' := #[.val (.ref a1), .val (.ref a2), .val (.int (1 : Int32)), .val (.int (4 : Int32))]) rfl ?_
 refine k_goto X399 hx (hb hby d1_32) (pc' := 2) (by decide) ?_
 refine k_iloadN X399 hx (hb hby d1_2) rfl (pc' := 3) rfl ?_
 refine k_bipush X399 hx (hb hby d1_3) (pc' := 5) rfl (z := (9 : Int32)) rfl ?_
 refine k_icmp_ge X399 hx (hb hby d1_5) (pn := 8) rfl (py := 35) (by decide) (fun hc => absurd (by decide) hc) (fun _ => ?_)
 refine k_aloadN X399 hx (hb hby d1_8) rfl rfl (pc' := 9) rfl ?_
 refine k_iloadN X399 hx (hb hby d1_9) rfl (pc' := 10) rfl ?_
 refine k_aloadN X399 hx (hb hby d1_10) rfl rfl (pc' := 11) rfl ?_
 refine k_iloadN X399 hx (hb hby d1_11) rfl (pc' := 12) rfl ?_
 refine k_iloadN X399 hx (hb hby d1_12) rfl (pc' := 13) rfl ?_
 refine k_iconst X399 hx (hb hby d1_13) (pc' := 14) rfl (z := (2 : Int32)) rfl ?_
 refine k_idivL X399 hx (hb hby d1_14) (by decide) (pc' := 15) rfl (z := (2 : Int32)) (by decide) ?_
 refine k_iaddL X399 hx (hb hby d1_15) (pc' := 16) rfl (z := (3 : Int32)) (by decide) ?_
 have F400 := (F396.other W399 (Nat.ne_of_lt lt0_0))
 refine k_laload X399 hx hZ e399 F400 ⟨by decide, by decide⟩ (v := (.long p7)) rfl (hb hby d1_16) (pc' := 17) rfl ?_
 refine k_iloadN X399 hx (hb hby d1_17) rfl (pc' := 18) rfl ?_
 refine k_iconst X399 hx (hb hby d1_18) (pc' := 19) rfl (z := (2 : Int32)) rfl ?_
 refine k_iremL X399 hx (hb hby d1_19) (by decide) (pc' := 20) rfl (z := (0 : Int32)) (by decide) ?_
 refine k_bipush X399 hx (hb hby d1_20) (pc' := 22) rfl (z := (29 : Int32)) rfl ?_
 refine k_imulL X399 hx (hb hby d1_22) (pc' := 23) rfl (z := (0 : Int32)) (by decide) ?_
 refine k_lushrL X399 hx (hb hby d1_23) (pc' := 24) rfl (z := p7) (k_ushr0 _) ?_
 refine k_ldcL X399 hx hZ hown (hw _ (List.mem_of_getElem? (i := 6) rfl)) (hb hby d1_24) (pc' := 27) rfl ?_
 refine k_land X399 hx (hb hby d1_27) (pc' := 28) rfl (fun v401 hv401 => ?_)
 refine k_lastore X399 hx hZ e399 Vw399 ⟨by decide, by decide⟩ (i := 4) rfl (Nat.le_of_ble_eq_true rfl) (hb hby d1_28) (pc' := 29) rfl (fun T402 h402 X402 e402 W402 V402 => ?_)
 have Vw402 : Arv Z h402 a1 k10 .long (9 : Int32) [(.long v387), (.long v391), (.long v394), (.long v398), (.long v401), (.long (-1 : Int64)), (.long (-1 : Int64)), (.long (-1 : Int64)), (.long (-1 : Int64))] (.long (0 : Int64)) := V402
 have N402 := Fr.snoc X402 N399 g_a1
 have Z402 : n0 ≤ h402.size := Nat.le_trans Z399 (Nat.le_of_eq W402.size.symm)
 refine k_iinc X402 hx (hb hby d1_29) rfl (pc' := 32) rfl (z := (5 : Int32)) (by decide) (Ls' := #[.val (.ref a1), .val (.ref a2), .val (.int (1 : Int32)), .val (.int (5 : Int32))]) rfl ?_
 refine k_goto X402 hx (hb hby d1_32) (pc' := 2) (by decide) ?_
 refine k_iloadN X402 hx (hb hby d1_2) rfl (pc' := 3) rfl ?_
 refine k_bipush X402 hx (hb hby d1_3) (pc' := 5) rfl (z := (9 : Int32)) rfl ?_
 refine k_icmp_ge X402 hx (hb hby d1_5) (pn := 8) rfl (py := 35) (by decide) (fun hc => absurd (by decide) hc) (fun _ => ?_)
 refine k_aloadN X402 hx (hb hby d1_8) rfl rfl (pc' := 9) rfl ?_
 refine k_iloadN X402 hx (hb hby d1_9) rfl (pc' := 10) rfl ?_
 refine k_aloadN X402 hx (hb hby d1_10) rfl rfl (pc' := 11) rfl ?_
 refine k_iloadN X402 hx (hb hby d1_11) rfl (pc' := 12) rfl ?_
 refine k_iloadN X402 hx (hb hby d1_12) rfl (pc' := 13) rfl ?_
 refine k_iconst X402 hx (hb hby d1_13) (pc' := 14) rfl (z := (2 : Int32)) rfl ?_
 refine k_idivL X402 hx (hb hby d1_14) (by decide) (pc' := 15) rfl (z := (2 : Int32)) (by decide) ?_
 refine k_iaddL X402 hx (hb hby d1_15) (pc' := 16) rfl (z := (3 : Int32)) (by decide) ?_
 have F403 := (F400.other W402 (Nat.ne_of_lt lt0_0))
 refine k_laload X402 hx hZ e402 F403 ⟨by decide, by decide⟩ (v := (.long p7)) rfl (hb hby d1_16) (pc' := 17) rfl ?_
 refine k_iloadN X402 hx (hb hby d1_17) rfl (pc' := 18) rfl ?_
 refine k_iconst X402 hx (hb hby d1_18) (pc' := 19) rfl (z := (2 : Int32)) rfl ?_
 refine k_iremL X402 hx (hb hby d1_19) (by decide) (pc' := 20) rfl (z := (1 : Int32)) (by decide) ?_
 refine k_bipush X402 hx (hb hby d1_20) (pc' := 22) rfl (z := (29 : Int32)) rfl ?_
 refine k_imulL X402 hx (hb hby d1_22) (pc' := 23) rfl (z := (29 : Int32)) (by decide) ?_
 refine k_lushr X402 hx (hb hby d1_23) (pc' := 24) rfl (fun v404 hv404 => ?_)
 refine k_ldcL X402 hx hZ hown (hw _ (List.mem_of_getElem? (i := 6) rfl)) (hb hby d1_24) (pc' := 27) rfl ?_
 refine k_land X402 hx (hb hby d1_27) (pc' := 28) rfl (fun v405 hv405 => ?_)
 refine k_lastore X402 hx hZ e402 Vw402 ⟨by decide, by decide⟩ (i := 5) rfl (Nat.le_of_ble_eq_true rfl) (hb hby d1_28) (pc' := 29) rfl (fun T406 h406 X406 e406 W406 V406 => ?_)
 have Vw406 : Arv Z h406 a1 k10 .long (9 : Int32) [(.long v387), (.long v391), (.long v394), (.long v398), (.long v401), (.long v405), (.long (-1 : Int64)), (.long (-1 : Int64)), (.long (-1 : Int64))] (.long (0 : Int64)) := V406
 have N406 := Fr.snoc X406 N402 g_a1
 have Z406 : n0 ≤ h406.size := Nat.le_trans Z402 (Nat.le_of_eq W406.size.symm)
 refine k_iinc X406 hx (hb hby d1_29) rfl (pc' := 32) rfl (z := (6 : Int32)) (by decide) (Ls' := #[.val (.ref a1), .val (.ref a2), .val (.int (1 : Int32)), .val (.int (6 : Int32))]) rfl ?_
 refine k_goto X406 hx (hb hby d1_32) (pc' := 2) (by decide) ?_
 refine k_iloadN X406 hx (hb hby d1_2) rfl (pc' := 3) rfl ?_
 refine k_bipush X406 hx (hb hby d1_3) (pc' := 5) rfl (z := (9 : Int32)) rfl ?_
 refine k_icmp_ge X406 hx (hb hby d1_5) (pn := 8) rfl (py := 35) (by decide) (fun hc => absurd (by decide) hc) (fun _ => ?_)
 refine k_aloadN X406 hx (hb hby d1_8) rfl rfl (pc' := 9) rfl ?_
 refine k_iloadN X406 hx (hb hby d1_9) rfl (pc' := 10) rfl ?_
 refine k_aloadN X406 hx (hb hby d1_10) rfl rfl (pc' := 11) rfl ?_
 refine k_iloadN X406 hx (hb hby d1_11) rfl (pc' := 12) rfl ?_
 refine k_iloadN X406 hx (hb hby d1_12) rfl (pc' := 13) rfl ?_
 refine k_iconst X406 hx (hb hby d1_13) (pc' := 14) rfl (z := (2 : Int32)) rfl ?_
 refine k_idivL X406 hx (hb hby d1_14) (by decide) (pc' := 15) rfl (z := (3 : Int32)) (by decide) ?_
 refine k_iaddL X406 hx (hb hby d1_15) (pc' := 16) rfl (z := (4 : Int32)) (by decide) ?_
 have F407 := (F403.other W406 (Nat.ne_of_lt lt0_0))
 refine k_laload X406 hx hZ e406 F407 ⟨by decide, by decide⟩ (v := (.long p8)) rfl (hb hby d1_16) (pc' := 17) rfl ?_
 refine k_iloadN X406 hx (hb hby d1_17) rfl (pc' := 18) rfl ?_
 refine k_iconst X406 hx (hb hby d1_18) (pc' := 19) rfl (z := (2 : Int32)) rfl ?_
 refine k_iremL X406 hx (hb hby d1_19) (by decide) (pc' := 20) rfl (z := (0 : Int32)) (by decide) ?_
 refine k_bipush X406 hx (hb hby d1_20) (pc' := 22) rfl (z := (29 : Int32)) rfl ?_
 refine k_imulL X406 hx (hb hby d1_22) (pc' := 23) rfl (z := (0 : Int32)) (by decide) ?_
 refine k_lushrL X406 hx (hb hby d1_23) (pc' := 24) rfl (z := p8) (k_ushr0 _) ?_
 refine k_ldcL X406 hx hZ hown (hw _ (List.mem_of_getElem? (i := 6) rfl)) (hb hby d1_24) (pc' := 27) rfl ?_
 refine k_land X406 hx (hb hby d1_27) (pc' := 28) rfl (fun v408 hv408 => ?_)
 refine k_lastore X406 hx hZ e406 Vw406 ⟨by decide, by decide⟩ (i := 6) rfl (Nat.le_of_ble_eq_true rfl) (hb hby d1_28) (pc' := 29) rfl (fun T409 h409 X409 e409 W409 V409 => ?_)
 have Vw409 : Arv Z h409 a1 k10 .long (9 : Int32) [(.long v387), (.long v391), (.long v394), (.long v398), (.long v401), (.long v405), (.long v408), (.long (-1 : Int64)), (.long (-1 : Int64))] (.long (0 : Int64)) := V409
 have N409 := Fr.snoc X409 N406 g_a1
 have Z409 : n0 ≤ h409.size := Nat.le_trans Z406 (Nat.le_of_eq W409.size.symm)
 refine k_iinc X409 hx (hb hby d1_29) rfl (pc' := 32) rfl (z := (7 : Int32)) (by decide) (Ls' := #[.val (.ref a1), .val (.ref a2), .val (.int (1 : Int32)), .val (.int (7 : Int32))]) rfl ?_
 refine k_goto X409 hx (hb hby d1_32) (pc' := 2) (by decide) ?_
 refine k_iloadN X409 hx (hb hby d1_2) rfl (pc' := 3) rfl ?_
 refine k_bipush X409 hx (hb hby d1_3) (pc' := 5) rfl (z := (9 : Int32)) rfl ?_
 refine k_icmp_ge X409 hx (hb hby d1_5) (pn := 8) rfl (py := 35) (by decide) (fun hc => absurd (by decide) hc) (fun _ => ?_)
 refine k_aloadN X409 hx (hb hby d1_8) rfl rfl (pc' := 9) rfl ?_
 refine k_iloadN X409 hx (hb hby d1_9) rfl (pc' := 10) rfl ?_
 refine k_aloadN X409 hx (hb hby d1_10) rfl rfl (pc' := 11) rfl ?_
 refine k_iloadN X409 hx (hb hby d1_11) rfl (pc' := 12) rfl ?_
 refine k_iloadN X409 hx (hb hby d1_12) rfl (pc' := 13) rfl ?_
 refine k_iconst X409 hx (hb hby d1_13) (pc' := 14) rfl (z := (2 : Int32)) rfl ?_
 refine k_idivL X409 hx (hb hby d1_14) (by decide) (pc' := 15) rfl (z := (3 : Int32)) (by decide) ?_
 refine k_iaddL X409 hx (hb hby d1_15) (pc' := 16) rfl (z := (4 : Int32)) (by decide) ?_
 have F410 := (F407.other W409 (Nat.ne_of_lt lt0_0))
 refine k_laload X409 hx hZ e409 F410 ⟨by decide, by decide⟩ (v := (.long p8)) rfl (hb hby d1_16) (pc' := 17) rfl ?_
 refine k_iloadN X409 hx (hb hby d1_17) rfl (pc' := 18) rfl ?_
 refine k_iconst X409 hx (hb hby d1_18) (pc' := 19) rfl (z := (2 : Int32)) rfl ?_
 refine k_iremL X409 hx (hb hby d1_19) (by decide) (pc' := 20) rfl (z := (1 : Int32)) (by decide) ?_
 refine k_bipush X409 hx (hb hby d1_20) (pc' := 22) rfl (z := (29 : Int32)) rfl ?_
 refine k_imulL X409 hx (hb hby d1_22) (pc' := 23) rfl (z := (29 : Int32)) (by decide) ?_
 refine k_lushr X409 hx (hb hby d1_23) (pc' := 24) rfl (fun v411 hv411 => ?_)
 refine k_ldcL X409 hx hZ hown (hw _ (List.mem_of_getElem? (i := 6) rfl)) (hb hby d1_24) (pc' := 27) rfl ?_
 refine k_land X409 hx (hb hby d1_27) (pc' := 28) rfl (fun v412 hv412 => ?_)
 refine k_lastore X409 hx hZ e409 Vw409 ⟨by decide, by decide⟩ (i := 7) rfl (Nat.le_of_ble_eq_true rfl) (hb hby d1_28) (pc' := 29) rfl (fun T413 h413 X413 e413 W413 V413 => ?_)
 have Vw413 : Arv Z h413 a1 k10 .long (9 : Int32) [(.long v387), (.long v391), (.long v394), (.long v398), (.long v401), (.long v405), (.long v408), (.long v412), (.long (-1 : Int64))] (.long (0 : Int64)) := V413
 have N413 := Fr.snoc X413 N409 g_a1
 have Z413 : n0 ≤ h413.size := Nat.le_trans Z409 (Nat.le_of_eq W413.size.symm)
 refine k_iinc X413 hx (hb hby d1_29) rfl (pc' := 32) rfl (z := (8 : Int32)) (by decide) (Ls' := #[.val (.ref a1), .val (.ref a2), .val (.int (1 : Int32)), .val (.int (8 : Int32))]) rfl ?_
 refine k_goto X413 hx (hb hby d1_32) (pc' := 2) (by decide) ?_
 refine k_iloadN X413 hx (hb hby d1_2) rfl (pc' := 3) rfl ?_
 refine k_bipush X413 hx (hb hby d1_3) (pc' := 5) rfl (z := (9 : Int32)) rfl ?_
 refine k_icmp_ge X413 hx (hb hby d1_5) (pn := 8) rfl (py := 35) (by decide) (fun hc => absurd (by decide) hc) (fun _ => ?_)
 refine k_aloadN X413 hx (hb hby d1_8) rfl rfl (pc' := 9) rfl ?_
 refine k_iloadN X413 hx (hb hby d1_9) rfl (pc' := 10) rfl ?_
 refine k_aloadN X413 hx (hb hby d1_10) rfl rfl (pc' := 11) rfl ?_
 refine k_iloadN X413 hx (hb hby d1_11) rfl (pc' := 12) rfl ?_
 refine k_iloadN X413 hx (hb hby d1_12) rfl (pc' := 13) rfl ?_
 refine k_iconst X413 hx (hb hby d1_13) (pc' := 14) rfl (z := (2 : Int32)) rfl ?_
 refine k_idivL X413 hx (hb hby d1_14) (by decide) (pc' := 15) rfl (z := (4 : Int32)) (by decide) ?_
 refine k_iaddL X413 hx (hb hby d1_15) (pc' := 16) rfl (z := (5 : Int32)) (by decide) ?_
 have F414 := (F410.other W413 (Nat.ne_of_lt lt0_0))
 refine k_laload X413 hx hZ e413 F414 ⟨by decide, by decide⟩ (v := (.long p9)) rfl (hb hby d1_16) (pc' := 17) rfl ?_
 refine k_iloadN X413 hx (hb hby d1_17) rfl (pc' := 18) rfl ?_
 refine k_iconst X413 hx (hb hby d1_18) (pc' := 19) rfl (z := (2 : Int32)) rfl ?_
 refine k_iremL X413 hx (hb hby d1_19) (by decide) (pc' := 20) rfl (z := (0 : Int32)) (by decide) ?_
 refine k_bipush X413 hx (hb hby d1_20) (pc' := 22) rfl (z := (29 : Int32)) rfl ?_
 refine k_imulL X413 hx (hb hby d1_22) (pc' := 23) rfl (z := (0 : Int32)) (by decide) ?_
 refine k_lushrL X413 hx (hb hby d1_23) (pc' := 24) rfl (z := p9) (k_ushr0 _) ?_
 refine k_ldcL X413 hx hZ hown (hw _ (List.mem_of_getElem? (i := 6) rfl)) (hb hby d1_24) (pc' := 27) rfl ?_
 refine k_land X413 hx (hb hby d1_27) (pc' := 28) rfl (fun v415 hv415 => ?_)
 refine k_lastore X413 hx hZ e413 Vw413 ⟨by decide, by decide⟩ (i := 8) rfl (Nat.le_of_ble_eq_true rfl) (hb hby d1_28) (pc' := 29) rfl (fun T416 h416 X416 e416 W416 V416 => ?_)
 have Vw416 : Arv Z h416 a1 k10 .long (9 : Int32) [(.long v387), (.long v391), (.long v394), (.long v398), (.long v401), (.long v405), (.long v408), (.long v412), (.long v415)] (.long (0 : Int64)) := V416
 have N416 := Fr.snoc X416 N413 g_a1
 have Z416 : n0 ≤ h416.size := Nat.le_trans Z413 (Nat.le_of_eq W416.size.symm)
 refine k_iinc X416 hx (hb hby d1_29) rfl (pc' := 32) rfl (z := (9 : Int32)) (by decide) (Ls' := #[.val (.ref a1), .val (.ref a2), .val (.int (1 : Int32)), .val (.int (9 : Int32))]) rfl ?_
 refine k_goto X416 hx (hb hby d1_32) (pc' := 2) (by decide) ?_
 refine k_iloadN X416 hx (hb hby d1_2) rfl (pc' := 3) rfl ?_
 refine k_bipush X416 hx (hb hby d1_3) (pc' := 5) rfl (z := (9 : Int32)) rfl ?_
 refine k_icmp_ge X416 hx (hb hby d1_5) (pn := 8) rfl (py := 35) (by decide) (fun _ => ?_) (fun hc => absurd hc (by decide))
 have F417 := (F414.other W416 (Nat.ne_of_lt lt0_0))
 exact k_ret X416 hx Bd.returns (hb hby d1_35) hlk (by decide) (by decide) (by rw [e416]; exact ⟨N416, ⟨v387, v390, v391, v394, v397, v398, v401, v404, v405, v408, v411, v412, v415, hv387, hv390, hv391, hv394, hv397, hv398, hv401, hv404, hv405, hv408, hv411, hv412, hv415, rfl, F417, Vw416, Z416⟩⟩)
abbrev R1_731 : Room := { frames := 0, cells := 0, slots := 0, locals := 0 }
def Q1_731 (Z : State) (a1 : Addr) (a2 : Addr) (k3 : ClassId) (p4 : Int64) (p5 : Int64) (p6 : Int64) (p7 : Int64) (p8 : Int64) (p9 : Int64) (k10 : ClassId) (h0 : Heap) (n0 : Nat) (v : Option Value) (h : Heap) (L : List Loc) : Prop := Fr n0 L ∧ ((∃ (v732 : Int64) (v735 : Int64) (v736 : Int64) (v739 : Int64) (v742 : Int64) (v743 : Int64) (v746 : Int64) (v749 : Int64) (v750 : Int64) (v753 : Int64) (v756 : Int64) (v757 : Int64) (v760 : Int64), v732 = p5 &&& (536870911 : Int64) ∧ v735 = ((p5.toUInt64 >>> ((29 : Int32) &&& 0x3f).toInt64.toUInt64).toInt64) ∧ v736 = v735 &&& (536870911 : Int64) ∧ v739 = p6 &&& (536870911 : Int64) ∧ v742 = ((p6.toUInt64 >>> ((29 : Int32) &&& 0x3f).toInt64.toUInt64).toInt64) ∧ v743 = v742 &&& (536870911 : Int64) ∧ v746 = p7 &&& (536870911 : Int64) ∧ v749 = ((p7.toUInt64 >>> ((29 : Int32) &&& 0x3f).toInt64.toUInt64).toInt64) ∧ v750 = v749 &&& (536870911 : Int64) ∧ v753 = p8 &&& (536870911 : Int64) ∧ v756 = ((p8.toUInt64 >>> ((29 : Int32) &&& 0x3f).toInt64.toUInt64).toInt64) ∧ v757 = v756 &&& (536870911 : Int64) ∧ v760 = p9 &&& (536870911 : Int64) ∧ v = none ∧ Arv Z h a2 k3 .long (8 : Int32) [(.long p4), (.long p4), (.long p5), (.long p6), (.long p7), (.long p8), (.long p9), (.long p4)] (.long (0 : Int64)) ∧ Arv Z h a1 k10 .long (9 : Int32) [(.long v732), (.long v736), (.long v739), (.long v743), (.long v746), (.long v750), (.long v753), (.long v757), (.long v760)] (.long (0 : Int64)) ∧ n0 ≤ h.size))
theorem ef1_731 (m : MethodId) (x0 : Addr) (x1 : Addr) : entryFrame m #[(.ref x0), (.ref x1), (.int (2 : Int32))] 4 = mkF m 0 #[.val (.ref x0), .val (.ref x1), .val (.int (2 : Int32)), .unset] [] := by first | (simp [entryFrame, mkF, argsToLocals, Value.category]; done) | rfl
set_option maxRecDepth 65536 in
set_option maxHeartbeats 40000000 in
theorem rm1_731 (l : Launch) (Z : State) (a0 : Array Value) (hw : ∀ d ∈ tables_1, d.before a0 Z = true) (ws : List Jvm.Cond) (a1 : Addr) (a2 : Addr) (k3 : ClassId) (p4 : Int64) (p5 : Int64) (p6 : Int64) (p7 : Int64) (p8 : Int64) (p9 : Int64) (k10 : ClassId) (h0 : Heap) (n0 : Nat) (Z0 : n0 ≤ h0.size) (F0_0 : Arv Z h0 a2 k3 .long (8 : Int32) [(.long p4), (.long p4), (.long p5), (.long p6), (.long p7), (.long p8), (.long p9), (.long p4)] (.long (0 : Int64))) (g_a2 : n0 ≤ a2) (F0_2 : Arv Z h0 a1 k10 .long (9 : Int32) [(.long (-1 : Int64)), (.long (-1 : Int64)), (.long (-1 : Int64)), (.long (-1 : Int64)), (.long (-1 : Int64)), (.long (-1 : Int64)), (.long (-1 : Int64)), (.long (-1 : Int64)), (.long (-1 : Int64))] (.long (0 : Int64))) (g_a1 : n0 ≤ a1) (lt0_0 : a2 < a1) :
    MetFree l (⟨"com/example/portcullis/portcullis/protocol/Field", "unpack", "([J[JI)V"⟩ : MethodName) (head1 (Jvm.Cond.code (⟨"com/example/portcullis/portcullis/protocol/Field", "unpack", "([J[JI)V"⟩ : MethodName) prog_3_method_11_code 4 none :: ws) R1_731) (fun a U => a = #[(.ref a1), (.ref a2), (.int (2 : Int32))] ∧ Z.Warmed39 U.vm ∧ U.heap = h0) (fun _ _ _ _ _ => True) (fun _ U o U' => ∃ v L, o = .returned v ∧ Q1_731 Z a1 a2 k3 p4 p5 p6 p7 p8 p9 k10 h0 n0 v U'.heap L ∧ FrameEnd U o U' L R1_731.cells R1_731.slots) := by
 refine MetFree.of_bodySF (plainFor_of_name pn_0) hisR ?_
 intro p e s m args below meth c s₁ Bd hml0 hP hK
 obtain ⟨rfl, hZ, hh⟩ := hP
 have hx := Bd.exec
 have hby := Bd.bytes
 have hml : c.maxLocals = 4 := hml0
 have hlk : meth.locks = false := Bd.notSynchronized
 have hown : s.vm.findClass "com/example/portcullis/portcullis/protocol/Field" = some m.cls := findClass_of_methodNamed Bd.named
 have hnm := (name_of_methodNamed Bd.named Bd.method).1
 have X0 : Stand p l e R1_731 s m #[(.ref a1), (.ref a2), (.int (2 : Int32))] below meth c s₁ [] 0 0 := Stand.of_body Bd
 have e0 : s₁.heap = h0 := by rw [← hh, Bd.state]; rfl
 have N0 := Fr.nil n0
 rw [ef1_731 m a1 a2]
 show KEnds p e below s R1_731.cells R1_731.slots (Q1_731 Z a1 a2 k3 p4 p5 p6 p7 p8 p9 k10 h0 n0) s₁ (mkF m 0 #[.val (.ref a1), .val (.ref a2), .val (.int (2 : Int32)), .unset] [])
 refine k_iconst X0 hx (hb hby d1_0) (pc' := 1) rfl (z := (0 : Int32)) rfl ?_
 refine k_istoreN X0 hx (hb hby d1_1) (Ls' := #[.val (.ref a1), .val (.ref a2), .val (.int (2 : Int32)), .val (.int (0 : Int32))]) rfl (pc' := 2) rfl ?_
 refine k_iloadN X0 hx (hb hby d1_2) rfl (pc' := 3) rfl ?_
 refine k_bipush X0 hx (hb hby d1_3) (pc' := 5) rfl (z := (9 : Int32)) rfl ?_
 refine k_icmp_ge X0 hx (hb hby d1_5) (pn := 8) rfl (py := 35) (by decide) (fun hc => absurd (by decide) hc) (fun _ => ?_)
 refine k_aloadN X0 hx (hb hby d1_8) rfl rfl (pc' := 9) rfl ?_
 refine k_iloadN X0 hx (hb hby d1_9) rfl (pc' := 10) rfl ?_
 refine k_aloadN X0 hx (hb hby d1_10) rfl rfl (pc' := 11) rfl ?_
 refine k_iloadN X0 hx (hb hby d1_11) rfl (pc' := 12) rfl ?_
 refine k_iloadN X0 hx (hb hby d1_12) rfl (pc' := 13) rfl ?_
 refine k_iconst X0 hx (hb hby d1_13) (pc' := 14) rfl (z := (2 : Int32)) rfl ?_
 refine k_idivL X0 hx (hb hby d1_14) (by decide) (pc' := 15) rfl (z := (0 : Int32)) (by decide) ?_
 refine k_iaddL X0 hx (hb hby d1_15) (pc' := 16) rfl (z := (2 : Int32)) (by decide) ?_
 refine k_laload X0 hx hZ e0 F0_0 ⟨by decide, by decide⟩ (v := (.long p5)) rfl (hb hby d1_16) (pc' := 17) rfl ?_
 refine k_iloadN X0 hx (hb hby d1_17) rfl (pc' := 18) rfl ?_
 refine k_iconst X0 hx (hb hby d1_18) (pc' := 19) rfl (z := (2 : Int32)) rfl ?_
 refine k_iremL X0 hx (hb hby d1_19) (by decide) (pc' := 20) rfl (z := (0 : Int32)) (by decide) ?_
 refine k_bipush X0 hx (hb hby d1_20) (pc' := 22) rfl (z := (29 : Int32)) rfl ?_
 refine k_imulL X0 hx (hb hby d1_22) (pc' := 23) rfl (z := (0 : Int32)) (by decide) ?_
 refine k_lushrL X0 hx (hb hby d1_23) (pc' := 24) rfl (z := p5) (k_ushr0 _) ?_
 refine k_ldcL X0 hx hZ hown (hw _ (List.mem_of_getElem? (i := 6) rfl)) (hb hby d1_24) (pc' := 27) rfl ?_
 refine k_land X0 hx (hb hby d1_27) (pc' := 28) rfl (fun v732 hv732 => ?_)
 refine k_lastore X0 hx hZ e0 F0_2 ⟨by decide, by decide⟩ (i := 0) rfl (Nat.le_of_ble_eq_true rfl) (hb hby d1_28) (pc' := 29) rfl (fun T733 h733 X733 e733 W733 V733 => ?_)
 have Vw733 : Arv Z h733 a1 k10 .long (9 : Int32) [(.long v732), (.long (-1 : Int64)), (.long (-1 : Int64)), (.long (-1 : Int64)), (.long (-1 : Int64)), (.long (-1 : Int64)), (.long (-1 : Int64)), (.long (-1 : Int64)), (.long (-1 : Int64))] (.long (0 : Int64)) := V733
 have N733 := Fr.snoc X733 N0 g_a1
 have Z733 : n0 ≤ h733.size := Nat.le_trans Z0 (Nat.le_of_eq W733.size.symm)
 refine k_iinc X733 hx (hb hby d1_29) rfl (pc' := 32) rfl (z := (1 : Int32)) (by decide) (Ls' := #[.val (.ref a1), .val (.ref a2), .val (.int (2 : Int32)), .val (.int (1 : Int32))]) rfl ?_
 refine k_goto X733 hx (hb hby d1_32) (pc' := 2) (by decide) ?_
 refine k_iloadN X733 hx (hb hby d1_2) rfl (pc' := 3) rfl ?_
 refine k_bipush X733 hx (hb hby d1_3) (pc' := 5) rfl (z := (9 : Int32)) rfl ?_
 refine k_icmp_ge X733 hx (hb hby d1_5) (pn := 8) rfl (py := 35) (by decide) (fun hc => absurd (by decide) hc) (fun _ => ?_)
 refine k_aloadN X733 hx (hb hby d1_8) rfl rfl (pc' := 9) rfl ?_
 refine k_iloadN X733 hx (hb hby d1_9) rfl (pc' := 10) rfl ?_
 refine k_aloadN X733 hx (hb hby d1_10) rfl rfl (pc' := 11) rfl ?_
 refine k_iloadN X733 hx (hb hby d1_11) rfl (pc' := 12) rfl ?_
 refine k_iloadN X733 hx (hb hby d1_12) rfl (pc' := 13) rfl ?_
 refine k_iconst X733 hx (hb hby d1_13) (pc' := 14) rfl (z := (2 : Int32)) rfl ?_
 refine k_idivL X733 hx (hb hby d1_14) (by decide) (pc' := 15) rfl (z := (0 : Int32)) (by decide) ?_
 refine k_iaddL X733 hx (hb hby d1_15) (pc' := 16) rfl (z := (2 : Int32)) (by decide) ?_
 have F734 := (F0_0.other W733 (Nat.ne_of_lt lt0_0))
 refine k_laload X733 hx hZ e733 F734 ⟨by decide, by decide⟩ (v := (.long p5)) rfl (hb hby d1_16) (pc' := 17) rfl ?_
 refine k_iloadN X733 hx (hb hby d1_17) rfl (pc' := 18) rfl ?_
 refine k_iconst X733 hx (hb hby d1_18) (pc' := 19) rfl (z := (2 : Int32)) rfl ?_
 refine k_iremL X733 hx (hb hby d1_19) (by decide) (pc' := 20) rfl (z := (1 : Int32)) (by decide) ?_
 refine k_bipush X733 hx (hb hby d1_20) (pc' := 22) rfl (z := (29 : Int32)) rfl ?_
 refine k_imulL X733 hx (hb hby d1_22) (pc' := 23) rfl (z := (29 : Int32)) (by decide) ?_
 refine k_lushr X733 hx (hb hby d1_23) (pc' := 24) rfl (fun v735 hv735 => ?_)
 refine k_ldcL X733 hx hZ hown (hw _ (List.mem_of_getElem? (i := 6) rfl)) (hb hby d1_24) (pc' := 27) rfl ?_
 refine k_land X733 hx (hb hby d1_27) (pc' := 28) rfl (fun v736 hv736 => ?_)
 refine k_lastore X733 hx hZ e733 Vw733 ⟨by decide, by decide⟩ (i := 1) rfl (Nat.le_of_ble_eq_true rfl) (hb hby d1_28) (pc' := 29) rfl (fun T737 h737 X737 e737 W737 V737 => ?_)
 have Vw737 : Arv Z h737 a1 k10 .long (9 : Int32) [(.long v732), (.long v736), (.long (-1 : Int64)), (.long (-1 : Int64)), (.long (-1 : Int64)), (.long (-1 : Int64)), (.long (-1 : Int64)), (.long (-1 : Int64)), (.long (-1 : Int64))] (.long (0 : Int64)) := V737
 have N737 := Fr.snoc X737 N733 g_a1
 have Z737 : n0 ≤ h737.size := Nat.le_trans Z733 (Nat.le_of_eq W737.size.symm)
 refine k_iinc X737 hx (hb hby d1_29) rfl (pc' := 32) rfl (z := (2 : Int32)) (by decide) (Ls' := #[.val (.ref a1), .val (.ref a2), .val (.int (2 : Int32)), .val (.int (2 : Int32))]) rfl ?_
 refine k_goto X737 hx (hb hby d1_32) (pc' := 2) (by decide) ?_
 refine k_iloadN X737 hx (hb hby d1_2) rfl (pc' := 3) rfl ?_
 refine k_bipush X737 hx (hb hby d1_3) (pc' := 5) rfl (z := (9 : Int32)) rfl ?_
 refine k_icmp_ge X737 hx (hb hby d1_5) (pn := 8) rfl (py := 35) (by decide) (fun hc => absurd (by decide) hc) (fun _ => ?_)
 refine k_aloadN X737 hx (hb hby d1_8) rfl rfl (pc' := 9) rfl ?_
 refine k_iloadN X737 hx (hb hby d1_9) rfl (pc' := 10) rfl ?_
 refine k_aloadN X737 hx (hb hby d1_10) rfl rfl (pc' := 11) rfl ?_
 refine k_iloadN X737 hx (hb hby d1_11) rfl (pc' := 12) rfl ?_
 refine k_iloadN X737 hx (hb hby d1_12) rfl (pc' := 13) rfl ?_
 refine k_iconst X737 hx (hb hby d1_13) (pc' := 14) rfl (z := (2 : Int32)) rfl ?_
 refine k_idivL X737 hx (hb hby d1_14) (by decide) (pc' := 15) rfl (z := (1 : Int32)) (by decide) ?_
 refine k_iaddL X737 hx (hb hby d1_15) (pc' := 16) rfl (z := (3 : Int32)) (by decide) ?_
 have F738 := (F734.other W737 (Nat.ne_of_lt lt0_0))
 refine k_laload X737 hx hZ e737 F738 ⟨by decide, by decide⟩ (v := (.long p6)) rfl (hb hby d1_16) (pc' := 17) rfl ?_
 refine k_iloadN X737 hx (hb hby d1_17) rfl (pc' := 18) rfl ?_
 refine k_iconst X737 hx (hb hby d1_18) (pc' := 19) rfl (z := (2 : Int32)) rfl ?_
 refine k_iremL X737 hx (hb hby d1_19) (by decide) (pc' := 20) rfl (z := (0 : Int32)) (by decide) ?_
 refine k_bipush X737 hx (hb hby d1_20) (pc' := 22) rfl (z := (29 : Int32)) rfl ?_
 refine k_imulL X737 hx (hb hby d1_22) (pc' := 23) rfl (z := (0 : Int32)) (by decide) ?_
 refine k_lushrL X737 hx (hb hby d1_23) (pc' := 24) rfl (z := p6) (k_ushr0 _) ?_
 refine k_ldcL X737 hx hZ hown (hw _ (List.mem_of_getElem? (i := 6) rfl)) (hb hby d1_24) (pc' := 27) rfl ?_
 refine k_land X737 hx (hb hby d1_27) (pc' := 28) rfl (fun v739 hv739 => ?_)
 refine k_lastore X737 hx hZ e737 Vw737 ⟨by decide, by decide⟩ (i := 2) rfl (Nat.le_of_ble_eq_true rfl) (hb hby d1_28) (pc' := 29) rfl (fun T740 h740 X740 e740 W740 V740 => ?_)
 have Vw740 : Arv Z h740 a1 k10 .long (9 : Int32) [(.long v732), (.long v736), (.long v739), (.long (-1 : Int64)), (.long (-1 : Int64)), (.long (-1 : Int64)), (.long (-1 : Int64)), (.long (-1 : Int64)), (.long (-1 : Int64))] (.long (0 : Int64)) := V740
 have N740 := Fr.snoc X740 N737 g_a1
 have Z740 : n0 ≤ h740.size := Nat.le_trans Z737 (Nat.le_of_eq W740.size.symm)
 refine k_iinc X740 hx (hb hby d1_29) rfl (pc' := 32) rfl (z := (3 : Int32)) (by decide) (Ls' := #[.val (.ref a1), .val (.ref a2), .val (.int (2 : Int32)), .val (.int (3 : Int32))]) rfl ?_
 refine k_goto X740 hx (hb hby d1_32) (pc' := 2) (by decide) ?_
 refine k_iloadN X740 hx (hb hby d1_2) rfl (pc' := 3) rfl ?_
 refine k_bipush X740 hx (hb hby d1_3) (pc' := 5) rfl (z := (9 : Int32)) rfl ?_
 refine k_icmp_ge X740 hx (hb hby d1_5) (pn := 8) rfl (py := 35) (by decide) (fun hc => absurd (by decide) hc) (fun _ => ?_)
 refine k_aloadN X740 hx (hb hby d1_8) rfl rfl (pc' := 9) rfl ?_
 refine k_iloadN X740 hx (hb hby d1_9) rfl (pc' := 10) rfl ?_
 refine k_aloadN X740 hx (hb hby d1_10) rfl rfl (pc' := 11) rfl ?_
 refine k_iloadN X740 hx (hb hby d1_11) rfl (pc' := 12) rfl ?_
 refine k_iloadN X740 hx (hb hby d1_12) rfl (pc' := 13) rfl ?_
 refine k_iconst X740 hx (hb hby d1_13) (pc' := 14) rfl (z := (2 : Int32)) rfl ?_
 refine k_idivL X740 hx (hb hby d1_14) (by decide) (pc' := 15) rfl (z := (1 : Int32)) (by decide) ?_
 refine k_iaddL X740 hx (hb hby d1_15) (pc' := 16) rfl (z := (3 : Int32)) (by decide) ?_
 have F741 := (F738.other W740 (Nat.ne_of_lt lt0_0))
 refine k_laload X740 hx hZ e740 F741 ⟨by decide, by decide⟩ (v := (.long p6)) rfl (hb hby d1_16) (pc' := 17) rfl ?_
 refine k_iloadN X740 hx (hb hby d1_17) rfl (pc' := 18) rfl ?_
 refine k_iconst X740 hx (hb hby d1_18) (pc' := 19) rfl (z := (2 : Int32)) rfl ?_
 refine k_iremL X740 hx (hb hby d1_19) (by decide) (pc' := 20) rfl (z := (1 : Int32)) (by decide) ?_
 refine k_bipush X740 hx (hb hby d1_20) (pc' := 22) rfl (z := (29 : Int32)) rfl ?_
 refine k_imulL X740 hx (hb hby d1_22) (pc' := 23) rfl (z := (29 : Int32)) (by decide) ?_
 refine k_lushr X740 hx (hb hby d1_23) (pc' := 24) rfl (fun v742 hv742 => ?_)
 refine k_ldcL X740 hx hZ hown (hw _ (List.mem_of_getElem? (i := 6) rfl)) (hb hby d1_24) (pc' := 27) rfl ?_
 refine k_land X740 hx (hb hby d1_27) (pc' := 28) rfl (fun v743 hv743 => ?_)
 refine k_lastore X740 hx hZ e740 Vw740 ⟨by decide, by decide⟩ (i := 3) rfl (Nat.le_of_ble_eq_true rfl) (hb hby d1_28) (pc' := 29) rfl (fun T744 h744 X744 e744 W744 V744 => ?_)
 have Vw744 : Arv Z h744 a1 k10 .long (9 : Int32) [(.long v732), (.long v736), (.long v739), (.long v743), (.long (-1 : Int64)), (.long (-1 : Int64)), (.long (-1 : Int64)), (.long (-1 : Int64)), (.long (-1 : Int64))] (.long (0 : Int64)) := V744
 have N744 := Fr.snoc X744 N740 g_a1
 have Z744 : n0 ≤ h744.size := Nat.le_trans Z740 (Nat.le_of_eq W744.size.symm)
 refine k_iinc X744 hx (hb hby d1_29) rfl (pc' := 32) rfl (z := (4 : Int32)) (by decide) (Ls' := #[.val (.ref a1), .val (.ref a2), .val (.int (2 : Int32)), .val (.int (4 : Int32))]) rfl ?_
 refine k_goto X744 hx (hb hby d1_32) (pc' := 2) (by decide) ?_
 refine k_iloadN X744 hx (hb hby d1_2) rfl (pc' := 3) rfl ?_
 refine k_bipush X744 hx (hb hby d1_3) (pc' := 5) rfl (z := (9 : Int32)) rfl ?_
 refine k_icmp_ge X744 hx (hb hby d1_5) (pn := 8) rfl (py := 35) (by decide) (fun hc => absurd (by decide) hc) (fun _ => ?_)
 refine k_aloadN X744 hx (hb hby d1_8) rfl rfl (pc' := 9) rfl ?_
 refine k_iloadN X744 hx (hb hby d1_9) rfl (pc' := 10) rfl ?_
 refine k_aloadN X744 hx (hb hby d1_10) rfl rfl (pc' := 11) rfl ?_
 refine k_iloadN X744 hx (hb hby d1_11) rfl (pc' := 12) rfl ?_
 refine k_iloadN X744 hx (hb hby d1_12) rfl (pc' := 13) rfl ?_
 refine k_iconst X744 hx (hb hby d1_13) (pc' := 14) rfl (z := (2 : Int32)) rfl ?_
 refine k_idivL X744 hx (hb hby d1_14) (by decide) (pc' := 15) rfl (z := (2 : Int32)) (by decide) ?_
 refine k_iaddL X744 hx (hb hby d1_15) (pc' := 16) rfl (z := (4 : Int32)) (by decide) ?_
 have F745 := (F741.other W744 (Nat.ne_of_lt lt0_0))
 refine k_laload X744 hx hZ e744 F745 ⟨by decide, by decide⟩ (v := (.long p7)) rfl (hb hby d1_16) (pc' := 17) rfl ?_
 refine k_iloadN X744 hx (hb hby d1_17) rfl (pc' := 18) rfl ?_
 refine k_iconst X744 hx (hb hby d1_18) (pc' := 19) rfl (z := (2 : Int32)) rfl ?_
 refine k_iremL X744 hx (hb hby d1_19) (by decide) (pc' := 20) rfl (z := (0 : Int32)) (by decide) ?_
 refine k_bipush X744 hx (hb hby d1_20) (pc' := 22) rfl (z := (29 : Int32)) rfl ?_
 refine k_imulL X744 hx (hb hby d1_22) (pc' := 23) rfl (z := (0 : Int32)) (by decide) ?_
 refine k_lushrL X744 hx (hb hby d1_23) (pc' := 24) rfl (z := p7) (k_ushr0 _) ?_
 refine k_ldcL X744 hx hZ hown (hw _ (List.mem_of_getElem? (i := 6) rfl)) (hb hby d1_24) (pc' := 27) rfl ?_
 refine k_land X744 hx (hb hby d1_27) (pc' := 28) rfl (fun v746 hv746 => ?_)
 refine k_lastore X744 hx hZ e744 Vw744 ⟨by decide, by decide⟩ (i := 4) rfl (Nat.le_of_ble_eq_true rfl) (hb hby d1_28) (pc' := 29) rfl (fun T747 h747 X747 e747 W747 V747 => ?_)
 have Vw747 : Arv Z h747 a1 k10 .long (9 : Int32) [(.long v732), (.long v736), (.long v739), (.long v743), (.long v746), (.long (-1 : Int64)), (.long (-1 : Int64)), (.long (-1 : Int64)), (.long (-1 : Int64))] (.long (0 : Int64)) := V747
 have N747 := Fr.snoc X747 N744 g_a1
 have Z747 : n0 ≤ h747.size := Nat.le_trans Z744 (Nat.le_of_eq W747.size.symm)
 refine k_iinc X747 hx (hb hby d1_29) rfl (pc' := 32) rfl (z := (5 : Int32)) (by decide) (Ls' := #[.val (.ref a1), .val (.ref a2), .val (.int (2 : Int32)), .val (.int (5 : Int32))]) rfl ?_
 refine k_goto X747 hx (hb hby d1_32) (pc' := 2) (by decide) ?_
 refine k_iloadN X747 hx (hb hby d1_2) rfl (pc' := 3) rfl ?_
 refine k_bipush X747 hx (hb hby d1_3) (pc' := 5) rfl (z := (9 : Int32)) rfl ?_
 refine k_icmp_ge X747 hx (hb hby d1_5) (pn := 8) rfl (py := 35) (by decide) (fun hc => absurd (by decide) hc) (fun _ => ?_)
 refine k_aloadN X747 hx (hb hby d1_8) rfl rfl (pc' := 9) rfl ?_
 refine k_iloadN X747 hx (hb hby d1_9) rfl (pc' := 10) rfl ?_
 refine k_aloadN X747 hx (hb hby d1_10) rfl rfl (pc' := 11) rfl ?_
 refine k_iloadN X747 hx (hb hby d1_11) rfl (pc' := 12) rfl ?_
 refine k_iloadN X747 hx (hb hby d1_12) rfl (pc' := 13) rfl ?_
 refine k_iconst X747 hx (hb hby d1_13) (pc' := 14) rfl (z := (2 : Int32)) rfl ?_
 refine k_idivL X747 hx (hb hby d1_14) (by decide) (pc' := 15) rfl (z := (2 : Int32)) (by decide) ?_
 refine k_iaddL X747 hx (hb hby d1_15) (pc' := 16) rfl (z := (4 : Int32)) (by decide) ?_
 have F748 := (F745.other W747 (Nat.ne_of_lt lt0_0))
 refine k_laload X747 hx hZ e747 F748 ⟨by decide, by decide⟩ (v := (.long p7)) rfl (hb hby d1_16) (pc' := 17) rfl ?_
 refine k_iloadN X747 hx (hb hby d1_17) rfl (pc' := 18) rfl ?_
 refine k_iconst X747 hx (hb hby d1_18) (pc' := 19) rfl (z := (2 : Int32)) rfl ?_
 refine k_iremL X747 hx (hb hby d1_19) (by decide) (pc' := 20) rfl (z := (1 : Int32)) (by decide) ?_
 refine k_bipush X747 hx (hb hby d1_20) (pc' := 22) rfl (z := (29 : Int32)) rfl ?_
 refine k_imulL X747 hx (hb hby d1_22) (pc' := 23) rfl (z := (29 : Int32)) (by decide) ?_
 refine k_lushr X747 hx (hb hby d1_23) (pc' := 24) rfl (fun v749 hv749 => ?_)
 refine k_ldcL X747 hx hZ hown (hw _ (List.mem_of_getElem? (i := 6) rfl)) (hb hby d1_24) (pc' := 27) rfl ?_
 refine k_land X747 hx (hb hby d1_27) (pc' := 28) rfl (fun v750 hv750 => ?_)
 refine k_lastore X747 hx hZ e747 Vw747 ⟨by decide, by decide⟩ (i := 5) rfl (Nat.le_of_ble_eq_true rfl) (hb hby d1_28) (pc' := 29) rfl (fun T751 h751 X751 e751 W751 V751 => ?_)
 have Vw751 : Arv Z h751 a1 k10 .long (9 : Int32) [(.long v732), (.long v736), (.long v739), (.long v743), (.long v746), (.long v750), (.long (-1 : Int64)), (.long (-1 : Int64)), (.long (-1 : Int64))] (.long (0 : Int64)) := V751
 have N751 := Fr.snoc X751 N747 g_a1
 have Z751 : n0 ≤ h751.size := Nat.le_trans Z747 (Nat.le_of_eq W751.size.symm)
 refine k_iinc X751 hx (hb hby d1_29) rfl (pc' := 32) rfl (z := (6 : Int32)) (by decide) (Ls' := #[.val (.ref a1), .val (.ref a2), .val (.int (2 : Int32)), .val (.int (6 : Int32))]) rfl ?_
 refine k_goto X751 hx (hb hby d1_32) (pc' := 2) (by decide) ?_
 refine k_iloadN X751 hx (hb hby d1_2) rfl (pc' := 3) rfl ?_
 refine k_bipush X751 hx (hb hby d1_3) (pc' := 5) rfl (z := (9 : Int32)) rfl ?_
 refine k_icmp_ge X751 hx (hb hby d1_5) (pn := 8) rfl (py := 35) (by decide) (fun hc => absurd (by decide) hc) (fun _ => ?_)
 refine k_aloadN X751 hx (hb hby d1_8) rfl rfl (pc' := 9) rfl ?_
 refine k_iloadN X751 hx (hb hby d1_9) rfl (pc' := 10) rfl ?_
 refine k_aloadN X751 hx (hb hby d1_10) rfl rfl (pc' := 11) rfl ?_
 refine k_iloadN X751 hx (hb hby d1_11) rfl (pc' := 12) rfl ?_
 refine k_iloadN X751 hx (hb hby d1_12) rfl (pc' := 13) rfl ?_
 refine k_iconst X751 hx (hb hby d1_13) (pc' := 14) rfl (z := (2 : Int32)) rfl ?_
 refine k_idivL X751 hx (hb hby d1_14) (by decide) (pc' := 15) rfl (z := (3 : Int32)) (by decide) ?_
 refine k_iaddL X751 hx (hb hby d1_15) (pc' := 16) rfl (z := (5 : Int32)) (by decide) ?_
 have F752 := (F748.other W751 (Nat.ne_of_lt lt0_0))
 refine k_laload X751 hx hZ e751 F752 ⟨by decide, by decide⟩ (v := (.long p8)) rfl (hb hby d1_16) (pc' := 17) rfl ?_
 refine k_iloadN X751 hx (hb hby d1_17) rfl (pc' := 18) rfl ?_
 refine k_iconst X751 hx (hb hby d1_18) (pc' := 19) rfl (z := (2 : Int32)) rfl ?_
 refine k_iremL X751 hx (hb hby d1_19) (by decide) (pc' := 20) rfl (z := (0 : Int32)) (by decide) ?_
 refine k_bipush X751 hx (hb hby d1_20) (pc' := 22) rfl (z := (29 : Int32)) rfl ?_
 refine k_imulL X751 hx (hb hby d1_22) (pc' := 23) rfl (z := (0 : Int32)) (by decide) ?_
 refine k_lushrL X751 hx (hb hby d1_23) (pc' := 24) rfl (z := p8) (k_ushr0 _) ?_
 refine k_ldcL X751 hx hZ hown (hw _ (List.mem_of_getElem? (i := 6) rfl)) (hb hby d1_24) (pc' := 27) rfl ?_
 refine k_land X751 hx (hb hby d1_27) (pc' := 28) rfl (fun v753 hv753 => ?_)
 refine k_lastore X751 hx hZ e751 Vw751 ⟨by decide, by decide⟩ (i := 6) rfl (Nat.le_of_ble_eq_true rfl) (hb hby d1_28) (pc' := 29) rfl (fun T754 h754 X754 e754 W754 V754 => ?_)
 have Vw754 : Arv Z h754 a1 k10 .long (9 : Int32) [(.long v732), (.long v736), (.long v739), (.long v743), (.long v746), (.long v750), (.long v753), (.long (-1 : Int64)), (.long (-1 : Int64))] (.long (0 : Int64)) := V754
 have N754 := Fr.snoc X754 N751 g_a1
 have Z754 : n0 ≤ h754.size := Nat.le_trans Z751 (Nat.le_of_eq W754.size.symm)
 refine k_iinc X754 hx (hb hby d1_29) rfl (pc' := 32) rfl (z := (7 : Int32)) (by decide) (Ls' := #[.val (.ref a1), .val (.ref a2), .val (.int (2 : Int32)), .val (.int (7 : Int32))]) rfl ?_
 refine k_goto X754 hx (hb hby d1_32) (pc' := 2) (by decide) ?_
 refine k_iloadN X754 hx (hb hby d1_2) rfl (pc' := 3) rfl ?_
 refine k_bipush X754 hx (hb hby d1_3) (pc' := 5) rfl (z := (9 : Int32)) rfl ?_
 refine k_icmp_ge X754 hx (hb hby d1_5) (pn := 8) rfl (py := 35) (by decide) (fun hc => absurd (by decide) hc) (fun _ => ?_)
 refine k_aloadN X754 hx (hb hby d1_8) rfl rfl (pc' := 9) rfl ?_
 refine k_iloadN X754 hx (hb hby d1_9) rfl (pc' := 10) rfl ?_
 refine k_aloadN X754 hx (hb hby d1_10) rfl rfl (pc' := 11) rfl ?_
 refine k_iloadN X754 hx (hb hby d1_11) rfl (pc' := 12) rfl ?_
 refine k_iloadN X754 hx (hb hby d1_12) rfl (pc' := 13) rfl ?_
 refine k_iconst X754 hx (hb hby d1_13) (pc' := 14) rfl (z := (2 : Int32)) rfl ?_
 refine k_idivL X754 hx (hb hby d1_14) (by decide) (pc' := 15) rfl (z := (3 : Int32)) (by decide) ?_
 refine k_iaddL X754 hx (hb hby d1_15) (pc' := 16) rfl (z := (5 : Int32)) (by decide) ?_
 have F755 := (F752.other W754 (Nat.ne_of_lt lt0_0))
 refine k_laload X754 hx hZ e754 F755 ⟨by decide, by decide⟩ (v := (.long p8)) rfl (hb hby d1_16) (pc' := 17) rfl ?_
 refine k_iloadN X754 hx (hb hby d1_17) rfl (pc' := 18) rfl ?_
 refine k_iconst X754 hx (hb hby d1_18) (pc' := 19) rfl (z := (2 : Int32)) rfl ?_
 refine k_iremL X754 hx (hb hby d1_19) (by decide) (pc' := 20) rfl (z := (1 : Int32)) (by decide) ?_
 refine k_bipush X754 hx (hb hby d1_20) (pc' := 22) rfl (z := (29 : Int32)) rfl ?_
 refine k_imulL X754 hx (hb hby d1_22) (pc' := 23) rfl (z := (29 : Int32)) (by decide) ?_
 refine k_lushr X754 hx (hb hby d1_23) (pc' := 24) rfl (fun v756 hv756 => ?_)
 refine k_ldcL X754 hx hZ hown (hw _ (List.mem_of_getElem? (i := 6) rfl)) (hb hby d1_24) (pc' := 27) rfl ?_
 refine k_land X754 hx (hb hby d1_27) (pc' := 28) rfl (fun v757 hv757 => ?_)
 refine k_lastore X754 hx hZ e754 Vw754 ⟨by decide, by decide⟩ (i := 7) rfl (Nat.le_of_ble_eq_true rfl) (hb hby d1_28) (pc' := 29) rfl (fun T758 h758 X758 e758 W758 V758 => ?_)
 have Vw758 : Arv Z h758 a1 k10 .long (9 : Int32) [(.long v732), (.long v736), (.long v739), (.long v743), (.long v746), (.long v750), (.long v753), (.long v757), (.long (-1 : Int64))] (.long (0 : Int64)) := V758
 have N758 := Fr.snoc X758 N754 g_a1
 have Z758 : n0 ≤ h758.size := Nat.le_trans Z754 (Nat.le_of_eq W758.size.symm)
 refine k_iinc X758 hx (hb hby d1_29) rfl (pc' := 32) rfl (z := (8 : Int32)) (by decide) (Ls' := #[.val (.ref a1), .val (.ref a2), .val (.int (2 : Int32)), .val (.int (8 : Int32))]) rfl ?_
 refine k_goto X758 hx (hb hby d1_32) (pc' := 2) (by decide) ?_
 refine k_iloadN X758 hx (hb hby d1_2) rfl (pc' := 3) rfl ?_
 refine k_bipush X758 hx (hb hby d1_3) (pc' := 5) rfl (z := (9 : Int32)) rfl ?_
 refine k_icmp_ge X758 hx (hb hby d1_5) (pn := 8) rfl (py := 35) (by decide) (fun hc => absurd (by decide) hc) (fun _ => ?_)
 refine k_aloadN X758 hx (hb hby d1_8) rfl rfl (pc' := 9) rfl ?_
 refine k_iloadN X758 hx (hb hby d1_9) rfl (pc' := 10) rfl ?_
 refine k_aloadN X758 hx (hb hby d1_10) rfl rfl (pc' := 11) rfl ?_
 refine k_iloadN X758 hx (hb hby d1_11) rfl (pc' := 12) rfl ?_
 refine k_iloadN X758 hx (hb hby d1_12) rfl (pc' := 13) rfl ?_
 refine k_iconst X758 hx (hb hby d1_13) (pc' := 14) rfl (z := (2 : Int32)) rfl ?_
 refine k_idivL X758 hx (hb hby d1_14) (by decide) (pc' := 15) rfl (z := (4 : Int32)) (by decide) ?_
 refine k_iaddL X758 hx (hb hby d1_15) (pc' := 16) rfl (z := (6 : Int32)) (by decide) ?_
 have F759 := (F755.other W758 (Nat.ne_of_lt lt0_0))
 refine k_laload X758 hx hZ e758 F759 ⟨by decide, by decide⟩ (v := (.long p9)) rfl (hb hby d1_16) (pc' := 17) rfl ?_
 refine k_iloadN X758 hx (hb hby d1_17) rfl (pc' := 18) rfl ?_
 refine k_iconst X758 hx (hb hby d1_18) (pc' := 19) rfl (z := (2 : Int32)) rfl ?_
 refine k_iremL X758 hx (hb hby d1_19) (by decide) (pc' := 20) rfl (z := (0 : Int32)) (by decide) ?_
 refine k_bipush X758 hx (hb hby d1_20) (pc' := 22) rfl (z := (29 : Int32)) rfl ?_
 refine k_imulL X758 hx (hb hby d1_22) (pc' := 23) rfl (z := (0 : Int32)) (by decide) ?_
 refine k_lushrL X758 hx (hb hby d1_23) (pc' := 24) rfl (z := p9) (k_ushr0 _) ?_
 refine k_ldcL X758 hx hZ hown (hw _ (List.mem_of_getElem? (i := 6) rfl)) (hb hby d1_24) (pc' := 27) rfl ?_
 refine k_land X758 hx (hb hby d1_27) (pc' := 28) rfl (fun v760 hv760 => ?_)
 refine k_lastore X758 hx hZ e758 Vw758 ⟨by decide, by decide⟩ (i := 8) rfl (Nat.le_of_ble_eq_true rfl) (hb hby d1_28) (pc' := 29) rfl (fun T761 h761 X761 e761 W761 V761 => ?_)
 have Vw761 : Arv Z h761 a1 k10 .long (9 : Int32) [(.long v732), (.long v736), (.long v739), (.long v743), (.long v746), (.long v750), (.long v753), (.long v757), (.long v760)] (.long (0 : Int64)) := V761
 have N761 := Fr.snoc X761 N758 g_a1
 have Z761 : n0 ≤ h761.size := Nat.le_trans Z758 (Nat.le_of_eq W761.size.symm)
 refine k_iinc X761 hx (hb hby d1_29) rfl (pc' := 32) rfl (z := (9 : Int32)) (by decide) (Ls' := #[.val (.ref a1), .val (.ref a2), .val (.int (2 : Int32)), .val (.int (9 : Int32))]) rfl ?_
 refine k_goto X761 hx (hb hby d1_32) (pc' := 2) (by decide) ?_
 refine k_iloadN X761 hx (hb hby d1_2) rfl (pc' := 3) rfl ?_
 refine k_bipush X761 hx (hb hby d1_3) (pc' := 5) rfl (z := (9 : Int32)) rfl ?_
 refine k_icmp_ge X761 hx (hb hby d1_5) (pn := 8) rfl (py := 35) (by decide) (fun _ => ?_) (fun hc => absurd hc (by decide))
 have F762 := (F759.other W761 (Nat.ne_of_lt lt0_0))
 exact k_ret X761 hx Bd.returns (hb hby d1_35) hlk (by decide) (by decide) (by rw [e761]; exact ⟨N761, ⟨v732, v735, v736, v739, v742, v743, v746, v749, v750, v753, v756, v757, v760, hv732, hv735, hv736, hv739, hv742, hv743, hv746, hv749, hv750, hv753, hv756, hv757, hv760, rfl, F762, Vw761, Z761⟩⟩)
abbrev R1_1076 : Room := { frames := 0, cells := 0, slots := 0, locals := 0 }
def Q1_1076 (Z : State) (a1 : Addr) (a2 : Addr) (k3 : ClassId) (p4 : Int64) (p5 : Int64) (p6 : Int64) (p7 : Int64) (p8 : Int64) (p9 : Int64) (k10 : ClassId) (h0 : Heap) (n0 : Nat) (v : Option Value) (h : Heap) (L : List Loc) : Prop := Fr n0 L ∧ ((∃ (v1077 : Int64) (v1080 : Int64) (v1081 : Int64) (v1084 : Int64) (v1087 : Int64) (v1088 : Int64) (v1091 : Int64) (v1094 : Int64) (v1095 : Int64) (v1098 : Int64) (v1101 : Int64) (v1102 : Int64) (v1105 : Int64), v1077 = p5 &&& (536870911 : Int64) ∧ v1080 = ((p5.toUInt64 >>> ((29 : Int32) &&& 0x3f).toInt64.toUInt64).toInt64) ∧ v1081 = v1080 &&& (536870911 : Int64) ∧ v1084 = p6 &&& (536870911 : Int64) ∧ v1087 = ((p6.toUInt64 >>> ((29 : Int32) &&& 0x3f).toInt64.toUInt64).toInt64) ∧ v1088 = v1087 &&& (536870911 : Int64) ∧ v1091 = p7 &&& (536870911 : Int64) ∧ v1094 = ((p7.toUInt64 >>> ((29 : Int32) &&& 0x3f).toInt64.toUInt64).toInt64) ∧ v1095 = v1094 &&& (536870911 : Int64) ∧ v1098 = p8 &&& (536870911 : Int64) ∧ v1101 = ((p8.toUInt64 >>> ((29 : Int32) &&& 0x3f).toInt64.toUInt64).toInt64) ∧ v1102 = v1101 &&& (536870911 : Int64) ∧ v1105 = p9 &&& (536870911 : Int64) ∧ v = none ∧ Arv Z h a2 k3 .long (8 : Int32) [(.long p4), (.long p4), (.long p4), (.long p5), (.long p6), (.long p7), (.long p8), (.long p9)] (.long (0 : Int64)) ∧ Arv Z h a1 k10 .long (9 : Int32) [(.long v1077), (.long v1081), (.long v1084), (.long v1088), (.long v1091), (.long v1095), (.long v1098), (.long v1102), (.long v1105)] (.long (0 : Int64)) ∧ n0 ≤ h.size))
theorem ef1_1076 (m : MethodId) (x0 : Addr) (x1 : Addr) : entryFrame m #[(.ref x0), (.ref x1), (.int (3 : Int32))] 4 = mkF m 0 #[.val (.ref x0), .val (.ref x1), .val (.int (3 : Int32)), .unset] [] := by first | (simp [entryFrame, mkF, argsToLocals, Value.category]; done) | rfl
set_option maxRecDepth 65536 in
set_option maxHeartbeats 40000000 in
theorem rm1_1076 (l : Launch) (Z : State) (a0 : Array Value) (hw : ∀ d ∈ tables_1, d.before a0 Z = true) (ws : List Jvm.Cond) (a1 : Addr) (a2 : Addr) (k3 : ClassId) (p4 : Int64) (p5 : Int64) (p6 : Int64) (p7 : Int64) (p8 : Int64) (p9 : Int64) (k10 : ClassId) (h0 : Heap) (n0 : Nat) (Z0 : n0 ≤ h0.size) (F0_0 : Arv Z h0 a2 k3 .long (8 : Int32) [(.long p4), (.long p4), (.long p4), (.long p5), (.long p6), (.long p7), (.long p8), (.long p9)] (.long (0 : Int64))) (g_a2 : n0 ≤ a2) (F0_2 : Arv Z h0 a1 k10 .long (9 : Int32) [(.long (-1 : Int64)), (.long (-1 : Int64)), (.long (-1 : Int64)), (.long (-1 : Int64)), (.long (-1 : Int64)), (.long (-1 : Int64)), (.long (-1 : Int64)), (.long (-1 : Int64)), (.long (-1 : Int64))] (.long (0 : Int64))) (g_a1 : n0 ≤ a1) (lt0_0 : a2 < a1) :
    MetFree l (⟨"com/example/portcullis/portcullis/protocol/Field", "unpack", "([J[JI)V"⟩ : MethodName) (head1 (Jvm.Cond.code (⟨"com/example/portcullis/portcullis/protocol/Field", "unpack", "([J[JI)V"⟩ : MethodName) prog_3_method_11_code 4 none :: ws) R1_1076) (fun a U => a = #[(.ref a1), (.ref a2), (.int (3 : Int32))] ∧ Z.Warmed39 U.vm ∧ U.heap = h0) (fun _ _ _ _ _ => True) (fun _ U o U' => ∃ v L, o = .returned v ∧ Q1_1076 Z a1 a2 k3 p4 p5 p6 p7 p8 p9 k10 h0 n0 v U'.heap L ∧ FrameEnd U o U' L R1_1076.cells R1_1076.slots) := by
 refine MetFree.of_bodySF (plainFor_of_name pn_0) hisR ?_
 intro p e s m args below meth c s₁ Bd hml0 hP hK
 obtain ⟨rfl, hZ, hh⟩ := hP
 have hx := Bd.exec
 have hby := Bd.bytes
 have hml : c.maxLocals = 4 := hml0
 have hlk : meth.locks = false := Bd.notSynchronized
 have hown : s.vm.findClass "com/example/portcullis/portcullis/protocol/Field" = some m.cls := findClass_of_methodNamed Bd.named
 have hnm := (name_of_methodNamed Bd.named Bd.method).1
 have X0 : Stand p l e R1_1076 s m #[(.ref a1), (.ref a2), (.int (3 : Int32))] below meth c s₁ [] 0 0 := Stand.of_body Bd
 have e0 : s₁.heap = h0 := by rw [← hh, Bd.state]; rfl
 have N0 := Fr.nil n0
 rw [ef1_1076 m a1 a2]
 show KEnds p e below s R1_1076.cells R1_1076.slots (Q1_1076 Z a1 a2 k3 p4 p5 p6 p7 p8 p9 k10 h0 n0) s₁ (mkF m 0 #[.val (.ref a1), .val (.ref a2), .val (.int (3 : Int32)), .unset] [])
 refine k_iconst X0 hx (hb hby d1_0) (pc' := 1) rfl (z := (0 : Int32)) rfl ?_
 refine k_istoreN X0 hx (hb hby d1_1) (Ls' := #[.val (.ref a1), .val (.ref a2), .val (.int (3 : Int32)), .val (.int (0 : Int32))]) rfl (pc' := 2) rfl ?_
 refine k_iloadN X0 hx (hb hby d1_2) rfl (pc' := 3) rfl ?_
 refine k_bipush X0 hx (hb hby d1_3) (pc' := 5) rfl (z := (9 : Int32)) rfl ?_
 refine k_icmp_ge X0 hx (hb hby d1_5) (pn := 8) rfl (py := 35) (by decide) (fun hc => absurd (by decide) hc) (fun _ => ?_)
 refine k_aloadN X0 hx (hb hby d1_8) rfl rfl (pc' := 9) rfl ?_
 refine k_iloadN X0 hx (hb hby d1_9) rfl (pc' := 10) rfl ?_
 refine k_aloadN X0 hx (hb hby d1_10) rfl rfl (pc' := 11) rfl ?_
 refine k_iloadN X0 hx (hb hby d1_11) rfl (pc' := 12) rfl ?_
 refine k_iloadN X0 hx (hb hby d1_12) rfl (pc' := 13) rfl ?_
 refine k_iconst X0 hx (hb hby d1_13) (pc' := 14) rfl (z := (2 : Int32)) rfl ?_
 refine k_idivL X0 hx (hb hby d1_14) (by decide) (pc' := 15) rfl (z := (0 : Int32)) (by decide) ?_
 refine k_iaddL X0 hx (hb hby d1_15) (pc' := 16) rfl (z := (3 : Int32)) (by decide) ?_
 refine k_laload X0 hx hZ e0 F0_0 ⟨by decide, by decide⟩ (v := (.long p5)) rfl (hb hby d1_16) (pc' := 17) rfl ?_
 refine k_iloadN X0 hx (hb hby d1_17) rfl (pc' := 18) rfl ?_
 refine k_iconst X0 hx (hb hby d1_18) (pc' := 19) rfl (z := (2 : Int32)) rfl ?_
 refine k_iremL X0 hx (hb hby d1_19) (by decide) (pc' := 20) rfl (z := (0 : Int32)) (by decide) ?_
 refine k_bipush X0 hx (hb hby d1_20) (pc' := 22) rfl (z := (29 : Int32)) rfl ?_
 refine k_imulL X0 hx (hb hby d1_22) (pc' := 23) rfl (z := (0 : Int32)) (by decide) ?_
 refine k_lushrL X0 hx (hb hby d1_23) (pc' := 24) rfl (z := p5) (k_ushr0 _) ?_
 refine k_ldcL X0 hx hZ hown (hw _ (List.mem_of_getElem? (i := 6) rfl)) (hb hby d1_24) (pc' := 27) rfl ?_
 refine k_land X0 hx (hb hby d1_27) (pc' := 28) rfl (fun v1077 hv1077 => ?_)
 refine k_lastore X0 hx hZ e0 F0_2 ⟨by decide, by decide⟩ (i := 0) rfl (Nat.le_of_ble_eq_true rfl) (hb hby d1_28) (pc' := 29) rfl (fun T1078 h1078 X1078 e1078 W1078 V1078 => ?_)
 have Vw1078 : Arv Z h1078 a1 k10 .long (9 : Int32) [(.long v1077), (.long (-1 : Int64)), (.long (-1 : Int64)), (.long (-1 : Int64)), (.long (-1 : Int64)), (.long (-1 : Int64)), (.long (-1 : Int64)), (.long (-1 : Int64)), (.long (-1 : Int64))] (.long (0 : Int64)) := V1078
 have N1078 := Fr.snoc X1078 N0 g_a1
 have Z1078 : n0 ≤ h1078.size := Nat.le_trans Z0 (Nat.le_of_eq W1078.size.symm)
 refine k_iinc X1078 hx (hb hby d1_29) rfl (pc' := 32) rfl (z := (1 : Int32)) (by decide) (Ls' := #[.val (.ref a1), .val (.ref a2), .val (.int (3 : Int32)), .val (.int (1 : Int32))]) rfl ?_
 refine k_goto X1078 hx (hb hby d1_32) (pc' := 2) (by decide) ?_
 refine k_iloadN X1078 hx (hb hby d1_2) rfl (pc' := 3) rfl ?_
 refine k_bipush X1078 hx (hb hby d1_3) (pc' := 5) rfl (z := (9 : Int32)) rfl ?_
 refine k_icmp_ge X1078 hx (hb hby d1_5) (pn := 8) rfl (py := 35) (by decide) (fun hc => absurd (by decide) hc) (fun _ => ?_)
 refine k_aloadN X1078 hx (hb hby d1_8) rfl rfl (pc' := 9) rfl ?_
 refine k_iloadN X1078 hx (hb hby d1_9) rfl (pc' := 10) rfl ?_
 refine k_aloadN X1078 hx (hb hby d1_10) rfl rfl (pc' := 11) rfl ?_
 refine k_iloadN X1078 hx (hb hby d1_11) rfl (pc' := 12) rfl ?_
 refine k_iloadN X1078 hx (hb hby d1_12) rfl (pc' := 13) rfl ?_
 refine k_iconst X1078 hx (hb hby d1_13) (pc' := 14) rfl (z := (2 : Int32)) rfl ?_
 refine k_idivL X1078 hx (hb hby d1_14) (by decide) (pc' := 15) rfl (z := (0 : Int32)) (by decide) ?_
 refine k_iaddL X1078 hx (hb hby d1_15) (pc' := 16) rfl (z := (3 : Int32)) (by decide) ?_
 have F1079 := (F0_0.other W1078 (Nat.ne_of_lt lt0_0))
 refine k_laload X1078 hx hZ e1078 F1079 ⟨by decide, by decide⟩ (v := (.long p5)) rfl (hb hby d1_16) (pc' := 17) rfl ?_
 refine k_iloadN X1078 hx (hb hby d1_17) rfl (pc' := 18) rfl ?_
 refine k_iconst X1078 hx (hb hby d1_18) (pc' := 19) rfl (z := (2 : Int32)) rfl ?_
 refine k_iremL X1078 hx (hb hby d1_19) (by decide) (pc' := 20) rfl (z := (1 : Int32)) (by decide) ?_
 refine k_bipush X1078 hx (hb hby d1_20) (pc' := 22) rfl (z := (29 : Int32)) rfl ?_
 refine k_imulL X1078 hx (hb hby d1_22) (pc' := 23) rfl (z := (29 : Int32)) (by decide) ?_
 refine k_lushr X1078 hx (hb hby d1_23) (pc' := 24) rfl (fun v1080 hv1080 => ?_)
 refine k_ldcL X1078 hx hZ hown (hw _ (List.mem_of_getElem? (i := 6) rfl)) (hb hby d1_24) (pc' := 27) rfl ?_
 refine k_land X1078 hx (hb hby d1_27) (pc' := 28) rfl (fun v1081 hv1081 => ?_)
 refine k_lastore X1078 hx hZ e1078 Vw1078 ⟨by decide, by decide⟩ (i := 1) rfl (Nat.le_of_ble_eq_true rfl) (hb hby d1_28) (pc' := 29) rfl (fun T1082 h1082 X1082 e1082 W1082 V1082 => ?_)
 have Vw1082 : Arv Z h1082 a1 k10 .long (9 : Int32) [(.long v1077), (.long v1081), (.long (-1 : Int64)), (.long (-1 : Int64)), (.long (-1 : Int64)), (.long (-1 : Int64)), (.long (-1 : Int64)), (.long (-1 : Int64)), (.long (-1 : Int64))] (.long (0 : Int64)) := V1082
 have N1082 := Fr.snoc X1082 N1078 g_a1
 have Z1082 : n0 ≤ h1082.size := Nat.le_trans Z1078 (Nat.le_of_eq W1082.size.symm)
 refine k_iinc X1082 hx (hb hby d1_29) rfl (pc' := 32) rfl (z := (2 : Int32)) (by decide) (Ls' := #[.val (.ref a1), .val (.ref a2), .val (.int (3 : Int32)), .val (.int (2 : Int32))]) rfl ?_
 refine k_goto X1082 hx (hb hby d1_32) (pc' := 2) (by decide) ?_
 refine k_iloadN X1082 hx (hb hby d1_2) rfl (pc' := 3) rfl ?_
 refine k_bipush X1082 hx (hb hby d1_3) (pc' := 5) rfl (z := (9 : Int32)) rfl ?_
 refine k_icmp_ge X1082 hx (hb hby d1_5) (pn := 8) rfl (py := 35) (by decide) (fun hc => absurd (by decide) hc) (fun _ => ?_)
 refine k_aloadN X1082 hx (hb hby d1_8) rfl rfl (pc' := 9) rfl ?_
 refine k_iloadN X1082 hx (hb hby d1_9) rfl (pc' := 10) rfl ?_
 refine k_aloadN X1082 hx (hb hby d1_10) rfl rfl (pc' := 11) rfl ?_
 refine k_iloadN X1082 hx (hb hby d1_11) rfl (pc' := 12) rfl ?_
 refine k_iloadN X1082 hx (hb hby d1_12) rfl (pc' := 13) rfl ?_
 refine k_iconst X1082 hx (hb hby d1_13) (pc' := 14) rfl (z := (2 : Int32)) rfl ?_
 refine k_idivL X1082 hx (hb hby d1_14) (by decide) (pc' := 15) rfl (z := (1 : Int32)) (by decide) ?_
 refine k_iaddL X1082 hx (hb hby d1_15) (pc' := 16) rfl (z := (4 : Int32)) (by decide) ?_
 have F1083 := (F1079.other W1082 (Nat.ne_of_lt lt0_0))
 refine k_laload X1082 hx hZ e1082 F1083 ⟨by decide, by decide⟩ (v := (.long p6)) rfl (hb hby d1_16) (pc' := 17) rfl ?_
 refine k_iloadN X1082 hx (hb hby d1_17) rfl (pc' := 18) rfl ?_
 refine k_iconst X1082 hx (hb hby d1_18) (pc' := 19) rfl (z := (2 : Int32)) rfl ?_
 refine k_iremL X1082 hx (hb hby d1_19) (by decide) (pc' := 20) rfl (z := (0 : Int32)) (by decide) ?_
 refine k_bipush X1082 hx (hb hby d1_20) (pc' := 22) rfl (z := (29 : Int32)) rfl ?_
 refine k_imulL X1082 hx (hb hby d1_22) (pc' := 23) rfl (z := (0 : Int32)) (by decide) ?_
 refine k_lushrL X1082 hx (hb hby d1_23) (pc' := 24) rfl (z := p6) (k_ushr0 _) ?_
 refine k_ldcL X1082 hx hZ hown (hw _ (List.mem_of_getElem? (i := 6) rfl)) (hb hby d1_24) (pc' := 27) rfl ?_
 refine k_land X1082 hx (hb hby d1_27) (pc' := 28) rfl (fun v1084 hv1084 => ?_)
 refine k_lastore X1082 hx hZ e1082 Vw1082 ⟨by decide, by decide⟩ (i := 2) rfl (Nat.le_of_ble_eq_true rfl) (hb hby d1_28) (pc' := 29) rfl (fun T1085 h1085 X1085 e1085 W1085 V1085 => ?_)
 have Vw1085 : Arv Z h1085 a1 k10 .long (9 : Int32) [(.long v1077), (.long v1081), (.long v1084), (.long (-1 : Int64)), (.long (-1 : Int64)), (.long (-1 : Int64)), (.long (-1 : Int64)), (.long (-1 : Int64)), (.long (-1 : Int64))] (.long (0 : Int64)) := V1085
 have N1085 := Fr.snoc X1085 N1082 g_a1
 have Z1085 : n0 ≤ h1085.size := Nat.le_trans Z1082 (Nat.le_of_eq W1085.size.symm)
 refine k_iinc X1085 hx (hb hby d1_29) rfl (pc' := 32) rfl (z := (3 : Int32)) (by decide) (Ls' := #[.val (.ref a1), .val (.ref a2), .val (.int (3 : Int32)), .val (.int (3 : Int32))]) rfl ?_
 refine k_goto X1085 hx (hb hby d1_32) (pc' := 2) (by decide) ?_
 refine k_iloadN X1085 hx (hb hby d1_2) rfl (pc' := 3) rfl ?_
 refine k_bipush X1085 hx (hb hby d1_3) (pc' := 5) rfl (z := (9 : Int32)) rfl ?_
 refine k_icmp_ge X1085 hx (hb hby d1_5) (pn := 8) rfl (py := 35) (by decide) (fun hc => absurd (by decide) hc) (fun _ => ?_)
 refine k_aloadN X1085 hx (hb hby d1_8) rfl rfl (pc' := 9) rfl ?_
 refine k_iloadN X1085 hx (hb hby d1_9) rfl (pc' := 10) rfl ?_
 refine k_aloadN X1085 hx (hb hby d1_10) rfl rfl (pc' := 11) rfl ?_
 refine k_iloadN X1085 hx (hb hby d1_11) rfl (pc' := 12) rfl ?_
 refine k_iloadN X1085 hx (hb hby d1_12) rfl (pc' := 13) rfl ?_
 refine k_iconst X1085 hx (hb hby d1_13) (pc' := 14) rfl (z := (2 : Int32)) rfl ?_
 refine k_idivL X1085 hx (hb hby d1_14) (by decide) (pc' := 15) rfl (z := (1 : Int32)) (by decide) ?_
 refine k_iaddL X1085 hx (hb hby d1_15) (pc' := 16) rfl (z := (4 : Int32)) (by decide) ?_
 have F1086 := (F1083.other W1085 (Nat.ne_of_lt lt0_0))
 refine k_laload X1085 hx hZ e1085 F1086 ⟨by decide, by decide⟩ (v := (.long p6)) rfl (hb hby d1_16) (pc' := 17) rfl ?_
 refine k_iloadN X1085 hx (hb hby d1_17) rfl (pc' := 18) rfl ?_
 refine k_iconst X1085 hx (hb hby d1_18) (pc' := 19) rfl (z := (2 : Int32)) rfl ?_
 refine k_iremL X1085 hx (hb hby d1_19) (by decide) (pc' := 20) rfl (z := (1 : Int32)) (by decide) ?_
 refine k_bipush X1085 hx (hb hby d1_20) (pc' := 22) rfl (z := (29 : Int32)) rfl ?_
 refine k_imulL X1085 hx (hb hby d1_22) (pc' := 23) rfl (z := (29 : Int32)) (by decide) ?_
 refine k_lushr X1085 hx (hb hby d1_23) (pc' := 24) rfl (fun v1087 hv1087 => ?_)
 refine k_ldcL X1085 hx hZ hown (hw _ (List.mem_of_getElem? (i := 6) rfl)) (hb hby d1_24) (pc' := 27) rfl ?_
 refine k_land X1085 hx (hb hby d1_27) (pc' := 28) rfl (fun v1088 hv1088 => ?_)
 refine k_lastore X1085 hx hZ e1085 Vw1085 ⟨by decide, by decide⟩ (i := 3) rfl (Nat.le_of_ble_eq_true rfl) (hb hby d1_28) (pc' := 29) rfl (fun T1089 h1089 X1089 e1089 W1089 V1089 => ?_)
 have Vw1089 : Arv Z h1089 a1 k10 .long (9 : Int32) [(.long v1077), (.long v1081), (.long v1084), (.long v1088), (.long (-1 : Int64)), (.long (-1 : Int64)), (.long (-1 : Int64)), (.long (-1 : Int64)), (.long (-1 : Int64))] (.long (0 : Int64)) := V1089
 have N1089 := Fr.snoc X1089 N1085 g_a1
 have Z1089 : n0 ≤ h1089.size := Nat.le_trans Z1085 (Nat.le_of_eq W1089.size.symm)
 refine k_iinc X1089 hx (hb hby d1_29) rfl (pc' := 32) rfl (z := (4 : Int32)) (by decide) (Ls' := #[.val (.ref a1), .val (.ref a2), .val (.int (3 : Int32)), .val (.int (4 : Int32))]) rfl ?_
 refine k_goto X1089 hx (hb hby d1_32) (pc' := 2) (by decide) ?_
 refine k_iloadN X1089 hx (hb hby d1_2) rfl (pc' := 3) rfl ?_
 refine k_bipush X1089 hx (hb hby d1_3) (pc' := 5) rfl (z := (9 : Int32)) rfl ?_
 refine k_icmp_ge X1089 hx (hb hby d1_5) (pn := 8) rfl (py := 35) (by decide) (fun hc => absurd (by decide) hc) (fun _ => ?_)
 refine k_aloadN X1089 hx (hb hby d1_8) rfl rfl (pc' := 9) rfl ?_
 refine k_iloadN X1089 hx (hb hby d1_9) rfl (pc' := 10) rfl ?_
 refine k_aloadN X1089 hx (hb hby d1_10) rfl rfl (pc' := 11) rfl ?_
 refine k_iloadN X1089 hx (hb hby d1_11) rfl (pc' := 12) rfl ?_
 refine k_iloadN X1089 hx (hb hby d1_12) rfl (pc' := 13) rfl ?_
 refine k_iconst X1089 hx (hb hby d1_13) (pc' := 14) rfl (z := (2 : Int32)) rfl ?_
 refine k_idivL X1089 hx (hb hby d1_14) (by decide) (pc' := 15) rfl (z := (2 : Int32)) (by decide) ?_
 refine k_iaddL X1089 hx (hb hby d1_15) (pc' := 16) rfl (z := (5 : Int32)) (by decide) ?_
 have F1090 := (F1086.other W1089 (Nat.ne_of_lt lt0_0))
 refine k_laload X1089 hx hZ e1089 F1090 ⟨by decide, by decide⟩ (v := (.long p7)) rfl (hb hby d1_16) (pc' := 17) rfl ?_
 refine k_iloadN X1089 hx (hb hby d1_17) rfl (pc' := 18) rfl ?_
 refine k_iconst X1089 hx (hb hby d1_18) (pc' := 19) rfl (z := (2 : Int32)) rfl ?_
 refine k_iremL X1089 hx (hb hby d1_19) (by decide) (pc' := 20) rfl (z := (0 : Int32)) (by decide) ?_
 refine k_bipush X1089 hx (hb hby d1_20) (pc' := 22) rfl (z := (29 : Int32)) rfl ?_
 refine k_imulL X1089 hx (hb hby d1_22) (pc' := 23) rfl (z := (0 : Int32)) (by decide) ?_
 refine k_lushrL X1089 hx (hb hby d1_23) (pc' := 24) rfl (z := p7) (k_ushr0 _) ?_
 refine k_ldcL X1089 hx hZ hown (hw _ (List.mem_of_getElem? (i := 6) rfl)) (hb hby d1_24) (pc' := 27) rfl ?_
 refine k_land X1089 hx (hb hby d1_27) (pc' := 28) rfl (fun v1091 hv1091 => ?_)
 refine k_lastore X1089 hx hZ e1089 Vw1089 ⟨by decide, by decide⟩ (i := 4) rfl (Nat.le_of_ble_eq_true rfl) (hb hby d1_28) (pc' := 29) rfl (fun T1092 h1092 X1092 e1092 W1092 V1092 => ?_)
 have Vw1092 : Arv Z h1092 a1 k10 .long (9 : Int32) [(.long v1077), (.long v1081), (.long v1084), (.long v1088), (.long v1091), (.long (-1 : Int64)), (.long (-1 : Int64)), (.long (-1 : Int64)), (.long (-1 : Int64))] (.long (0 : Int64)) := V1092
 have N1092 := Fr.snoc X1092 N1089 g_a1
 have Z1092 : n0 ≤ h1092.size := Nat.le_trans Z1089 (Nat.le_of_eq W1092.size.symm)
 refine k_iinc X1092 hx (hb hby d1_29) rfl (pc' := 32) rfl (z := (5 : Int32)) (by decide) (Ls' := #[.val (.ref a1), .val (.ref a2), .val (.int (3 : Int32)), .val (.int (5 : Int32))]) rfl ?_
 refine k_goto X1092 hx (hb hby d1_32) (pc' := 2) (by decide) ?_
 refine k_iloadN X1092 hx (hb hby d1_2) rfl (pc' := 3) rfl ?_
 refine k_bipush X1092 hx (hb hby d1_3) (pc' := 5) rfl (z := (9 : Int32)) rfl ?_
 refine k_icmp_ge X1092 hx (hb hby d1_5) (pn := 8) rfl (py := 35) (by decide) (fun hc => absurd (by decide) hc) (fun _ => ?_)
 refine k_aloadN X1092 hx (hb hby d1_8) rfl rfl (pc' := 9) rfl ?_
 refine k_iloadN X1092 hx (hb hby d1_9) rfl (pc' := 10) rfl ?_
 refine k_aloadN X1092 hx (hb hby d1_10) rfl rfl (pc' := 11) rfl ?_
 refine k_iloadN X1092 hx (hb hby d1_11) rfl (pc' := 12) rfl ?_
 refine k_iloadN X1092 hx (hb hby d1_12) rfl (pc' := 13) rfl ?_
 refine k_iconst X1092 hx (hb hby d1_13) (pc' := 14) rfl (z := (2 : Int32)) rfl ?_
 refine k_idivL X1092 hx (hb hby d1_14) (by decide) (pc' := 15) rfl (z := (2 : Int32)) (by decide) ?_
 refine k_iaddL X1092 hx (hb hby d1_15) (pc' := 16) rfl (z := (5 : Int32)) (by decide) ?_
 have F1093 := (F1090.other W1092 (Nat.ne_of_lt lt0_0))
 refine k_laload X1092 hx hZ e1092 F1093 ⟨by decide, by decide⟩ (v := (.long p7)) rfl (hb hby d1_16) (pc' := 17) rfl ?_
 refine k_iloadN X1092 hx (hb hby d1_17) rfl (pc' := 18) rfl ?_
 refine k_iconst X1092 hx (hb hby d1_18) (pc' := 19) rfl (z := (2 : Int32)) rfl ?_
 refine k_iremL X1092 hx (hb hby d1_19) (by decide) (pc' := 20) rfl (z := (1 : Int32)) (by decide) ?_
 refine k_bipush X1092 hx (hb hby d1_20) (pc' := 22) rfl (z := (29 : Int32)) rfl ?_
 refine k_imulL X1092 hx (hb hby d1_22) (pc' := 23) rfl (z := (29 : Int32)) (by decide) ?_
 refine k_lushr X1092 hx (hb hby d1_23) (pc' := 24) rfl (fun v1094 hv1094 => ?_)
 refine k_ldcL X1092 hx hZ hown (hw _ (List.mem_of_getElem? (i := 6) rfl)) (hb hby d1_24) (pc' := 27) rfl ?_
 refine k_land X1092 hx (hb hby d1_27) (pc' := 28) rfl (fun v1095 hv1095 => ?_)
 refine k_lastore X1092 hx hZ e1092 Vw1092 ⟨by decide, by decide⟩ (i := 5) rfl (Nat.le_of_ble_eq_true rfl) (hb hby d1_28) (pc' := 29) rfl (fun T1096 h1096 X1096 e1096 W1096 V1096 => ?_)
 have Vw1096 : Arv Z h1096 a1 k10 .long (9 : Int32) [(.long v1077), (.long v1081), (.long v1084), (.long v1088), (.long v1091), (.long v1095), (.long (-1 : Int64)), (.long (-1 : Int64)), (.long (-1 : Int64))] (.long (0 : Int64)) := V1096
 have N1096 := Fr.snoc X1096 N1092 g_a1
 have Z1096 : n0 ≤ h1096.size := Nat.le_trans Z1092 (Nat.le_of_eq W1096.size.symm)
 refine k_iinc X1096 hx (hb hby d1_29) rfl (pc' := 32) rfl (z := (6 : Int32)) (by decide) (Ls' := #[.val (.ref a1), .val (.ref a2), .val (.int (3 : Int32)), .val (.int (6 : Int32))]) rfl ?_
 refine k_goto X1096 hx (hb hby d1_32) (pc' := 2) (by decide) ?_
 refine k_iloadN X1096 hx (hb hby d1_2) rfl (pc' := 3) rfl ?_
 refine k_bipush X1096 hx (hb hby d1_3) (pc' := 5) rfl (z := (9 : Int32)) rfl ?_
 refine k_icmp_ge X1096 hx (hb hby d1_5) (pn := 8) rfl (py := 35) (by decide) (fun hc => absurd (by decide) hc) (fun _ => ?_)
 refine k_aloadN X1096 hx (hb hby d1_8) rfl rfl (pc' := 9) rfl ?_
 refine k_iloadN X1096 hx (hb hby d1_9) rfl (pc' := 10) rfl ?_
 refine k_aloadN X1096 hx (hb hby d1_10) rfl rfl (pc' := 11) rfl ?_
 refine k_iloadN X1096 hx (hb hby d1_11) rfl (pc' := 12) rfl ?_
 refine k_iloadN X1096 hx (hb hby d1_12) rfl (pc' := 13) rfl ?_
 refine k_iconst X1096 hx (hb hby d1_13) (pc' := 14) rfl (z := (2 : Int32)) rfl ?_
 refine k_idivL X1096 hx (hb hby d1_14) (by decide) (pc' := 15) rfl (z := (3 : Int32)) (by decide) ?_
 refine k_iaddL X1096 hx (hb hby d1_15) (pc' := 16) rfl (z := (6 : Int32)) (by decide) ?_
 have F1097 := (F1093.other W1096 (Nat.ne_of_lt lt0_0))
 refine k_laload X1096 hx hZ e1096 F1097 ⟨by decide, by decide⟩ (v := (.long p8)) rfl (hb hby d1_16) (pc' := 17) rfl ?_
 refine k_iloadN X1096 hx (hb hby d1_17) rfl (pc' := 18) rfl ?_
 refine k_iconst X1096 hx (hb hby d1_18) (pc' := 19) rfl (z := (2 : Int32)) rfl ?_
 refine k_iremL X1096 hx (hb hby d1_19) (by decide) (pc' := 20) rfl (z := (0 : Int32)) (by decide) ?_
 refine k_bipush X1096 hx (hb hby d1_20) (pc' := 22) rfl (z := (29 : Int32)) rfl ?_
 refine k_imulL X1096 hx (hb hby d1_22) (pc' := 23) rfl (z := (0 : Int32)) (by decide) ?_
 refine k_lushrL X1096 hx (hb hby d1_23) (pc' := 24) rfl (z := p8) (k_ushr0 _) ?_
 refine k_ldcL X1096 hx hZ hown (hw _ (List.mem_of_getElem? (i := 6) rfl)) (hb hby d1_24) (pc' := 27) rfl ?_
 refine k_land X1096 hx (hb hby d1_27) (pc' := 28) rfl (fun v1098 hv1098 => ?_)
 refine k_lastore X1096 hx hZ e1096 Vw1096 ⟨by decide, by decide⟩ (i := 6) rfl (Nat.le_of_ble_eq_true rfl) (hb hby d1_28) (pc' := 29) rfl (fun T1099 h1099 X1099 e1099 W1099 V1099 => ?_)
 have Vw1099 : Arv Z h1099 a1 k10 .long (9 : Int32) [(.long v1077), (.long v1081), (.long v1084), (.long v1088), (.long v1091), (.long v1095), (.long v1098), (.long (-1 : Int64)), (.long (-1 : Int64))] (.long (0 : Int64)) := V1099
 have N1099 := Fr.snoc X1099 N1096 g_a1
 have Z1099 : n0 ≤ h1099.size := Nat.le_trans Z1096 (Nat.le_of_eq W1099.size.symm)
 refine k_iinc X1099 hx (hb hby d1_29) rfl (pc' := 32) rfl (z := (7 : Int32)) (by decide) (Ls' := #[.val (.ref a1), .val (.ref a2), .val (.int (3 : Int32)), .val (.int (7 : Int32))]) rfl ?_
 refine k_goto X1099 hx (hb hby d1_32) (pc' := 2) (by decide) ?_
 refine k_iloadN X1099 hx (hb hby d1_2) rfl (pc' := 3) rfl ?_
 refine k_bipush X1099 hx (hb hby d1_3) (pc' := 5) rfl (z := (9 : Int32)) rfl ?_
 refine k_icmp_ge X1099 hx (hb hby d1_5) (pn := 8) rfl (py := 35) (by decide) (fun hc => absurd (by decide) hc) (fun _ => ?_)
 refine k_aloadN X1099 hx (hb hby d1_8) rfl rfl (pc' := 9) rfl ?_
 refine k_iloadN X1099 hx (hb hby d1_9) rfl (pc' := 10) rfl ?_
 refine k_aloadN X1099 hx (hb hby d1_10) rfl rfl (pc' := 11) rfl ?_
 refine k_iloadN X1099 hx (hb hby d1_11) rfl (pc' := 12) rfl ?_
 refine k_iloadN X1099 hx (hb hby d1_12) rfl (pc' := 13) rfl ?_
 refine k_iconst X1099 hx (hb hby d1_13) (pc' := 14) rfl (z := (2 : Int32)) rfl ?_
 refine k_idivL X1099 hx (hb hby d1_14) (by decide) (pc' := 15) rfl (z := (3 : Int32)) (by decide) ?_
 refine k_iaddL X1099 hx (hb hby d1_15) (pc' := 16) rfl (z := (6 : Int32)) (by decide) ?_
 have F1100 := (F1097.other W1099 (Nat.ne_of_lt lt0_0))
 refine k_laload X1099 hx hZ e1099 F1100 ⟨by decide, by decide⟩ (v := (.long p8)) rfl (hb hby d1_16) (pc' := 17) rfl ?_
 refine k_iloadN X1099 hx (hb hby d1_17) rfl (pc' := 18) rfl ?_
 refine k_iconst X1099 hx (hb hby d1_18) (pc' := 19) rfl (z := (2 : Int32)) rfl ?_
 refine k_iremL X1099 hx (hb hby d1_19) (by decide) (pc' := 20) rfl (z := (1 : Int32)) (by decide) ?_
 refine k_bipush X1099 hx (hb hby d1_20) (pc' := 22) rfl (z := (29 : Int32)) rfl ?_
 refine k_imulL X1099 hx (hb hby d1_22) (pc' := 23) rfl (z := (29 : Int32)) (by decide) ?_
 refine k_lushr X1099 hx (hb hby d1_23) (pc' := 24) rfl (fun v1101 hv1101 => ?_)
 refine k_ldcL X1099 hx hZ hown (hw _ (List.mem_of_getElem? (i := 6) rfl)) (hb hby d1_24) (pc' := 27) rfl ?_
 refine k_land X1099 hx (hb hby d1_27) (pc' := 28) rfl (fun v1102 hv1102 => ?_)
 refine k_lastore X1099 hx hZ e1099 Vw1099 ⟨by decide, by decide⟩ (i := 7) rfl (Nat.le_of_ble_eq_true rfl) (hb hby d1_28) (pc' := 29) rfl (fun T1103 h1103 X1103 e1103 W1103 V1103 => ?_)
 have Vw1103 : Arv Z h1103 a1 k10 .long (9 : Int32) [(.long v1077), (.long v1081), (.long v1084), (.long v1088), (.long v1091), (.long v1095), (.long v1098), (.long v1102), (.long (-1 : Int64))] (.long (0 : Int64)) := V1103
 have N1103 := Fr.snoc X1103 N1099 g_a1
 have Z1103 : n0 ≤ h1103.size := Nat.le_trans Z1099 (Nat.le_of_eq W1103.size.symm)
 refine k_iinc X1103 hx (hb hby d1_29) rfl (pc' := 32) rfl (z := (8 : Int32)) (by decide) (Ls' := #[.val (.ref a1), .val (.ref a2), .val (.int (3 : Int32)), .val (.int (8 : Int32))]) rfl ?_
 refine k_goto X1103 hx (hb hby d1_32) (pc' := 2) (by decide) ?_
 refine k_iloadN X1103 hx (hb hby d1_2) rfl (pc' := 3) rfl ?_
 refine k_bipush X1103 hx (hb hby d1_3) (pc' := 5) rfl (z := (9 : Int32)) rfl ?_
 refine k_icmp_ge X1103 hx (hb hby d1_5) (pn := 8) rfl (py := 35) (by decide) (fun hc => absurd (by decide) hc) (fun _ => ?_)
 refine k_aloadN X1103 hx (hb hby d1_8) rfl rfl (pc' := 9) rfl ?_
 refine k_iloadN X1103 hx (hb hby d1_9) rfl (pc' := 10) rfl ?_
 refine k_aloadN X1103 hx (hb hby d1_10) rfl rfl (pc' := 11) rfl ?_
 refine k_iloadN X1103 hx (hb hby d1_11) rfl (pc' := 12) rfl ?_
 refine k_iloadN X1103 hx (hb hby d1_12) rfl (pc' := 13) rfl ?_
 refine k_iconst X1103 hx (hb hby d1_13) (pc' := 14) rfl (z := (2 : Int32)) rfl ?_
 refine k_idivL X1103 hx (hb hby d1_14) (by decide) (pc' := 15) rfl (z := (4 : Int32)) (by decide) ?_
 refine k_iaddL X1103 hx (hb hby d1_15) (pc' := 16) rfl (z := (7 : Int32)) (by decide) ?_
 have F1104 := (F1100.other W1103 (Nat.ne_of_lt lt0_0))
 refine k_laload X1103 hx hZ e1103 F1104 ⟨by decide, by decide⟩ (v := (.long p9)) rfl (hb hby d1_16) (pc' := 17) rfl ?_
 refine k_iloadN X1103 hx (hb hby d1_17) rfl (pc' := 18) rfl ?_
 refine k_iconst X1103 hx (hb hby d1_18) (pc' := 19) rfl (z := (2 : Int32)) rfl ?_
 refine k_iremL X1103 hx (hb hby d1_19) (by decide) (pc' := 20) rfl (z := (0 : Int32)) (by decide) ?_
 refine k_bipush X1103 hx (hb hby d1_20) (pc' := 22) rfl (z := (29 : Int32)) rfl ?_
 refine k_imulL X1103 hx (hb hby d1_22) (pc' := 23) rfl (z := (0 : Int32)) (by decide) ?_
 refine k_lushrL X1103 hx (hb hby d1_23) (pc' := 24) rfl (z := p9) (k_ushr0 _) ?_
 refine k_ldcL X1103 hx hZ hown (hw _ (List.mem_of_getElem? (i := 6) rfl)) (hb hby d1_24) (pc' := 27) rfl ?_
 refine k_land X1103 hx (hb hby d1_27) (pc' := 28) rfl (fun v1105 hv1105 => ?_)
 refine k_lastore X1103 hx hZ e1103 Vw1103 ⟨by decide, by decide⟩ (i := 8) rfl (Nat.le_of_ble_eq_true rfl) (hb hby d1_28) (pc' := 29) rfl (fun T1106 h1106 X1106 e1106 W1106 V1106 => ?_)
 have Vw1106 : Arv Z h1106 a1 k10 .long (9 : Int32) [(.long v1077), (.long v1081), (.long v1084), (.long v1088), (.long v1091), (.long v1095), (.long v1098), (.long v1102), (.long v1105)] (.long (0 : Int64)) := V1106
 have N1106 := Fr.snoc X1106 N1103 g_a1
 have Z1106 : n0 ≤ h1106.size := Nat.le_trans Z1103 (Nat.le_of_eq W1106.size.symm)
 refine k_iinc X1106 hx (hb hby d1_29) rfl (pc' := 32) rfl (z := (9 : Int32)) (by decide) (Ls' := #[.val (.ref a1), .val (.ref a2), .val (.int (3 : Int32)), .val (.int (9 : Int32))]) rfl ?_
 refine k_goto X1106 hx (hb hby d1_32) (pc' := 2) (by decide) ?_
 refine k_iloadN X1106 hx (hb hby d1_2) rfl (pc' := 3) rfl ?_
 refine k_bipush X1106 hx (hb hby d1_3) (pc' := 5) rfl (z := (9 : Int32)) rfl ?_
 refine k_icmp_ge X1106 hx (hb hby d1_5) (pn := 8) rfl (py := 35) (by decide) (fun _ => ?_) (fun hc => absurd hc (by decide))
 have F1107 := (F1104.other W1106 (Nat.ne_of_lt lt0_0))
 exact k_ret X1106 hx Bd.returns (hb hby d1_35) hlk (by decide) (by decide) (by rw [e1106]; exact ⟨N1106, ⟨v1077, v1080, v1081, v1084, v1087, v1088, v1091, v1094, v1095, v1098, v1101, v1102, v1105, hv1077, hv1080, hv1081, hv1084, hv1087, hv1088, hv1091, hv1094, hv1095, hv1098, hv1101, hv1102, hv1105, rfl, F1107, Vw1106, Z1106⟩⟩)
theorem ef0 (m : MethodId) (x0 : Int64) (x1 : Int64) (x2 : Int64) (x3 : Int64) (x4 : Int64) (x5 : Int32) : entryFrame m #[(.long x0), (.long x1), (.long x2), (.long x3), (.long x4), (.int x5)] maxLocals = mkF m 0 #[.val (.long x0), .second, .val (.long x1), .second, .val (.long x2), .second, .val (.long x3), .second, .val (.long x4), .second, .val (.int x5), .unset, .unset, .unset, .unset, .unset] [] := by first | (simp [entryFrame, mkF, argsToLocals, Value.category, maxLocals]; done) | rfl
def Q0 (n0 : Nat) (v : Option Value) (h : Heap) (L : List Loc) : Prop := v = some (.int 1) ∧ Fr n0 L
set_option maxRecDepth 65536 in
set_option maxHeartbeats 40000000 in
theorem rm0 (l : Launch) (Z : State) (a0 : Array Value) (hw : ∀ d ∈ tables_1, d.before a0 Z = true) (ws : List Jvm.Cond) (i0 : Int64) (i1 : Int64) (i2 : Int64) (i3 : Int64) (i4 : Int64) (i5 : Int32) (h0 : Heap) (n0 : Nat) (Z0 : n0 ≤ h0.size) :
    MetFree l x (head1 (Jvm.Cond.code x code maxLocals ret :: ws) room_1) (fun a U => a = #[(.long i0), (.long i1), (.long i2), (.long i3), (.long i4), (.int i5)] ∧ Z.Warmed39 U.vm ∧ U.heap = h0) (fun _ _ _ _ _ => True) (fun _ U o U' => ∃ v L, o = .returned v ∧ Q0 n0 v U'.heap L ∧ FrameEnd U o U' L 16 128) := by
 refine MetFree.of_bodySF (plainFor_of_name pn_1) hisR ?_
 intro p e s m args below meth c s₁ Bd hml0 hP hK
 obtain ⟨rfl, hZ, hh⟩ := hP
 have hx := Bd.exec
 have hby := Bd.bytes
 have hml : c.maxLocals = 16 := hml0
 have hlk : meth.locks = false := Bd.notSynchronized
 have hown : s.vm.findClass "com/example/portcullis/portcullis/protocol/FieldUnpackPinLaw" = some m.cls := findClass_of_methodNamed Bd.named
 have hnm := (name_of_methodNamed Bd.named Bd.method).1
 have X0 : Stand p l e room_1 s m #[(.long i0), (.long i1), (.long i2), (.long i3), (.long i4), (.int i5)] below meth c s₁ [] 0 0 := Stand.of_body Bd
 have e0 : s₁.heap = h0 := by rw [← hh, Bd.state]; rfl
 have N0 := Fr.nil n0
 rw [show entryFrame m #[(.long i0), (.long i1), (.long i2), (.long i3), (.long i4), (.int i5)] maxLocals = _ from ef0 m i0 i1 i2 i3 i4 i5]
 show KEnds p e below s 16 128 (Q0 n0) s₁ (mkF m 0 #[.val (.long i0), .second, .val (.long i1), .second, .val (.long i2), .second, .val (.long i3), .second, .val (.long i4), .second, .val (.int i5), .unset, .unset, .unset, .unset, .unset] [])
 refine k_iload X0 hx (hb hby at_0) rfl (pc' := 2) rfl ?_
 refine k_iconst X0 hx (hb hby at_2) (pc' := 3) rfl (z := (3 : Int32)) rfl ?_
 refine k_iand X0 hx (hb hby at_3) (pc' := 4) rfl (fun v1 hv1 => ?_)
 have hs2 : v1 = (0 : Int32) ∨ v1 = (1 : Int32) ∨ v1 = (2 : Int32) ∨ v1 = (3 : Int32) := by
  have := rng32 v1
  have := rng32 i5
  have : (3 : Int32).toInt = 3 := (by decide)
  have q3 : v1.toInt = i5.toInt % 4 := (by rw [hv1]; exact c_mask _ _ 2 (by decide) (by decide))
  rcases (by omega : v1.toInt = 0 ∨ v1.toInt = 1 ∨ v1.toInt = 2 ∨ v1.toInt = 3) with hq | hq | hq | hq
  · exact Or.inl (Int32.toInt_inj.mp hq)
  · exact Or.inr (Or.inl (Int32.toInt_inj.mp hq))
  · exact Or.inr (Or.inr (Or.inl (Int32.toInt_inj.mp hq)))
  · exact Or.inr (Or.inr (Or.inr ((Int32.toInt_inj.mp hq))))
 rcases hs2 with rfl | rfl | rfl | rfl
 ·
  show KEnds p e below s _ _ _ s₁ (mkF m 4 #[.val (.long i0), .second, .val (.long i1), .second, .val (.long i2), .second, .val (.long i3), .second, .val (.long i4), .second, .val (.int i5), .unset, .unset, .unset, .unset, .unset] [(.int (0 : Int32))])
  refine k_istore X0 hx (hb hby at_4) (Ls' := #[.val (.long i0), .second, .val (.long i1), .second, .val (.long i2), .second, .val (.long i3), .second, .val (.long i4), .second, .val (.int i5), .val (.int (0 : Int32)), .unset, .unset, .unset, .unset]) rfl (pc' := 6) rfl ?_
  refine k_lloadN X0 hx (hb hby at_6) rfl (pc' := 7) rfl ?_
  refine k_lload X0 hx (hb hby at_7) rfl (pc' := 9) rfl ?_
  refine k_lxor X0 hx (hb hby at_9) (pc' := 10) rfl (fun v5 hv5 => ?_)
  refine k_ldcL X0 hx hZ hown (hw _ (List.mem_of_getElem? (i := 0) rfl)) (hb hby at_10) (pc' := 13) rfl ?_
  refine k_lxor X0 hx (hb hby at_13) (pc' := 14) rfl (fun v6 hv6 => ?_)
  refine k_lstore X0 hx (hb hby at_14) (Ls' := #[.val (.long i0), .second, .val (.long i1), .second, .val (.long i2), .second, .val (.long i3), .second, .val (.long i4), .second, .val (.int i5), .val (.int (0 : Int32)), .val (.long v6), .second, .unset, .unset]) rfl (pc' := 16) rfl ?_
  refine k_bipush X0 hx (hb hby at_16) (pc' := 18) rfl (z := (8 : Int32)) rfl ?_
  refine k_newA X0 hx hZ (hw _ (List.mem_of_getElem? (i := 1) rfl)) e0 (hb hby at_18) (by decide) (cap := 8) (by decide) (by decide) (by decide) (by decide) (pc' := 20) rfl (fun T7 h7 b7 k7 g7 X7 e7 E7 V7 => ?_)
  have g_b7 : n0 ≤ b7 := Nat.le_trans Z0 (Nat.le_of_eq g7.symm)
  have Z7 : n0 ≤ h7.size := Nat.le_trans Z0 E7.1
  have Vw7 : Arv Z h7 b7 k7 .long (8 : Int32) [(.long (0 : Int64)), (.long (0 : Int64)), (.long (0 : Int64)), (.long (0 : Int64)), (.long (0 : Int64)), (.long (0 : Int64)), (.long (0 : Int64)), (.long (0 : Int64))] (.long (0 : Int64)) := V7
  refine k_astore X7 hx (hb hby at_20) rfl (Ls' := #[.val (.long i0), .second, .val (.long i1), .second, .val (.long i2), .second, .val (.long i3), .second, .val (.long i4), .second, .val (.int i5), .val (.int (0 : Int32)), .val (.long v6), .second, .val (.ref b7), .unset]) rfl (pc' := 22) rfl ?_
  refine k_aload X7 hx (hb hby at_22) rfl rfl (pc' := 24) rfl ?_
  refine k_iconst X7 hx (hb hby at_24) (pc' := 25) rfl (z := (0 : Int32)) rfl ?_
  refine k_lload X7 hx (hb hby at_25) rfl (pc' := 27) rfl ?_
  refine k_lastore X7 hx hZ e7 Vw7 ⟨by decide, by decide⟩ (i := 0) rfl (Nat.le_of_ble_eq_true rfl) (hb hby at_27) (pc' := 28) rfl (fun T8 h8 X8 e8 W8 V8 => ?_)
  have Vw8 : Arv Z h8 b7 k7 .long (8 : Int32) [(.long v6), (.long (0 : Int64)), (.long (0 : Int64)), (.long (0 : Int64)), (.long (0 : Int64)), (.long (0 : Int64)), (.long (0 : Int64)), (.long (0 : Int64))] (.long (0 : Int64)) := V8
  have N8 := Fr.snoc X8 N0 g_b7
  have Z8 : n0 ≤ h8.size := Nat.le_trans Z7 (Nat.le_of_eq W8.size.symm)
  refine k_aload X8 hx (hb hby at_28) rfl rfl (pc' := 30) rfl ?_
  refine k_iconst X8 hx (hb hby at_30) (pc' := 31) rfl (z := (1 : Int32)) rfl ?_
  refine k_lload X8 hx (hb hby at_31) rfl (pc' := 33) rfl ?_
  refine k_lastore X8 hx hZ e8 Vw8 ⟨by decide, by decide⟩ (i := 1) rfl (Nat.le_of_ble_eq_true rfl) (hb hby at_33) (pc' := 34) rfl (fun T9 h9 X9 e9 W9 V9 => ?_)
  have Vw9 : Arv Z h9 b7 k7 .long (8 : Int32) [(.long v6), (.long v6), (.long (0 : Int64)), (.long (0 : Int64)), (.long (0 : Int64)), (.long (0 : Int64)), (.long (0 : Int64)), (.long (0 : Int64))] (.long (0 : Int64)) := V9
  have N9 := Fr.snoc X9 N8 g_b7
  have Z9 : n0 ≤ h9.size := Nat.le_trans Z8 (Nat.le_of_eq W9.size.symm)
  refine k_aload X9 hx (hb hby at_34) rfl rfl (pc' := 36) rfl ?_
  refine k_iconst X9 hx (hb hby at_36) (pc' := 37) rfl (z := (2 : Int32)) rfl ?_
  refine k_lload X9 hx (hb hby at_37) rfl (pc' := 39) rfl ?_
  refine k_lastore X9 hx hZ e9 Vw9 ⟨by decide, by decide⟩ (i := 2) rfl (Nat.le_of_ble_eq_true rfl) (hb hby at_39) (pc' := 40) rfl (fun T10 h10 X10 e10 W10 V10 => ?_)
  have Vw10 : Arv Z h10 b7 k7 .long (8 : Int32) [(.long v6), (.long v6), (.long v6), (.long (0 : Int64)), (.long (0 : Int64)), (.long (0 : Int64)), (.long (0 : Int64)), (.long (0 : Int64))] (.long (0 : Int64)) := V10
  have N10 := Fr.snoc X10 N9 g_b7
  have Z10 : n0 ≤ h10.size := Nat.le_trans Z9 (Nat.le_of_eq W10.size.symm)
  refine k_aload X10 hx (hb hby at_40) rfl rfl (pc' := 42) rfl ?_
  refine k_iconst X10 hx (hb hby at_42) (pc' := 43) rfl (z := (3 : Int32)) rfl ?_
  refine k_lload X10 hx (hb hby at_43) rfl (pc' := 45) rfl ?_
  refine k_lastore X10 hx hZ e10 Vw10 ⟨by decide, by decide⟩ (i := 3) rfl (Nat.le_of_ble_eq_true rfl) (hb hby at_45) (pc' := 46) rfl (fun T11 h11 X11 e11 W11 V11 => ?_)
  have Vw11 : Arv Z h11 b7 k7 .long (8 : Int32) [(.long v6), (.long v6), (.long v6), (.long v6), (.long (0 : Int64)), (.long (0 : Int64)), (.long (0 : Int64)), (.long (0 : Int64))] (.long (0 : Int64)) := V11
  have N11 := Fr.snoc X11 N10 g_b7
  have Z11 : n0 ≤ h11.size := Nat.le_trans Z10 (Nat.le_of_eq W11.size.symm)
  refine k_aload X11 hx (hb hby at_46) rfl rfl (pc' := 48) rfl ?_
  refine k_iconst X11 hx (hb hby at_48) (pc' := 49) rfl (z := (4 : Int32)) rfl ?_
  refine k_lload X11 hx (hb hby at_49) rfl (pc' := 51) rfl ?_
  refine k_lastore X11 hx hZ e11 Vw11 ⟨by decide, by decide⟩ (i := 4) rfl (Nat.le_of_ble_eq_true rfl) (hb hby at_51) (pc' := 52) rfl (fun T12 h12 X12 e12 W12 V12 => ?_)
  have Vw12 : Arv Z h12 b7 k7 .long (8 : Int32) [(.long v6), (.long v6), (.long v6), (.long v6), (.long v6), (.long (0 : Int64)), (.long (0 : Int64)), (.long (0 : Int64))] (.long (0 : Int64)) := V12
  have N12 := Fr.snoc X12 N11 g_b7
  have Z12 : n0 ≤ h12.size := Nat.le_trans Z11 (Nat.le_of_eq W12.size.symm)
  refine k_aload X12 hx (hb hby at_52) rfl rfl (pc' := 54) rfl ?_
  refine k_iconst X12 hx (hb hby at_54) (pc' := 55) rfl (z := (5 : Int32)) rfl ?_
  refine k_lload X12 hx (hb hby at_55) rfl (pc' := 57) rfl ?_
  refine k_lastore X12 hx hZ e12 Vw12 ⟨by decide, by decide⟩ (i := 5) rfl (Nat.le_of_ble_eq_true rfl) (hb hby at_57) (pc' := 58) rfl (fun T13 h13 X13 e13 W13 V13 => ?_)
  have Vw13 : Arv Z h13 b7 k7 .long (8 : Int32) [(.long v6), (.long v6), (.long v6), (.long v6), (.long v6), (.long v6), (.long (0 : Int64)), (.long (0 : Int64))] (.long (0 : Int64)) := V13
  have N13 := Fr.snoc X13 N12 g_b7
  have Z13 : n0 ≤ h13.size := Nat.le_trans Z12 (Nat.le_of_eq W13.size.symm)
  refine k_aload X13 hx (hb hby at_58) rfl rfl (pc' := 60) rfl ?_
  refine k_bipush X13 hx (hb hby at_60) (pc' := 62) rfl (z := (6 : Int32)) rfl ?_
  refine k_lload X13 hx (hb hby at_62) rfl (pc' := 64) rfl ?_
  refine k_lastore X13 hx hZ e13 Vw13 ⟨by decide, by decide⟩ (i := 6) rfl (Nat.le_of_ble_eq_true rfl) (hb hby at_64) (pc' := 65) rfl (fun T14 h14 X14 e14 W14 V14 => ?_)
  have Vw14 : Arv Z h14 b7 k7 .long (8 : Int32) [(.long v6), (.long v6), (.long v6), (.long v6), (.long v6), (.long v6), (.long v6), (.long (0 : Int64))] (.long (0 : Int64)) := V14
  have N14 := Fr.snoc X14 N13 g_b7
  have Z14 : n0 ≤ h14.size := Nat.le_trans Z13 (Nat.le_of_eq W14.size.symm)
  refine k_aload X14 hx (hb hby at_65) rfl rfl (pc' := 67) rfl ?_
  refine k_bipush X14 hx (hb hby at_67) (pc' := 69) rfl (z := (7 : Int32)) rfl ?_
  refine k_lload X14 hx (hb hby at_69) rfl (pc' := 71) rfl ?_
  refine k_lastore X14 hx hZ e14 Vw14 ⟨by decide, by decide⟩ (i := 7) rfl (Nat.le_of_ble_eq_true rfl) (hb hby at_71) (pc' := 72) rfl (fun T15 h15 X15 e15 W15 V15 => ?_)
  have Vw15 : Arv Z h15 b7 k7 .long (8 : Int32) [(.long v6), (.long v6), (.long v6), (.long v6), (.long v6), (.long v6), (.long v6), (.long v6)] (.long (0 : Int64)) := V15
  have N15 := Fr.snoc X15 N14 g_b7
  have Z15 : n0 ≤ h15.size := Nat.le_trans Z14 (Nat.le_of_eq W15.size.symm)
  refine k_aload X15 hx (hb hby at_72) rfl rfl (pc' := 74) rfl ?_
  refine k_iload X15 hx (hb hby at_74) rfl (pc' := 76) rfl ?_
  refine k_lloadN X15 hx (hb hby at_76) rfl (pc' := 77) rfl ?_
  refine k_lastore X15 hx hZ e15 Vw15 ⟨by decide, by decide⟩ (i := 0) rfl (Nat.le_of_ble_eq_true rfl) (hb hby at_77) (pc' := 78) rfl (fun T16 h16 X16 e16 W16 V16 => ?_)
  have Vw16 : Arv Z h16 b7 k7 .long (8 : Int32) [(.long i0), (.long v6), (.long v6), (.long v6), (.long v6), (.long v6), (.long v6), (.long v6)] (.long (0 : Int64)) := V16
  have N16 := Fr.snoc X16 N15 g_b7
  have Z16 : n0 ≤ h16.size := Nat.le_trans Z15 (Nat.le_of_eq W16.size.symm)
  refine k_aload X16 hx (hb hby at_78) rfl rfl (pc' := 80) rfl ?_
  refine k_iload X16 hx (hb hby at_80) rfl (pc' := 82) rfl ?_
  refine k_iconst X16 hx (hb hby at_82) (pc' := 83) rfl (z := (1 : Int32)) rfl ?_
  refine k_iaddL X16 hx (hb hby at_83) (pc' := 84) rfl (z := (1 : Int32)) (by decide) ?_
  refine k_lloadN X16 hx (hb hby at_84) rfl (pc' := 85) rfl ?_
  refine k_lastore X16 hx hZ e16 Vw16 ⟨by decide, by decide⟩ (i := 1) rfl (Nat.le_of_ble_eq_true rfl) (hb hby at_85) (pc' := 86) rfl (fun T17 h17 X17 e17 W17 V17 => ?_)
  have Vw17 : Arv Z h17 b7 k7 .long (8 : Int32) [(.long i0), (.long i1), (.long v6), (.long v6), (.long v6), (.long v6), (.long v6), (.long v6)] (.long (0 : Int64)) := V17
  have N17 := Fr.snoc X17 N16 g_b7
  have Z17 : n0 ≤ h17.size := Nat.le_trans Z16 (Nat.le_of_eq W17.size.symm)
  refine k_aload X17 hx (hb hby at_86) rfl rfl (pc' := 88) rfl ?_
  refine k_iload X17 hx (hb hby at_88) rfl (pc' := 90) rfl ?_
  refine k_iconst X17 hx (hb hby at_90) (pc' := 91) rfl (z := (2 : Int32)) rfl ?_
  refine k_iaddL X17 hx (hb hby at_91) (pc' := 92) rfl (z := (2 : Int32)) (by decide) ?_
  refine k_lload X17 hx (hb hby at_92) rfl (pc' := 94) rfl ?_
  refine k_lastore X17 hx hZ e17 Vw17 ⟨by decide, by decide⟩ (i := 2) rfl (Nat.le_of_ble_eq_true rfl) (hb hby at_94) (pc' := 95) rfl (fun T18 h18 X18 e18 W18 V18 => ?_)
  have Vw18 : Arv Z h18 b7 k7 .long (8 : Int32) [(.long i0), (.long i1), (.long i2), (.long v6), (.long v6), (.long v6), (.long v6), (.long v6)] (.long (0 : Int64)) := V18
  have N18 := Fr.snoc X18 N17 g_b7
  have Z18 : n0 ≤ h18.size := Nat.le_trans Z17 (Nat.le_of_eq W18.size.symm)
  refine k_aload X18 hx (hb hby at_95) rfl rfl (pc' := 97) rfl ?_
  refine k_iload X18 hx (hb hby at_97) rfl (pc' := 99) rfl ?_
  refine k_iconst X18 hx (hb hby at_99) (pc' := 100) rfl (z := (3 : Int32)) rfl ?_
  refine k_iaddL X18 hx (hb hby at_100) (pc' := 101) rfl (z := (3 : Int32)) (by decide) ?_
  refine k_lload X18 hx (hb hby at_101) rfl (pc' := 103) rfl ?_
  refine k_lastore X18 hx hZ e18 Vw18 ⟨by decide, by decide⟩ (i := 3) rfl (Nat.le_of_ble_eq_true rfl) (hb hby at_103) (pc' := 104) rfl (fun T19 h19 X19 e19 W19 V19 => ?_)
  have Vw19 : Arv Z h19 b7 k7 .long (8 : Int32) [(.long i0), (.long i1), (.long i2), (.long i3), (.long v6), (.long v6), (.long v6), (.long v6)] (.long (0 : Int64)) := V19
  have N19 := Fr.snoc X19 N18 g_b7
  have Z19 : n0 ≤ h19.size := Nat.le_trans Z18 (Nat.le_of_eq W19.size.symm)
  refine k_aload X19 hx (hb hby at_104) rfl rfl (pc' := 106) rfl ?_
  refine k_iload X19 hx (hb hby at_106) rfl (pc' := 108) rfl ?_
  refine k_iconst X19 hx (hb hby at_108) (pc' := 109) rfl (z := (4 : Int32)) rfl ?_
  refine k_iaddL X19 hx (hb hby at_109) (pc' := 110) rfl (z := (4 : Int32)) (by decide) ?_
  refine k_lload X19 hx (hb hby at_110) rfl (pc' := 112) rfl ?_
  refine k_lastore X19 hx hZ e19 Vw19 ⟨by decide, by decide⟩ (i := 4) rfl (Nat.le_of_ble_eq_true rfl) (hb hby at_112) (pc' := 113) rfl (fun T20 h20 X20 e20 W20 V20 => ?_)
  have Vw20 : Arv Z h20 b7 k7 .long (8 : Int32) [(.long i0), (.long i1), (.long i2), (.long i3), (.long i4), (.long v6), (.long v6), (.long v6)] (.long (0 : Int64)) := V20
  have N20 := Fr.snoc X20 N19 g_b7
  have Z20 : n0 ≤ h20.size := Nat.le_trans Z19 (Nat.le_of_eq W20.size.symm)
  refine k_bipush X20 hx (hb hby at_113) (pc' := 115) rfl (z := (9 : Int32)) rfl ?_
  refine k_newA X20 hx hZ (hw _ (List.mem_of_getElem? (i := 1) rfl)) e20 (hb hby at_115) (by decide) (cap := 9) (by decide) (by decide) (by decide) (by decide) (pc' := 117) rfl (fun T21 h21 b21 k21 g21 X21 e21 E21 V21 => ?_)
  have g_b21 : n0 ≤ b21 := Nat.le_trans Z20 (Nat.le_of_eq g21.symm)
  have lt_b21 : b7 < b21 := Nat.lt_of_lt_of_le Vw20.lt (Nat.le_of_eq g21.symm)
  have Z21 : n0 ≤ h21.size := Nat.le_trans Z20 E21.1
  have Vw21 : Arv Z h21 b21 k21 .long (9 : Int32) [(.long (0 : Int64)), (.long (0 : Int64)), (.long (0 : Int64)), (.long (0 : Int64)), (.long (0 : Int64)), (.long (0 : Int64)), (.long (0 : Int64)), (.long (0 : Int64)), (.long (0 : Int64))] (.long (0 : Int64)) := V21
  refine k_astore X21 hx (hb hby at_117) rfl (Ls' := #[.val (.long i0), .second, .val (.long i1), .second, .val (.long i2), .second, .val (.long i3), .second, .val (.long i4), .second, .val (.int i5), .val (.int (0 : Int32)), .val (.long v6), .second, .val (.ref b7), .val (.ref b21)]) rfl (pc' := 119) rfl ?_
  refine k_aload X21 hx (hb hby at_119) rfl rfl (pc' := 121) rfl ?_
  refine k_iconst X21 hx (hb hby at_121) (pc' := 122) rfl (z := (0 : Int32)) rfl ?_
  refine k_ldcL X21 hx hZ hown (hw _ (List.mem_of_getElem? (i := 0) rfl)) (hb hby at_122) (pc' := 125) rfl ?_
  refine k_lastore X21 hx hZ e21 Vw21 ⟨by decide, by decide⟩ (i := 0) rfl (Nat.le_of_ble_eq_true rfl) (hb hby at_125) (pc' := 126) rfl (fun T22 h22 X22 e22 W22 V22 => ?_)
  have Vw22 : Arv Z h22 b21 k21 .long (9 : Int32) [(.long (-1 : Int64)), (.long (0 : Int64)), (.long (0 : Int64)), (.long (0 : Int64)), (.long (0 : Int64)), (.long (0 : Int64)), (.long (0 : Int64)), (.long (0 : Int64)), (.long (0 : Int64))] (.long (0 : Int64)) := V22
  have N22 := Fr.snoc X22 N20 g_b21
  have Z22 : n0 ≤ h22.size := Nat.le_trans Z21 (Nat.le_of_eq W22.size.symm)
  refine k_aload X22 hx (hb hby at_126) rfl rfl (pc' := 128) rfl ?_
  refine k_iconst X22 hx (hb hby at_128) (pc' := 129) rfl (z := (1 : Int32)) rfl ?_
  refine k_ldcL X22 hx hZ hown (hw _ (List.mem_of_getElem? (i := 0) rfl)) (hb hby at_129) (pc' := 132) rfl ?_
  refine k_lastore X22 hx hZ e22 Vw22 ⟨by decide, by decide⟩ (i := 1) rfl (Nat.le_of_ble_eq_true rfl) (hb hby at_132) (pc' := 133) rfl (fun T23 h23 X23 e23 W23 V23 => ?_)
  have Vw23 : Arv Z h23 b21 k21 .long (9 : Int32) [(.long (-1 : Int64)), (.long (-1 : Int64)), (.long (0 : Int64)), (.long (0 : Int64)), (.long (0 : Int64)), (.long (0 : Int64)), (.long (0 : Int64)), (.long (0 : Int64)), (.long (0 : Int64))] (.long (0 : Int64)) := V23
  have N23 := Fr.snoc X23 N22 g_b21
  have Z23 : n0 ≤ h23.size := Nat.le_trans Z22 (Nat.le_of_eq W23.size.symm)
  refine k_aload X23 hx (hb hby at_133) rfl rfl (pc' := 135) rfl ?_
  refine k_iconst X23 hx (hb hby at_135) (pc' := 136) rfl (z := (2 : Int32)) rfl ?_
  refine k_ldcL X23 hx hZ hown (hw _ (List.mem_of_getElem? (i := 0) rfl)) (hb hby at_136) (pc' := 139) rfl ?_
  refine k_lastore X23 hx hZ e23 Vw23 ⟨by decide, by decide⟩ (i := 2) rfl (Nat.le_of_ble_eq_true rfl) (hb hby at_139) (pc' := 140) rfl (fun T24 h24 X24 e24 W24 V24 => ?_)
  have Vw24 : Arv Z h24 b21 k21 .long (9 : Int32) [(.long (-1 : Int64)), (.long (-1 : Int64)), (.long (-1 : Int64)), (.long (0 : Int64)), (.long (0 : Int64)), (.long (0 : Int64)), (.long (0 : Int64)), (.long (0 : Int64)), (.long (0 : Int64))] (.long (0 : Int64)) := V24
  have N24 := Fr.snoc X24 N23 g_b21
  have Z24 : n0 ≤ h24.size := Nat.le_trans Z23 (Nat.le_of_eq W24.size.symm)
  refine k_aload X24 hx (hb hby at_140) rfl rfl (pc' := 142) rfl ?_
  refine k_iconst X24 hx (hb hby at_142) (pc' := 143) rfl (z := (3 : Int32)) rfl ?_
  refine k_ldcL X24 hx hZ hown (hw _ (List.mem_of_getElem? (i := 0) rfl)) (hb hby at_143) (pc' := 146) rfl ?_
  refine k_lastore X24 hx hZ e24 Vw24 ⟨by decide, by decide⟩ (i := 3) rfl (Nat.le_of_ble_eq_true rfl) (hb hby at_146) (pc' := 147) rfl (fun T25 h25 X25 e25 W25 V25 => ?_)
  have Vw25 : Arv Z h25 b21 k21 .long (9 : Int32) [(.long (-1 : Int64)), (.long (-1 : Int64)), (.long (-1 : Int64)), (.long (-1 : Int64)), (.long (0 : Int64)), (.long (0 : Int64)), (.long (0 : Int64)), (.long (0 : Int64)), (.long (0 : Int64))] (.long (0 : Int64)) := V25
  have N25 := Fr.snoc X25 N24 g_b21
  have Z25 : n0 ≤ h25.size := Nat.le_trans Z24 (Nat.le_of_eq W25.size.symm)
  refine k_aload X25 hx (hb hby at_147) rfl rfl (pc' := 149) rfl ?_
  refine k_iconst X25 hx (hb hby at_149) (pc' := 150) rfl (z := (4 : Int32)) rfl ?_
  refine k_ldcL X25 hx hZ hown (hw _ (List.mem_of_getElem? (i := 0) rfl)) (hb hby at_150) (pc' := 153) rfl ?_
  refine k_lastore X25 hx hZ e25 Vw25 ⟨by decide, by decide⟩ (i := 4) rfl (Nat.le_of_ble_eq_true rfl) (hb hby at_153) (pc' := 154) rfl (fun T26 h26 X26 e26 W26 V26 => ?_)
  have Vw26 : Arv Z h26 b21 k21 .long (9 : Int32) [(.long (-1 : Int64)), (.long (-1 : Int64)), (.long (-1 : Int64)), (.long (-1 : Int64)), (.long (-1 : Int64)), (.long (0 : Int64)), (.long (0 : Int64)), (.long (0 : Int64)), (.long (0 : Int64))] (.long (0 : Int64)) := V26
  have N26 := Fr.snoc X26 N25 g_b21
  have Z26 : n0 ≤ h26.size := Nat.le_trans Z25 (Nat.le_of_eq W26.size.symm)
  refine k_aload X26 hx (hb hby at_154) rfl rfl (pc' := 156) rfl ?_
  refine k_iconst X26 hx (hb hby at_156) (pc' := 157) rfl (z := (5 : Int32)) rfl ?_
  refine k_ldcL X26 hx hZ hown (hw _ (List.mem_of_getElem? (i := 0) rfl)) (hb hby at_157) (pc' := 160) rfl ?_
  refine k_lastore X26 hx hZ e26 Vw26 ⟨by decide, by decide⟩ (i := 5) rfl (Nat.le_of_ble_eq_true rfl) (hb hby at_160) (pc' := 161) rfl (fun T27 h27 X27 e27 W27 V27 => ?_)
  have Vw27 : Arv Z h27 b21 k21 .long (9 : Int32) [(.long (-1 : Int64)), (.long (-1 : Int64)), (.long (-1 : Int64)), (.long (-1 : Int64)), (.long (-1 : Int64)), (.long (-1 : Int64)), (.long (0 : Int64)), (.long (0 : Int64)), (.long (0 : Int64))] (.long (0 : Int64)) := V27
  have N27 := Fr.snoc X27 N26 g_b21
  have Z27 : n0 ≤ h27.size := Nat.le_trans Z26 (Nat.le_of_eq W27.size.symm)
  refine k_aload X27 hx (hb hby at_161) rfl rfl (pc' := 163) rfl ?_
  refine k_bipush X27 hx (hb hby at_163) (pc' := 165) rfl (z := (6 : Int32)) rfl ?_
  refine k_ldcL X27 hx hZ hown (hw _ (List.mem_of_getElem? (i := 0) rfl)) (hb hby at_165) (pc' := 168) rfl ?_
  refine k_lastore X27 hx hZ e27 Vw27 ⟨by decide, by decide⟩ (i := 6) rfl (Nat.le_of_ble_eq_true rfl) (hb hby at_168) (pc' := 169) rfl (fun T28 h28 X28 e28 W28 V28 => ?_)
  have Vw28 : Arv Z h28 b21 k21 .long (9 : Int32) [(.long (-1 : Int64)), (.long (-1 : Int64)), (.long (-1 : Int64)), (.long (-1 : Int64)), (.long (-1 : Int64)), (.long (-1 : Int64)), (.long (-1 : Int64)), (.long (0 : Int64)), (.long (0 : Int64))] (.long (0 : Int64)) := V28
  have N28 := Fr.snoc X28 N27 g_b21
  have Z28 : n0 ≤ h28.size := Nat.le_trans Z27 (Nat.le_of_eq W28.size.symm)
  refine k_aload X28 hx (hb hby at_169) rfl rfl (pc' := 171) rfl ?_
  refine k_bipush X28 hx (hb hby at_171) (pc' := 173) rfl (z := (7 : Int32)) rfl ?_
  refine k_ldcL X28 hx hZ hown (hw _ (List.mem_of_getElem? (i := 0) rfl)) (hb hby at_173) (pc' := 176) rfl ?_
  refine k_lastore X28 hx hZ e28 Vw28 ⟨by decide, by decide⟩ (i := 7) rfl (Nat.le_of_ble_eq_true rfl) (hb hby at_176) (pc' := 177) rfl (fun T29 h29 X29 e29 W29 V29 => ?_)
  have Vw29 : Arv Z h29 b21 k21 .long (9 : Int32) [(.long (-1 : Int64)), (.long (-1 : Int64)), (.long (-1 : Int64)), (.long (-1 : Int64)), (.long (-1 : Int64)), (.long (-1 : Int64)), (.long (-1 : Int64)), (.long (-1 : Int64)), (.long (0 : Int64))] (.long (0 : Int64)) := V29
  have N29 := Fr.snoc X29 N28 g_b21
  have Z29 : n0 ≤ h29.size := Nat.le_trans Z28 (Nat.le_of_eq W29.size.symm)
  refine k_aload X29 hx (hb hby at_177) rfl rfl (pc' := 179) rfl ?_
  refine k_bipush X29 hx (hb hby at_179) (pc' := 181) rfl (z := (8 : Int32)) rfl ?_
  refine k_ldcL X29 hx hZ hown (hw _ (List.mem_of_getElem? (i := 0) rfl)) (hb hby at_181) (pc' := 184) rfl ?_
  refine k_lastore X29 hx hZ e29 Vw29 ⟨by decide, by decide⟩ (i := 8) rfl (Nat.le_of_ble_eq_true rfl) (hb hby at_184) (pc' := 185) rfl (fun T30 h30 X30 e30 W30 V30 => ?_)
  have Vw30 : Arv Z h30 b21 k21 .long (9 : Int32) [(.long (-1 : Int64)), (.long (-1 : Int64)), (.long (-1 : Int64)), (.long (-1 : Int64)), (.long (-1 : Int64)), (.long (-1 : Int64)), (.long (-1 : Int64)), (.long (-1 : Int64)), (.long (-1 : Int64))] (.long (0 : Int64)) := V30
  have N30 := Fr.snoc X30 N29 g_b21
  have Z30 : n0 ≤ h30.size := Nat.le_trans Z29 (Nat.le_of_eq W30.size.symm)
  refine k_aload X30 hx (hb hby at_185) rfl rfl (pc' := 187) rfl ?_
  refine k_aload X30 hx (hb hby at_187) rfl rfl (pc' := 189) rfl ?_
  refine k_iload X30 hx (hb hby at_189) rfl (pc' := 191) rfl ?_
  have F31 := ((((((((((Vw20.ext E21).other W22 (Nat.ne_of_lt lt_b21)).other W23 (Nat.ne_of_lt lt_b21)).other W24 (Nat.ne_of_lt lt_b21)).other W25 (Nat.ne_of_lt lt_b21)).other W26 (Nat.ne_of_lt lt_b21)).other W27 (Nat.ne_of_lt lt_b21)).other W28 (Nat.ne_of_lt lt_b21)).other W29 (Nat.ne_of_lt lt_b21)).other W30 (Nat.ne_of_lt lt_b21))
  refine k_callS X30 hx hZ hown (hw _ (List.mem_of_getElem? (i := 2) rfl)) (hw _ (List.mem_of_getElem? (i := 3) rfl)) (hw _ (List.mem_of_getElem? (i := 4) rfl)) (hw _ (List.mem_of_getElem? (i := 5) rfl)) (by decide) (rm1_32 l Z a0 hw [] b21 b7 k7 i0 i1 i2 i3 i4 v6 k21 h30 n0 Z30 F31 g_b7 Vw30 g_b21 lt_b21) (by decide) (by decide) e30 (by rw [hml]; rfl) (argsL := [(.ref b21), (.ref b7), (.int (0 : Int32))]) (rest := []) (lenOf pd_0 rfl) rfl (W := 0) (Nat.le_refl _) rfl (hb hby at_191) (by decide) (by decide) (pc' := 194) rfl (fun T64 L64 r64 X64 q64 => ?_)
  obtain ⟨N64, q64⟩ := q64
  have N64' := Fr.app N30 N64
  obtain ⟨v65, v66, v67, v68, v69, v70, v71, v72, v73, v74, v75, v76, v77, h78, h79, h80, h81, h82, h83, h84, h85, h86, h87, h88, h89, h90, rfl, F91, F92, Z93⟩ := q64
  show KEnds p e below s _ _ _ T64 (mkF m 194 #[.val (.long i0), .second, .val (.long i1), .second, .val (.long i2), .second, .val (.long i3), .second, .val (.long i4), .second, .val (.int i5), .val (.int (0 : Int32)), .val (.long v6), .second, .val (.ref b7), .val (.ref b21)] [])
  refine k_aload X64 hx (hb hby at_194) rfl rfl (pc' := 196) rfl ?_
  refine k_iconst X64 hx (hb hby at_196) (pc' := 197) rfl (z := (0 : Int32)) rfl ?_
  refine k_laload X64 hx hZ rfl F92 ⟨by decide, by decide⟩ (v := (.long v65)) rfl (hb hby at_197) (pc' := 198) rfl ?_
  refine k_aload X64 hx (hb hby at_198) rfl rfl (pc' := 200) rfl ?_
  refine k_iconst X64 hx (hb hby at_200) (pc' := 201) rfl (z := (1 : Int32)) rfl ?_
  refine k_laload X64 hx hZ rfl F92 ⟨by decide, by decide⟩ (v := (.long v67)) rfl (hb hby at_201) (pc' := 202) rfl ?_
  refine k_lloadN X64 hx (hb hby at_202) rfl (pc' := 203) rfl ?_
  refine k_callS X64 hx hZ hown (hw _ (List.mem_of_getElem? (i := 7) rfl)) (hw _ (List.mem_of_getElem? (i := 8) rfl)) (hw _ (List.mem_of_getElem? (i := 9) rfl)) (hw _ (List.mem_of_getElem? (i := 10) rfl)) (by decide) (rm2_94 l Z a0 hw [] v65 v67 i0 T64.heap n0 Z93 ) (by decide) (by decide) rfl (by rw [hml]; rfl) (argsL := [(.long v65), (.long v67), (.long i0)]) (rest := []) (lenOf pd_1 rfl) rfl (W := 0) (Nat.le_refl _) rfl (hb hby at_203) (by decide) (by decide) (pc' := 206) rfl (fun T103 L103 r103 X103 q103 => ?_)
  obtain ⟨N103, e103, q103⟩ := q103
  have N103' := Fr.app N64' N103
  rcases q103 with ⟨hc104, rfl⟩ | ⟨hc105, hc106, rfl⟩ | ⟨hc107, hc108, hc109, rfl⟩ | ⟨hc110, hc111, hc112, hc113, rfl⟩ | ⟨v114, v115, v116, h117, h118, h119, hc120, hc121, hc122, hc123, hc124, rfl⟩ | ⟨v125, v126, v127, h128, h129, h130, hc131, hc132, hc133, hc134, hc135, rfl⟩
  ·
   show KEnds p e below s _ _ _ T103 (mkF m 206 #[.val (.long i0), .second, .val (.long i1), .second, .val (.long i2), .second, .val (.long i3), .second, .val (.long i4), .second, .val (.int i5), .val (.int (0 : Int32)), .val (.long v6), .second, .val (.ref b7), .val (.ref b21)] [(.int (0 : Int32))])
   refine k_if_eq X103 hx (hb hby at_206) (pn := 209) rfl (py := 299) (by decide) (fun _ => ?_) (fun hc => absurd (by decide) hc)
   refine k_iconst X103 hx (hb hby at_299) (pc' := 300) rfl (z := (0 : Int32)) rfl ?_
   exfalso
   have := rng64 v65
   have := rng64 i0
   have : (536870911 : Int64).toInt = 536870911 := (by decide)
   have q136 : v65.toInt = i0.toInt % 536870912 := (by rw [h78]; exact c_maskL _ _ 29 (by decide) (by decide))
   have : (0 : Int64).toInt = 0 := (by decide)
   have q137 := hc104; rw [Int64.lt_iff_toInt_lt] at q137
   omega
  ·
   show KEnds p e below s _ _ _ T103 (mkF m 206 #[.val (.long i0), .second, .val (.long i1), .second, .val (.long i2), .second, .val (.long i3), .second, .val (.long i4), .second, .val (.int i5), .val (.int (0 : Int32)), .val (.long v6), .second, .val (.ref b7), .val (.ref b21)] [(.int (0 : Int32))])
   refine k_if_eq X103 hx (hb hby at_206) (pn := 209) rfl (py := 299) (by decide) (fun _ => ?_) (fun hc => absurd (by decide) hc)
   refine k_iconst X103 hx (hb hby at_299) (pc' := 300) rfl (z := (0 : Int32)) rfl ?_
   exfalso
   have := rng64 v65
   have := rng64 i0
   have : (536870911 : Int64).toInt = 536870911 := (by decide)
   have q138 : v65.toInt = i0.toInt % 536870912 := (by rw [h78]; exact c_maskL _ _ 29 (by decide) (by decide))
   have : (0 : Int64).toInt = 0 := (by decide)
   have q139 := hc105; rw [Int64.lt_iff_toInt_lt] at q139
   have q140 := hc106; rw [Int64.lt_iff_toInt_lt] at q140
   omega
  ·
   show KEnds p e below s _ _ _ T103 (mkF m 206 #[.val (.long i0), .second, .val (.long i1), .second, .val (.long i2), .second, .val (.long i3), .second, .val (.long i4), .second, .val (.int i5), .val (.int (0 : Int32)), .val (.long v6), .second, .val (.ref b7), .val (.ref b21)] [(.int (0 : Int32))])
   refine k_if_eq X103 hx (hb hby at_206) (pn := 209) rfl (py := 299) (by decide) (fun _ => ?_) (fun hc => absurd (by decide) hc)
   refine k_iconst X103 hx (hb hby at_299) (pc' := 300) rfl (z := (0 : Int32)) rfl ?_
   exfalso
   have := rng64 v65
   have := rng64 i0
   have : (536870911 : Int64).toInt = 536870911 := (by decide)
   have q141 : v65.toInt = i0.toInt % 536870912 := (by rw [h78]; exact c_maskL _ _ 29 (by decide) (by decide))
   have : (0 : Int64).toInt = 0 := (by decide)
   have q142 := hc107; rw [Int64.lt_iff_toInt_lt] at q142
   have q143 := hc108; rw [Int64.lt_iff_toInt_lt] at q143
   have := rng64 v67
   have := rng64 v66
   have : (29 : Int32).toInt = 29 := (by decide)
   have q144 : v66.toInt = (i0.toInt % 18446744073709551616) / 536870912 := (by rw [h79]; exact c_lushr _ _ 29 (by decide) (by decide))
   have q145 : v67.toInt = v66.toInt % 536870912 := (by rw [h80]; exact c_maskL _ _ 29 (by decide) (by decide))
   have q146 := hc109; rw [Int64.lt_iff_toInt_lt] at q146
   omega
  ·
   show KEnds p e below s _ _ _ T103 (mkF m 206 #[.val (.long i0), .second, .val (.long i1), .second, .val (.long i2), .second, .val (.long i3), .second, .val (.long i4), .second, .val (.int i5), .val (.int (0 : Int32)), .val (.long v6), .second, .val (.ref b7), .val (.ref b21)] [(.int (0 : Int32))])
   refine k_if_eq X103 hx (hb hby at_206) (pn := 209) rfl (py := 299) (by decide) (fun _ => ?_) (fun hc => absurd (by decide) hc)
   refine k_iconst X103 hx (hb hby at_299) (pc' := 300) rfl (z := (0 : Int32)) rfl ?_
   exfalso
   have := rng64 v65
   have := rng64 i0
   have : (536870911 : Int64).toInt = 536870911 := (by decide)
   have q147 : v65.toInt = i0.toInt % 536870912 := (by rw [h78]; exact c_maskL _ _ 29 (by decide) (by decide))
   have : (0 : Int64).toInt = 0 := (by decide)
   have q148 := hc110; rw [Int64.lt_iff_toInt_lt] at q148
   have q149 := hc111; rw [Int64.lt_iff_toInt_lt] at q149
   have := rng64 v67
   have := rng64 v66
   have : (29 : Int32).toInt = 29 := (by decide)
   have q150 : v66.toInt = (i0.toInt % 18446744073709551616) / 536870912 := (by rw [h79]; exact c_lushr _ _ 29 (by decide) (by decide))
   have q151 : v67.toInt = v66.toInt % 536870912 := (by rw [h80]; exact c_maskL _ _ 29 (by decide) (by decide))
   have q152 := hc112; rw [Int64.lt_iff_toInt_lt] at q152
   have q153 := hc113; rw [Int64.lt_iff_toInt_lt] at q153
   omega
  ·
   show KEnds p e below s _ _ _ T103 (mkF m 206 #[.val (.long i0), .second, .val (.long i1), .second, .val (.long i2), .second, .val (.long i3), .second, .val (.long i4), .second, .val (.int i5), .val (.int (0 : Int32)), .val (.long v6), .second, .val (.ref b7), .val (.ref b21)] [(.int (0 : Int32))])
   refine k_if_eq X103 hx (hb hby at_206) (pn := 209) rfl (py := 299) (by decide) (fun _ => ?_) (fun hc => absurd (by decide) hc)
   refine k_iconst X103 hx (hb hby at_299) (pc' := 300) rfl (z := (0 : Int32)) rfl ?_
   exfalso
   have := rng64 v65
   have := rng64 i0
   have : (536870911 : Int64).toInt = 536870911 := (by decide)
   have q154 : v65.toInt = i0.toInt % 536870912 := (by rw [h78]; exact c_maskL _ _ 29 (by decide) (by decide))
   have : (0 : Int64).toInt = 0 := (by decide)
   have q155 := hc120; rw [Int64.lt_iff_toInt_lt] at q155
   have q156 := hc121; rw [Int64.lt_iff_toInt_lt] at q156
   have := rng64 v67
   have := rng64 v66
   have : (29 : Int32).toInt = 29 := (by decide)
   have q157 : v66.toInt = (i0.toInt % 18446744073709551616) / 536870912 := (by rw [h79]; exact c_lushr _ _ 29 (by decide) (by decide))
   have q158 : v67.toInt = v66.toInt % 536870912 := (by rw [h80]; exact c_maskL _ _ 29 (by decide) (by decide))
   have q159 := hc122; rw [Int64.lt_iff_toInt_lt] at q159
   have q160 := hc123; rw [Int64.lt_iff_toInt_lt] at q160
   have := rng64 v115
   have := rng64 v114
   have q161 : (v114.toInt - v67.toInt * 536870912) % 18446744073709551616 = 0 := (by rw [h117]; exact c_lshl _ _ 29 (by decide))
   have q162 : (v115.toInt - (v65.toInt + v114.toInt)) % 18446744073709551616 = 0 := (by rw [h118]; exact c_ladd _ _)
   have := rng64 v116
   have : (288230376151711743 : Int64).toInt = 288230376151711743 := (by decide)
   have q163 : v116.toInt = i0.toInt % 288230376151711744 := (by rw [h119]; exact c_maskL _ _ 58 (by decide) (by decide))
   have q164 : ¬ v115.toInt = v116.toInt := fun q => hc124 (Int64.toInt_inj.mp q)
   omega
  ·
   show KEnds p e below s _ _ _ T103 (mkF m 206 #[.val (.long i0), .second, .val (.long i1), .second, .val (.long i2), .second, .val (.long i3), .second, .val (.long i4), .second, .val (.int i5), .val (.int (0 : Int32)), .val (.long v6), .second, .val (.ref b7), .val (.ref b21)] [(.int (1 : Int32))])
   refine k_if_eq X103 hx (hb hby at_206) (pn := 209) rfl (py := 299) (by decide) (fun hc => absurd hc (by decide)) (fun _ => ?_)
   refine k_aload X103 hx (hb hby at_209) rfl rfl (pc' := 211) rfl ?_
   refine k_iconst X103 hx (hb hby at_211) (pc' := 212) rfl (z := (2 : Int32)) rfl ?_
   refine k_laload X103 hx hZ e103 F92 ⟨by decide, by decide⟩ (v := (.long v68)) rfl (hb hby at_212) (pc' := 213) rfl ?_
   refine k_aload X103 hx (hb hby at_213) rfl rfl (pc' := 215) rfl ?_
   refine k_iconst X103 hx (hb hby at_215) (pc' := 216) rfl (z := (3 : Int32)) rfl ?_
   refine k_laload X103 hx hZ e103 F92 ⟨by decide, by decide⟩ (v := (.long v70)) rfl (hb hby at_216) (pc' := 217) rfl ?_
   refine k_lloadN X103 hx (hb hby at_217) rfl (pc' := 218) rfl ?_
   refine k_callS X103 hx hZ hown (hw _ (List.mem_of_getElem? (i := 7) rfl)) (hw _ (List.mem_of_getElem? (i := 8) rfl)) (hw _ (List.mem_of_getElem? (i := 9) rfl)) (hw _ (List.mem_of_getElem? (i := 10) rfl)) (by decide) (rm2_94 l Z a0 hw [] v68 v70 i1 T64.heap n0 Z93 ) (by decide) (by decide) e103 (by rw [hml]; rfl) (argsL := [(.long v68), (.long v70), (.long i1)]) (rest := []) (lenOf pd_1 rfl) rfl (W := 0) (Nat.le_refl _) rfl (hb hby at_218) (by decide) (by decide) (pc' := 221) rfl (fun T165 L165 r165 X165 q165 => ?_)
   obtain ⟨N165, e165, q165⟩ := q165
   have N165' := Fr.app N103' N165
   rcases q165 with ⟨hc166, rfl⟩ | ⟨hc167, hc168, rfl⟩ | ⟨hc169, hc170, hc171, rfl⟩ | ⟨hc172, hc173, hc174, hc175, rfl⟩ | ⟨v176, v177, v178, h179, h180, h181, hc182, hc183, hc184, hc185, hc186, rfl⟩ | ⟨v187, v188, v189, h190, h191, h192, hc193, hc194, hc195, hc196, hc197, rfl⟩
   ·
    show KEnds p e below s _ _ _ T165 (mkF m 221 #[.val (.long i0), .second, .val (.long i1), .second, .val (.long i2), .second, .val (.long i3), .second, .val (.long i4), .second, .val (.int i5), .val (.int (0 : Int32)), .val (.long v6), .second, .val (.ref b7), .val (.ref b21)] [(.int (0 : Int32))])
    refine k_if_eq X165 hx (hb hby at_221) (pn := 224) rfl (py := 299) (by decide) (fun _ => ?_) (fun hc => absurd (by decide) hc)
    refine k_iconst X165 hx (hb hby at_299) (pc' := 300) rfl (z := (0 : Int32)) rfl ?_
    exfalso
    have := rng64 v68
    have := rng64 i1
    have : (536870911 : Int64).toInt = 536870911 := (by decide)
    have q198 : v68.toInt = i1.toInt % 536870912 := (by rw [h81]; exact c_maskL _ _ 29 (by decide) (by decide))
    have : (0 : Int64).toInt = 0 := (by decide)
    have q199 := hc166; rw [Int64.lt_iff_toInt_lt] at q199
    omega
   ·
    show KEnds p e below s _ _ _ T165 (mkF m 221 #[.val (.long i0), .second, .val (.long i1), .second, .val (.long i2), .second, .val (.long i3), .second, .val (.long i4), .second, .val (.int i5), .val (.int (0 : Int32)), .val (.long v6), .second, .val (.ref b7), .val (.ref b21)] [(.int (0 : Int32))])
    refine k_if_eq X165 hx (hb hby at_221) (pn := 224) rfl (py := 299) (by decide) (fun _ => ?_) (fun hc => absurd (by decide) hc)
    refine k_iconst X165 hx (hb hby at_299) (pc' := 300) rfl (z := (0 : Int32)) rfl ?_
    exfalso
    have := rng64 v68
    have := rng64 i1
    have : (536870911 : Int64).toInt = 536870911 := (by decide)
    have q200 : v68.toInt = i1.toInt % 536870912 := (by rw [h81]; exact c_maskL _ _ 29 (by decide) (by decide))
    have : (0 : Int64).toInt = 0 := (by decide)
    have q201 := hc167; rw [Int64.lt_iff_toInt_lt] at q201
    have q202 := hc168; rw [Int64.lt_iff_toInt_lt] at q202
    omega
   ·
    show KEnds p e below s _ _ _ T165 (mkF m 221 #[.val (.long i0), .second, .val (.long i1), .second, .val (.long i2), .second, .val (.long i3), .second, .val (.long i4), .second, .val (.int i5), .val (.int (0 : Int32)), .val (.long v6), .second, .val (.ref b7), .val (.ref b21)] [(.int (0 : Int32))])
    refine k_if_eq X165 hx (hb hby at_221) (pn := 224) rfl (py := 299) (by decide) (fun _ => ?_) (fun hc => absurd (by decide) hc)
    refine k_iconst X165 hx (hb hby at_299) (pc' := 300) rfl (z := (0 : Int32)) rfl ?_
    exfalso
    have := rng64 v68
    have := rng64 i1
    have : (536870911 : Int64).toInt = 536870911 := (by decide)
    have q203 : v68.toInt = i1.toInt % 536870912 := (by rw [h81]; exact c_maskL _ _ 29 (by decide) (by decide))
    have : (0 : Int64).toInt = 0 := (by decide)
    have q204 := hc169; rw [Int64.lt_iff_toInt_lt] at q204
    have q205 := hc170; rw [Int64.lt_iff_toInt_lt] at q205
    have := rng64 v70
    have := rng64 v69
    have : (29 : Int32).toInt = 29 := (by decide)
    have q206 : v69.toInt = (i1.toInt % 18446744073709551616) / 536870912 := (by rw [h82]; exact c_lushr _ _ 29 (by decide) (by decide))
    have q207 : v70.toInt = v69.toInt % 536870912 := (by rw [h83]; exact c_maskL _ _ 29 (by decide) (by decide))
    have q208 := hc171; rw [Int64.lt_iff_toInt_lt] at q208
    omega
   ·
    show KEnds p e below s _ _ _ T165 (mkF m 221 #[.val (.long i0), .second, .val (.long i1), .second, .val (.long i2), .second, .val (.long i3), .second, .val (.long i4), .second, .val (.int i5), .val (.int (0 : Int32)), .val (.long v6), .second, .val (.ref b7), .val (.ref b21)] [(.int (0 : Int32))])
    refine k_if_eq X165 hx (hb hby at_221) (pn := 224) rfl (py := 299) (by decide) (fun _ => ?_) (fun hc => absurd (by decide) hc)
    refine k_iconst X165 hx (hb hby at_299) (pc' := 300) rfl (z := (0 : Int32)) rfl ?_
    exfalso
    have := rng64 v68
    have := rng64 i1
    have : (536870911 : Int64).toInt = 536870911 := (by decide)
    have q209 : v68.toInt = i1.toInt % 536870912 := (by rw [h81]; exact c_maskL _ _ 29 (by decide) (by decide))
    have : (0 : Int64).toInt = 0 := (by decide)
    have q210 := hc172; rw [Int64.lt_iff_toInt_lt] at q210
    have q211 := hc173; rw [Int64.lt_iff_toInt_lt] at q211
    have := rng64 v70
    have := rng64 v69
    have : (29 : Int32).toInt = 29 := (by decide)
    have q212 : v69.toInt = (i1.toInt % 18446744073709551616) / 536870912 := (by rw [h82]; exact c_lushr _ _ 29 (by decide) (by decide))
    have q213 : v70.toInt = v69.toInt % 536870912 := (by rw [h83]; exact c_maskL _ _ 29 (by decide) (by decide))
    have q214 := hc174; rw [Int64.lt_iff_toInt_lt] at q214
    have q215 := hc175; rw [Int64.lt_iff_toInt_lt] at q215
    omega
   ·
    show KEnds p e below s _ _ _ T165 (mkF m 221 #[.val (.long i0), .second, .val (.long i1), .second, .val (.long i2), .second, .val (.long i3), .second, .val (.long i4), .second, .val (.int i5), .val (.int (0 : Int32)), .val (.long v6), .second, .val (.ref b7), .val (.ref b21)] [(.int (0 : Int32))])
    refine k_if_eq X165 hx (hb hby at_221) (pn := 224) rfl (py := 299) (by decide) (fun _ => ?_) (fun hc => absurd (by decide) hc)
    refine k_iconst X165 hx (hb hby at_299) (pc' := 300) rfl (z := (0 : Int32)) rfl ?_
    exfalso
    have := rng64 v68
    have := rng64 i1
    have : (536870911 : Int64).toInt = 536870911 := (by decide)
    have q216 : v68.toInt = i1.toInt % 536870912 := (by rw [h81]; exact c_maskL _ _ 29 (by decide) (by decide))
    have : (0 : Int64).toInt = 0 := (by decide)
    have q217 := hc182; rw [Int64.lt_iff_toInt_lt] at q217
    have q218 := hc183; rw [Int64.lt_iff_toInt_lt] at q218
    have := rng64 v70
    have := rng64 v69
    have : (29 : Int32).toInt = 29 := (by decide)
    have q219 : v69.toInt = (i1.toInt % 18446744073709551616) / 536870912 := (by rw [h82]; exact c_lushr _ _ 29 (by decide) (by decide))
    have q220 : v70.toInt = v69.toInt % 536870912 := (by rw [h83]; exact c_maskL _ _ 29 (by decide) (by decide))
    have q221 := hc184; rw [Int64.lt_iff_toInt_lt] at q221
    have q222 := hc185; rw [Int64.lt_iff_toInt_lt] at q222
    have := rng64 v177
    have := rng64 v176
    have q223 : (v176.toInt - v70.toInt * 536870912) % 18446744073709551616 = 0 := (by rw [h179]; exact c_lshl _ _ 29 (by decide))
    have q224 : (v177.toInt - (v68.toInt + v176.toInt)) % 18446744073709551616 = 0 := (by rw [h180]; exact c_ladd _ _)
    have := rng64 v178
    have : (288230376151711743 : Int64).toInt = 288230376151711743 := (by decide)
    have q225 : v178.toInt = i1.toInt % 288230376151711744 := (by rw [h181]; exact c_maskL _ _ 58 (by decide) (by decide))
    have q226 : ¬ v177.toInt = v178.toInt := fun q => hc186 (Int64.toInt_inj.mp q)
    omega
   ·
    show KEnds p e below s _ _ _ T165 (mkF m 221 #[.val (.long i0), .second, .val (.long i1), .second, .val (.long i2), .second, .val (.long i3), .second, .val (.long i4), .second, .val (.int i5), .val (.int (0 : Int32)), .val (.long v6), .second, .val (.ref b7), .val (.ref b21)] [(.int (1 : Int32))])
    refine k_if_eq X165 hx (hb hby at_221) (pn := 224) rfl (py := 299) (by decide) (fun hc => absurd hc (by decide)) (fun _ => ?_)
    refine k_aload X165 hx (hb hby at_224) rfl rfl (pc' := 226) rfl ?_
    refine k_iconst X165 hx (hb hby at_226) (pc' := 227) rfl (z := (4 : Int32)) rfl ?_
    refine k_laload X165 hx hZ e165 F92 ⟨by decide, by decide⟩ (v := (.long v71)) rfl (hb hby at_227) (pc' := 228) rfl ?_
    refine k_aload X165 hx (hb hby at_228) rfl rfl (pc' := 230) rfl ?_
    refine k_iconst X165 hx (hb hby at_230) (pc' := 231) rfl (z := (5 : Int32)) rfl ?_
    refine k_laload X165 hx hZ e165 F92 ⟨by decide, by decide⟩ (v := (.long v73)) rfl (hb hby at_231) (pc' := 232) rfl ?_
    refine k_lload X165 hx (hb hby at_232) rfl (pc' := 234) rfl ?_
    refine k_callS X165 hx hZ hown (hw _ (List.mem_of_getElem? (i := 7) rfl)) (hw _ (List.mem_of_getElem? (i := 8) rfl)) (hw _ (List.mem_of_getElem? (i := 9) rfl)) (hw _ (List.mem_of_getElem? (i := 10) rfl)) (by decide) (rm2_94 l Z a0 hw [] v71 v73 i2 T64.heap n0 Z93 ) (by decide) (by decide) e165 (by rw [hml]; rfl) (argsL := [(.long v71), (.long v73), (.long i2)]) (rest := []) (lenOf pd_1 rfl) rfl (W := 0) (Nat.le_refl _) rfl (hb hby at_234) (by decide) (by decide) (pc' := 237) rfl (fun T227 L227 r227 X227 q227 => ?_)
    obtain ⟨N227, e227, q227⟩ := q227
    have N227' := Fr.app N165' N227
    rcases q227 with ⟨hc228, rfl⟩ | ⟨hc229, hc230, rfl⟩ | ⟨hc231, hc232, hc233, rfl⟩ | ⟨hc234, hc235, hc236, hc237, rfl⟩ | ⟨v238, v239, v240, h241, h242, h243, hc244, hc245, hc246, hc247, hc248, rfl⟩ | ⟨v249, v250, v251, h252, h253, h254, hc255, hc256, hc257, hc258, hc259, rfl⟩
    ·
     show KEnds p e below s _ _ _ T227 (mkF m 237 #[.val (.long i0), .second, .val (.long i1), .second, .val (.long i2), .second, .val (.long i3), .second, .val (.long i4), .second, .val (.int i5), .val (.int (0 : Int32)), .val (.long v6), .second, .val (.ref b7), .val (.ref b21)] [(.int (0 : Int32))])
     refine k_if_eq X227 hx (hb hby at_237) (pn := 240) rfl (py := 299) (by decide) (fun _ => ?_) (fun hc => absurd (by decide) hc)
     refine k_iconst X227 hx (hb hby at_299) (pc' := 300) rfl (z := (0 : Int32)) rfl ?_
     exfalso
     have := rng64 v71
     have := rng64 i2
     have : (536870911 : Int64).toInt = 536870911 := (by decide)
     have q260 : v71.toInt = i2.toInt % 536870912 := (by rw [h84]; exact c_maskL _ _ 29 (by decide) (by decide))
     have : (0 : Int64).toInt = 0 := (by decide)
     have q261 := hc228; rw [Int64.lt_iff_toInt_lt] at q261
     omega
    ·
     show KEnds p e below s _ _ _ T227 (mkF m 237 #[.val (.long i0), .second, .val (.long i1), .second, .val (.long i2), .second, .val (.long i3), .second, .val (.long i4), .second, .val (.int i5), .val (.int (0 : Int32)), .val (.long v6), .second, .val (.ref b7), .val (.ref b21)] [(.int (0 : Int32))])
     refine k_if_eq X227 hx (hb hby at_237) (pn := 240) rfl (py := 299) (by decide) (fun _ => ?_) (fun hc => absurd (by decide) hc)
     refine k_iconst X227 hx (hb hby at_299) (pc' := 300) rfl (z := (0 : Int32)) rfl ?_
     exfalso
     have := rng64 v71
     have := rng64 i2
     have : (536870911 : Int64).toInt = 536870911 := (by decide)
     have q262 : v71.toInt = i2.toInt % 536870912 := (by rw [h84]; exact c_maskL _ _ 29 (by decide) (by decide))
     have : (0 : Int64).toInt = 0 := (by decide)
     have q263 := hc229; rw [Int64.lt_iff_toInt_lt] at q263
     have q264 := hc230; rw [Int64.lt_iff_toInt_lt] at q264
     omega
    ·
     show KEnds p e below s _ _ _ T227 (mkF m 237 #[.val (.long i0), .second, .val (.long i1), .second, .val (.long i2), .second, .val (.long i3), .second, .val (.long i4), .second, .val (.int i5), .val (.int (0 : Int32)), .val (.long v6), .second, .val (.ref b7), .val (.ref b21)] [(.int (0 : Int32))])
     refine k_if_eq X227 hx (hb hby at_237) (pn := 240) rfl (py := 299) (by decide) (fun _ => ?_) (fun hc => absurd (by decide) hc)
     refine k_iconst X227 hx (hb hby at_299) (pc' := 300) rfl (z := (0 : Int32)) rfl ?_
     exfalso
     have := rng64 v71
     have := rng64 i2
     have : (536870911 : Int64).toInt = 536870911 := (by decide)
     have q265 : v71.toInt = i2.toInt % 536870912 := (by rw [h84]; exact c_maskL _ _ 29 (by decide) (by decide))
     have : (0 : Int64).toInt = 0 := (by decide)
     have q266 := hc231; rw [Int64.lt_iff_toInt_lt] at q266
     have q267 := hc232; rw [Int64.lt_iff_toInt_lt] at q267
     have := rng64 v73
     have := rng64 v72
     have : (29 : Int32).toInt = 29 := (by decide)
     have q268 : v72.toInt = (i2.toInt % 18446744073709551616) / 536870912 := (by rw [h85]; exact c_lushr _ _ 29 (by decide) (by decide))
     have q269 : v73.toInt = v72.toInt % 536870912 := (by rw [h86]; exact c_maskL _ _ 29 (by decide) (by decide))
     have q270 := hc233; rw [Int64.lt_iff_toInt_lt] at q270
     omega
    ·
     show KEnds p e below s _ _ _ T227 (mkF m 237 #[.val (.long i0), .second, .val (.long i1), .second, .val (.long i2), .second, .val (.long i3), .second, .val (.long i4), .second, .val (.int i5), .val (.int (0 : Int32)), .val (.long v6), .second, .val (.ref b7), .val (.ref b21)] [(.int (0 : Int32))])
     refine k_if_eq X227 hx (hb hby at_237) (pn := 240) rfl (py := 299) (by decide) (fun _ => ?_) (fun hc => absurd (by decide) hc)
     refine k_iconst X227 hx (hb hby at_299) (pc' := 300) rfl (z := (0 : Int32)) rfl ?_
     exfalso
     have := rng64 v71
     have := rng64 i2
     have : (536870911 : Int64).toInt = 536870911 := (by decide)
     have q271 : v71.toInt = i2.toInt % 536870912 := (by rw [h84]; exact c_maskL _ _ 29 (by decide) (by decide))
     have : (0 : Int64).toInt = 0 := (by decide)
     have q272 := hc234; rw [Int64.lt_iff_toInt_lt] at q272
     have q273 := hc235; rw [Int64.lt_iff_toInt_lt] at q273
     have := rng64 v73
     have := rng64 v72
     have : (29 : Int32).toInt = 29 := (by decide)
     have q274 : v72.toInt = (i2.toInt % 18446744073709551616) / 536870912 := (by rw [h85]; exact c_lushr _ _ 29 (by decide) (by decide))
     have q275 : v73.toInt = v72.toInt % 536870912 := (by rw [h86]; exact c_maskL _ _ 29 (by decide) (by decide))
     have q276 := hc236; rw [Int64.lt_iff_toInt_lt] at q276
     have q277 := hc237; rw [Int64.lt_iff_toInt_lt] at q277
     omega
    ·
     show KEnds p e below s _ _ _ T227 (mkF m 237 #[.val (.long i0), .second, .val (.long i1), .second, .val (.long i2), .second, .val (.long i3), .second, .val (.long i4), .second, .val (.int i5), .val (.int (0 : Int32)), .val (.long v6), .second, .val (.ref b7), .val (.ref b21)] [(.int (0 : Int32))])
     refine k_if_eq X227 hx (hb hby at_237) (pn := 240) rfl (py := 299) (by decide) (fun _ => ?_) (fun hc => absurd (by decide) hc)
     refine k_iconst X227 hx (hb hby at_299) (pc' := 300) rfl (z := (0 : Int32)) rfl ?_
     exfalso
     have := rng64 v71
     have := rng64 i2
     have : (536870911 : Int64).toInt = 536870911 := (by decide)
     have q278 : v71.toInt = i2.toInt % 536870912 := (by rw [h84]; exact c_maskL _ _ 29 (by decide) (by decide))
     have : (0 : Int64).toInt = 0 := (by decide)
     have q279 := hc244; rw [Int64.lt_iff_toInt_lt] at q279
     have q280 := hc245; rw [Int64.lt_iff_toInt_lt] at q280
     have := rng64 v73
     have := rng64 v72
     have : (29 : Int32).toInt = 29 := (by decide)
     have q281 : v72.toInt = (i2.toInt % 18446744073709551616) / 536870912 := (by rw [h85]; exact c_lushr _ _ 29 (by decide) (by decide))
     have q282 : v73.toInt = v72.toInt % 536870912 := (by rw [h86]; exact c_maskL _ _ 29 (by decide) (by decide))
     have q283 := hc246; rw [Int64.lt_iff_toInt_lt] at q283
     have q284 := hc247; rw [Int64.lt_iff_toInt_lt] at q284
     have := rng64 v239
     have := rng64 v238
     have q285 : (v238.toInt - v73.toInt * 536870912) % 18446744073709551616 = 0 := (by rw [h241]; exact c_lshl _ _ 29 (by decide))
     have q286 : (v239.toInt - (v71.toInt + v238.toInt)) % 18446744073709551616 = 0 := (by rw [h242]; exact c_ladd _ _)
     have := rng64 v240
     have : (288230376151711743 : Int64).toInt = 288230376151711743 := (by decide)
     have q287 : v240.toInt = i2.toInt % 288230376151711744 := (by rw [h243]; exact c_maskL _ _ 58 (by decide) (by decide))
     have q288 : ¬ v239.toInt = v240.toInt := fun q => hc248 (Int64.toInt_inj.mp q)
     omega
    ·
     show KEnds p e below s _ _ _ T227 (mkF m 237 #[.val (.long i0), .second, .val (.long i1), .second, .val (.long i2), .second, .val (.long i3), .second, .val (.long i4), .second, .val (.int i5), .val (.int (0 : Int32)), .val (.long v6), .second, .val (.ref b7), .val (.ref b21)] [(.int (1 : Int32))])
     refine k_if_eq X227 hx (hb hby at_237) (pn := 240) rfl (py := 299) (by decide) (fun hc => absurd hc (by decide)) (fun _ => ?_)
     refine k_aload X227 hx (hb hby at_240) rfl rfl (pc' := 242) rfl ?_
     refine k_bipush X227 hx (hb hby at_242) (pc' := 244) rfl (z := (6 : Int32)) rfl ?_
     refine k_laload X227 hx hZ e227 F92 ⟨by decide, by decide⟩ (v := (.long v74)) rfl (hb hby at_244) (pc' := 245) rfl ?_
     refine k_aload X227 hx (hb hby at_245) rfl rfl (pc' := 247) rfl ?_
     refine k_bipush X227 hx (hb hby at_247) (pc' := 249) rfl (z := (7 : Int32)) rfl ?_
     refine k_laload X227 hx hZ e227 F92 ⟨by decide, by decide⟩ (v := (.long v76)) rfl (hb hby at_249) (pc' := 250) rfl ?_
     refine k_lload X227 hx (hb hby at_250) rfl (pc' := 252) rfl ?_
     refine k_callS X227 hx hZ hown (hw _ (List.mem_of_getElem? (i := 7) rfl)) (hw _ (List.mem_of_getElem? (i := 8) rfl)) (hw _ (List.mem_of_getElem? (i := 9) rfl)) (hw _ (List.mem_of_getElem? (i := 10) rfl)) (by decide) (rm2_94 l Z a0 hw [] v74 v76 i3 T64.heap n0 Z93 ) (by decide) (by decide) e227 (by rw [hml]; rfl) (argsL := [(.long v74), (.long v76), (.long i3)]) (rest := []) (lenOf pd_1 rfl) rfl (W := 0) (Nat.le_refl _) rfl (hb hby at_252) (by decide) (by decide) (pc' := 255) rfl (fun T289 L289 r289 X289 q289 => ?_)
     obtain ⟨N289, e289, q289⟩ := q289
     have N289' := Fr.app N227' N289
     rcases q289 with ⟨hc290, rfl⟩ | ⟨hc291, hc292, rfl⟩ | ⟨hc293, hc294, hc295, rfl⟩ | ⟨hc296, hc297, hc298, hc299, rfl⟩ | ⟨v300, v301, v302, h303, h304, h305, hc306, hc307, hc308, hc309, hc310, rfl⟩ | ⟨v311, v312, v313, h314, h315, h316, hc317, hc318, hc319, hc320, hc321, rfl⟩
     ·
      show KEnds p e below s _ _ _ T289 (mkF m 255 #[.val (.long i0), .second, .val (.long i1), .second, .val (.long i2), .second, .val (.long i3), .second, .val (.long i4), .second, .val (.int i5), .val (.int (0 : Int32)), .val (.long v6), .second, .val (.ref b7), .val (.ref b21)] [(.int (0 : Int32))])
      refine k_if_eq X289 hx (hb hby at_255) (pn := 258) rfl (py := 299) (by decide) (fun _ => ?_) (fun hc => absurd (by decide) hc)
      refine k_iconst X289 hx (hb hby at_299) (pc' := 300) rfl (z := (0 : Int32)) rfl ?_
      exfalso
      have := rng64 v74
      have := rng64 i3
      have : (536870911 : Int64).toInt = 536870911 := (by decide)
      have q322 : v74.toInt = i3.toInt % 536870912 := (by rw [h87]; exact c_maskL _ _ 29 (by decide) (by decide))
      have : (0 : Int64).toInt = 0 := (by decide)
      have q323 := hc290; rw [Int64.lt_iff_toInt_lt] at q323
      omega
     ·
      show KEnds p e below s _ _ _ T289 (mkF m 255 #[.val (.long i0), .second, .val (.long i1), .second, .val (.long i2), .second, .val (.long i3), .second, .val (.long i4), .second, .val (.int i5), .val (.int (0 : Int32)), .val (.long v6), .second, .val (.ref b7), .val (.ref b21)] [(.int (0 : Int32))])
      refine k_if_eq X289 hx (hb hby at_255) (pn := 258) rfl (py := 299) (by decide) (fun _ => ?_) (fun hc => absurd (by decide) hc)
      refine k_iconst X289 hx (hb hby at_299) (pc' := 300) rfl (z := (0 : Int32)) rfl ?_
      exfalso
      have := rng64 v74
      have := rng64 i3
      have : (536870911 : Int64).toInt = 536870911 := (by decide)
      have q324 : v74.toInt = i3.toInt % 536870912 := (by rw [h87]; exact c_maskL _ _ 29 (by decide) (by decide))
      have : (0 : Int64).toInt = 0 := (by decide)
      have q325 := hc291; rw [Int64.lt_iff_toInt_lt] at q325
      have q326 := hc292; rw [Int64.lt_iff_toInt_lt] at q326
      omega
     ·
      show KEnds p e below s _ _ _ T289 (mkF m 255 #[.val (.long i0), .second, .val (.long i1), .second, .val (.long i2), .second, .val (.long i3), .second, .val (.long i4), .second, .val (.int i5), .val (.int (0 : Int32)), .val (.long v6), .second, .val (.ref b7), .val (.ref b21)] [(.int (0 : Int32))])
      refine k_if_eq X289 hx (hb hby at_255) (pn := 258) rfl (py := 299) (by decide) (fun _ => ?_) (fun hc => absurd (by decide) hc)
      refine k_iconst X289 hx (hb hby at_299) (pc' := 300) rfl (z := (0 : Int32)) rfl ?_
      exfalso
      have := rng64 v74
      have := rng64 i3
      have : (536870911 : Int64).toInt = 536870911 := (by decide)
      have q327 : v74.toInt = i3.toInt % 536870912 := (by rw [h87]; exact c_maskL _ _ 29 (by decide) (by decide))
      have : (0 : Int64).toInt = 0 := (by decide)
      have q328 := hc293; rw [Int64.lt_iff_toInt_lt] at q328
      have q329 := hc294; rw [Int64.lt_iff_toInt_lt] at q329
      have := rng64 v76
      have := rng64 v75
      have : (29 : Int32).toInt = 29 := (by decide)
      have q330 : v75.toInt = (i3.toInt % 18446744073709551616) / 536870912 := (by rw [h88]; exact c_lushr _ _ 29 (by decide) (by decide))
      have q331 : v76.toInt = v75.toInt % 536870912 := (by rw [h89]; exact c_maskL _ _ 29 (by decide) (by decide))
      have q332 := hc295; rw [Int64.lt_iff_toInt_lt] at q332
      omega
     ·
      show KEnds p e below s _ _ _ T289 (mkF m 255 #[.val (.long i0), .second, .val (.long i1), .second, .val (.long i2), .second, .val (.long i3), .second, .val (.long i4), .second, .val (.int i5), .val (.int (0 : Int32)), .val (.long v6), .second, .val (.ref b7), .val (.ref b21)] [(.int (0 : Int32))])
      refine k_if_eq X289 hx (hb hby at_255) (pn := 258) rfl (py := 299) (by decide) (fun _ => ?_) (fun hc => absurd (by decide) hc)
      refine k_iconst X289 hx (hb hby at_299) (pc' := 300) rfl (z := (0 : Int32)) rfl ?_
      exfalso
      have := rng64 v74
      have := rng64 i3
      have : (536870911 : Int64).toInt = 536870911 := (by decide)
      have q333 : v74.toInt = i3.toInt % 536870912 := (by rw [h87]; exact c_maskL _ _ 29 (by decide) (by decide))
      have : (0 : Int64).toInt = 0 := (by decide)
      have q334 := hc296; rw [Int64.lt_iff_toInt_lt] at q334
      have q335 := hc297; rw [Int64.lt_iff_toInt_lt] at q335
      have := rng64 v76
      have := rng64 v75
      have : (29 : Int32).toInt = 29 := (by decide)
      have q336 : v75.toInt = (i3.toInt % 18446744073709551616) / 536870912 := (by rw [h88]; exact c_lushr _ _ 29 (by decide) (by decide))
      have q337 : v76.toInt = v75.toInt % 536870912 := (by rw [h89]; exact c_maskL _ _ 29 (by decide) (by decide))
      have q338 := hc298; rw [Int64.lt_iff_toInt_lt] at q338
      have q339 := hc299; rw [Int64.lt_iff_toInt_lt] at q339
      omega
     ·
      show KEnds p e below s _ _ _ T289 (mkF m 255 #[.val (.long i0), .second, .val (.long i1), .second, .val (.long i2), .second, .val (.long i3), .second, .val (.long i4), .second, .val (.int i5), .val (.int (0 : Int32)), .val (.long v6), .second, .val (.ref b7), .val (.ref b21)] [(.int (0 : Int32))])
      refine k_if_eq X289 hx (hb hby at_255) (pn := 258) rfl (py := 299) (by decide) (fun _ => ?_) (fun hc => absurd (by decide) hc)
      refine k_iconst X289 hx (hb hby at_299) (pc' := 300) rfl (z := (0 : Int32)) rfl ?_
      exfalso
      have := rng64 v74
      have := rng64 i3
      have : (536870911 : Int64).toInt = 536870911 := (by decide)
      have q340 : v74.toInt = i3.toInt % 536870912 := (by rw [h87]; exact c_maskL _ _ 29 (by decide) (by decide))
      have : (0 : Int64).toInt = 0 := (by decide)
      have q341 := hc306; rw [Int64.lt_iff_toInt_lt] at q341
      have q342 := hc307; rw [Int64.lt_iff_toInt_lt] at q342
      have := rng64 v76
      have := rng64 v75
      have : (29 : Int32).toInt = 29 := (by decide)
      have q343 : v75.toInt = (i3.toInt % 18446744073709551616) / 536870912 := (by rw [h88]; exact c_lushr _ _ 29 (by decide) (by decide))
      have q344 : v76.toInt = v75.toInt % 536870912 := (by rw [h89]; exact c_maskL _ _ 29 (by decide) (by decide))
      have q345 := hc308; rw [Int64.lt_iff_toInt_lt] at q345
      have q346 := hc309; rw [Int64.lt_iff_toInt_lt] at q346
      have := rng64 v301
      have := rng64 v300
      have q347 : (v300.toInt - v76.toInt * 536870912) % 18446744073709551616 = 0 := (by rw [h303]; exact c_lshl _ _ 29 (by decide))
      have q348 : (v301.toInt - (v74.toInt + v300.toInt)) % 18446744073709551616 = 0 := (by rw [h304]; exact c_ladd _ _)
      have := rng64 v302
      have : (288230376151711743 : Int64).toInt = 288230376151711743 := (by decide)
      have q349 : v302.toInt = i3.toInt % 288230376151711744 := (by rw [h305]; exact c_maskL _ _ 58 (by decide) (by decide))
      have q350 : ¬ v301.toInt = v302.toInt := fun q => hc310 (Int64.toInt_inj.mp q)
      omega
     ·
      show KEnds p e below s _ _ _ T289 (mkF m 255 #[.val (.long i0), .second, .val (.long i1), .second, .val (.long i2), .second, .val (.long i3), .second, .val (.long i4), .second, .val (.int i5), .val (.int (0 : Int32)), .val (.long v6), .second, .val (.ref b7), .val (.ref b21)] [(.int (1 : Int32))])
      refine k_if_eq X289 hx (hb hby at_255) (pn := 258) rfl (py := 299) (by decide) (fun hc => absurd hc (by decide)) (fun _ => ?_)
      refine k_aload X289 hx (hb hby at_258) rfl rfl (pc' := 260) rfl ?_
      refine k_bipush X289 hx (hb hby at_260) (pc' := 262) rfl (z := (8 : Int32)) rfl ?_
      refine k_laload X289 hx hZ e289 F92 ⟨by decide, by decide⟩ (v := (.long v77)) rfl (hb hby at_262) (pc' := 263) rfl ?_
      refine k_lconst X289 hx (hb hby at_263) (pc' := 264) rfl (z := (0 : Int64)) rfl ?_
      refine k_lcif_lt X289 hx (hb hby at_264) (pm := 265) rfl (hb hby at_265) (pn := 268) rfl (py := 299) (by decide) (fun hc351 => ?_) (fun hc351 => ?_)
      ·
       refine k_iconst X289 hx (hb hby at_299) (pc' := 300) rfl (z := (0 : Int32)) rfl ?_
       exfalso
       have := rng64 v77
       have := rng64 i4
       have : (536870911 : Int64).toInt = 536870911 := (by decide)
       have q352 : v77.toInt = i4.toInt % 536870912 := (by rw [h90]; exact c_maskL _ _ 29 (by decide) (by decide))
       have : (0 : Int64).toInt = 0 := (by decide)
       have q353 := hc351; rw [Int64.lt_iff_toInt_lt] at q353
       omega
      ·
       refine k_aload X289 hx (hb hby at_268) rfl rfl (pc' := 270) rfl ?_
       refine k_bipush X289 hx (hb hby at_270) (pc' := 272) rfl (z := (8 : Int32)) rfl ?_
       refine k_laload X289 hx hZ e289 F92 ⟨by decide, by decide⟩ (v := (.long v77)) rfl (hb hby at_272) (pc' := 273) rfl ?_
       refine k_ldcL X289 hx hZ hown (hw _ (List.mem_of_getElem? (i := 11) rfl)) (hb hby at_273) (pc' := 276) rfl ?_
       refine k_lcif_gt X289 hx (hb hby at_276) (pm := 277) rfl (hb hby at_277) (pn := 280) rfl (py := 299) (by decide) (fun hc354 => ?_) (fun hc354 => ?_)
       ·
        refine k_iconst X289 hx (hb hby at_299) (pc' := 300) rfl (z := (0 : Int32)) rfl ?_
        exfalso
        have := rng64 v77
        have := rng64 i4
        have : (536870911 : Int64).toInt = 536870911 := (by decide)
        have q355 : v77.toInt = i4.toInt % 536870912 := (by rw [h90]; exact c_maskL _ _ 29 (by decide) (by decide))
        have : (0 : Int64).toInt = 0 := (by decide)
        have q356 := hc351; rw [Int64.lt_iff_toInt_lt] at q356
        have q357 := hc354; rw [Int64.lt_iff_toInt_lt] at q357
        omega
       ·
        refine k_aload X289 hx (hb hby at_280) rfl rfl (pc' := 282) rfl ?_
        refine k_bipush X289 hx (hb hby at_282) (pc' := 284) rfl (z := (8 : Int32)) rfl ?_
        refine k_laload X289 hx hZ e289 F92 ⟨by decide, by decide⟩ (v := (.long v77)) rfl (hb hby at_284) (pc' := 285) rfl ?_
        refine k_lload X289 hx (hb hby at_285) rfl (pc' := 287) rfl ?_
        refine k_ldcL X289 hx hZ hown (hw _ (List.mem_of_getElem? (i := 11) rfl)) (hb hby at_287) (pc' := 290) rfl ?_
        refine k_landL X289 hx (hb hby at_290) (pc' := 291) rfl (z := v77) h90.symm ?_
        refine k_lcif_ne X289 hx (hb hby at_291) (pm := 292) rfl (hb hby at_292) (pn := 295) rfl (py := 299) (by decide) (fun hc => absurd rfl hc) (fun _ => ?_)
        refine k_iconst X289 hx (hb hby at_295) (pc' := 296) rfl (z := (1 : Int32)) rfl ?_
        refine k_goto X289 hx (hb hby at_296) (pc' := 300) (by decide) ?_
        exact k_retN X289 hx (t := .boolean) Bd.returns (by simp) (hb hby at_300) hlk (by decide) (by decide) (z' := (1 : Int32)) rfl ⟨rfl, N289'⟩
 ·
  show KEnds p e below s _ _ _ s₁ (mkF m 4 #[.val (.long i0), .second, .val (.long i1), .second, .val (.long i2), .second, .val (.long i3), .second, .val (.long i4), .second, .val (.int i5), .unset, .unset, .unset, .unset, .unset] [(.int (1 : Int32))])
  refine k_istore X0 hx (hb hby at_4) (Ls' := #[.val (.long i0), .second, .val (.long i1), .second, .val (.long i2), .second, .val (.long i3), .second, .val (.long i4), .second, .val (.int i5), .val (.int (1 : Int32)), .unset, .unset, .unset, .unset]) rfl (pc' := 6) rfl ?_
  refine k_lloadN X0 hx (hb hby at_6) rfl (pc' := 7) rfl ?_
  refine k_lload X0 hx (hb hby at_7) rfl (pc' := 9) rfl ?_
  refine k_lxor X0 hx (hb hby at_9) (pc' := 10) rfl (fun v359 hv359 => ?_)
  refine k_ldcL X0 hx hZ hown (hw _ (List.mem_of_getElem? (i := 0) rfl)) (hb hby at_10) (pc' := 13) rfl ?_
  refine k_lxor X0 hx (hb hby at_13) (pc' := 14) rfl (fun v360 hv360 => ?_)
  refine k_lstore X0 hx (hb hby at_14) (Ls' := #[.val (.long i0), .second, .val (.long i1), .second, .val (.long i2), .second, .val (.long i3), .second, .val (.long i4), .second, .val (.int i5), .val (.int (1 : Int32)), .val (.long v360), .second, .unset, .unset]) rfl (pc' := 16) rfl ?_
  refine k_bipush X0 hx (hb hby at_16) (pc' := 18) rfl (z := (8 : Int32)) rfl ?_
  refine k_newA X0 hx hZ (hw _ (List.mem_of_getElem? (i := 1) rfl)) e0 (hb hby at_18) (by decide) (cap := 8) (by decide) (by decide) (by decide) (by decide) (pc' := 20) rfl (fun T361 h361 b361 k361 g361 X361 e361 E361 V361 => ?_)
  have g_b361 : n0 ≤ b361 := Nat.le_trans Z0 (Nat.le_of_eq g361.symm)
  have Z361 : n0 ≤ h361.size := Nat.le_trans Z0 E361.1
  have Vw361 : Arv Z h361 b361 k361 .long (8 : Int32) [(.long (0 : Int64)), (.long (0 : Int64)), (.long (0 : Int64)), (.long (0 : Int64)), (.long (0 : Int64)), (.long (0 : Int64)), (.long (0 : Int64)), (.long (0 : Int64))] (.long (0 : Int64)) := V361
  refine k_astore X361 hx (hb hby at_20) rfl (Ls' := #[.val (.long i0), .second, .val (.long i1), .second, .val (.long i2), .second, .val (.long i3), .second, .val (.long i4), .second, .val (.int i5), .val (.int (1 : Int32)), .val (.long v360), .second, .val (.ref b361), .unset]) rfl (pc' := 22) rfl ?_
  refine k_aload X361 hx (hb hby at_22) rfl rfl (pc' := 24) rfl ?_
  refine k_iconst X361 hx (hb hby at_24) (pc' := 25) rfl (z := (0 : Int32)) rfl ?_
  refine k_lload X361 hx (hb hby at_25) rfl (pc' := 27) rfl ?_
  refine k_lastore X361 hx hZ e361 Vw361 ⟨by decide, by decide⟩ (i := 0) rfl (Nat.le_of_ble_eq_true rfl) (hb hby at_27) (pc' := 28) rfl (fun T362 h362 X362 e362 W362 V362 => ?_)
  have Vw362 : Arv Z h362 b361 k361 .long (8 : Int32) [(.long v360), (.long (0 : Int64)), (.long (0 : Int64)), (.long (0 : Int64)), (.long (0 : Int64)), (.long (0 : Int64)), (.long (0 : Int64)), (.long (0 : Int64))] (.long (0 : Int64)) := V362
  have N362 := Fr.snoc X362 N0 g_b361
  have Z362 : n0 ≤ h362.size := Nat.le_trans Z361 (Nat.le_of_eq W362.size.symm)
  refine k_aload X362 hx (hb hby at_28) rfl rfl (pc' := 30) rfl ?_
  refine k_iconst X362 hx (hb hby at_30) (pc' := 31) rfl (z := (1 : Int32)) rfl ?_
  refine k_lload X362 hx (hb hby at_31) rfl (pc' := 33) rfl ?_
  refine k_lastore X362 hx hZ e362 Vw362 ⟨by decide, by decide⟩ (i := 1) rfl (Nat.le_of_ble_eq_true rfl) (hb hby at_33) (pc' := 34) rfl (fun T363 h363 X363 e363 W363 V363 => ?_)
  have Vw363 : Arv Z h363 b361 k361 .long (8 : Int32) [(.long v360), (.long v360), (.long (0 : Int64)), (.long (0 : Int64)), (.long (0 : Int64)), (.long (0 : Int64)), (.long (0 : Int64)), (.long (0 : Int64))] (.long (0 : Int64)) := V363
  have N363 := Fr.snoc X363 N362 g_b361
  have Z363 : n0 ≤ h363.size := Nat.le_trans Z362 (Nat.le_of_eq W363.size.symm)
  refine k_aload X363 hx (hb hby at_34) rfl rfl (pc' := 36) rfl ?_
  refine k_iconst X363 hx (hb hby at_36) (pc' := 37) rfl (z := (2 : Int32)) rfl ?_
  refine k_lload X363 hx (hb hby at_37) rfl (pc' := 39) rfl ?_
  refine k_lastore X363 hx hZ e363 Vw363 ⟨by decide, by decide⟩ (i := 2) rfl (Nat.le_of_ble_eq_true rfl) (hb hby at_39) (pc' := 40) rfl (fun T364 h364 X364 e364 W364 V364 => ?_)
  have Vw364 : Arv Z h364 b361 k361 .long (8 : Int32) [(.long v360), (.long v360), (.long v360), (.long (0 : Int64)), (.long (0 : Int64)), (.long (0 : Int64)), (.long (0 : Int64)), (.long (0 : Int64))] (.long (0 : Int64)) := V364
  have N364 := Fr.snoc X364 N363 g_b361
  have Z364 : n0 ≤ h364.size := Nat.le_trans Z363 (Nat.le_of_eq W364.size.symm)
  refine k_aload X364 hx (hb hby at_40) rfl rfl (pc' := 42) rfl ?_
  refine k_iconst X364 hx (hb hby at_42) (pc' := 43) rfl (z := (3 : Int32)) rfl ?_
  refine k_lload X364 hx (hb hby at_43) rfl (pc' := 45) rfl ?_
  refine k_lastore X364 hx hZ e364 Vw364 ⟨by decide, by decide⟩ (i := 3) rfl (Nat.le_of_ble_eq_true rfl) (hb hby at_45) (pc' := 46) rfl (fun T365 h365 X365 e365 W365 V365 => ?_)
  have Vw365 : Arv Z h365 b361 k361 .long (8 : Int32) [(.long v360), (.long v360), (.long v360), (.long v360), (.long (0 : Int64)), (.long (0 : Int64)), (.long (0 : Int64)), (.long (0 : Int64))] (.long (0 : Int64)) := V365
  have N365 := Fr.snoc X365 N364 g_b361
  have Z365 : n0 ≤ h365.size := Nat.le_trans Z364 (Nat.le_of_eq W365.size.symm)
  refine k_aload X365 hx (hb hby at_46) rfl rfl (pc' := 48) rfl ?_
  refine k_iconst X365 hx (hb hby at_48) (pc' := 49) rfl (z := (4 : Int32)) rfl ?_
  refine k_lload X365 hx (hb hby at_49) rfl (pc' := 51) rfl ?_
  refine k_lastore X365 hx hZ e365 Vw365 ⟨by decide, by decide⟩ (i := 4) rfl (Nat.le_of_ble_eq_true rfl) (hb hby at_51) (pc' := 52) rfl (fun T366 h366 X366 e366 W366 V366 => ?_)
  have Vw366 : Arv Z h366 b361 k361 .long (8 : Int32) [(.long v360), (.long v360), (.long v360), (.long v360), (.long v360), (.long (0 : Int64)), (.long (0 : Int64)), (.long (0 : Int64))] (.long (0 : Int64)) := V366
  have N366 := Fr.snoc X366 N365 g_b361
  have Z366 : n0 ≤ h366.size := Nat.le_trans Z365 (Nat.le_of_eq W366.size.symm)
  refine k_aload X366 hx (hb hby at_52) rfl rfl (pc' := 54) rfl ?_
  refine k_iconst X366 hx (hb hby at_54) (pc' := 55) rfl (z := (5 : Int32)) rfl ?_
  refine k_lload X366 hx (hb hby at_55) rfl (pc' := 57) rfl ?_
  refine k_lastore X366 hx hZ e366 Vw366 ⟨by decide, by decide⟩ (i := 5) rfl (Nat.le_of_ble_eq_true rfl) (hb hby at_57) (pc' := 58) rfl (fun T367 h367 X367 e367 W367 V367 => ?_)
  have Vw367 : Arv Z h367 b361 k361 .long (8 : Int32) [(.long v360), (.long v360), (.long v360), (.long v360), (.long v360), (.long v360), (.long (0 : Int64)), (.long (0 : Int64))] (.long (0 : Int64)) := V367
  have N367 := Fr.snoc X367 N366 g_b361
  have Z367 : n0 ≤ h367.size := Nat.le_trans Z366 (Nat.le_of_eq W367.size.symm)
  refine k_aload X367 hx (hb hby at_58) rfl rfl (pc' := 60) rfl ?_
  refine k_bipush X367 hx (hb hby at_60) (pc' := 62) rfl (z := (6 : Int32)) rfl ?_
  refine k_lload X367 hx (hb hby at_62) rfl (pc' := 64) rfl ?_
  refine k_lastore X367 hx hZ e367 Vw367 ⟨by decide, by decide⟩ (i := 6) rfl (Nat.le_of_ble_eq_true rfl) (hb hby at_64) (pc' := 65) rfl (fun T368 h368 X368 e368 W368 V368 => ?_)
  have Vw368 : Arv Z h368 b361 k361 .long (8 : Int32) [(.long v360), (.long v360), (.long v360), (.long v360), (.long v360), (.long v360), (.long v360), (.long (0 : Int64))] (.long (0 : Int64)) := V368
  have N368 := Fr.snoc X368 N367 g_b361
  have Z368 : n0 ≤ h368.size := Nat.le_trans Z367 (Nat.le_of_eq W368.size.symm)
  refine k_aload X368 hx (hb hby at_65) rfl rfl (pc' := 67) rfl ?_
  refine k_bipush X368 hx (hb hby at_67) (pc' := 69) rfl (z := (7 : Int32)) rfl ?_
  refine k_lload X368 hx (hb hby at_69) rfl (pc' := 71) rfl ?_
  refine k_lastore X368 hx hZ e368 Vw368 ⟨by decide, by decide⟩ (i := 7) rfl (Nat.le_of_ble_eq_true rfl) (hb hby at_71) (pc' := 72) rfl (fun T369 h369 X369 e369 W369 V369 => ?_)
  have Vw369 : Arv Z h369 b361 k361 .long (8 : Int32) [(.long v360), (.long v360), (.long v360), (.long v360), (.long v360), (.long v360), (.long v360), (.long v360)] (.long (0 : Int64)) := V369
  have N369 := Fr.snoc X369 N368 g_b361
  have Z369 : n0 ≤ h369.size := Nat.le_trans Z368 (Nat.le_of_eq W369.size.symm)
  refine k_aload X369 hx (hb hby at_72) rfl rfl (pc' := 74) rfl ?_
  refine k_iload X369 hx (hb hby at_74) rfl (pc' := 76) rfl ?_
  refine k_lloadN X369 hx (hb hby at_76) rfl (pc' := 77) rfl ?_
  refine k_lastore X369 hx hZ e369 Vw369 ⟨by decide, by decide⟩ (i := 1) rfl (Nat.le_of_ble_eq_true rfl) (hb hby at_77) (pc' := 78) rfl (fun T370 h370 X370 e370 W370 V370 => ?_)
  have Vw370 : Arv Z h370 b361 k361 .long (8 : Int32) [(.long v360), (.long i0), (.long v360), (.long v360), (.long v360), (.long v360), (.long v360), (.long v360)] (.long (0 : Int64)) := V370
  have N370 := Fr.snoc X370 N369 g_b361
  have Z370 : n0 ≤ h370.size := Nat.le_trans Z369 (Nat.le_of_eq W370.size.symm)
  refine k_aload X370 hx (hb hby at_78) rfl rfl (pc' := 80) rfl ?_
  refine k_iload X370 hx (hb hby at_80) rfl (pc' := 82) rfl ?_
  refine k_iconst X370 hx (hb hby at_82) (pc' := 83) rfl (z := (1 : Int32)) rfl ?_
  refine k_iaddL X370 hx (hb hby at_83) (pc' := 84) rfl (z := (2 : Int32)) (by decide) ?_
  refine k_lloadN X370 hx (hb hby at_84) rfl (pc' := 85) rfl ?_
  refine k_lastore X370 hx hZ e370 Vw370 ⟨by decide, by decide⟩ (i := 2) rfl (Nat.le_of_ble_eq_true rfl) (hb hby at_85) (pc' := 86) rfl (fun T371 h371 X371 e371 W371 V371 => ?_)
  have Vw371 : Arv Z h371 b361 k361 .long (8 : Int32) [(.long v360), (.long i0), (.long i1), (.long v360), (.long v360), (.long v360), (.long v360), (.long v360)] (.long (0 : Int64)) := V371
  have N371 := Fr.snoc X371 N370 g_b361
  have Z371 : n0 ≤ h371.size := Nat.le_trans Z370 (Nat.le_of_eq W371.size.symm)
  refine k_aload X371 hx (hb hby at_86) rfl rfl (pc' := 88) rfl ?_
  refine k_iload X371 hx (hb hby at_88) rfl (pc' := 90) rfl ?_
  refine k_iconst X371 hx (hb hby at_90) (pc' := 91) rfl (z := (2 : Int32)) rfl ?_
  refine k_iaddL X371 hx (hb hby at_91) (pc' := 92) rfl (z := (3 : Int32)) (by decide) ?_
  refine k_lload X371 hx (hb hby at_92) rfl (pc' := 94) rfl ?_
  refine k_lastore X371 hx hZ e371 Vw371 ⟨by decide, by decide⟩ (i := 3) rfl (Nat.le_of_ble_eq_true rfl) (hb hby at_94) (pc' := 95) rfl (fun T372 h372 X372 e372 W372 V372 => ?_)
  have Vw372 : Arv Z h372 b361 k361 .long (8 : Int32) [(.long v360), (.long i0), (.long i1), (.long i2), (.long v360), (.long v360), (.long v360), (.long v360)] (.long (0 : Int64)) := V372
  have N372 := Fr.snoc X372 N371 g_b361
  have Z372 : n0 ≤ h372.size := Nat.le_trans Z371 (Nat.le_of_eq W372.size.symm)
  refine k_aload X372 hx (hb hby at_95) rfl rfl (pc' := 97) rfl ?_
  refine k_iload X372 hx (hb hby at_97) rfl (pc' := 99) rfl ?_
  refine k_iconst X372 hx (hb hby at_99) (pc' := 100) rfl (z := (3 : Int32)) rfl ?_
  refine k_iaddL X372 hx (hb hby at_100) (pc' := 101) rfl (z := (4 : Int32)) (by decide) ?_
  refine k_lload X372 hx (hb hby at_101) rfl (pc' := 103) rfl ?_
  refine k_lastore X372 hx hZ e372 Vw372 ⟨by decide, by decide⟩ (i := 4) rfl (Nat.le_of_ble_eq_true rfl) (hb hby at_103) (pc' := 104) rfl (fun T373 h373 X373 e373 W373 V373 => ?_)
  have Vw373 : Arv Z h373 b361 k361 .long (8 : Int32) [(.long v360), (.long i0), (.long i1), (.long i2), (.long i3), (.long v360), (.long v360), (.long v360)] (.long (0 : Int64)) := V373
  have N373 := Fr.snoc X373 N372 g_b361
  have Z373 : n0 ≤ h373.size := Nat.le_trans Z372 (Nat.le_of_eq W373.size.symm)
  refine k_aload X373 hx (hb hby at_104) rfl rfl (pc' := 106) rfl ?_
  refine k_iload X373 hx (hb hby at_106) rfl (pc' := 108) rfl ?_
  refine k_iconst X373 hx (hb hby at_108) (pc' := 109) rfl (z := (4 : Int32)) rfl ?_
  refine k_iaddL X373 hx (hb hby at_109) (pc' := 110) rfl (z := (5 : Int32)) (by decide) ?_
  refine k_lload X373 hx (hb hby at_110) rfl (pc' := 112) rfl ?_
  refine k_lastore X373 hx hZ e373 Vw373 ⟨by decide, by decide⟩ (i := 5) rfl (Nat.le_of_ble_eq_true rfl) (hb hby at_112) (pc' := 113) rfl (fun T374 h374 X374 e374 W374 V374 => ?_)
  have Vw374 : Arv Z h374 b361 k361 .long (8 : Int32) [(.long v360), (.long i0), (.long i1), (.long i2), (.long i3), (.long i4), (.long v360), (.long v360)] (.long (0 : Int64)) := V374
  have N374 := Fr.snoc X374 N373 g_b361
  have Z374 : n0 ≤ h374.size := Nat.le_trans Z373 (Nat.le_of_eq W374.size.symm)
  refine k_bipush X374 hx (hb hby at_113) (pc' := 115) rfl (z := (9 : Int32)) rfl ?_
  refine k_newA X374 hx hZ (hw _ (List.mem_of_getElem? (i := 1) rfl)) e374 (hb hby at_115) (by decide) (cap := 9) (by decide) (by decide) (by decide) (by decide) (pc' := 117) rfl (fun T375 h375 b375 k375 g375 X375 e375 E375 V375 => ?_)
  have g_b375 : n0 ≤ b375 := Nat.le_trans Z374 (Nat.le_of_eq g375.symm)
  have lt_b375 : b361 < b375 := Nat.lt_of_lt_of_le Vw374.lt (Nat.le_of_eq g375.symm)
  have Z375 : n0 ≤ h375.size := Nat.le_trans Z374 E375.1
  have Vw375 : Arv Z h375 b375 k375 .long (9 : Int32) [(.long (0 : Int64)), (.long (0 : Int64)), (.long (0 : Int64)), (.long (0 : Int64)), (.long (0 : Int64)), (.long (0 : Int64)), (.long (0 : Int64)), (.long (0 : Int64)), (.long (0 : Int64))] (.long (0 : Int64)) := V375
  refine k_astore X375 hx (hb hby at_117) rfl (Ls' := #[.val (.long i0), .second, .val (.long i1), .second, .val (.long i2), .second, .val (.long i3), .second, .val (.long i4), .second, .val (.int i5), .val (.int (1 : Int32)), .val (.long v360), .second, .val (.ref b361), .val (.ref b375)]) rfl (pc' := 119) rfl ?_
  refine k_aload X375 hx (hb hby at_119) rfl rfl (pc' := 121) rfl ?_
  refine k_iconst X375 hx (hb hby at_121) (pc' := 122) rfl (z := (0 : Int32)) rfl ?_
  refine k_ldcL X375 hx hZ hown (hw _ (List.mem_of_getElem? (i := 0) rfl)) (hb hby at_122) (pc' := 125) rfl ?_
  refine k_lastore X375 hx hZ e375 Vw375 ⟨by decide, by decide⟩ (i := 0) rfl (Nat.le_of_ble_eq_true rfl) (hb hby at_125) (pc' := 126) rfl (fun T376 h376 X376 e376 W376 V376 => ?_)
  have Vw376 : Arv Z h376 b375 k375 .long (9 : Int32) [(.long (-1 : Int64)), (.long (0 : Int64)), (.long (0 : Int64)), (.long (0 : Int64)), (.long (0 : Int64)), (.long (0 : Int64)), (.long (0 : Int64)), (.long (0 : Int64)), (.long (0 : Int64))] (.long (0 : Int64)) := V376
  have N376 := Fr.snoc X376 N374 g_b375
  have Z376 : n0 ≤ h376.size := Nat.le_trans Z375 (Nat.le_of_eq W376.size.symm)
  refine k_aload X376 hx (hb hby at_126) rfl rfl (pc' := 128) rfl ?_
  refine k_iconst X376 hx (hb hby at_128) (pc' := 129) rfl (z := (1 : Int32)) rfl ?_
  refine k_ldcL X376 hx hZ hown (hw _ (List.mem_of_getElem? (i := 0) rfl)) (hb hby at_129) (pc' := 132) rfl ?_
  refine k_lastore X376 hx hZ e376 Vw376 ⟨by decide, by decide⟩ (i := 1) rfl (Nat.le_of_ble_eq_true rfl) (hb hby at_132) (pc' := 133) rfl (fun T377 h377 X377 e377 W377 V377 => ?_)
  have Vw377 : Arv Z h377 b375 k375 .long (9 : Int32) [(.long (-1 : Int64)), (.long (-1 : Int64)), (.long (0 : Int64)), (.long (0 : Int64)), (.long (0 : Int64)), (.long (0 : Int64)), (.long (0 : Int64)), (.long (0 : Int64)), (.long (0 : Int64))] (.long (0 : Int64)) := V377
  have N377 := Fr.snoc X377 N376 g_b375
  have Z377 : n0 ≤ h377.size := Nat.le_trans Z376 (Nat.le_of_eq W377.size.symm)
  refine k_aload X377 hx (hb hby at_133) rfl rfl (pc' := 135) rfl ?_
  refine k_iconst X377 hx (hb hby at_135) (pc' := 136) rfl (z := (2 : Int32)) rfl ?_
  refine k_ldcL X377 hx hZ hown (hw _ (List.mem_of_getElem? (i := 0) rfl)) (hb hby at_136) (pc' := 139) rfl ?_
  refine k_lastore X377 hx hZ e377 Vw377 ⟨by decide, by decide⟩ (i := 2) rfl (Nat.le_of_ble_eq_true rfl) (hb hby at_139) (pc' := 140) rfl (fun T378 h378 X378 e378 W378 V378 => ?_)
  have Vw378 : Arv Z h378 b375 k375 .long (9 : Int32) [(.long (-1 : Int64)), (.long (-1 : Int64)), (.long (-1 : Int64)), (.long (0 : Int64)), (.long (0 : Int64)), (.long (0 : Int64)), (.long (0 : Int64)), (.long (0 : Int64)), (.long (0 : Int64))] (.long (0 : Int64)) := V378
  have N378 := Fr.snoc X378 N377 g_b375
  have Z378 : n0 ≤ h378.size := Nat.le_trans Z377 (Nat.le_of_eq W378.size.symm)
  refine k_aload X378 hx (hb hby at_140) rfl rfl (pc' := 142) rfl ?_
  refine k_iconst X378 hx (hb hby at_142) (pc' := 143) rfl (z := (3 : Int32)) rfl ?_
  refine k_ldcL X378 hx hZ hown (hw _ (List.mem_of_getElem? (i := 0) rfl)) (hb hby at_143) (pc' := 146) rfl ?_
  refine k_lastore X378 hx hZ e378 Vw378 ⟨by decide, by decide⟩ (i := 3) rfl (Nat.le_of_ble_eq_true rfl) (hb hby at_146) (pc' := 147) rfl (fun T379 h379 X379 e379 W379 V379 => ?_)
  have Vw379 : Arv Z h379 b375 k375 .long (9 : Int32) [(.long (-1 : Int64)), (.long (-1 : Int64)), (.long (-1 : Int64)), (.long (-1 : Int64)), (.long (0 : Int64)), (.long (0 : Int64)), (.long (0 : Int64)), (.long (0 : Int64)), (.long (0 : Int64))] (.long (0 : Int64)) := V379
  have N379 := Fr.snoc X379 N378 g_b375
  have Z379 : n0 ≤ h379.size := Nat.le_trans Z378 (Nat.le_of_eq W379.size.symm)
  refine k_aload X379 hx (hb hby at_147) rfl rfl (pc' := 149) rfl ?_
  refine k_iconst X379 hx (hb hby at_149) (pc' := 150) rfl (z := (4 : Int32)) rfl ?_
  refine k_ldcL X379 hx hZ hown (hw _ (List.mem_of_getElem? (i := 0) rfl)) (hb hby at_150) (pc' := 153) rfl ?_
  refine k_lastore X379 hx hZ e379 Vw379 ⟨by decide, by decide⟩ (i := 4) rfl (Nat.le_of_ble_eq_true rfl) (hb hby at_153) (pc' := 154) rfl (fun T380 h380 X380 e380 W380 V380 => ?_)
  have Vw380 : Arv Z h380 b375 k375 .long (9 : Int32) [(.long (-1 : Int64)), (.long (-1 : Int64)), (.long (-1 : Int64)), (.long (-1 : Int64)), (.long (-1 : Int64)), (.long (0 : Int64)), (.long (0 : Int64)), (.long (0 : Int64)), (.long (0 : Int64))] (.long (0 : Int64)) := V380
  have N380 := Fr.snoc X380 N379 g_b375
  have Z380 : n0 ≤ h380.size := Nat.le_trans Z379 (Nat.le_of_eq W380.size.symm)
  refine k_aload X380 hx (hb hby at_154) rfl rfl (pc' := 156) rfl ?_
  refine k_iconst X380 hx (hb hby at_156) (pc' := 157) rfl (z := (5 : Int32)) rfl ?_
  refine k_ldcL X380 hx hZ hown (hw _ (List.mem_of_getElem? (i := 0) rfl)) (hb hby at_157) (pc' := 160) rfl ?_
  refine k_lastore X380 hx hZ e380 Vw380 ⟨by decide, by decide⟩ (i := 5) rfl (Nat.le_of_ble_eq_true rfl) (hb hby at_160) (pc' := 161) rfl (fun T381 h381 X381 e381 W381 V381 => ?_)
  have Vw381 : Arv Z h381 b375 k375 .long (9 : Int32) [(.long (-1 : Int64)), (.long (-1 : Int64)), (.long (-1 : Int64)), (.long (-1 : Int64)), (.long (-1 : Int64)), (.long (-1 : Int64)), (.long (0 : Int64)), (.long (0 : Int64)), (.long (0 : Int64))] (.long (0 : Int64)) := V381
  have N381 := Fr.snoc X381 N380 g_b375
  have Z381 : n0 ≤ h381.size := Nat.le_trans Z380 (Nat.le_of_eq W381.size.symm)
  refine k_aload X381 hx (hb hby at_161) rfl rfl (pc' := 163) rfl ?_
  refine k_bipush X381 hx (hb hby at_163) (pc' := 165) rfl (z := (6 : Int32)) rfl ?_
  refine k_ldcL X381 hx hZ hown (hw _ (List.mem_of_getElem? (i := 0) rfl)) (hb hby at_165) (pc' := 168) rfl ?_
  refine k_lastore X381 hx hZ e381 Vw381 ⟨by decide, by decide⟩ (i := 6) rfl (Nat.le_of_ble_eq_true rfl) (hb hby at_168) (pc' := 169) rfl (fun T382 h382 X382 e382 W382 V382 => ?_)
  have Vw382 : Arv Z h382 b375 k375 .long (9 : Int32) [(.long (-1 : Int64)), (.long (-1 : Int64)), (.long (-1 : Int64)), (.long (-1 : Int64)), (.long (-1 : Int64)), (.long (-1 : Int64)), (.long (-1 : Int64)), (.long (0 : Int64)), (.long (0 : Int64))] (.long (0 : Int64)) := V382
  have N382 := Fr.snoc X382 N381 g_b375
  have Z382 : n0 ≤ h382.size := Nat.le_trans Z381 (Nat.le_of_eq W382.size.symm)
  refine k_aload X382 hx (hb hby at_169) rfl rfl (pc' := 171) rfl ?_
  refine k_bipush X382 hx (hb hby at_171) (pc' := 173) rfl (z := (7 : Int32)) rfl ?_
  refine k_ldcL X382 hx hZ hown (hw _ (List.mem_of_getElem? (i := 0) rfl)) (hb hby at_173) (pc' := 176) rfl ?_
  refine k_lastore X382 hx hZ e382 Vw382 ⟨by decide, by decide⟩ (i := 7) rfl (Nat.le_of_ble_eq_true rfl) (hb hby at_176) (pc' := 177) rfl (fun T383 h383 X383 e383 W383 V383 => ?_)
  have Vw383 : Arv Z h383 b375 k375 .long (9 : Int32) [(.long (-1 : Int64)), (.long (-1 : Int64)), (.long (-1 : Int64)), (.long (-1 : Int64)), (.long (-1 : Int64)), (.long (-1 : Int64)), (.long (-1 : Int64)), (.long (-1 : Int64)), (.long (0 : Int64))] (.long (0 : Int64)) := V383
  have N383 := Fr.snoc X383 N382 g_b375
  have Z383 : n0 ≤ h383.size := Nat.le_trans Z382 (Nat.le_of_eq W383.size.symm)
  refine k_aload X383 hx (hb hby at_177) rfl rfl (pc' := 179) rfl ?_
  refine k_bipush X383 hx (hb hby at_179) (pc' := 181) rfl (z := (8 : Int32)) rfl ?_
  refine k_ldcL X383 hx hZ hown (hw _ (List.mem_of_getElem? (i := 0) rfl)) (hb hby at_181) (pc' := 184) rfl ?_
  refine k_lastore X383 hx hZ e383 Vw383 ⟨by decide, by decide⟩ (i := 8) rfl (Nat.le_of_ble_eq_true rfl) (hb hby at_184) (pc' := 185) rfl (fun T384 h384 X384 e384 W384 V384 => ?_)
  have Vw384 : Arv Z h384 b375 k375 .long (9 : Int32) [(.long (-1 : Int64)), (.long (-1 : Int64)), (.long (-1 : Int64)), (.long (-1 : Int64)), (.long (-1 : Int64)), (.long (-1 : Int64)), (.long (-1 : Int64)), (.long (-1 : Int64)), (.long (-1 : Int64))] (.long (0 : Int64)) := V384
  have N384 := Fr.snoc X384 N383 g_b375
  have Z384 : n0 ≤ h384.size := Nat.le_trans Z383 (Nat.le_of_eq W384.size.symm)
  refine k_aload X384 hx (hb hby at_185) rfl rfl (pc' := 187) rfl ?_
  refine k_aload X384 hx (hb hby at_187) rfl rfl (pc' := 189) rfl ?_
  refine k_iload X384 hx (hb hby at_189) rfl (pc' := 191) rfl ?_
  have F385 := ((((((((((Vw374.ext E375).other W376 (Nat.ne_of_lt lt_b375)).other W377 (Nat.ne_of_lt lt_b375)).other W378 (Nat.ne_of_lt lt_b375)).other W379 (Nat.ne_of_lt lt_b375)).other W380 (Nat.ne_of_lt lt_b375)).other W381 (Nat.ne_of_lt lt_b375)).other W382 (Nat.ne_of_lt lt_b375)).other W383 (Nat.ne_of_lt lt_b375)).other W384 (Nat.ne_of_lt lt_b375))
  refine k_callS X384 hx hZ hown (hw _ (List.mem_of_getElem? (i := 2) rfl)) (hw _ (List.mem_of_getElem? (i := 3) rfl)) (hw _ (List.mem_of_getElem? (i := 4) rfl)) (hw _ (List.mem_of_getElem? (i := 5) rfl)) (by decide) (rm1_386 l Z a0 hw [] b375 b361 k361 v360 i0 i1 i2 i3 i4 k375 h384 n0 Z384 F385 g_b361 Vw384 g_b375 lt_b375) (by decide) (by decide) e384 (by rw [hml]; rfl) (argsL := [(.ref b375), (.ref b361), (.int (1 : Int32))]) (rest := []) (lenOf pd_0 rfl) rfl (W := 0) (Nat.le_refl _) rfl (hb hby at_191) (by decide) (by decide) (pc' := 194) rfl (fun T418 L418 r418 X418 q418 => ?_)
  obtain ⟨N418, q418⟩ := q418
  have N418' := Fr.app N384 N418
  obtain ⟨v419, v420, v421, v422, v423, v424, v425, v426, v427, v428, v429, v430, v431, h432, h433, h434, h435, h436, h437, h438, h439, h440, h441, h442, h443, h444, rfl, F445, F446, Z447⟩ := q418
  show KEnds p e below s _ _ _ T418 (mkF m 194 #[.val (.long i0), .second, .val (.long i1), .second, .val (.long i2), .second, .val (.long i3), .second, .val (.long i4), .second, .val (.int i5), .val (.int (1 : Int32)), .val (.long v360), .second, .val (.ref b361), .val (.ref b375)] [])
  refine k_aload X418 hx (hb hby at_194) rfl rfl (pc' := 196) rfl ?_
  refine k_iconst X418 hx (hb hby at_196) (pc' := 197) rfl (z := (0 : Int32)) rfl ?_
  refine k_laload X418 hx hZ rfl F446 ⟨by decide, by decide⟩ (v := (.long v419)) rfl (hb hby at_197) (pc' := 198) rfl ?_
  refine k_aload X418 hx (hb hby at_198) rfl rfl (pc' := 200) rfl ?_
  refine k_iconst X418 hx (hb hby at_200) (pc' := 201) rfl (z := (1 : Int32)) rfl ?_
  refine k_laload X418 hx hZ rfl F446 ⟨by decide, by decide⟩ (v := (.long v421)) rfl (hb hby at_201) (pc' := 202) rfl ?_
  refine k_lloadN X418 hx (hb hby at_202) rfl (pc' := 203) rfl ?_
  refine k_callS X418 hx hZ hown (hw _ (List.mem_of_getElem? (i := 7) rfl)) (hw _ (List.mem_of_getElem? (i := 8) rfl)) (hw _ (List.mem_of_getElem? (i := 9) rfl)) (hw _ (List.mem_of_getElem? (i := 10) rfl)) (by decide) (rm2_94 l Z a0 hw [] v419 v421 i0 T418.heap n0 Z447 ) (by decide) (by decide) rfl (by rw [hml]; rfl) (argsL := [(.long v419), (.long v421), (.long i0)]) (rest := []) (lenOf pd_1 rfl) rfl (W := 0) (Nat.le_refl _) rfl (hb hby at_203) (by decide) (by decide) (pc' := 206) rfl (fun T448 L448 r448 X448 q448 => ?_)
  obtain ⟨N448, e448, q448⟩ := q448
  have N448' := Fr.app N418' N448
  rcases q448 with ⟨hc449, rfl⟩ | ⟨hc450, hc451, rfl⟩ | ⟨hc452, hc453, hc454, rfl⟩ | ⟨hc455, hc456, hc457, hc458, rfl⟩ | ⟨v459, v460, v461, h462, h463, h464, hc465, hc466, hc467, hc468, hc469, rfl⟩ | ⟨v470, v471, v472, h473, h474, h475, hc476, hc477, hc478, hc479, hc480, rfl⟩
  ·
   show KEnds p e below s _ _ _ T448 (mkF m 206 #[.val (.long i0), .second, .val (.long i1), .second, .val (.long i2), .second, .val (.long i3), .second, .val (.long i4), .second, .val (.int i5), .val (.int (1 : Int32)), .val (.long v360), .second, .val (.ref b361), .val (.ref b375)] [(.int (0 : Int32))])
   refine k_if_eq X448 hx (hb hby at_206) (pn := 209) rfl (py := 299) (by decide) (fun _ => ?_) (fun hc => absurd (by decide) hc)
   refine k_iconst X448 hx (hb hby at_299) (pc' := 300) rfl (z := (0 : Int32)) rfl ?_
   exfalso
   have := rng64 v419
   have := rng64 i0
   have : (536870911 : Int64).toInt = 536870911 := (by decide)
   have q481 : v419.toInt = i0.toInt % 536870912 := (by rw [h432]; exact c_maskL _ _ 29 (by decide) (by decide))
   have : (0 : Int64).toInt = 0 := (by decide)
   have q482 := hc449; rw [Int64.lt_iff_toInt_lt] at q482
   omega
  ·
   show KEnds p e below s _ _ _ T448 (mkF m 206 #[.val (.long i0), .second, .val (.long i1), .second, .val (.long i2), .second, .val (.long i3), .second, .val (.long i4), .second, .val (.int i5), .val (.int (1 : Int32)), .val (.long v360), .second, .val (.ref b361), .val (.ref b375)] [(.int (0 : Int32))])
   refine k_if_eq X448 hx (hb hby at_206) (pn := 209) rfl (py := 299) (by decide) (fun _ => ?_) (fun hc => absurd (by decide) hc)
   refine k_iconst X448 hx (hb hby at_299) (pc' := 300) rfl (z := (0 : Int32)) rfl ?_
   exfalso
   have := rng64 v419
   have := rng64 i0
   have : (536870911 : Int64).toInt = 536870911 := (by decide)
   have q483 : v419.toInt = i0.toInt % 536870912 := (by rw [h432]; exact c_maskL _ _ 29 (by decide) (by decide))
   have : (0 : Int64).toInt = 0 := (by decide)
   have q484 := hc450; rw [Int64.lt_iff_toInt_lt] at q484
   have q485 := hc451; rw [Int64.lt_iff_toInt_lt] at q485
   omega
  ·
   show KEnds p e below s _ _ _ T448 (mkF m 206 #[.val (.long i0), .second, .val (.long i1), .second, .val (.long i2), .second, .val (.long i3), .second, .val (.long i4), .second, .val (.int i5), .val (.int (1 : Int32)), .val (.long v360), .second, .val (.ref b361), .val (.ref b375)] [(.int (0 : Int32))])
   refine k_if_eq X448 hx (hb hby at_206) (pn := 209) rfl (py := 299) (by decide) (fun _ => ?_) (fun hc => absurd (by decide) hc)
   refine k_iconst X448 hx (hb hby at_299) (pc' := 300) rfl (z := (0 : Int32)) rfl ?_
   exfalso
   have := rng64 v419
   have := rng64 i0
   have : (536870911 : Int64).toInt = 536870911 := (by decide)
   have q486 : v419.toInt = i0.toInt % 536870912 := (by rw [h432]; exact c_maskL _ _ 29 (by decide) (by decide))
   have : (0 : Int64).toInt = 0 := (by decide)
   have q487 := hc452; rw [Int64.lt_iff_toInt_lt] at q487
   have q488 := hc453; rw [Int64.lt_iff_toInt_lt] at q488
   have := rng64 v421
   have := rng64 v420
   have : (29 : Int32).toInt = 29 := (by decide)
   have q489 : v420.toInt = (i0.toInt % 18446744073709551616) / 536870912 := (by rw [h433]; exact c_lushr _ _ 29 (by decide) (by decide))
   have q490 : v421.toInt = v420.toInt % 536870912 := (by rw [h434]; exact c_maskL _ _ 29 (by decide) (by decide))
   have q491 := hc454; rw [Int64.lt_iff_toInt_lt] at q491
   omega
  ·
   show KEnds p e below s _ _ _ T448 (mkF m 206 #[.val (.long i0), .second, .val (.long i1), .second, .val (.long i2), .second, .val (.long i3), .second, .val (.long i4), .second, .val (.int i5), .val (.int (1 : Int32)), .val (.long v360), .second, .val (.ref b361), .val (.ref b375)] [(.int (0 : Int32))])
   refine k_if_eq X448 hx (hb hby at_206) (pn := 209) rfl (py := 299) (by decide) (fun _ => ?_) (fun hc => absurd (by decide) hc)
   refine k_iconst X448 hx (hb hby at_299) (pc' := 300) rfl (z := (0 : Int32)) rfl ?_
   exfalso
   have := rng64 v419
   have := rng64 i0
   have : (536870911 : Int64).toInt = 536870911 := (by decide)
   have q492 : v419.toInt = i0.toInt % 536870912 := (by rw [h432]; exact c_maskL _ _ 29 (by decide) (by decide))
   have : (0 : Int64).toInt = 0 := (by decide)
   have q493 := hc455; rw [Int64.lt_iff_toInt_lt] at q493
   have q494 := hc456; rw [Int64.lt_iff_toInt_lt] at q494
   have := rng64 v421
   have := rng64 v420
   have : (29 : Int32).toInt = 29 := (by decide)
   have q495 : v420.toInt = (i0.toInt % 18446744073709551616) / 536870912 := (by rw [h433]; exact c_lushr _ _ 29 (by decide) (by decide))
   have q496 : v421.toInt = v420.toInt % 536870912 := (by rw [h434]; exact c_maskL _ _ 29 (by decide) (by decide))
   have q497 := hc457; rw [Int64.lt_iff_toInt_lt] at q497
   have q498 := hc458; rw [Int64.lt_iff_toInt_lt] at q498
   omega
  ·
   show KEnds p e below s _ _ _ T448 (mkF m 206 #[.val (.long i0), .second, .val (.long i1), .second, .val (.long i2), .second, .val (.long i3), .second, .val (.long i4), .second, .val (.int i5), .val (.int (1 : Int32)), .val (.long v360), .second, .val (.ref b361), .val (.ref b375)] [(.int (0 : Int32))])
   refine k_if_eq X448 hx (hb hby at_206) (pn := 209) rfl (py := 299) (by decide) (fun _ => ?_) (fun hc => absurd (by decide) hc)
   refine k_iconst X448 hx (hb hby at_299) (pc' := 300) rfl (z := (0 : Int32)) rfl ?_
   exfalso
   have := rng64 v419
   have := rng64 i0
   have : (536870911 : Int64).toInt = 536870911 := (by decide)
   have q499 : v419.toInt = i0.toInt % 536870912 := (by rw [h432]; exact c_maskL _ _ 29 (by decide) (by decide))
   have : (0 : Int64).toInt = 0 := (by decide)
   have q500 := hc465; rw [Int64.lt_iff_toInt_lt] at q500
   have q501 := hc466; rw [Int64.lt_iff_toInt_lt] at q501
   have := rng64 v421
   have := rng64 v420
   have : (29 : Int32).toInt = 29 := (by decide)
   have q502 : v420.toInt = (i0.toInt % 18446744073709551616) / 536870912 := (by rw [h433]; exact c_lushr _ _ 29 (by decide) (by decide))
   have q503 : v421.toInt = v420.toInt % 536870912 := (by rw [h434]; exact c_maskL _ _ 29 (by decide) (by decide))
   have q504 := hc467; rw [Int64.lt_iff_toInt_lt] at q504
   have q505 := hc468; rw [Int64.lt_iff_toInt_lt] at q505
   have := rng64 v460
   have := rng64 v459
   have q506 : (v459.toInt - v421.toInt * 536870912) % 18446744073709551616 = 0 := (by rw [h462]; exact c_lshl _ _ 29 (by decide))
   have q507 : (v460.toInt - (v419.toInt + v459.toInt)) % 18446744073709551616 = 0 := (by rw [h463]; exact c_ladd _ _)
   have := rng64 v461
   have : (288230376151711743 : Int64).toInt = 288230376151711743 := (by decide)
   have q508 : v461.toInt = i0.toInt % 288230376151711744 := (by rw [h464]; exact c_maskL _ _ 58 (by decide) (by decide))
   have q509 : ¬ v460.toInt = v461.toInt := fun q => hc469 (Int64.toInt_inj.mp q)
   omega
  ·
   show KEnds p e below s _ _ _ T448 (mkF m 206 #[.val (.long i0), .second, .val (.long i1), .second, .val (.long i2), .second, .val (.long i3), .second, .val (.long i4), .second, .val (.int i5), .val (.int (1 : Int32)), .val (.long v360), .second, .val (.ref b361), .val (.ref b375)] [(.int (1 : Int32))])
   refine k_if_eq X448 hx (hb hby at_206) (pn := 209) rfl (py := 299) (by decide) (fun hc => absurd hc (by decide)) (fun _ => ?_)
   refine k_aload X448 hx (hb hby at_209) rfl rfl (pc' := 211) rfl ?_
   refine k_iconst X448 hx (hb hby at_211) (pc' := 212) rfl (z := (2 : Int32)) rfl ?_
   refine k_laload X448 hx hZ e448 F446 ⟨by decide, by decide⟩ (v := (.long v422)) rfl (hb hby at_212) (pc' := 213) rfl ?_
   refine k_aload X448 hx (hb hby at_213) rfl rfl (pc' := 215) rfl ?_
   refine k_iconst X448 hx (hb hby at_215) (pc' := 216) rfl (z := (3 : Int32)) rfl ?_
   refine k_laload X448 hx hZ e448 F446 ⟨by decide, by decide⟩ (v := (.long v424)) rfl (hb hby at_216) (pc' := 217) rfl ?_
   refine k_lloadN X448 hx (hb hby at_217) rfl (pc' := 218) rfl ?_
   refine k_callS X448 hx hZ hown (hw _ (List.mem_of_getElem? (i := 7) rfl)) (hw _ (List.mem_of_getElem? (i := 8) rfl)) (hw _ (List.mem_of_getElem? (i := 9) rfl)) (hw _ (List.mem_of_getElem? (i := 10) rfl)) (by decide) (rm2_94 l Z a0 hw [] v422 v424 i1 T418.heap n0 Z447 ) (by decide) (by decide) e448 (by rw [hml]; rfl) (argsL := [(.long v422), (.long v424), (.long i1)]) (rest := []) (lenOf pd_1 rfl) rfl (W := 0) (Nat.le_refl _) rfl (hb hby at_218) (by decide) (by decide) (pc' := 221) rfl (fun T510 L510 r510 X510 q510 => ?_)
   obtain ⟨N510, e510, q510⟩ := q510
   have N510' := Fr.app N448' N510
   rcases q510 with ⟨hc511, rfl⟩ | ⟨hc512, hc513, rfl⟩ | ⟨hc514, hc515, hc516, rfl⟩ | ⟨hc517, hc518, hc519, hc520, rfl⟩ | ⟨v521, v522, v523, h524, h525, h526, hc527, hc528, hc529, hc530, hc531, rfl⟩ | ⟨v532, v533, v534, h535, h536, h537, hc538, hc539, hc540, hc541, hc542, rfl⟩
   ·
    show KEnds p e below s _ _ _ T510 (mkF m 221 #[.val (.long i0), .second, .val (.long i1), .second, .val (.long i2), .second, .val (.long i3), .second, .val (.long i4), .second, .val (.int i5), .val (.int (1 : Int32)), .val (.long v360), .second, .val (.ref b361), .val (.ref b375)] [(.int (0 : Int32))])
    refine k_if_eq X510 hx (hb hby at_221) (pn := 224) rfl (py := 299) (by decide) (fun _ => ?_) (fun hc => absurd (by decide) hc)
    refine k_iconst X510 hx (hb hby at_299) (pc' := 300) rfl (z := (0 : Int32)) rfl ?_
    exfalso
    have := rng64 v422
    have := rng64 i1
    have : (536870911 : Int64).toInt = 536870911 := (by decide)
    have q543 : v422.toInt = i1.toInt % 536870912 := (by rw [h435]; exact c_maskL _ _ 29 (by decide) (by decide))
    have : (0 : Int64).toInt = 0 := (by decide)
    have q544 := hc511; rw [Int64.lt_iff_toInt_lt] at q544
    omega
   ·
    show KEnds p e below s _ _ _ T510 (mkF m 221 #[.val (.long i0), .second, .val (.long i1), .second, .val (.long i2), .second, .val (.long i3), .second, .val (.long i4), .second, .val (.int i5), .val (.int (1 : Int32)), .val (.long v360), .second, .val (.ref b361), .val (.ref b375)] [(.int (0 : Int32))])
    refine k_if_eq X510 hx (hb hby at_221) (pn := 224) rfl (py := 299) (by decide) (fun _ => ?_) (fun hc => absurd (by decide) hc)
    refine k_iconst X510 hx (hb hby at_299) (pc' := 300) rfl (z := (0 : Int32)) rfl ?_
    exfalso
    have := rng64 v422
    have := rng64 i1
    have : (536870911 : Int64).toInt = 536870911 := (by decide)
    have q545 : v422.toInt = i1.toInt % 536870912 := (by rw [h435]; exact c_maskL _ _ 29 (by decide) (by decide))
    have : (0 : Int64).toInt = 0 := (by decide)
    have q546 := hc512; rw [Int64.lt_iff_toInt_lt] at q546
    have q547 := hc513; rw [Int64.lt_iff_toInt_lt] at q547
    omega
   ·
    show KEnds p e below s _ _ _ T510 (mkF m 221 #[.val (.long i0), .second, .val (.long i1), .second, .val (.long i2), .second, .val (.long i3), .second, .val (.long i4), .second, .val (.int i5), .val (.int (1 : Int32)), .val (.long v360), .second, .val (.ref b361), .val (.ref b375)] [(.int (0 : Int32))])
    refine k_if_eq X510 hx (hb hby at_221) (pn := 224) rfl (py := 299) (by decide) (fun _ => ?_) (fun hc => absurd (by decide) hc)
    refine k_iconst X510 hx (hb hby at_299) (pc' := 300) rfl (z := (0 : Int32)) rfl ?_
    exfalso
    have := rng64 v422
    have := rng64 i1
    have : (536870911 : Int64).toInt = 536870911 := (by decide)
    have q548 : v422.toInt = i1.toInt % 536870912 := (by rw [h435]; exact c_maskL _ _ 29 (by decide) (by decide))
    have : (0 : Int64).toInt = 0 := (by decide)
    have q549 := hc514; rw [Int64.lt_iff_toInt_lt] at q549
    have q550 := hc515; rw [Int64.lt_iff_toInt_lt] at q550
    have := rng64 v424
    have := rng64 v423
    have : (29 : Int32).toInt = 29 := (by decide)
    have q551 : v423.toInt = (i1.toInt % 18446744073709551616) / 536870912 := (by rw [h436]; exact c_lushr _ _ 29 (by decide) (by decide))
    have q552 : v424.toInt = v423.toInt % 536870912 := (by rw [h437]; exact c_maskL _ _ 29 (by decide) (by decide))
    have q553 := hc516; rw [Int64.lt_iff_toInt_lt] at q553
    omega
   ·
    show KEnds p e below s _ _ _ T510 (mkF m 221 #[.val (.long i0), .second, .val (.long i1), .second, .val (.long i2), .second, .val (.long i3), .second, .val (.long i4), .second, .val (.int i5), .val (.int (1 : Int32)), .val (.long v360), .second, .val (.ref b361), .val (.ref b375)] [(.int (0 : Int32))])
    refine k_if_eq X510 hx (hb hby at_221) (pn := 224) rfl (py := 299) (by decide) (fun _ => ?_) (fun hc => absurd (by decide) hc)
    refine k_iconst X510 hx (hb hby at_299) (pc' := 300) rfl (z := (0 : Int32)) rfl ?_
    exfalso
    have := rng64 v422
    have := rng64 i1
    have : (536870911 : Int64).toInt = 536870911 := (by decide)
    have q554 : v422.toInt = i1.toInt % 536870912 := (by rw [h435]; exact c_maskL _ _ 29 (by decide) (by decide))
    have : (0 : Int64).toInt = 0 := (by decide)
    have q555 := hc517; rw [Int64.lt_iff_toInt_lt] at q555
    have q556 := hc518; rw [Int64.lt_iff_toInt_lt] at q556
    have := rng64 v424
    have := rng64 v423
    have : (29 : Int32).toInt = 29 := (by decide)
    have q557 : v423.toInt = (i1.toInt % 18446744073709551616) / 536870912 := (by rw [h436]; exact c_lushr _ _ 29 (by decide) (by decide))
    have q558 : v424.toInt = v423.toInt % 536870912 := (by rw [h437]; exact c_maskL _ _ 29 (by decide) (by decide))
    have q559 := hc519; rw [Int64.lt_iff_toInt_lt] at q559
    have q560 := hc520; rw [Int64.lt_iff_toInt_lt] at q560
    omega
   ·
    show KEnds p e below s _ _ _ T510 (mkF m 221 #[.val (.long i0), .second, .val (.long i1), .second, .val (.long i2), .second, .val (.long i3), .second, .val (.long i4), .second, .val (.int i5), .val (.int (1 : Int32)), .val (.long v360), .second, .val (.ref b361), .val (.ref b375)] [(.int (0 : Int32))])
    refine k_if_eq X510 hx (hb hby at_221) (pn := 224) rfl (py := 299) (by decide) (fun _ => ?_) (fun hc => absurd (by decide) hc)
    refine k_iconst X510 hx (hb hby at_299) (pc' := 300) rfl (z := (0 : Int32)) rfl ?_
    exfalso
    have := rng64 v422
    have := rng64 i1
    have : (536870911 : Int64).toInt = 536870911 := (by decide)
    have q561 : v422.toInt = i1.toInt % 536870912 := (by rw [h435]; exact c_maskL _ _ 29 (by decide) (by decide))
    have : (0 : Int64).toInt = 0 := (by decide)
    have q562 := hc527; rw [Int64.lt_iff_toInt_lt] at q562
    have q563 := hc528; rw [Int64.lt_iff_toInt_lt] at q563
    have := rng64 v424
    have := rng64 v423
    have : (29 : Int32).toInt = 29 := (by decide)
    have q564 : v423.toInt = (i1.toInt % 18446744073709551616) / 536870912 := (by rw [h436]; exact c_lushr _ _ 29 (by decide) (by decide))
    have q565 : v424.toInt = v423.toInt % 536870912 := (by rw [h437]; exact c_maskL _ _ 29 (by decide) (by decide))
    have q566 := hc529; rw [Int64.lt_iff_toInt_lt] at q566
    have q567 := hc530; rw [Int64.lt_iff_toInt_lt] at q567
    have := rng64 v522
    have := rng64 v521
    have q568 : (v521.toInt - v424.toInt * 536870912) % 18446744073709551616 = 0 := (by rw [h524]; exact c_lshl _ _ 29 (by decide))
    have q569 : (v522.toInt - (v422.toInt + v521.toInt)) % 18446744073709551616 = 0 := (by rw [h525]; exact c_ladd _ _)
    have := rng64 v523
    have : (288230376151711743 : Int64).toInt = 288230376151711743 := (by decide)
    have q570 : v523.toInt = i1.toInt % 288230376151711744 := (by rw [h526]; exact c_maskL _ _ 58 (by decide) (by decide))
    have q571 : ¬ v522.toInt = v523.toInt := fun q => hc531 (Int64.toInt_inj.mp q)
    omega
   ·
    show KEnds p e below s _ _ _ T510 (mkF m 221 #[.val (.long i0), .second, .val (.long i1), .second, .val (.long i2), .second, .val (.long i3), .second, .val (.long i4), .second, .val (.int i5), .val (.int (1 : Int32)), .val (.long v360), .second, .val (.ref b361), .val (.ref b375)] [(.int (1 : Int32))])
    refine k_if_eq X510 hx (hb hby at_221) (pn := 224) rfl (py := 299) (by decide) (fun hc => absurd hc (by decide)) (fun _ => ?_)
    refine k_aload X510 hx (hb hby at_224) rfl rfl (pc' := 226) rfl ?_
    refine k_iconst X510 hx (hb hby at_226) (pc' := 227) rfl (z := (4 : Int32)) rfl ?_
    refine k_laload X510 hx hZ e510 F446 ⟨by decide, by decide⟩ (v := (.long v425)) rfl (hb hby at_227) (pc' := 228) rfl ?_
    refine k_aload X510 hx (hb hby at_228) rfl rfl (pc' := 230) rfl ?_
    refine k_iconst X510 hx (hb hby at_230) (pc' := 231) rfl (z := (5 : Int32)) rfl ?_
    refine k_laload X510 hx hZ e510 F446 ⟨by decide, by decide⟩ (v := (.long v427)) rfl (hb hby at_231) (pc' := 232) rfl ?_
    refine k_lload X510 hx (hb hby at_232) rfl (pc' := 234) rfl ?_
    refine k_callS X510 hx hZ hown (hw _ (List.mem_of_getElem? (i := 7) rfl)) (hw _ (List.mem_of_getElem? (i := 8) rfl)) (hw _ (List.mem_of_getElem? (i := 9) rfl)) (hw _ (List.mem_of_getElem? (i := 10) rfl)) (by decide) (rm2_94 l Z a0 hw [] v425 v427 i2 T418.heap n0 Z447 ) (by decide) (by decide) e510 (by rw [hml]; rfl) (argsL := [(.long v425), (.long v427), (.long i2)]) (rest := []) (lenOf pd_1 rfl) rfl (W := 0) (Nat.le_refl _) rfl (hb hby at_234) (by decide) (by decide) (pc' := 237) rfl (fun T572 L572 r572 X572 q572 => ?_)
    obtain ⟨N572, e572, q572⟩ := q572
    have N572' := Fr.app N510' N572
    rcases q572 with ⟨hc573, rfl⟩ | ⟨hc574, hc575, rfl⟩ | ⟨hc576, hc577, hc578, rfl⟩ | ⟨hc579, hc580, hc581, hc582, rfl⟩ | ⟨v583, v584, v585, h586, h587, h588, hc589, hc590, hc591, hc592, hc593, rfl⟩ | ⟨v594, v595, v596, h597, h598, h599, hc600, hc601, hc602, hc603, hc604, rfl⟩
    ·
     show KEnds p e below s _ _ _ T572 (mkF m 237 #[.val (.long i0), .second, .val (.long i1), .second, .val (.long i2), .second, .val (.long i3), .second, .val (.long i4), .second, .val (.int i5), .val (.int (1 : Int32)), .val (.long v360), .second, .val (.ref b361), .val (.ref b375)] [(.int (0 : Int32))])
     refine k_if_eq X572 hx (hb hby at_237) (pn := 240) rfl (py := 299) (by decide) (fun _ => ?_) (fun hc => absurd (by decide) hc)
     refine k_iconst X572 hx (hb hby at_299) (pc' := 300) rfl (z := (0 : Int32)) rfl ?_
     exfalso
     have := rng64 v425
     have := rng64 i2
     have : (536870911 : Int64).toInt = 536870911 := (by decide)
     have q605 : v425.toInt = i2.toInt % 536870912 := (by rw [h438]; exact c_maskL _ _ 29 (by decide) (by decide))
     have : (0 : Int64).toInt = 0 := (by decide)
     have q606 := hc573; rw [Int64.lt_iff_toInt_lt] at q606
     omega
    ·
     show KEnds p e below s _ _ _ T572 (mkF m 237 #[.val (.long i0), .second, .val (.long i1), .second, .val (.long i2), .second, .val (.long i3), .second, .val (.long i4), .second, .val (.int i5), .val (.int (1 : Int32)), .val (.long v360), .second, .val (.ref b361), .val (.ref b375)] [(.int (0 : Int32))])
     refine k_if_eq X572 hx (hb hby at_237) (pn := 240) rfl (py := 299) (by decide) (fun _ => ?_) (fun hc => absurd (by decide) hc)
     refine k_iconst X572 hx (hb hby at_299) (pc' := 300) rfl (z := (0 : Int32)) rfl ?_
     exfalso
     have := rng64 v425
     have := rng64 i2
     have : (536870911 : Int64).toInt = 536870911 := (by decide)
     have q607 : v425.toInt = i2.toInt % 536870912 := (by rw [h438]; exact c_maskL _ _ 29 (by decide) (by decide))
     have : (0 : Int64).toInt = 0 := (by decide)
     have q608 := hc574; rw [Int64.lt_iff_toInt_lt] at q608
     have q609 := hc575; rw [Int64.lt_iff_toInt_lt] at q609
     omega
    ·
     show KEnds p e below s _ _ _ T572 (mkF m 237 #[.val (.long i0), .second, .val (.long i1), .second, .val (.long i2), .second, .val (.long i3), .second, .val (.long i4), .second, .val (.int i5), .val (.int (1 : Int32)), .val (.long v360), .second, .val (.ref b361), .val (.ref b375)] [(.int (0 : Int32))])
     refine k_if_eq X572 hx (hb hby at_237) (pn := 240) rfl (py := 299) (by decide) (fun _ => ?_) (fun hc => absurd (by decide) hc)
     refine k_iconst X572 hx (hb hby at_299) (pc' := 300) rfl (z := (0 : Int32)) rfl ?_
     exfalso
     have := rng64 v425
     have := rng64 i2
     have : (536870911 : Int64).toInt = 536870911 := (by decide)
     have q610 : v425.toInt = i2.toInt % 536870912 := (by rw [h438]; exact c_maskL _ _ 29 (by decide) (by decide))
     have : (0 : Int64).toInt = 0 := (by decide)
     have q611 := hc576; rw [Int64.lt_iff_toInt_lt] at q611
     have q612 := hc577; rw [Int64.lt_iff_toInt_lt] at q612
     have := rng64 v427
     have := rng64 v426
     have : (29 : Int32).toInt = 29 := (by decide)
     have q613 : v426.toInt = (i2.toInt % 18446744073709551616) / 536870912 := (by rw [h439]; exact c_lushr _ _ 29 (by decide) (by decide))
     have q614 : v427.toInt = v426.toInt % 536870912 := (by rw [h440]; exact c_maskL _ _ 29 (by decide) (by decide))
     have q615 := hc578; rw [Int64.lt_iff_toInt_lt] at q615
     omega
    ·
     show KEnds p e below s _ _ _ T572 (mkF m 237 #[.val (.long i0), .second, .val (.long i1), .second, .val (.long i2), .second, .val (.long i3), .second, .val (.long i4), .second, .val (.int i5), .val (.int (1 : Int32)), .val (.long v360), .second, .val (.ref b361), .val (.ref b375)] [(.int (0 : Int32))])
     refine k_if_eq X572 hx (hb hby at_237) (pn := 240) rfl (py := 299) (by decide) (fun _ => ?_) (fun hc => absurd (by decide) hc)
     refine k_iconst X572 hx (hb hby at_299) (pc' := 300) rfl (z := (0 : Int32)) rfl ?_
     exfalso
     have := rng64 v425
     have := rng64 i2
     have : (536870911 : Int64).toInt = 536870911 := (by decide)
     have q616 : v425.toInt = i2.toInt % 536870912 := (by rw [h438]; exact c_maskL _ _ 29 (by decide) (by decide))
     have : (0 : Int64).toInt = 0 := (by decide)
     have q617 := hc579; rw [Int64.lt_iff_toInt_lt] at q617
     have q618 := hc580; rw [Int64.lt_iff_toInt_lt] at q618
     have := rng64 v427
     have := rng64 v426
     have : (29 : Int32).toInt = 29 := (by decide)
     have q619 : v426.toInt = (i2.toInt % 18446744073709551616) / 536870912 := (by rw [h439]; exact c_lushr _ _ 29 (by decide) (by decide))
     have q620 : v427.toInt = v426.toInt % 536870912 := (by rw [h440]; exact c_maskL _ _ 29 (by decide) (by decide))
     have q621 := hc581; rw [Int64.lt_iff_toInt_lt] at q621
     have q622 := hc582; rw [Int64.lt_iff_toInt_lt] at q622
     omega
    ·
     show KEnds p e below s _ _ _ T572 (mkF m 237 #[.val (.long i0), .second, .val (.long i1), .second, .val (.long i2), .second, .val (.long i3), .second, .val (.long i4), .second, .val (.int i5), .val (.int (1 : Int32)), .val (.long v360), .second, .val (.ref b361), .val (.ref b375)] [(.int (0 : Int32))])
     refine k_if_eq X572 hx (hb hby at_237) (pn := 240) rfl (py := 299) (by decide) (fun _ => ?_) (fun hc => absurd (by decide) hc)
     refine k_iconst X572 hx (hb hby at_299) (pc' := 300) rfl (z := (0 : Int32)) rfl ?_
     exfalso
     have := rng64 v425
     have := rng64 i2
     have : (536870911 : Int64).toInt = 536870911 := (by decide)
     have q623 : v425.toInt = i2.toInt % 536870912 := (by rw [h438]; exact c_maskL _ _ 29 (by decide) (by decide))
     have : (0 : Int64).toInt = 0 := (by decide)
     have q624 := hc589; rw [Int64.lt_iff_toInt_lt] at q624
     have q625 := hc590; rw [Int64.lt_iff_toInt_lt] at q625
     have := rng64 v427
     have := rng64 v426
     have : (29 : Int32).toInt = 29 := (by decide)
     have q626 : v426.toInt = (i2.toInt % 18446744073709551616) / 536870912 := (by rw [h439]; exact c_lushr _ _ 29 (by decide) (by decide))
     have q627 : v427.toInt = v426.toInt % 536870912 := (by rw [h440]; exact c_maskL _ _ 29 (by decide) (by decide))
     have q628 := hc591; rw [Int64.lt_iff_toInt_lt] at q628
     have q629 := hc592; rw [Int64.lt_iff_toInt_lt] at q629
     have := rng64 v584
     have := rng64 v583
     have q630 : (v583.toInt - v427.toInt * 536870912) % 18446744073709551616 = 0 := (by rw [h586]; exact c_lshl _ _ 29 (by decide))
     have q631 : (v584.toInt - (v425.toInt + v583.toInt)) % 18446744073709551616 = 0 := (by rw [h587]; exact c_ladd _ _)
     have := rng64 v585
     have : (288230376151711743 : Int64).toInt = 288230376151711743 := (by decide)
     have q632 : v585.toInt = i2.toInt % 288230376151711744 := (by rw [h588]; exact c_maskL _ _ 58 (by decide) (by decide))
     have q633 : ¬ v584.toInt = v585.toInt := fun q => hc593 (Int64.toInt_inj.mp q)
     omega
    ·
     show KEnds p e below s _ _ _ T572 (mkF m 237 #[.val (.long i0), .second, .val (.long i1), .second, .val (.long i2), .second, .val (.long i3), .second, .val (.long i4), .second, .val (.int i5), .val (.int (1 : Int32)), .val (.long v360), .second, .val (.ref b361), .val (.ref b375)] [(.int (1 : Int32))])
     refine k_if_eq X572 hx (hb hby at_237) (pn := 240) rfl (py := 299) (by decide) (fun hc => absurd hc (by decide)) (fun _ => ?_)
     refine k_aload X572 hx (hb hby at_240) rfl rfl (pc' := 242) rfl ?_
     refine k_bipush X572 hx (hb hby at_242) (pc' := 244) rfl (z := (6 : Int32)) rfl ?_
     refine k_laload X572 hx hZ e572 F446 ⟨by decide, by decide⟩ (v := (.long v428)) rfl (hb hby at_244) (pc' := 245) rfl ?_
     refine k_aload X572 hx (hb hby at_245) rfl rfl (pc' := 247) rfl ?_
     refine k_bipush X572 hx (hb hby at_247) (pc' := 249) rfl (z := (7 : Int32)) rfl ?_
     refine k_laload X572 hx hZ e572 F446 ⟨by decide, by decide⟩ (v := (.long v430)) rfl (hb hby at_249) (pc' := 250) rfl ?_
     refine k_lload X572 hx (hb hby at_250) rfl (pc' := 252) rfl ?_
     refine k_callS X572 hx hZ hown (hw _ (List.mem_of_getElem? (i := 7) rfl)) (hw _ (List.mem_of_getElem? (i := 8) rfl)) (hw _ (List.mem_of_getElem? (i := 9) rfl)) (hw _ (List.mem_of_getElem? (i := 10) rfl)) (by decide) (rm2_94 l Z a0 hw [] v428 v430 i3 T418.heap n0 Z447 ) (by decide) (by decide) e572 (by rw [hml]; rfl) (argsL := [(.long v428), (.long v430), (.long i3)]) (rest := []) (lenOf pd_1 rfl) rfl (W := 0) (Nat.le_refl _) rfl (hb hby at_252) (by decide) (by decide) (pc' := 255) rfl (fun T634 L634 r634 X634 q634 => ?_)
     obtain ⟨N634, e634, q634⟩ := q634
     have N634' := Fr.app N572' N634
     rcases q634 with ⟨hc635, rfl⟩ | ⟨hc636, hc637, rfl⟩ | ⟨hc638, hc639, hc640, rfl⟩ | ⟨hc641, hc642, hc643, hc644, rfl⟩ | ⟨v645, v646, v647, h648, h649, h650, hc651, hc652, hc653, hc654, hc655, rfl⟩ | ⟨v656, v657, v658, h659, h660, h661, hc662, hc663, hc664, hc665, hc666, rfl⟩
     ·
      show KEnds p e below s _ _ _ T634 (mkF m 255 #[.val (.long i0), .second, .val (.long i1), .second, .val (.long i2), .second, .val (.long i3), .second, .val (.long i4), .second, .val (.int i5), .val (.int (1 : Int32)), .val (.long v360), .second, .val (.ref b361), .val (.ref b375)] [(.int (0 : Int32))])
      refine k_if_eq X634 hx (hb hby at_255) (pn := 258) rfl (py := 299) (by decide) (fun _ => ?_) (fun hc => absurd (by decide) hc)
      refine k_iconst X634 hx (hb hby at_299) (pc' := 300) rfl (z := (0 : Int32)) rfl ?_
      exfalso
      have := rng64 v428
      have := rng64 i3
      have : (536870911 : Int64).toInt = 536870911 := (by decide)
      have q667 : v428.toInt = i3.toInt % 536870912 := (by rw [h441]; exact c_maskL _ _ 29 (by decide) (by decide))
      have : (0 : Int64).toInt = 0 := (by decide)
      have q668 := hc635; rw [Int64.lt_iff_toInt_lt] at q668
      omega
     ·
      show KEnds p e below s _ _ _ T634 (mkF m 255 #[.val (.long i0), .second, .val (.long i1), .second, .val (.long i2), .second, .val (.long i3), .second, .val (.long i4), .second, .val (.int i5), .val (.int (1 : Int32)), .val (.long v360), .second, .val (.ref b361), .val (.ref b375)] [(.int (0 : Int32))])
      refine k_if_eq X634 hx (hb hby at_255) (pn := 258) rfl (py := 299) (by decide) (fun _ => ?_) (fun hc => absurd (by decide) hc)
      refine k_iconst X634 hx (hb hby at_299) (pc' := 300) rfl (z := (0 : Int32)) rfl ?_
      exfalso
      have := rng64 v428
      have := rng64 i3
      have : (536870911 : Int64).toInt = 536870911 := (by decide)
      have q669 : v428.toInt = i3.toInt % 536870912 := (by rw [h441]; exact c_maskL _ _ 29 (by decide) (by decide))
      have : (0 : Int64).toInt = 0 := (by decide)
      have q670 := hc636; rw [Int64.lt_iff_toInt_lt] at q670
      have q671 := hc637; rw [Int64.lt_iff_toInt_lt] at q671
      omega
     ·
      show KEnds p e below s _ _ _ T634 (mkF m 255 #[.val (.long i0), .second, .val (.long i1), .second, .val (.long i2), .second, .val (.long i3), .second, .val (.long i4), .second, .val (.int i5), .val (.int (1 : Int32)), .val (.long v360), .second, .val (.ref b361), .val (.ref b375)] [(.int (0 : Int32))])
      refine k_if_eq X634 hx (hb hby at_255) (pn := 258) rfl (py := 299) (by decide) (fun _ => ?_) (fun hc => absurd (by decide) hc)
      refine k_iconst X634 hx (hb hby at_299) (pc' := 300) rfl (z := (0 : Int32)) rfl ?_
      exfalso
      have := rng64 v428
      have := rng64 i3
      have : (536870911 : Int64).toInt = 536870911 := (by decide)
      have q672 : v428.toInt = i3.toInt % 536870912 := (by rw [h441]; exact c_maskL _ _ 29 (by decide) (by decide))
      have : (0 : Int64).toInt = 0 := (by decide)
      have q673 := hc638; rw [Int64.lt_iff_toInt_lt] at q673
      have q674 := hc639; rw [Int64.lt_iff_toInt_lt] at q674
      have := rng64 v430
      have := rng64 v429
      have : (29 : Int32).toInt = 29 := (by decide)
      have q675 : v429.toInt = (i3.toInt % 18446744073709551616) / 536870912 := (by rw [h442]; exact c_lushr _ _ 29 (by decide) (by decide))
      have q676 : v430.toInt = v429.toInt % 536870912 := (by rw [h443]; exact c_maskL _ _ 29 (by decide) (by decide))
      have q677 := hc640; rw [Int64.lt_iff_toInt_lt] at q677
      omega
     ·
      show KEnds p e below s _ _ _ T634 (mkF m 255 #[.val (.long i0), .second, .val (.long i1), .second, .val (.long i2), .second, .val (.long i3), .second, .val (.long i4), .second, .val (.int i5), .val (.int (1 : Int32)), .val (.long v360), .second, .val (.ref b361), .val (.ref b375)] [(.int (0 : Int32))])
      refine k_if_eq X634 hx (hb hby at_255) (pn := 258) rfl (py := 299) (by decide) (fun _ => ?_) (fun hc => absurd (by decide) hc)
      refine k_iconst X634 hx (hb hby at_299) (pc' := 300) rfl (z := (0 : Int32)) rfl ?_
      exfalso
      have := rng64 v428
      have := rng64 i3
      have : (536870911 : Int64).toInt = 536870911 := (by decide)
      have q678 : v428.toInt = i3.toInt % 536870912 := (by rw [h441]; exact c_maskL _ _ 29 (by decide) (by decide))
      have : (0 : Int64).toInt = 0 := (by decide)
      have q679 := hc641; rw [Int64.lt_iff_toInt_lt] at q679
      have q680 := hc642; rw [Int64.lt_iff_toInt_lt] at q680
      have := rng64 v430
      have := rng64 v429
      have : (29 : Int32).toInt = 29 := (by decide)
      have q681 : v429.toInt = (i3.toInt % 18446744073709551616) / 536870912 := (by rw [h442]; exact c_lushr _ _ 29 (by decide) (by decide))
      have q682 : v430.toInt = v429.toInt % 536870912 := (by rw [h443]; exact c_maskL _ _ 29 (by decide) (by decide))
      have q683 := hc643; rw [Int64.lt_iff_toInt_lt] at q683
      have q684 := hc644; rw [Int64.lt_iff_toInt_lt] at q684
      omega
     ·
      show KEnds p e below s _ _ _ T634 (mkF m 255 #[.val (.long i0), .second, .val (.long i1), .second, .val (.long i2), .second, .val (.long i3), .second, .val (.long i4), .second, .val (.int i5), .val (.int (1 : Int32)), .val (.long v360), .second, .val (.ref b361), .val (.ref b375)] [(.int (0 : Int32))])
      refine k_if_eq X634 hx (hb hby at_255) (pn := 258) rfl (py := 299) (by decide) (fun _ => ?_) (fun hc => absurd (by decide) hc)
      refine k_iconst X634 hx (hb hby at_299) (pc' := 300) rfl (z := (0 : Int32)) rfl ?_
      exfalso
      have := rng64 v428
      have := rng64 i3
      have : (536870911 : Int64).toInt = 536870911 := (by decide)
      have q685 : v428.toInt = i3.toInt % 536870912 := (by rw [h441]; exact c_maskL _ _ 29 (by decide) (by decide))
      have : (0 : Int64).toInt = 0 := (by decide)
      have q686 := hc651; rw [Int64.lt_iff_toInt_lt] at q686
      have q687 := hc652; rw [Int64.lt_iff_toInt_lt] at q687
      have := rng64 v430
      have := rng64 v429
      have : (29 : Int32).toInt = 29 := (by decide)
      have q688 : v429.toInt = (i3.toInt % 18446744073709551616) / 536870912 := (by rw [h442]; exact c_lushr _ _ 29 (by decide) (by decide))
      have q689 : v430.toInt = v429.toInt % 536870912 := (by rw [h443]; exact c_maskL _ _ 29 (by decide) (by decide))
      have q690 := hc653; rw [Int64.lt_iff_toInt_lt] at q690
      have q691 := hc654; rw [Int64.lt_iff_toInt_lt] at q691
      have := rng64 v646
      have := rng64 v645
      have q692 : (v645.toInt - v430.toInt * 536870912) % 18446744073709551616 = 0 := (by rw [h648]; exact c_lshl _ _ 29 (by decide))
      have q693 : (v646.toInt - (v428.toInt + v645.toInt)) % 18446744073709551616 = 0 := (by rw [h649]; exact c_ladd _ _)
      have := rng64 v647
      have : (288230376151711743 : Int64).toInt = 288230376151711743 := (by decide)
      have q694 : v647.toInt = i3.toInt % 288230376151711744 := (by rw [h650]; exact c_maskL _ _ 58 (by decide) (by decide))
      have q695 : ¬ v646.toInt = v647.toInt := fun q => hc655 (Int64.toInt_inj.mp q)
      omega
     ·
      show KEnds p e below s _ _ _ T634 (mkF m 255 #[.val (.long i0), .second, .val (.long i1), .second, .val (.long i2), .second, .val (.long i3), .second, .val (.long i4), .second, .val (.int i5), .val (.int (1 : Int32)), .val (.long v360), .second, .val (.ref b361), .val (.ref b375)] [(.int (1 : Int32))])
      refine k_if_eq X634 hx (hb hby at_255) (pn := 258) rfl (py := 299) (by decide) (fun hc => absurd hc (by decide)) (fun _ => ?_)
      refine k_aload X634 hx (hb hby at_258) rfl rfl (pc' := 260) rfl ?_
      refine k_bipush X634 hx (hb hby at_260) (pc' := 262) rfl (z := (8 : Int32)) rfl ?_
      refine k_laload X634 hx hZ e634 F446 ⟨by decide, by decide⟩ (v := (.long v431)) rfl (hb hby at_262) (pc' := 263) rfl ?_
      refine k_lconst X634 hx (hb hby at_263) (pc' := 264) rfl (z := (0 : Int64)) rfl ?_
      refine k_lcif_lt X634 hx (hb hby at_264) (pm := 265) rfl (hb hby at_265) (pn := 268) rfl (py := 299) (by decide) (fun hc696 => ?_) (fun hc696 => ?_)
      ·
       refine k_iconst X634 hx (hb hby at_299) (pc' := 300) rfl (z := (0 : Int32)) rfl ?_
       exfalso
       have := rng64 v431
       have := rng64 i4
       have : (536870911 : Int64).toInt = 536870911 := (by decide)
       have q697 : v431.toInt = i4.toInt % 536870912 := (by rw [h444]; exact c_maskL _ _ 29 (by decide) (by decide))
       have : (0 : Int64).toInt = 0 := (by decide)
       have q698 := hc696; rw [Int64.lt_iff_toInt_lt] at q698
       omega
      ·
       refine k_aload X634 hx (hb hby at_268) rfl rfl (pc' := 270) rfl ?_
       refine k_bipush X634 hx (hb hby at_270) (pc' := 272) rfl (z := (8 : Int32)) rfl ?_
       refine k_laload X634 hx hZ e634 F446 ⟨by decide, by decide⟩ (v := (.long v431)) rfl (hb hby at_272) (pc' := 273) rfl ?_
       refine k_ldcL X634 hx hZ hown (hw _ (List.mem_of_getElem? (i := 11) rfl)) (hb hby at_273) (pc' := 276) rfl ?_
       refine k_lcif_gt X634 hx (hb hby at_276) (pm := 277) rfl (hb hby at_277) (pn := 280) rfl (py := 299) (by decide) (fun hc699 => ?_) (fun hc699 => ?_)
       ·
        refine k_iconst X634 hx (hb hby at_299) (pc' := 300) rfl (z := (0 : Int32)) rfl ?_
        exfalso
        have := rng64 v431
        have := rng64 i4
        have : (536870911 : Int64).toInt = 536870911 := (by decide)
        have q700 : v431.toInt = i4.toInt % 536870912 := (by rw [h444]; exact c_maskL _ _ 29 (by decide) (by decide))
        have : (0 : Int64).toInt = 0 := (by decide)
        have q701 := hc696; rw [Int64.lt_iff_toInt_lt] at q701
        have q702 := hc699; rw [Int64.lt_iff_toInt_lt] at q702
        omega
       ·
        refine k_aload X634 hx (hb hby at_280) rfl rfl (pc' := 282) rfl ?_
        refine k_bipush X634 hx (hb hby at_282) (pc' := 284) rfl (z := (8 : Int32)) rfl ?_
        refine k_laload X634 hx hZ e634 F446 ⟨by decide, by decide⟩ (v := (.long v431)) rfl (hb hby at_284) (pc' := 285) rfl ?_
        refine k_lload X634 hx (hb hby at_285) rfl (pc' := 287) rfl ?_
        refine k_ldcL X634 hx hZ hown (hw _ (List.mem_of_getElem? (i := 11) rfl)) (hb hby at_287) (pc' := 290) rfl ?_
        refine k_landL X634 hx (hb hby at_290) (pc' := 291) rfl (z := v431) h444.symm ?_
        refine k_lcif_ne X634 hx (hb hby at_291) (pm := 292) rfl (hb hby at_292) (pn := 295) rfl (py := 299) (by decide) (fun hc => absurd rfl hc) (fun _ => ?_)
        refine k_iconst X634 hx (hb hby at_295) (pc' := 296) rfl (z := (1 : Int32)) rfl ?_
        refine k_goto X634 hx (hb hby at_296) (pc' := 300) (by decide) ?_
        exact k_retN X634 hx (t := .boolean) Bd.returns (by simp) (hb hby at_300) hlk (by decide) (by decide) (z' := (1 : Int32)) rfl ⟨rfl, N634'⟩
 ·
  show KEnds p e below s _ _ _ s₁ (mkF m 4 #[.val (.long i0), .second, .val (.long i1), .second, .val (.long i2), .second, .val (.long i3), .second, .val (.long i4), .second, .val (.int i5), .unset, .unset, .unset, .unset, .unset] [(.int (2 : Int32))])
  refine k_istore X0 hx (hb hby at_4) (Ls' := #[.val (.long i0), .second, .val (.long i1), .second, .val (.long i2), .second, .val (.long i3), .second, .val (.long i4), .second, .val (.int i5), .val (.int (2 : Int32)), .unset, .unset, .unset, .unset]) rfl (pc' := 6) rfl ?_
  refine k_lloadN X0 hx (hb hby at_6) rfl (pc' := 7) rfl ?_
  refine k_lload X0 hx (hb hby at_7) rfl (pc' := 9) rfl ?_
  refine k_lxor X0 hx (hb hby at_9) (pc' := 10) rfl (fun v704 hv704 => ?_)
  refine k_ldcL X0 hx hZ hown (hw _ (List.mem_of_getElem? (i := 0) rfl)) (hb hby at_10) (pc' := 13) rfl ?_
  refine k_lxor X0 hx (hb hby at_13) (pc' := 14) rfl (fun v705 hv705 => ?_)
  refine k_lstore X0 hx (hb hby at_14) (Ls' := #[.val (.long i0), .second, .val (.long i1), .second, .val (.long i2), .second, .val (.long i3), .second, .val (.long i4), .second, .val (.int i5), .val (.int (2 : Int32)), .val (.long v705), .second, .unset, .unset]) rfl (pc' := 16) rfl ?_
  refine k_bipush X0 hx (hb hby at_16) (pc' := 18) rfl (z := (8 : Int32)) rfl ?_
  refine k_newA X0 hx hZ (hw _ (List.mem_of_getElem? (i := 1) rfl)) e0 (hb hby at_18) (by decide) (cap := 8) (by decide) (by decide) (by decide) (by decide) (pc' := 20) rfl (fun T706 h706 b706 k706 g706 X706 e706 E706 V706 => ?_)
  have g_b706 : n0 ≤ b706 := Nat.le_trans Z0 (Nat.le_of_eq g706.symm)
  have Z706 : n0 ≤ h706.size := Nat.le_trans Z0 E706.1
  have Vw706 : Arv Z h706 b706 k706 .long (8 : Int32) [(.long (0 : Int64)), (.long (0 : Int64)), (.long (0 : Int64)), (.long (0 : Int64)), (.long (0 : Int64)), (.long (0 : Int64)), (.long (0 : Int64)), (.long (0 : Int64))] (.long (0 : Int64)) := V706
  refine k_astore X706 hx (hb hby at_20) rfl (Ls' := #[.val (.long i0), .second, .val (.long i1), .second, .val (.long i2), .second, .val (.long i3), .second, .val (.long i4), .second, .val (.int i5), .val (.int (2 : Int32)), .val (.long v705), .second, .val (.ref b706), .unset]) rfl (pc' := 22) rfl ?_
  refine k_aload X706 hx (hb hby at_22) rfl rfl (pc' := 24) rfl ?_
  refine k_iconst X706 hx (hb hby at_24) (pc' := 25) rfl (z := (0 : Int32)) rfl ?_
  refine k_lload X706 hx (hb hby at_25) rfl (pc' := 27) rfl ?_
  refine k_lastore X706 hx hZ e706 Vw706 ⟨by decide, by decide⟩ (i := 0) rfl (Nat.le_of_ble_eq_true rfl) (hb hby at_27) (pc' := 28) rfl (fun T707 h707 X707 e707 W707 V707 => ?_)
  have Vw707 : Arv Z h707 b706 k706 .long (8 : Int32) [(.long v705), (.long (0 : Int64)), (.long (0 : Int64)), (.long (0 : Int64)), (.long (0 : Int64)), (.long (0 : Int64)), (.long (0 : Int64)), (.long (0 : Int64))] (.long (0 : Int64)) := V707
  have N707 := Fr.snoc X707 N0 g_b706
  have Z707 : n0 ≤ h707.size := Nat.le_trans Z706 (Nat.le_of_eq W707.size.symm)
  refine k_aload X707 hx (hb hby at_28) rfl rfl (pc' := 30) rfl ?_
  refine k_iconst X707 hx (hb hby at_30) (pc' := 31) rfl (z := (1 : Int32)) rfl ?_
  refine k_lload X707 hx (hb hby at_31) rfl (pc' := 33) rfl ?_
  refine k_lastore X707 hx hZ e707 Vw707 ⟨by decide, by decide⟩ (i := 1) rfl (Nat.le_of_ble_eq_true rfl) (hb hby at_33) (pc' := 34) rfl (fun T708 h708 X708 e708 W708 V708 => ?_)
  have Vw708 : Arv Z h708 b706 k706 .long (8 : Int32) [(.long v705), (.long v705), (.long (0 : Int64)), (.long (0 : Int64)), (.long (0 : Int64)), (.long (0 : Int64)), (.long (0 : Int64)), (.long (0 : Int64))] (.long (0 : Int64)) := V708
  have N708 := Fr.snoc X708 N707 g_b706
  have Z708 : n0 ≤ h708.size := Nat.le_trans Z707 (Nat.le_of_eq W708.size.symm)
  refine k_aload X708 hx (hb hby at_34) rfl rfl (pc' := 36) rfl ?_
  refine k_iconst X708 hx (hb hby at_36) (pc' := 37) rfl (z := (2 : Int32)) rfl ?_
  refine k_lload X708 hx (hb hby at_37) rfl (pc' := 39) rfl ?_
  refine k_lastore X708 hx hZ e708 Vw708 ⟨by decide, by decide⟩ (i := 2) rfl (Nat.le_of_ble_eq_true rfl) (hb hby at_39) (pc' := 40) rfl (fun T709 h709 X709 e709 W709 V709 => ?_)
  have Vw709 : Arv Z h709 b706 k706 .long (8 : Int32) [(.long v705), (.long v705), (.long v705), (.long (0 : Int64)), (.long (0 : Int64)), (.long (0 : Int64)), (.long (0 : Int64)), (.long (0 : Int64))] (.long (0 : Int64)) := V709
  have N709 := Fr.snoc X709 N708 g_b706
  have Z709 : n0 ≤ h709.size := Nat.le_trans Z708 (Nat.le_of_eq W709.size.symm)
  refine k_aload X709 hx (hb hby at_40) rfl rfl (pc' := 42) rfl ?_
  refine k_iconst X709 hx (hb hby at_42) (pc' := 43) rfl (z := (3 : Int32)) rfl ?_
  refine k_lload X709 hx (hb hby at_43) rfl (pc' := 45) rfl ?_
  refine k_lastore X709 hx hZ e709 Vw709 ⟨by decide, by decide⟩ (i := 3) rfl (Nat.le_of_ble_eq_true rfl) (hb hby at_45) (pc' := 46) rfl (fun T710 h710 X710 e710 W710 V710 => ?_)
  have Vw710 : Arv Z h710 b706 k706 .long (8 : Int32) [(.long v705), (.long v705), (.long v705), (.long v705), (.long (0 : Int64)), (.long (0 : Int64)), (.long (0 : Int64)), (.long (0 : Int64))] (.long (0 : Int64)) := V710
  have N710 := Fr.snoc X710 N709 g_b706
  have Z710 : n0 ≤ h710.size := Nat.le_trans Z709 (Nat.le_of_eq W710.size.symm)
  refine k_aload X710 hx (hb hby at_46) rfl rfl (pc' := 48) rfl ?_
  refine k_iconst X710 hx (hb hby at_48) (pc' := 49) rfl (z := (4 : Int32)) rfl ?_
  refine k_lload X710 hx (hb hby at_49) rfl (pc' := 51) rfl ?_
  refine k_lastore X710 hx hZ e710 Vw710 ⟨by decide, by decide⟩ (i := 4) rfl (Nat.le_of_ble_eq_true rfl) (hb hby at_51) (pc' := 52) rfl (fun T711 h711 X711 e711 W711 V711 => ?_)
  have Vw711 : Arv Z h711 b706 k706 .long (8 : Int32) [(.long v705), (.long v705), (.long v705), (.long v705), (.long v705), (.long (0 : Int64)), (.long (0 : Int64)), (.long (0 : Int64))] (.long (0 : Int64)) := V711
  have N711 := Fr.snoc X711 N710 g_b706
  have Z711 : n0 ≤ h711.size := Nat.le_trans Z710 (Nat.le_of_eq W711.size.symm)
  refine k_aload X711 hx (hb hby at_52) rfl rfl (pc' := 54) rfl ?_
  refine k_iconst X711 hx (hb hby at_54) (pc' := 55) rfl (z := (5 : Int32)) rfl ?_
  refine k_lload X711 hx (hb hby at_55) rfl (pc' := 57) rfl ?_
  refine k_lastore X711 hx hZ e711 Vw711 ⟨by decide, by decide⟩ (i := 5) rfl (Nat.le_of_ble_eq_true rfl) (hb hby at_57) (pc' := 58) rfl (fun T712 h712 X712 e712 W712 V712 => ?_)
  have Vw712 : Arv Z h712 b706 k706 .long (8 : Int32) [(.long v705), (.long v705), (.long v705), (.long v705), (.long v705), (.long v705), (.long (0 : Int64)), (.long (0 : Int64))] (.long (0 : Int64)) := V712
  have N712 := Fr.snoc X712 N711 g_b706
  have Z712 : n0 ≤ h712.size := Nat.le_trans Z711 (Nat.le_of_eq W712.size.symm)
  refine k_aload X712 hx (hb hby at_58) rfl rfl (pc' := 60) rfl ?_
  refine k_bipush X712 hx (hb hby at_60) (pc' := 62) rfl (z := (6 : Int32)) rfl ?_
  refine k_lload X712 hx (hb hby at_62) rfl (pc' := 64) rfl ?_
  refine k_lastore X712 hx hZ e712 Vw712 ⟨by decide, by decide⟩ (i := 6) rfl (Nat.le_of_ble_eq_true rfl) (hb hby at_64) (pc' := 65) rfl (fun T713 h713 X713 e713 W713 V713 => ?_)
  have Vw713 : Arv Z h713 b706 k706 .long (8 : Int32) [(.long v705), (.long v705), (.long v705), (.long v705), (.long v705), (.long v705), (.long v705), (.long (0 : Int64))] (.long (0 : Int64)) := V713
  have N713 := Fr.snoc X713 N712 g_b706
  have Z713 : n0 ≤ h713.size := Nat.le_trans Z712 (Nat.le_of_eq W713.size.symm)
  refine k_aload X713 hx (hb hby at_65) rfl rfl (pc' := 67) rfl ?_
  refine k_bipush X713 hx (hb hby at_67) (pc' := 69) rfl (z := (7 : Int32)) rfl ?_
  refine k_lload X713 hx (hb hby at_69) rfl (pc' := 71) rfl ?_
  refine k_lastore X713 hx hZ e713 Vw713 ⟨by decide, by decide⟩ (i := 7) rfl (Nat.le_of_ble_eq_true rfl) (hb hby at_71) (pc' := 72) rfl (fun T714 h714 X714 e714 W714 V714 => ?_)
  have Vw714 : Arv Z h714 b706 k706 .long (8 : Int32) [(.long v705), (.long v705), (.long v705), (.long v705), (.long v705), (.long v705), (.long v705), (.long v705)] (.long (0 : Int64)) := V714
  have N714 := Fr.snoc X714 N713 g_b706
  have Z714 : n0 ≤ h714.size := Nat.le_trans Z713 (Nat.le_of_eq W714.size.symm)
  refine k_aload X714 hx (hb hby at_72) rfl rfl (pc' := 74) rfl ?_
  refine k_iload X714 hx (hb hby at_74) rfl (pc' := 76) rfl ?_
  refine k_lloadN X714 hx (hb hby at_76) rfl (pc' := 77) rfl ?_
  refine k_lastore X714 hx hZ e714 Vw714 ⟨by decide, by decide⟩ (i := 2) rfl (Nat.le_of_ble_eq_true rfl) (hb hby at_77) (pc' := 78) rfl (fun T715 h715 X715 e715 W715 V715 => ?_)
  have Vw715 : Arv Z h715 b706 k706 .long (8 : Int32) [(.long v705), (.long v705), (.long i0), (.long v705), (.long v705), (.long v705), (.long v705), (.long v705)] (.long (0 : Int64)) := V715
  have N715 := Fr.snoc X715 N714 g_b706
  have Z715 : n0 ≤ h715.size := Nat.le_trans Z714 (Nat.le_of_eq W715.size.symm)
  refine k_aload X715 hx (hb hby at_78) rfl rfl (pc' := 80) rfl ?_
  refine k_iload X715 hx (hb hby at_80) rfl (pc' := 82) rfl ?_
  refine k_iconst X715 hx (hb hby at_82) (pc' := 83) rfl (z := (1 : Int32)) rfl ?_
  refine k_iaddL X715 hx (hb hby at_83) (pc' := 84) rfl (z := (3 : Int32)) (by decide) ?_
  refine k_lloadN X715 hx (hb hby at_84) rfl (pc' := 85) rfl ?_
  refine k_lastore X715 hx hZ e715 Vw715 ⟨by decide, by decide⟩ (i := 3) rfl (Nat.le_of_ble_eq_true rfl) (hb hby at_85) (pc' := 86) rfl (fun T716 h716 X716 e716 W716 V716 => ?_)
  have Vw716 : Arv Z h716 b706 k706 .long (8 : Int32) [(.long v705), (.long v705), (.long i0), (.long i1), (.long v705), (.long v705), (.long v705), (.long v705)] (.long (0 : Int64)) := V716
  have N716 := Fr.snoc X716 N715 g_b706
  have Z716 : n0 ≤ h716.size := Nat.le_trans Z715 (Nat.le_of_eq W716.size.symm)
  refine k_aload X716 hx (hb hby at_86) rfl rfl (pc' := 88) rfl ?_
  refine k_iload X716 hx (hb hby at_88) rfl (pc' := 90) rfl ?_
  refine k_iconst X716 hx (hb hby at_90) (pc' := 91) rfl (z := (2 : Int32)) rfl ?_
  refine k_iaddL X716 hx (hb hby at_91) (pc' := 92) rfl (z := (4 : Int32)) (by decide) ?_
  refine k_lload X716 hx (hb hby at_92) rfl (pc' := 94) rfl ?_
  refine k_lastore X716 hx hZ e716 Vw716 ⟨by decide, by decide⟩ (i := 4) rfl (Nat.le_of_ble_eq_true rfl) (hb hby at_94) (pc' := 95) rfl (fun T717 h717 X717 e717 W717 V717 => ?_)
  have Vw717 : Arv Z h717 b706 k706 .long (8 : Int32) [(.long v705), (.long v705), (.long i0), (.long i1), (.long i2), (.long v705), (.long v705), (.long v705)] (.long (0 : Int64)) := V717
  have N717 := Fr.snoc X717 N716 g_b706
  have Z717 : n0 ≤ h717.size := Nat.le_trans Z716 (Nat.le_of_eq W717.size.symm)
  refine k_aload X717 hx (hb hby at_95) rfl rfl (pc' := 97) rfl ?_
  refine k_iload X717 hx (hb hby at_97) rfl (pc' := 99) rfl ?_
  refine k_iconst X717 hx (hb hby at_99) (pc' := 100) rfl (z := (3 : Int32)) rfl ?_
  refine k_iaddL X717 hx (hb hby at_100) (pc' := 101) rfl (z := (5 : Int32)) (by decide) ?_
  refine k_lload X717 hx (hb hby at_101) rfl (pc' := 103) rfl ?_
  refine k_lastore X717 hx hZ e717 Vw717 ⟨by decide, by decide⟩ (i := 5) rfl (Nat.le_of_ble_eq_true rfl) (hb hby at_103) (pc' := 104) rfl (fun T718 h718 X718 e718 W718 V718 => ?_)
  have Vw718 : Arv Z h718 b706 k706 .long (8 : Int32) [(.long v705), (.long v705), (.long i0), (.long i1), (.long i2), (.long i3), (.long v705), (.long v705)] (.long (0 : Int64)) := V718
  have N718 := Fr.snoc X718 N717 g_b706
  have Z718 : n0 ≤ h718.size := Nat.le_trans Z717 (Nat.le_of_eq W718.size.symm)
  refine k_aload X718 hx (hb hby at_104) rfl rfl (pc' := 106) rfl ?_
  refine k_iload X718 hx (hb hby at_106) rfl (pc' := 108) rfl ?_
  refine k_iconst X718 hx (hb hby at_108) (pc' := 109) rfl (z := (4 : Int32)) rfl ?_
  refine k_iaddL X718 hx (hb hby at_109) (pc' := 110) rfl (z := (6 : Int32)) (by decide) ?_
  refine k_lload X718 hx (hb hby at_110) rfl (pc' := 112) rfl ?_
  refine k_lastore X718 hx hZ e718 Vw718 ⟨by decide, by decide⟩ (i := 6) rfl (Nat.le_of_ble_eq_true rfl) (hb hby at_112) (pc' := 113) rfl (fun T719 h719 X719 e719 W719 V719 => ?_)
  have Vw719 : Arv Z h719 b706 k706 .long (8 : Int32) [(.long v705), (.long v705), (.long i0), (.long i1), (.long i2), (.long i3), (.long i4), (.long v705)] (.long (0 : Int64)) := V719
  have N719 := Fr.snoc X719 N718 g_b706
  have Z719 : n0 ≤ h719.size := Nat.le_trans Z718 (Nat.le_of_eq W719.size.symm)
  refine k_bipush X719 hx (hb hby at_113) (pc' := 115) rfl (z := (9 : Int32)) rfl ?_
  refine k_newA X719 hx hZ (hw _ (List.mem_of_getElem? (i := 1) rfl)) e719 (hb hby at_115) (by decide) (cap := 9) (by decide) (by decide) (by decide) (by decide) (pc' := 117) rfl (fun T720 h720 b720 k720 g720 X720 e720 E720 V720 => ?_)
  have g_b720 : n0 ≤ b720 := Nat.le_trans Z719 (Nat.le_of_eq g720.symm)
  have lt_b720 : b706 < b720 := Nat.lt_of_lt_of_le Vw719.lt (Nat.le_of_eq g720.symm)
  have Z720 : n0 ≤ h720.size := Nat.le_trans Z719 E720.1
  have Vw720 : Arv Z h720 b720 k720 .long (9 : Int32) [(.long (0 : Int64)), (.long (0 : Int64)), (.long (0 : Int64)), (.long (0 : Int64)), (.long (0 : Int64)), (.long (0 : Int64)), (.long (0 : Int64)), (.long (0 : Int64)), (.long (0 : Int64))] (.long (0 : Int64)) := V720
  refine k_astore X720 hx (hb hby at_117) rfl (Ls' := #[.val (.long i0), .second, .val (.long i1), .second, .val (.long i2), .second, .val (.long i3), .second, .val (.long i4), .second, .val (.int i5), .val (.int (2 : Int32)), .val (.long v705), .second, .val (.ref b706), .val (.ref b720)]) rfl (pc' := 119) rfl ?_
  refine k_aload X720 hx (hb hby at_119) rfl rfl (pc' := 121) rfl ?_
  refine k_iconst X720 hx (hb hby at_121) (pc' := 122) rfl (z := (0 : Int32)) rfl ?_
  refine k_ldcL X720 hx hZ hown (hw _ (List.mem_of_getElem? (i := 0) rfl)) (hb hby at_122) (pc' := 125) rfl ?_
  refine k_lastore X720 hx hZ e720 Vw720 ⟨by decide, by decide⟩ (i := 0) rfl (Nat.le_of_ble_eq_true rfl) (hb hby at_125) (pc' := 126) rfl (fun T721 h721 X721 e721 W721 V721 => ?_)
  have Vw721 : Arv Z h721 b720 k720 .long (9 : Int32) [(.long (-1 : Int64)), (.long (0 : Int64)), (.long (0 : Int64)), (.long (0 : Int64)), (.long (0 : Int64)), (.long (0 : Int64)), (.long (0 : Int64)), (.long (0 : Int64)), (.long (0 : Int64))] (.long (0 : Int64)) := V721
  have N721 := Fr.snoc X721 N719 g_b720
  have Z721 : n0 ≤ h721.size := Nat.le_trans Z720 (Nat.le_of_eq W721.size.symm)
  refine k_aload X721 hx (hb hby at_126) rfl rfl (pc' := 128) rfl ?_
  refine k_iconst X721 hx (hb hby at_128) (pc' := 129) rfl (z := (1 : Int32)) rfl ?_
  refine k_ldcL X721 hx hZ hown (hw _ (List.mem_of_getElem? (i := 0) rfl)) (hb hby at_129) (pc' := 132) rfl ?_
  refine k_lastore X721 hx hZ e721 Vw721 ⟨by decide, by decide⟩ (i := 1) rfl (Nat.le_of_ble_eq_true rfl) (hb hby at_132) (pc' := 133) rfl (fun T722 h722 X722 e722 W722 V722 => ?_)
  have Vw722 : Arv Z h722 b720 k720 .long (9 : Int32) [(.long (-1 : Int64)), (.long (-1 : Int64)), (.long (0 : Int64)), (.long (0 : Int64)), (.long (0 : Int64)), (.long (0 : Int64)), (.long (0 : Int64)), (.long (0 : Int64)), (.long (0 : Int64))] (.long (0 : Int64)) := V722
  have N722 := Fr.snoc X722 N721 g_b720
  have Z722 : n0 ≤ h722.size := Nat.le_trans Z721 (Nat.le_of_eq W722.size.symm)
  refine k_aload X722 hx (hb hby at_133) rfl rfl (pc' := 135) rfl ?_
  refine k_iconst X722 hx (hb hby at_135) (pc' := 136) rfl (z := (2 : Int32)) rfl ?_
  refine k_ldcL X722 hx hZ hown (hw _ (List.mem_of_getElem? (i := 0) rfl)) (hb hby at_136) (pc' := 139) rfl ?_
  refine k_lastore X722 hx hZ e722 Vw722 ⟨by decide, by decide⟩ (i := 2) rfl (Nat.le_of_ble_eq_true rfl) (hb hby at_139) (pc' := 140) rfl (fun T723 h723 X723 e723 W723 V723 => ?_)
  have Vw723 : Arv Z h723 b720 k720 .long (9 : Int32) [(.long (-1 : Int64)), (.long (-1 : Int64)), (.long (-1 : Int64)), (.long (0 : Int64)), (.long (0 : Int64)), (.long (0 : Int64)), (.long (0 : Int64)), (.long (0 : Int64)), (.long (0 : Int64))] (.long (0 : Int64)) := V723
  have N723 := Fr.snoc X723 N722 g_b720
  have Z723 : n0 ≤ h723.size := Nat.le_trans Z722 (Nat.le_of_eq W723.size.symm)
  refine k_aload X723 hx (hb hby at_140) rfl rfl (pc' := 142) rfl ?_
  refine k_iconst X723 hx (hb hby at_142) (pc' := 143) rfl (z := (3 : Int32)) rfl ?_
  refine k_ldcL X723 hx hZ hown (hw _ (List.mem_of_getElem? (i := 0) rfl)) (hb hby at_143) (pc' := 146) rfl ?_
  refine k_lastore X723 hx hZ e723 Vw723 ⟨by decide, by decide⟩ (i := 3) rfl (Nat.le_of_ble_eq_true rfl) (hb hby at_146) (pc' := 147) rfl (fun T724 h724 X724 e724 W724 V724 => ?_)
  have Vw724 : Arv Z h724 b720 k720 .long (9 : Int32) [(.long (-1 : Int64)), (.long (-1 : Int64)), (.long (-1 : Int64)), (.long (-1 : Int64)), (.long (0 : Int64)), (.long (0 : Int64)), (.long (0 : Int64)), (.long (0 : Int64)), (.long (0 : Int64))] (.long (0 : Int64)) := V724
  have N724 := Fr.snoc X724 N723 g_b720
  have Z724 : n0 ≤ h724.size := Nat.le_trans Z723 (Nat.le_of_eq W724.size.symm)
  refine k_aload X724 hx (hb hby at_147) rfl rfl (pc' := 149) rfl ?_
  refine k_iconst X724 hx (hb hby at_149) (pc' := 150) rfl (z := (4 : Int32)) rfl ?_
  refine k_ldcL X724 hx hZ hown (hw _ (List.mem_of_getElem? (i := 0) rfl)) (hb hby at_150) (pc' := 153) rfl ?_
  refine k_lastore X724 hx hZ e724 Vw724 ⟨by decide, by decide⟩ (i := 4) rfl (Nat.le_of_ble_eq_true rfl) (hb hby at_153) (pc' := 154) rfl (fun T725 h725 X725 e725 W725 V725 => ?_)
  have Vw725 : Arv Z h725 b720 k720 .long (9 : Int32) [(.long (-1 : Int64)), (.long (-1 : Int64)), (.long (-1 : Int64)), (.long (-1 : Int64)), (.long (-1 : Int64)), (.long (0 : Int64)), (.long (0 : Int64)), (.long (0 : Int64)), (.long (0 : Int64))] (.long (0 : Int64)) := V725
  have N725 := Fr.snoc X725 N724 g_b720
  have Z725 : n0 ≤ h725.size := Nat.le_trans Z724 (Nat.le_of_eq W725.size.symm)
  refine k_aload X725 hx (hb hby at_154) rfl rfl (pc' := 156) rfl ?_
  refine k_iconst X725 hx (hb hby at_156) (pc' := 157) rfl (z := (5 : Int32)) rfl ?_
  refine k_ldcL X725 hx hZ hown (hw _ (List.mem_of_getElem? (i := 0) rfl)) (hb hby at_157) (pc' := 160) rfl ?_
  refine k_lastore X725 hx hZ e725 Vw725 ⟨by decide, by decide⟩ (i := 5) rfl (Nat.le_of_ble_eq_true rfl) (hb hby at_160) (pc' := 161) rfl (fun T726 h726 X726 e726 W726 V726 => ?_)
  have Vw726 : Arv Z h726 b720 k720 .long (9 : Int32) [(.long (-1 : Int64)), (.long (-1 : Int64)), (.long (-1 : Int64)), (.long (-1 : Int64)), (.long (-1 : Int64)), (.long (-1 : Int64)), (.long (0 : Int64)), (.long (0 : Int64)), (.long (0 : Int64))] (.long (0 : Int64)) := V726
  have N726 := Fr.snoc X726 N725 g_b720
  have Z726 : n0 ≤ h726.size := Nat.le_trans Z725 (Nat.le_of_eq W726.size.symm)
  refine k_aload X726 hx (hb hby at_161) rfl rfl (pc' := 163) rfl ?_
  refine k_bipush X726 hx (hb hby at_163) (pc' := 165) rfl (z := (6 : Int32)) rfl ?_
  refine k_ldcL X726 hx hZ hown (hw _ (List.mem_of_getElem? (i := 0) rfl)) (hb hby at_165) (pc' := 168) rfl ?_
  refine k_lastore X726 hx hZ e726 Vw726 ⟨by decide, by decide⟩ (i := 6) rfl (Nat.le_of_ble_eq_true rfl) (hb hby at_168) (pc' := 169) rfl (fun T727 h727 X727 e727 W727 V727 => ?_)
  have Vw727 : Arv Z h727 b720 k720 .long (9 : Int32) [(.long (-1 : Int64)), (.long (-1 : Int64)), (.long (-1 : Int64)), (.long (-1 : Int64)), (.long (-1 : Int64)), (.long (-1 : Int64)), (.long (-1 : Int64)), (.long (0 : Int64)), (.long (0 : Int64))] (.long (0 : Int64)) := V727
  have N727 := Fr.snoc X727 N726 g_b720
  have Z727 : n0 ≤ h727.size := Nat.le_trans Z726 (Nat.le_of_eq W727.size.symm)
  refine k_aload X727 hx (hb hby at_169) rfl rfl (pc' := 171) rfl ?_
  refine k_bipush X727 hx (hb hby at_171) (pc' := 173) rfl (z := (7 : Int32)) rfl ?_
  refine k_ldcL X727 hx hZ hown (hw _ (List.mem_of_getElem? (i := 0) rfl)) (hb hby at_173) (pc' := 176) rfl ?_
  refine k_lastore X727 hx hZ e727 Vw727 ⟨by decide, by decide⟩ (i := 7) rfl (Nat.le_of_ble_eq_true rfl) (hb hby at_176) (pc' := 177) rfl (fun T728 h728 X728 e728 W728 V728 => ?_)
  have Vw728 : Arv Z h728 b720 k720 .long (9 : Int32) [(.long (-1 : Int64)), (.long (-1 : Int64)), (.long (-1 : Int64)), (.long (-1 : Int64)), (.long (-1 : Int64)), (.long (-1 : Int64)), (.long (-1 : Int64)), (.long (-1 : Int64)), (.long (0 : Int64))] (.long (0 : Int64)) := V728
  have N728 := Fr.snoc X728 N727 g_b720
  have Z728 : n0 ≤ h728.size := Nat.le_trans Z727 (Nat.le_of_eq W728.size.symm)
  refine k_aload X728 hx (hb hby at_177) rfl rfl (pc' := 179) rfl ?_
  refine k_bipush X728 hx (hb hby at_179) (pc' := 181) rfl (z := (8 : Int32)) rfl ?_
  refine k_ldcL X728 hx hZ hown (hw _ (List.mem_of_getElem? (i := 0) rfl)) (hb hby at_181) (pc' := 184) rfl ?_
  refine k_lastore X728 hx hZ e728 Vw728 ⟨by decide, by decide⟩ (i := 8) rfl (Nat.le_of_ble_eq_true rfl) (hb hby at_184) (pc' := 185) rfl (fun T729 h729 X729 e729 W729 V729 => ?_)
  have Vw729 : Arv Z h729 b720 k720 .long (9 : Int32) [(.long (-1 : Int64)), (.long (-1 : Int64)), (.long (-1 : Int64)), (.long (-1 : Int64)), (.long (-1 : Int64)), (.long (-1 : Int64)), (.long (-1 : Int64)), (.long (-1 : Int64)), (.long (-1 : Int64))] (.long (0 : Int64)) := V729
  have N729 := Fr.snoc X729 N728 g_b720
  have Z729 : n0 ≤ h729.size := Nat.le_trans Z728 (Nat.le_of_eq W729.size.symm)
  refine k_aload X729 hx (hb hby at_185) rfl rfl (pc' := 187) rfl ?_
  refine k_aload X729 hx (hb hby at_187) rfl rfl (pc' := 189) rfl ?_
  refine k_iload X729 hx (hb hby at_189) rfl (pc' := 191) rfl ?_
  have F730 := ((((((((((Vw719.ext E720).other W721 (Nat.ne_of_lt lt_b720)).other W722 (Nat.ne_of_lt lt_b720)).other W723 (Nat.ne_of_lt lt_b720)).other W724 (Nat.ne_of_lt lt_b720)).other W725 (Nat.ne_of_lt lt_b720)).other W726 (Nat.ne_of_lt lt_b720)).other W727 (Nat.ne_of_lt lt_b720)).other W728 (Nat.ne_of_lt lt_b720)).other W729 (Nat.ne_of_lt lt_b720))
  refine k_callS X729 hx hZ hown (hw _ (List.mem_of_getElem? (i := 2) rfl)) (hw _ (List.mem_of_getElem? (i := 3) rfl)) (hw _ (List.mem_of_getElem? (i := 4) rfl)) (hw _ (List.mem_of_getElem? (i := 5) rfl)) (by decide) (rm1_731 l Z a0 hw [] b720 b706 k706 v705 i0 i1 i2 i3 i4 k720 h729 n0 Z729 F730 g_b706 Vw729 g_b720 lt_b720) (by decide) (by decide) e729 (by rw [hml]; rfl) (argsL := [(.ref b720), (.ref b706), (.int (2 : Int32))]) (rest := []) (lenOf pd_0 rfl) rfl (W := 0) (Nat.le_refl _) rfl (hb hby at_191) (by decide) (by decide) (pc' := 194) rfl (fun T763 L763 r763 X763 q763 => ?_)
  obtain ⟨N763, q763⟩ := q763
  have N763' := Fr.app N729 N763
  obtain ⟨v764, v765, v766, v767, v768, v769, v770, v771, v772, v773, v774, v775, v776, h777, h778, h779, h780, h781, h782, h783, h784, h785, h786, h787, h788, h789, rfl, F790, F791, Z792⟩ := q763
  show KEnds p e below s _ _ _ T763 (mkF m 194 #[.val (.long i0), .second, .val (.long i1), .second, .val (.long i2), .second, .val (.long i3), .second, .val (.long i4), .second, .val (.int i5), .val (.int (2 : Int32)), .val (.long v705), .second, .val (.ref b706), .val (.ref b720)] [])
  refine k_aload X763 hx (hb hby at_194) rfl rfl (pc' := 196) rfl ?_
  refine k_iconst X763 hx (hb hby at_196) (pc' := 197) rfl (z := (0 : Int32)) rfl ?_
  refine k_laload X763 hx hZ rfl F791 ⟨by decide, by decide⟩ (v := (.long v764)) rfl (hb hby at_197) (pc' := 198) rfl ?_
  refine k_aload X763 hx (hb hby at_198) rfl rfl (pc' := 200) rfl ?_
  refine k_iconst X763 hx (hb hby at_200) (pc' := 201) rfl (z := (1 : Int32)) rfl ?_
  refine k_laload X763 hx hZ rfl F791 ⟨by decide, by decide⟩ (v := (.long v766)) rfl (hb hby at_201) (pc' := 202) rfl ?_
  refine k_lloadN X763 hx (hb hby at_202) rfl (pc' := 203) rfl ?_
  refine k_callS X763 hx hZ hown (hw _ (List.mem_of_getElem? (i := 7) rfl)) (hw _ (List.mem_of_getElem? (i := 8) rfl)) (hw _ (List.mem_of_getElem? (i := 9) rfl)) (hw _ (List.mem_of_getElem? (i := 10) rfl)) (by decide) (rm2_94 l Z a0 hw [] v764 v766 i0 T763.heap n0 Z792 ) (by decide) (by decide) rfl (by rw [hml]; rfl) (argsL := [(.long v764), (.long v766), (.long i0)]) (rest := []) (lenOf pd_1 rfl) rfl (W := 0) (Nat.le_refl _) rfl (hb hby at_203) (by decide) (by decide) (pc' := 206) rfl (fun T793 L793 r793 X793 q793 => ?_)
  obtain ⟨N793, e793, q793⟩ := q793
  have N793' := Fr.app N763' N793
  rcases q793 with ⟨hc794, rfl⟩ | ⟨hc795, hc796, rfl⟩ | ⟨hc797, hc798, hc799, rfl⟩ | ⟨hc800, hc801, hc802, hc803, rfl⟩ | ⟨v804, v805, v806, h807, h808, h809, hc810, hc811, hc812, hc813, hc814, rfl⟩ | ⟨v815, v816, v817, h818, h819, h820, hc821, hc822, hc823, hc824, hc825, rfl⟩
  ·
   show KEnds p e below s _ _ _ T793 (mkF m 206 #[.val (.long i0), .second, .val (.long i1), .second, .val (.long i2), .second, .val (.long i3), .second, .val (.long i4), .second, .val (.int i5), .val (.int (2 : Int32)), .val (.long v705), .second, .val (.ref b706), .val (.ref b720)] [(.int (0 : Int32))])
   refine k_if_eq X793 hx (hb hby at_206) (pn := 209) rfl (py := 299) (by decide) (fun _ => ?_) (fun hc => absurd (by decide) hc)
   refine k_iconst X793 hx (hb hby at_299) (pc' := 300) rfl (z := (0 : Int32)) rfl ?_
   exfalso
   have := rng64 v764
   have := rng64 i0
   have : (536870911 : Int64).toInt = 536870911 := (by decide)
   have q826 : v764.toInt = i0.toInt % 536870912 := (by rw [h777]; exact c_maskL _ _ 29 (by decide) (by decide))
   have : (0 : Int64).toInt = 0 := (by decide)
   have q827 := hc794; rw [Int64.lt_iff_toInt_lt] at q827
   omega
  ·
   show KEnds p e below s _ _ _ T793 (mkF m 206 #[.val (.long i0), .second, .val (.long i1), .second, .val (.long i2), .second, .val (.long i3), .second, .val (.long i4), .second, .val (.int i5), .val (.int (2 : Int32)), .val (.long v705), .second, .val (.ref b706), .val (.ref b720)] [(.int (0 : Int32))])
   refine k_if_eq X793 hx (hb hby at_206) (pn := 209) rfl (py := 299) (by decide) (fun _ => ?_) (fun hc => absurd (by decide) hc)
   refine k_iconst X793 hx (hb hby at_299) (pc' := 300) rfl (z := (0 : Int32)) rfl ?_
   exfalso
   have := rng64 v764
   have := rng64 i0
   have : (536870911 : Int64).toInt = 536870911 := (by decide)
   have q828 : v764.toInt = i0.toInt % 536870912 := (by rw [h777]; exact c_maskL _ _ 29 (by decide) (by decide))
   have : (0 : Int64).toInt = 0 := (by decide)
   have q829 := hc795; rw [Int64.lt_iff_toInt_lt] at q829
   have q830 := hc796; rw [Int64.lt_iff_toInt_lt] at q830
   omega
  ·
   show KEnds p e below s _ _ _ T793 (mkF m 206 #[.val (.long i0), .second, .val (.long i1), .second, .val (.long i2), .second, .val (.long i3), .second, .val (.long i4), .second, .val (.int i5), .val (.int (2 : Int32)), .val (.long v705), .second, .val (.ref b706), .val (.ref b720)] [(.int (0 : Int32))])
   refine k_if_eq X793 hx (hb hby at_206) (pn := 209) rfl (py := 299) (by decide) (fun _ => ?_) (fun hc => absurd (by decide) hc)
   refine k_iconst X793 hx (hb hby at_299) (pc' := 300) rfl (z := (0 : Int32)) rfl ?_
   exfalso
   have := rng64 v764
   have := rng64 i0
   have : (536870911 : Int64).toInt = 536870911 := (by decide)
   have q831 : v764.toInt = i0.toInt % 536870912 := (by rw [h777]; exact c_maskL _ _ 29 (by decide) (by decide))
   have : (0 : Int64).toInt = 0 := (by decide)
   have q832 := hc797; rw [Int64.lt_iff_toInt_lt] at q832
   have q833 := hc798; rw [Int64.lt_iff_toInt_lt] at q833
   have := rng64 v766
   have := rng64 v765
   have : (29 : Int32).toInt = 29 := (by decide)
   have q834 : v765.toInt = (i0.toInt % 18446744073709551616) / 536870912 := (by rw [h778]; exact c_lushr _ _ 29 (by decide) (by decide))
   have q835 : v766.toInt = v765.toInt % 536870912 := (by rw [h779]; exact c_maskL _ _ 29 (by decide) (by decide))
   have q836 := hc799; rw [Int64.lt_iff_toInt_lt] at q836
   omega
  ·
   show KEnds p e below s _ _ _ T793 (mkF m 206 #[.val (.long i0), .second, .val (.long i1), .second, .val (.long i2), .second, .val (.long i3), .second, .val (.long i4), .second, .val (.int i5), .val (.int (2 : Int32)), .val (.long v705), .second, .val (.ref b706), .val (.ref b720)] [(.int (0 : Int32))])
   refine k_if_eq X793 hx (hb hby at_206) (pn := 209) rfl (py := 299) (by decide) (fun _ => ?_) (fun hc => absurd (by decide) hc)
   refine k_iconst X793 hx (hb hby at_299) (pc' := 300) rfl (z := (0 : Int32)) rfl ?_
   exfalso
   have := rng64 v764
   have := rng64 i0
   have : (536870911 : Int64).toInt = 536870911 := (by decide)
   have q837 : v764.toInt = i0.toInt % 536870912 := (by rw [h777]; exact c_maskL _ _ 29 (by decide) (by decide))
   have : (0 : Int64).toInt = 0 := (by decide)
   have q838 := hc800; rw [Int64.lt_iff_toInt_lt] at q838
   have q839 := hc801; rw [Int64.lt_iff_toInt_lt] at q839
   have := rng64 v766
   have := rng64 v765
   have : (29 : Int32).toInt = 29 := (by decide)
   have q840 : v765.toInt = (i0.toInt % 18446744073709551616) / 536870912 := (by rw [h778]; exact c_lushr _ _ 29 (by decide) (by decide))
   have q841 : v766.toInt = v765.toInt % 536870912 := (by rw [h779]; exact c_maskL _ _ 29 (by decide) (by decide))
   have q842 := hc802; rw [Int64.lt_iff_toInt_lt] at q842
   have q843 := hc803; rw [Int64.lt_iff_toInt_lt] at q843
   omega
  ·
   show KEnds p e below s _ _ _ T793 (mkF m 206 #[.val (.long i0), .second, .val (.long i1), .second, .val (.long i2), .second, .val (.long i3), .second, .val (.long i4), .second, .val (.int i5), .val (.int (2 : Int32)), .val (.long v705), .second, .val (.ref b706), .val (.ref b720)] [(.int (0 : Int32))])
   refine k_if_eq X793 hx (hb hby at_206) (pn := 209) rfl (py := 299) (by decide) (fun _ => ?_) (fun hc => absurd (by decide) hc)
   refine k_iconst X793 hx (hb hby at_299) (pc' := 300) rfl (z := (0 : Int32)) rfl ?_
   exfalso
   have := rng64 v764
   have := rng64 i0
   have : (536870911 : Int64).toInt = 536870911 := (by decide)
   have q844 : v764.toInt = i0.toInt % 536870912 := (by rw [h777]; exact c_maskL _ _ 29 (by decide) (by decide))
   have : (0 : Int64).toInt = 0 := (by decide)
   have q845 := hc810; rw [Int64.lt_iff_toInt_lt] at q845
   have q846 := hc811; rw [Int64.lt_iff_toInt_lt] at q846
   have := rng64 v766
   have := rng64 v765
   have : (29 : Int32).toInt = 29 := (by decide)
   have q847 : v765.toInt = (i0.toInt % 18446744073709551616) / 536870912 := (by rw [h778]; exact c_lushr _ _ 29 (by decide) (by decide))
   have q848 : v766.toInt = v765.toInt % 536870912 := (by rw [h779]; exact c_maskL _ _ 29 (by decide) (by decide))
   have q849 := hc812; rw [Int64.lt_iff_toInt_lt] at q849
   have q850 := hc813; rw [Int64.lt_iff_toInt_lt] at q850
   have := rng64 v805
   have := rng64 v804
   have q851 : (v804.toInt - v766.toInt * 536870912) % 18446744073709551616 = 0 := (by rw [h807]; exact c_lshl _ _ 29 (by decide))
   have q852 : (v805.toInt - (v764.toInt + v804.toInt)) % 18446744073709551616 = 0 := (by rw [h808]; exact c_ladd _ _)
   have := rng64 v806
   have : (288230376151711743 : Int64).toInt = 288230376151711743 := (by decide)
   have q853 : v806.toInt = i0.toInt % 288230376151711744 := (by rw [h809]; exact c_maskL _ _ 58 (by decide) (by decide))
   have q854 : ¬ v805.toInt = v806.toInt := fun q => hc814 (Int64.toInt_inj.mp q)
   omega
  ·
   show KEnds p e below s _ _ _ T793 (mkF m 206 #[.val (.long i0), .second, .val (.long i1), .second, .val (.long i2), .second, .val (.long i3), .second, .val (.long i4), .second, .val (.int i5), .val (.int (2 : Int32)), .val (.long v705), .second, .val (.ref b706), .val (.ref b720)] [(.int (1 : Int32))])
   refine k_if_eq X793 hx (hb hby at_206) (pn := 209) rfl (py := 299) (by decide) (fun hc => absurd hc (by decide)) (fun _ => ?_)
   refine k_aload X793 hx (hb hby at_209) rfl rfl (pc' := 211) rfl ?_
   refine k_iconst X793 hx (hb hby at_211) (pc' := 212) rfl (z := (2 : Int32)) rfl ?_
   refine k_laload X793 hx hZ e793 F791 ⟨by decide, by decide⟩ (v := (.long v767)) rfl (hb hby at_212) (pc' := 213) rfl ?_
   refine k_aload X793 hx (hb hby at_213) rfl rfl (pc' := 215) rfl ?_
   refine k_iconst X793 hx (hb hby at_215) (pc' := 216) rfl (z := (3 : Int32)) rfl ?_
   refine k_laload X793 hx hZ e793 F791 ⟨by decide, by decide⟩ (v := (.long v769)) rfl (hb hby at_216) (pc' := 217) rfl ?_
   refine k_lloadN X793 hx (hb hby at_217) rfl (pc' := 218) rfl ?_
   refine k_callS X793 hx hZ hown (hw _ (List.mem_of_getElem? (i := 7) rfl)) (hw _ (List.mem_of_getElem? (i := 8) rfl)) (hw _ (List.mem_of_getElem? (i := 9) rfl)) (hw _ (List.mem_of_getElem? (i := 10) rfl)) (by decide) (rm2_94 l Z a0 hw [] v767 v769 i1 T763.heap n0 Z792 ) (by decide) (by decide) e793 (by rw [hml]; rfl) (argsL := [(.long v767), (.long v769), (.long i1)]) (rest := []) (lenOf pd_1 rfl) rfl (W := 0) (Nat.le_refl _) rfl (hb hby at_218) (by decide) (by decide) (pc' := 221) rfl (fun T855 L855 r855 X855 q855 => ?_)
   obtain ⟨N855, e855, q855⟩ := q855
   have N855' := Fr.app N793' N855
   rcases q855 with ⟨hc856, rfl⟩ | ⟨hc857, hc858, rfl⟩ | ⟨hc859, hc860, hc861, rfl⟩ | ⟨hc862, hc863, hc864, hc865, rfl⟩ | ⟨v866, v867, v868, h869, h870, h871, hc872, hc873, hc874, hc875, hc876, rfl⟩ | ⟨v877, v878, v879, h880, h881, h882, hc883, hc884, hc885, hc886, hc887, rfl⟩
   ·
    show KEnds p e below s _ _ _ T855 (mkF m 221 #[.val (.long i0), .second, .val (.long i1), .second, .val (.long i2), .second, .val (.long i3), .second, .val (.long i4), .second, .val (.int i5), .val (.int (2 : Int32)), .val (.long v705), .second, .val (.ref b706), .val (.ref b720)] [(.int (0 : Int32))])
    refine k_if_eq X855 hx (hb hby at_221) (pn := 224) rfl (py := 299) (by decide) (fun _ => ?_) (fun hc => absurd (by decide) hc)
    refine k_iconst X855 hx (hb hby at_299) (pc' := 300) rfl (z := (0 : Int32)) rfl ?_
    exfalso
    have := rng64 v767
    have := rng64 i1
    have : (536870911 : Int64).toInt = 536870911 := (by decide)
    have q888 : v767.toInt = i1.toInt % 536870912 := (by rw [h780]; exact c_maskL _ _ 29 (by decide) (by decide))
    have : (0 : Int64).toInt = 0 := (by decide)
    have q889 := hc856; rw [Int64.lt_iff_toInt_lt] at q889
    omega
   ·
    show KEnds p e below s _ _ _ T855 (mkF m 221 #[.val (.long i0), .second, .val (.long i1), .second, .val (.long i2), .second, .val (.long i3), .second, .val (.long i4), .second, .val (.int i5), .val (.int (2 : Int32)), .val (.long v705), .second, .val (.ref b706), .val (.ref b720)] [(.int (0 : Int32))])
    refine k_if_eq X855 hx (hb hby at_221) (pn := 224) rfl (py := 299) (by decide) (fun _ => ?_) (fun hc => absurd (by decide) hc)
    refine k_iconst X855 hx (hb hby at_299) (pc' := 300) rfl (z := (0 : Int32)) rfl ?_
    exfalso
    have := rng64 v767
    have := rng64 i1
    have : (536870911 : Int64).toInt = 536870911 := (by decide)
    have q890 : v767.toInt = i1.toInt % 536870912 := (by rw [h780]; exact c_maskL _ _ 29 (by decide) (by decide))
    have : (0 : Int64).toInt = 0 := (by decide)
    have q891 := hc857; rw [Int64.lt_iff_toInt_lt] at q891
    have q892 := hc858; rw [Int64.lt_iff_toInt_lt] at q892
    omega
   ·
    show KEnds p e below s _ _ _ T855 (mkF m 221 #[.val (.long i0), .second, .val (.long i1), .second, .val (.long i2), .second, .val (.long i3), .second, .val (.long i4), .second, .val (.int i5), .val (.int (2 : Int32)), .val (.long v705), .second, .val (.ref b706), .val (.ref b720)] [(.int (0 : Int32))])
    refine k_if_eq X855 hx (hb hby at_221) (pn := 224) rfl (py := 299) (by decide) (fun _ => ?_) (fun hc => absurd (by decide) hc)
    refine k_iconst X855 hx (hb hby at_299) (pc' := 300) rfl (z := (0 : Int32)) rfl ?_
    exfalso
    have := rng64 v767
    have := rng64 i1
    have : (536870911 : Int64).toInt = 536870911 := (by decide)
    have q893 : v767.toInt = i1.toInt % 536870912 := (by rw [h780]; exact c_maskL _ _ 29 (by decide) (by decide))
    have : (0 : Int64).toInt = 0 := (by decide)
    have q894 := hc859; rw [Int64.lt_iff_toInt_lt] at q894
    have q895 := hc860; rw [Int64.lt_iff_toInt_lt] at q895
    have := rng64 v769
    have := rng64 v768
    have : (29 : Int32).toInt = 29 := (by decide)
    have q896 : v768.toInt = (i1.toInt % 18446744073709551616) / 536870912 := (by rw [h781]; exact c_lushr _ _ 29 (by decide) (by decide))
    have q897 : v769.toInt = v768.toInt % 536870912 := (by rw [h782]; exact c_maskL _ _ 29 (by decide) (by decide))
    have q898 := hc861; rw [Int64.lt_iff_toInt_lt] at q898
    omega
   ·
    show KEnds p e below s _ _ _ T855 (mkF m 221 #[.val (.long i0), .second, .val (.long i1), .second, .val (.long i2), .second, .val (.long i3), .second, .val (.long i4), .second, .val (.int i5), .val (.int (2 : Int32)), .val (.long v705), .second, .val (.ref b706), .val (.ref b720)] [(.int (0 : Int32))])
    refine k_if_eq X855 hx (hb hby at_221) (pn := 224) rfl (py := 299) (by decide) (fun _ => ?_) (fun hc => absurd (by decide) hc)
    refine k_iconst X855 hx (hb hby at_299) (pc' := 300) rfl (z := (0 : Int32)) rfl ?_
    exfalso
    have := rng64 v767
    have := rng64 i1
    have : (536870911 : Int64).toInt = 536870911 := (by decide)
    have q899 : v767.toInt = i1.toInt % 536870912 := (by rw [h780]; exact c_maskL _ _ 29 (by decide) (by decide))
    have : (0 : Int64).toInt = 0 := (by decide)
    have q900 := hc862; rw [Int64.lt_iff_toInt_lt] at q900
    have q901 := hc863; rw [Int64.lt_iff_toInt_lt] at q901
    have := rng64 v769
    have := rng64 v768
    have : (29 : Int32).toInt = 29 := (by decide)
    have q902 : v768.toInt = (i1.toInt % 18446744073709551616) / 536870912 := (by rw [h781]; exact c_lushr _ _ 29 (by decide) (by decide))
    have q903 : v769.toInt = v768.toInt % 536870912 := (by rw [h782]; exact c_maskL _ _ 29 (by decide) (by decide))
    have q904 := hc864; rw [Int64.lt_iff_toInt_lt] at q904
    have q905 := hc865; rw [Int64.lt_iff_toInt_lt] at q905
    omega
   ·
    show KEnds p e below s _ _ _ T855 (mkF m 221 #[.val (.long i0), .second, .val (.long i1), .second, .val (.long i2), .second, .val (.long i3), .second, .val (.long i4), .second, .val (.int i5), .val (.int (2 : Int32)), .val (.long v705), .second, .val (.ref b706), .val (.ref b720)] [(.int (0 : Int32))])
    refine k_if_eq X855 hx (hb hby at_221) (pn := 224) rfl (py := 299) (by decide) (fun _ => ?_) (fun hc => absurd (by decide) hc)
    refine k_iconst X855 hx (hb hby at_299) (pc' := 300) rfl (z := (0 : Int32)) rfl ?_
    exfalso
    have := rng64 v767
    have := rng64 i1
    have : (536870911 : Int64).toInt = 536870911 := (by decide)
    have q906 : v767.toInt = i1.toInt % 536870912 := (by rw [h780]; exact c_maskL _ _ 29 (by decide) (by decide))
    have : (0 : Int64).toInt = 0 := (by decide)
    have q907 := hc872; rw [Int64.lt_iff_toInt_lt] at q907
    have q908 := hc873; rw [Int64.lt_iff_toInt_lt] at q908
    have := rng64 v769
    have := rng64 v768
    have : (29 : Int32).toInt = 29 := (by decide)
    have q909 : v768.toInt = (i1.toInt % 18446744073709551616) / 536870912 := (by rw [h781]; exact c_lushr _ _ 29 (by decide) (by decide))
    have q910 : v769.toInt = v768.toInt % 536870912 := (by rw [h782]; exact c_maskL _ _ 29 (by decide) (by decide))
    have q911 := hc874; rw [Int64.lt_iff_toInt_lt] at q911
    have q912 := hc875; rw [Int64.lt_iff_toInt_lt] at q912
    have := rng64 v867
    have := rng64 v866
    have q913 : (v866.toInt - v769.toInt * 536870912) % 18446744073709551616 = 0 := (by rw [h869]; exact c_lshl _ _ 29 (by decide))
    have q914 : (v867.toInt - (v767.toInt + v866.toInt)) % 18446744073709551616 = 0 := (by rw [h870]; exact c_ladd _ _)
    have := rng64 v868
    have : (288230376151711743 : Int64).toInt = 288230376151711743 := (by decide)
    have q915 : v868.toInt = i1.toInt % 288230376151711744 := (by rw [h871]; exact c_maskL _ _ 58 (by decide) (by decide))
    have q916 : ¬ v867.toInt = v868.toInt := fun q => hc876 (Int64.toInt_inj.mp q)
    omega
   ·
    show KEnds p e below s _ _ _ T855 (mkF m 221 #[.val (.long i0), .second, .val (.long i1), .second, .val (.long i2), .second, .val (.long i3), .second, .val (.long i4), .second, .val (.int i5), .val (.int (2 : Int32)), .val (.long v705), .second, .val (.ref b706), .val (.ref b720)] [(.int (1 : Int32))])
    refine k_if_eq X855 hx (hb hby at_221) (pn := 224) rfl (py := 299) (by decide) (fun hc => absurd hc (by decide)) (fun _ => ?_)
    refine k_aload X855 hx (hb hby at_224) rfl rfl (pc' := 226) rfl ?_
    refine k_iconst X855 hx (hb hby at_226) (pc' := 227) rfl (z := (4 : Int32)) rfl ?_
    refine k_laload X855 hx hZ e855 F791 ⟨by decide, by decide⟩ (v := (.long v770)) rfl (hb hby at_227) (pc' := 228) rfl ?_
    refine k_aload X855 hx (hb hby at_228) rfl rfl (pc' := 230) rfl ?_
    refine k_iconst X855 hx (hb hby at_230) (pc' := 231) rfl (z := (5 : Int32)) rfl ?_
    refine k_laload X855 hx hZ e855 F791 ⟨by decide, by decide⟩ (v := (.long v772)) rfl (hb hby at_231) (pc' := 232) rfl ?_
    refine k_lload X855 hx (hb hby at_232) rfl (pc' := 234) rfl ?_
    refine k_callS X855 hx hZ hown (hw _ (List.mem_of_getElem? (i := 7) rfl)) (hw _ (List.mem_of_getElem? (i := 8) rfl)) (hw _ (List.mem_of_getElem? (i := 9) rfl)) (hw _ (List.mem_of_getElem? (i := 10) rfl)) (by decide) (rm2_94 l Z a0 hw [] v770 v772 i2 T763.heap n0 Z792 ) (by decide) (by decide) e855 (by rw [hml]; rfl) (argsL := [(.long v770), (.long v772), (.long i2)]) (rest := []) (lenOf pd_1 rfl) rfl (W := 0) (Nat.le_refl _) rfl (hb hby at_234) (by decide) (by decide) (pc' := 237) rfl (fun T917 L917 r917 X917 q917 => ?_)
    obtain ⟨N917, e917, q917⟩ := q917
    have N917' := Fr.app N855' N917
    rcases q917 with ⟨hc918, rfl⟩ | ⟨hc919, hc920, rfl⟩ | ⟨hc921, hc922, hc923, rfl⟩ | ⟨hc924, hc925, hc926, hc927, rfl⟩ | ⟨v928, v929, v930, h931, h932, h933, hc934, hc935, hc936, hc937, hc938, rfl⟩ | ⟨v939, v940, v941, h942, h943, h944, hc945, hc946, hc947, hc948, hc949, rfl⟩
    ·
     show KEnds p e below s _ _ _ T917 (mkF m 237 #[.val (.long i0), .second, .val (.long i1), .second, .val (.long i2), .second, .val (.long i3), .second, .val (.long i4), .second, .val (.int i5), .val (.int (2 : Int32)), .val (.long v705), .second, .val (.ref b706), .val (.ref b720)] [(.int (0 : Int32))])
     refine k_if_eq X917 hx (hb hby at_237) (pn := 240) rfl (py := 299) (by decide) (fun _ => ?_) (fun hc => absurd (by decide) hc)
     refine k_iconst X917 hx (hb hby at_299) (pc' := 300) rfl (z := (0 : Int32)) rfl ?_
     exfalso
     have := rng64 v770
     have := rng64 i2
     have : (536870911 : Int64).toInt = 536870911 := (by decide)
     have q950 : v770.toInt = i2.toInt % 536870912 := (by rw [h783]; exact c_maskL _ _ 29 (by decide) (by decide))
     have : (0 : Int64).toInt = 0 := (by decide)
     have q951 := hc918; rw [Int64.lt_iff_toInt_lt] at q951
     omega
    ·
     show KEnds p e below s _ _ _ T917 (mkF m 237 #[.val (.long i0), .second, .val (.long i1), .second, .val (.long i2), .second, .val (.long i3), .second, .val (.long i4), .second, .val (.int i5), .val (.int (2 : Int32)), .val (.long v705), .second, .val (.ref b706), .val (.ref b720)] [(.int (0 : Int32))])
     refine k_if_eq X917 hx (hb hby at_237) (pn := 240) rfl (py := 299) (by decide) (fun _ => ?_) (fun hc => absurd (by decide) hc)
     refine k_iconst X917 hx (hb hby at_299) (pc' := 300) rfl (z := (0 : Int32)) rfl ?_
     exfalso
     have := rng64 v770
     have := rng64 i2
     have : (536870911 : Int64).toInt = 536870911 := (by decide)
     have q952 : v770.toInt = i2.toInt % 536870912 := (by rw [h783]; exact c_maskL _ _ 29 (by decide) (by decide))
     have : (0 : Int64).toInt = 0 := (by decide)
     have q953 := hc919; rw [Int64.lt_iff_toInt_lt] at q953
     have q954 := hc920; rw [Int64.lt_iff_toInt_lt] at q954
     omega
    ·
     show KEnds p e below s _ _ _ T917 (mkF m 237 #[.val (.long i0), .second, .val (.long i1), .second, .val (.long i2), .second, .val (.long i3), .second, .val (.long i4), .second, .val (.int i5), .val (.int (2 : Int32)), .val (.long v705), .second, .val (.ref b706), .val (.ref b720)] [(.int (0 : Int32))])
     refine k_if_eq X917 hx (hb hby at_237) (pn := 240) rfl (py := 299) (by decide) (fun _ => ?_) (fun hc => absurd (by decide) hc)
     refine k_iconst X917 hx (hb hby at_299) (pc' := 300) rfl (z := (0 : Int32)) rfl ?_
     exfalso
     have := rng64 v770
     have := rng64 i2
     have : (536870911 : Int64).toInt = 536870911 := (by decide)
     have q955 : v770.toInt = i2.toInt % 536870912 := (by rw [h783]; exact c_maskL _ _ 29 (by decide) (by decide))
     have : (0 : Int64).toInt = 0 := (by decide)
     have q956 := hc921; rw [Int64.lt_iff_toInt_lt] at q956
     have q957 := hc922; rw [Int64.lt_iff_toInt_lt] at q957
     have := rng64 v772
     have := rng64 v771
     have : (29 : Int32).toInt = 29 := (by decide)
     have q958 : v771.toInt = (i2.toInt % 18446744073709551616) / 536870912 := (by rw [h784]; exact c_lushr _ _ 29 (by decide) (by decide))
     have q959 : v772.toInt = v771.toInt % 536870912 := (by rw [h785]; exact c_maskL _ _ 29 (by decide) (by decide))
     have q960 := hc923; rw [Int64.lt_iff_toInt_lt] at q960
     omega
    ·
     show KEnds p e below s _ _ _ T917 (mkF m 237 #[.val (.long i0), .second, .val (.long i1), .second, .val (.long i2), .second, .val (.long i3), .second, .val (.long i4), .second, .val (.int i5), .val (.int (2 : Int32)), .val (.long v705), .second, .val (.ref b706), .val (.ref b720)] [(.int (0 : Int32))])
     refine k_if_eq X917 hx (hb hby at_237) (pn := 240) rfl (py := 299) (by decide) (fun _ => ?_) (fun hc => absurd (by decide) hc)
     refine k_iconst X917 hx (hb hby at_299) (pc' := 300) rfl (z := (0 : Int32)) rfl ?_
     exfalso
     have := rng64 v770
     have := rng64 i2
     have : (536870911 : Int64).toInt = 536870911 := (by decide)
     have q961 : v770.toInt = i2.toInt % 536870912 := (by rw [h783]; exact c_maskL _ _ 29 (by decide) (by decide))
     have : (0 : Int64).toInt = 0 := (by decide)
     have q962 := hc924; rw [Int64.lt_iff_toInt_lt] at q962
     have q963 := hc925; rw [Int64.lt_iff_toInt_lt] at q963
     have := rng64 v772
     have := rng64 v771
     have : (29 : Int32).toInt = 29 := (by decide)
     have q964 : v771.toInt = (i2.toInt % 18446744073709551616) / 536870912 := (by rw [h784]; exact c_lushr _ _ 29 (by decide) (by decide))
     have q965 : v772.toInt = v771.toInt % 536870912 := (by rw [h785]; exact c_maskL _ _ 29 (by decide) (by decide))
     have q966 := hc926; rw [Int64.lt_iff_toInt_lt] at q966
     have q967 := hc927; rw [Int64.lt_iff_toInt_lt] at q967
     omega
    ·
     show KEnds p e below s _ _ _ T917 (mkF m 237 #[.val (.long i0), .second, .val (.long i1), .second, .val (.long i2), .second, .val (.long i3), .second, .val (.long i4), .second, .val (.int i5), .val (.int (2 : Int32)), .val (.long v705), .second, .val (.ref b706), .val (.ref b720)] [(.int (0 : Int32))])
     refine k_if_eq X917 hx (hb hby at_237) (pn := 240) rfl (py := 299) (by decide) (fun _ => ?_) (fun hc => absurd (by decide) hc)
     refine k_iconst X917 hx (hb hby at_299) (pc' := 300) rfl (z := (0 : Int32)) rfl ?_
     exfalso
     have := rng64 v770
     have := rng64 i2
     have : (536870911 : Int64).toInt = 536870911 := (by decide)
     have q968 : v770.toInt = i2.toInt % 536870912 := (by rw [h783]; exact c_maskL _ _ 29 (by decide) (by decide))
     have : (0 : Int64).toInt = 0 := (by decide)
     have q969 := hc934; rw [Int64.lt_iff_toInt_lt] at q969
     have q970 := hc935; rw [Int64.lt_iff_toInt_lt] at q970
     have := rng64 v772
     have := rng64 v771
     have : (29 : Int32).toInt = 29 := (by decide)
     have q971 : v771.toInt = (i2.toInt % 18446744073709551616) / 536870912 := (by rw [h784]; exact c_lushr _ _ 29 (by decide) (by decide))
     have q972 : v772.toInt = v771.toInt % 536870912 := (by rw [h785]; exact c_maskL _ _ 29 (by decide) (by decide))
     have q973 := hc936; rw [Int64.lt_iff_toInt_lt] at q973
     have q974 := hc937; rw [Int64.lt_iff_toInt_lt] at q974
     have := rng64 v929
     have := rng64 v928
     have q975 : (v928.toInt - v772.toInt * 536870912) % 18446744073709551616 = 0 := (by rw [h931]; exact c_lshl _ _ 29 (by decide))
     have q976 : (v929.toInt - (v770.toInt + v928.toInt)) % 18446744073709551616 = 0 := (by rw [h932]; exact c_ladd _ _)
     have := rng64 v930
     have : (288230376151711743 : Int64).toInt = 288230376151711743 := (by decide)
     have q977 : v930.toInt = i2.toInt % 288230376151711744 := (by rw [h933]; exact c_maskL _ _ 58 (by decide) (by decide))
     have q978 : ¬ v929.toInt = v930.toInt := fun q => hc938 (Int64.toInt_inj.mp q)
     omega
    ·
     show KEnds p e below s _ _ _ T917 (mkF m 237 #[.val (.long i0), .second, .val (.long i1), .second, .val (.long i2), .second, .val (.long i3), .second, .val (.long i4), .second, .val (.int i5), .val (.int (2 : Int32)), .val (.long v705), .second, .val (.ref b706), .val (.ref b720)] [(.int (1 : Int32))])
     refine k_if_eq X917 hx (hb hby at_237) (pn := 240) rfl (py := 299) (by decide) (fun hc => absurd hc (by decide)) (fun _ => ?_)
     refine k_aload X917 hx (hb hby at_240) rfl rfl (pc' := 242) rfl ?_
     refine k_bipush X917 hx (hb hby at_242) (pc' := 244) rfl (z := (6 : Int32)) rfl ?_
     refine k_laload X917 hx hZ e917 F791 ⟨by decide, by decide⟩ (v := (.long v773)) rfl (hb hby at_244) (pc' := 245) rfl ?_
     refine k_aload X917 hx (hb hby at_245) rfl rfl (pc' := 247) rfl ?_
     refine k_bipush X917 hx (hb hby at_247) (pc' := 249) rfl (z := (7 : Int32)) rfl ?_
     refine k_laload X917 hx hZ e917 F791 ⟨by decide, by decide⟩ (v := (.long v775)) rfl (hb hby at_249) (pc' := 250) rfl ?_
     refine k_lload X917 hx (hb hby at_250) rfl (pc' := 252) rfl ?_
     refine k_callS X917 hx hZ hown (hw _ (List.mem_of_getElem? (i := 7) rfl)) (hw _ (List.mem_of_getElem? (i := 8) rfl)) (hw _ (List.mem_of_getElem? (i := 9) rfl)) (hw _ (List.mem_of_getElem? (i := 10) rfl)) (by decide) (rm2_94 l Z a0 hw [] v773 v775 i3 T763.heap n0 Z792 ) (by decide) (by decide) e917 (by rw [hml]; rfl) (argsL := [(.long v773), (.long v775), (.long i3)]) (rest := []) (lenOf pd_1 rfl) rfl (W := 0) (Nat.le_refl _) rfl (hb hby at_252) (by decide) (by decide) (pc' := 255) rfl (fun T979 L979 r979 X979 q979 => ?_)
     obtain ⟨N979, e979, q979⟩ := q979
     have N979' := Fr.app N917' N979
     rcases q979 with ⟨hc980, rfl⟩ | ⟨hc981, hc982, rfl⟩ | ⟨hc983, hc984, hc985, rfl⟩ | ⟨hc986, hc987, hc988, hc989, rfl⟩ | ⟨v990, v991, v992, h993, h994, h995, hc996, hc997, hc998, hc999, hc1000, rfl⟩ | ⟨v1001, v1002, v1003, h1004, h1005, h1006, hc1007, hc1008, hc1009, hc1010, hc1011, rfl⟩
     ·
      show KEnds p e below s _ _ _ T979 (mkF m 255 #[.val (.long i0), .second, .val (.long i1), .second, .val (.long i2), .second, .val (.long i3), .second, .val (.long i4), .second, .val (.int i5), .val (.int (2 : Int32)), .val (.long v705), .second, .val (.ref b706), .val (.ref b720)] [(.int (0 : Int32))])
      refine k_if_eq X979 hx (hb hby at_255) (pn := 258) rfl (py := 299) (by decide) (fun _ => ?_) (fun hc => absurd (by decide) hc)
      refine k_iconst X979 hx (hb hby at_299) (pc' := 300) rfl (z := (0 : Int32)) rfl ?_
      exfalso
      have := rng64 v773
      have := rng64 i3
      have : (536870911 : Int64).toInt = 536870911 := (by decide)
      have q1012 : v773.toInt = i3.toInt % 536870912 := (by rw [h786]; exact c_maskL _ _ 29 (by decide) (by decide))
      have : (0 : Int64).toInt = 0 := (by decide)
      have q1013 := hc980; rw [Int64.lt_iff_toInt_lt] at q1013
      omega
     ·
      show KEnds p e below s _ _ _ T979 (mkF m 255 #[.val (.long i0), .second, .val (.long i1), .second, .val (.long i2), .second, .val (.long i3), .second, .val (.long i4), .second, .val (.int i5), .val (.int (2 : Int32)), .val (.long v705), .second, .val (.ref b706), .val (.ref b720)] [(.int (0 : Int32))])
      refine k_if_eq X979 hx (hb hby at_255) (pn := 258) rfl (py := 299) (by decide) (fun _ => ?_) (fun hc => absurd (by decide) hc)
      refine k_iconst X979 hx (hb hby at_299) (pc' := 300) rfl (z := (0 : Int32)) rfl ?_
      exfalso
      have := rng64 v773
      have := rng64 i3
      have : (536870911 : Int64).toInt = 536870911 := (by decide)
      have q1014 : v773.toInt = i3.toInt % 536870912 := (by rw [h786]; exact c_maskL _ _ 29 (by decide) (by decide))
      have : (0 : Int64).toInt = 0 := (by decide)
      have q1015 := hc981; rw [Int64.lt_iff_toInt_lt] at q1015
      have q1016 := hc982; rw [Int64.lt_iff_toInt_lt] at q1016
      omega
     ·
      show KEnds p e below s _ _ _ T979 (mkF m 255 #[.val (.long i0), .second, .val (.long i1), .second, .val (.long i2), .second, .val (.long i3), .second, .val (.long i4), .second, .val (.int i5), .val (.int (2 : Int32)), .val (.long v705), .second, .val (.ref b706), .val (.ref b720)] [(.int (0 : Int32))])
      refine k_if_eq X979 hx (hb hby at_255) (pn := 258) rfl (py := 299) (by decide) (fun _ => ?_) (fun hc => absurd (by decide) hc)
      refine k_iconst X979 hx (hb hby at_299) (pc' := 300) rfl (z := (0 : Int32)) rfl ?_
      exfalso
      have := rng64 v773
      have := rng64 i3
      have : (536870911 : Int64).toInt = 536870911 := (by decide)
      have q1017 : v773.toInt = i3.toInt % 536870912 := (by rw [h786]; exact c_maskL _ _ 29 (by decide) (by decide))
      have : (0 : Int64).toInt = 0 := (by decide)
      have q1018 := hc983; rw [Int64.lt_iff_toInt_lt] at q1018
      have q1019 := hc984; rw [Int64.lt_iff_toInt_lt] at q1019
      have := rng64 v775
      have := rng64 v774
      have : (29 : Int32).toInt = 29 := (by decide)
      have q1020 : v774.toInt = (i3.toInt % 18446744073709551616) / 536870912 := (by rw [h787]; exact c_lushr _ _ 29 (by decide) (by decide))
      have q1021 : v775.toInt = v774.toInt % 536870912 := (by rw [h788]; exact c_maskL _ _ 29 (by decide) (by decide))
      have q1022 := hc985; rw [Int64.lt_iff_toInt_lt] at q1022
      omega
     ·
      show KEnds p e below s _ _ _ T979 (mkF m 255 #[.val (.long i0), .second, .val (.long i1), .second, .val (.long i2), .second, .val (.long i3), .second, .val (.long i4), .second, .val (.int i5), .val (.int (2 : Int32)), .val (.long v705), .second, .val (.ref b706), .val (.ref b720)] [(.int (0 : Int32))])
      refine k_if_eq X979 hx (hb hby at_255) (pn := 258) rfl (py := 299) (by decide) (fun _ => ?_) (fun hc => absurd (by decide) hc)
      refine k_iconst X979 hx (hb hby at_299) (pc' := 300) rfl (z := (0 : Int32)) rfl ?_
      exfalso
      have := rng64 v773
      have := rng64 i3
      have : (536870911 : Int64).toInt = 536870911 := (by decide)
      have q1023 : v773.toInt = i3.toInt % 536870912 := (by rw [h786]; exact c_maskL _ _ 29 (by decide) (by decide))
      have : (0 : Int64).toInt = 0 := (by decide)
      have q1024 := hc986; rw [Int64.lt_iff_toInt_lt] at q1024
      have q1025 := hc987; rw [Int64.lt_iff_toInt_lt] at q1025
      have := rng64 v775
      have := rng64 v774
      have : (29 : Int32).toInt = 29 := (by decide)
      have q1026 : v774.toInt = (i3.toInt % 18446744073709551616) / 536870912 := (by rw [h787]; exact c_lushr _ _ 29 (by decide) (by decide))
      have q1027 : v775.toInt = v774.toInt % 536870912 := (by rw [h788]; exact c_maskL _ _ 29 (by decide) (by decide))
      have q1028 := hc988; rw [Int64.lt_iff_toInt_lt] at q1028
      have q1029 := hc989; rw [Int64.lt_iff_toInt_lt] at q1029
      omega
     ·
      show KEnds p e below s _ _ _ T979 (mkF m 255 #[.val (.long i0), .second, .val (.long i1), .second, .val (.long i2), .second, .val (.long i3), .second, .val (.long i4), .second, .val (.int i5), .val (.int (2 : Int32)), .val (.long v705), .second, .val (.ref b706), .val (.ref b720)] [(.int (0 : Int32))])
      refine k_if_eq X979 hx (hb hby at_255) (pn := 258) rfl (py := 299) (by decide) (fun _ => ?_) (fun hc => absurd (by decide) hc)
      refine k_iconst X979 hx (hb hby at_299) (pc' := 300) rfl (z := (0 : Int32)) rfl ?_
      exfalso
      have := rng64 v773
      have := rng64 i3
      have : (536870911 : Int64).toInt = 536870911 := (by decide)
      have q1030 : v773.toInt = i3.toInt % 536870912 := (by rw [h786]; exact c_maskL _ _ 29 (by decide) (by decide))
      have : (0 : Int64).toInt = 0 := (by decide)
      have q1031 := hc996; rw [Int64.lt_iff_toInt_lt] at q1031
      have q1032 := hc997; rw [Int64.lt_iff_toInt_lt] at q1032
      have := rng64 v775
      have := rng64 v774
      have : (29 : Int32).toInt = 29 := (by decide)
      have q1033 : v774.toInt = (i3.toInt % 18446744073709551616) / 536870912 := (by rw [h787]; exact c_lushr _ _ 29 (by decide) (by decide))
      have q1034 : v775.toInt = v774.toInt % 536870912 := (by rw [h788]; exact c_maskL _ _ 29 (by decide) (by decide))
      have q1035 := hc998; rw [Int64.lt_iff_toInt_lt] at q1035
      have q1036 := hc999; rw [Int64.lt_iff_toInt_lt] at q1036
      have := rng64 v991
      have := rng64 v990
      have q1037 : (v990.toInt - v775.toInt * 536870912) % 18446744073709551616 = 0 := (by rw [h993]; exact c_lshl _ _ 29 (by decide))
      have q1038 : (v991.toInt - (v773.toInt + v990.toInt)) % 18446744073709551616 = 0 := (by rw [h994]; exact c_ladd _ _)
      have := rng64 v992
      have : (288230376151711743 : Int64).toInt = 288230376151711743 := (by decide)
      have q1039 : v992.toInt = i3.toInt % 288230376151711744 := (by rw [h995]; exact c_maskL _ _ 58 (by decide) (by decide))
      have q1040 : ¬ v991.toInt = v992.toInt := fun q => hc1000 (Int64.toInt_inj.mp q)
      omega
     ·
      show KEnds p e below s _ _ _ T979 (mkF m 255 #[.val (.long i0), .second, .val (.long i1), .second, .val (.long i2), .second, .val (.long i3), .second, .val (.long i4), .second, .val (.int i5), .val (.int (2 : Int32)), .val (.long v705), .second, .val (.ref b706), .val (.ref b720)] [(.int (1 : Int32))])
      refine k_if_eq X979 hx (hb hby at_255) (pn := 258) rfl (py := 299) (by decide) (fun hc => absurd hc (by decide)) (fun _ => ?_)
      refine k_aload X979 hx (hb hby at_258) rfl rfl (pc' := 260) rfl ?_
      refine k_bipush X979 hx (hb hby at_260) (pc' := 262) rfl (z := (8 : Int32)) rfl ?_
      refine k_laload X979 hx hZ e979 F791 ⟨by decide, by decide⟩ (v := (.long v776)) rfl (hb hby at_262) (pc' := 263) rfl ?_
      refine k_lconst X979 hx (hb hby at_263) (pc' := 264) rfl (z := (0 : Int64)) rfl ?_
      refine k_lcif_lt X979 hx (hb hby at_264) (pm := 265) rfl (hb hby at_265) (pn := 268) rfl (py := 299) (by decide) (fun hc1041 => ?_) (fun hc1041 => ?_)
      ·
       refine k_iconst X979 hx (hb hby at_299) (pc' := 300) rfl (z := (0 : Int32)) rfl ?_
       exfalso
       have := rng64 v776
       have := rng64 i4
       have : (536870911 : Int64).toInt = 536870911 := (by decide)
       have q1042 : v776.toInt = i4.toInt % 536870912 := (by rw [h789]; exact c_maskL _ _ 29 (by decide) (by decide))
       have : (0 : Int64).toInt = 0 := (by decide)
       have q1043 := hc1041; rw [Int64.lt_iff_toInt_lt] at q1043
       omega
      ·
       refine k_aload X979 hx (hb hby at_268) rfl rfl (pc' := 270) rfl ?_
       refine k_bipush X979 hx (hb hby at_270) (pc' := 272) rfl (z := (8 : Int32)) rfl ?_
       refine k_laload X979 hx hZ e979 F791 ⟨by decide, by decide⟩ (v := (.long v776)) rfl (hb hby at_272) (pc' := 273) rfl ?_
       refine k_ldcL X979 hx hZ hown (hw _ (List.mem_of_getElem? (i := 11) rfl)) (hb hby at_273) (pc' := 276) rfl ?_
       refine k_lcif_gt X979 hx (hb hby at_276) (pm := 277) rfl (hb hby at_277) (pn := 280) rfl (py := 299) (by decide) (fun hc1044 => ?_) (fun hc1044 => ?_)
       ·
        refine k_iconst X979 hx (hb hby at_299) (pc' := 300) rfl (z := (0 : Int32)) rfl ?_
        exfalso
        have := rng64 v776
        have := rng64 i4
        have : (536870911 : Int64).toInt = 536870911 := (by decide)
        have q1045 : v776.toInt = i4.toInt % 536870912 := (by rw [h789]; exact c_maskL _ _ 29 (by decide) (by decide))
        have : (0 : Int64).toInt = 0 := (by decide)
        have q1046 := hc1041; rw [Int64.lt_iff_toInt_lt] at q1046
        have q1047 := hc1044; rw [Int64.lt_iff_toInt_lt] at q1047
        omega
       ·
        refine k_aload X979 hx (hb hby at_280) rfl rfl (pc' := 282) rfl ?_
        refine k_bipush X979 hx (hb hby at_282) (pc' := 284) rfl (z := (8 : Int32)) rfl ?_
        refine k_laload X979 hx hZ e979 F791 ⟨by decide, by decide⟩ (v := (.long v776)) rfl (hb hby at_284) (pc' := 285) rfl ?_
        refine k_lload X979 hx (hb hby at_285) rfl (pc' := 287) rfl ?_
        refine k_ldcL X979 hx hZ hown (hw _ (List.mem_of_getElem? (i := 11) rfl)) (hb hby at_287) (pc' := 290) rfl ?_
        refine k_landL X979 hx (hb hby at_290) (pc' := 291) rfl (z := v776) h789.symm ?_
        refine k_lcif_ne X979 hx (hb hby at_291) (pm := 292) rfl (hb hby at_292) (pn := 295) rfl (py := 299) (by decide) (fun hc => absurd rfl hc) (fun _ => ?_)
        refine k_iconst X979 hx (hb hby at_295) (pc' := 296) rfl (z := (1 : Int32)) rfl ?_
        refine k_goto X979 hx (hb hby at_296) (pc' := 300) (by decide) ?_
        exact k_retN X979 hx (t := .boolean) Bd.returns (by simp) (hb hby at_300) hlk (by decide) (by decide) (z' := (1 : Int32)) rfl ⟨rfl, N979'⟩
 ·
  show KEnds p e below s _ _ _ s₁ (mkF m 4 #[.val (.long i0), .second, .val (.long i1), .second, .val (.long i2), .second, .val (.long i3), .second, .val (.long i4), .second, .val (.int i5), .unset, .unset, .unset, .unset, .unset] [(.int (3 : Int32))])
  refine k_istore X0 hx (hb hby at_4) (Ls' := #[.val (.long i0), .second, .val (.long i1), .second, .val (.long i2), .second, .val (.long i3), .second, .val (.long i4), .second, .val (.int i5), .val (.int (3 : Int32)), .unset, .unset, .unset, .unset]) rfl (pc' := 6) rfl ?_
  refine k_lloadN X0 hx (hb hby at_6) rfl (pc' := 7) rfl ?_
  refine k_lload X0 hx (hb hby at_7) rfl (pc' := 9) rfl ?_
  refine k_lxor X0 hx (hb hby at_9) (pc' := 10) rfl (fun v1049 hv1049 => ?_)
  refine k_ldcL X0 hx hZ hown (hw _ (List.mem_of_getElem? (i := 0) rfl)) (hb hby at_10) (pc' := 13) rfl ?_
  refine k_lxor X0 hx (hb hby at_13) (pc' := 14) rfl (fun v1050 hv1050 => ?_)
  refine k_lstore X0 hx (hb hby at_14) (Ls' := #[.val (.long i0), .second, .val (.long i1), .second, .val (.long i2), .second, .val (.long i3), .second, .val (.long i4), .second, .val (.int i5), .val (.int (3 : Int32)), .val (.long v1050), .second, .unset, .unset]) rfl (pc' := 16) rfl ?_
  refine k_bipush X0 hx (hb hby at_16) (pc' := 18) rfl (z := (8 : Int32)) rfl ?_
  refine k_newA X0 hx hZ (hw _ (List.mem_of_getElem? (i := 1) rfl)) e0 (hb hby at_18) (by decide) (cap := 8) (by decide) (by decide) (by decide) (by decide) (pc' := 20) rfl (fun T1051 h1051 b1051 k1051 g1051 X1051 e1051 E1051 V1051 => ?_)
  have g_b1051 : n0 ≤ b1051 := Nat.le_trans Z0 (Nat.le_of_eq g1051.symm)
  have Z1051 : n0 ≤ h1051.size := Nat.le_trans Z0 E1051.1
  have Vw1051 : Arv Z h1051 b1051 k1051 .long (8 : Int32) [(.long (0 : Int64)), (.long (0 : Int64)), (.long (0 : Int64)), (.long (0 : Int64)), (.long (0 : Int64)), (.long (0 : Int64)), (.long (0 : Int64)), (.long (0 : Int64))] (.long (0 : Int64)) := V1051
  refine k_astore X1051 hx (hb hby at_20) rfl (Ls' := #[.val (.long i0), .second, .val (.long i1), .second, .val (.long i2), .second, .val (.long i3), .second, .val (.long i4), .second, .val (.int i5), .val (.int (3 : Int32)), .val (.long v1050), .second, .val (.ref b1051), .unset]) rfl (pc' := 22) rfl ?_
  refine k_aload X1051 hx (hb hby at_22) rfl rfl (pc' := 24) rfl ?_
  refine k_iconst X1051 hx (hb hby at_24) (pc' := 25) rfl (z := (0 : Int32)) rfl ?_
  refine k_lload X1051 hx (hb hby at_25) rfl (pc' := 27) rfl ?_
  refine k_lastore X1051 hx hZ e1051 Vw1051 ⟨by decide, by decide⟩ (i := 0) rfl (Nat.le_of_ble_eq_true rfl) (hb hby at_27) (pc' := 28) rfl (fun T1052 h1052 X1052 e1052 W1052 V1052 => ?_)
  have Vw1052 : Arv Z h1052 b1051 k1051 .long (8 : Int32) [(.long v1050), (.long (0 : Int64)), (.long (0 : Int64)), (.long (0 : Int64)), (.long (0 : Int64)), (.long (0 : Int64)), (.long (0 : Int64)), (.long (0 : Int64))] (.long (0 : Int64)) := V1052
  have N1052 := Fr.snoc X1052 N0 g_b1051
  have Z1052 : n0 ≤ h1052.size := Nat.le_trans Z1051 (Nat.le_of_eq W1052.size.symm)
  refine k_aload X1052 hx (hb hby at_28) rfl rfl (pc' := 30) rfl ?_
  refine k_iconst X1052 hx (hb hby at_30) (pc' := 31) rfl (z := (1 : Int32)) rfl ?_
  refine k_lload X1052 hx (hb hby at_31) rfl (pc' := 33) rfl ?_
  refine k_lastore X1052 hx hZ e1052 Vw1052 ⟨by decide, by decide⟩ (i := 1) rfl (Nat.le_of_ble_eq_true rfl) (hb hby at_33) (pc' := 34) rfl (fun T1053 h1053 X1053 e1053 W1053 V1053 => ?_)
  have Vw1053 : Arv Z h1053 b1051 k1051 .long (8 : Int32) [(.long v1050), (.long v1050), (.long (0 : Int64)), (.long (0 : Int64)), (.long (0 : Int64)), (.long (0 : Int64)), (.long (0 : Int64)), (.long (0 : Int64))] (.long (0 : Int64)) := V1053
  have N1053 := Fr.snoc X1053 N1052 g_b1051
  have Z1053 : n0 ≤ h1053.size := Nat.le_trans Z1052 (Nat.le_of_eq W1053.size.symm)
  refine k_aload X1053 hx (hb hby at_34) rfl rfl (pc' := 36) rfl ?_
  refine k_iconst X1053 hx (hb hby at_36) (pc' := 37) rfl (z := (2 : Int32)) rfl ?_
  refine k_lload X1053 hx (hb hby at_37) rfl (pc' := 39) rfl ?_
  refine k_lastore X1053 hx hZ e1053 Vw1053 ⟨by decide, by decide⟩ (i := 2) rfl (Nat.le_of_ble_eq_true rfl) (hb hby at_39) (pc' := 40) rfl (fun T1054 h1054 X1054 e1054 W1054 V1054 => ?_)
  have Vw1054 : Arv Z h1054 b1051 k1051 .long (8 : Int32) [(.long v1050), (.long v1050), (.long v1050), (.long (0 : Int64)), (.long (0 : Int64)), (.long (0 : Int64)), (.long (0 : Int64)), (.long (0 : Int64))] (.long (0 : Int64)) := V1054
  have N1054 := Fr.snoc X1054 N1053 g_b1051
  have Z1054 : n0 ≤ h1054.size := Nat.le_trans Z1053 (Nat.le_of_eq W1054.size.symm)
  refine k_aload X1054 hx (hb hby at_40) rfl rfl (pc' := 42) rfl ?_
  refine k_iconst X1054 hx (hb hby at_42) (pc' := 43) rfl (z := (3 : Int32)) rfl ?_
  refine k_lload X1054 hx (hb hby at_43) rfl (pc' := 45) rfl ?_
  refine k_lastore X1054 hx hZ e1054 Vw1054 ⟨by decide, by decide⟩ (i := 3) rfl (Nat.le_of_ble_eq_true rfl) (hb hby at_45) (pc' := 46) rfl (fun T1055 h1055 X1055 e1055 W1055 V1055 => ?_)
  have Vw1055 : Arv Z h1055 b1051 k1051 .long (8 : Int32) [(.long v1050), (.long v1050), (.long v1050), (.long v1050), (.long (0 : Int64)), (.long (0 : Int64)), (.long (0 : Int64)), (.long (0 : Int64))] (.long (0 : Int64)) := V1055
  have N1055 := Fr.snoc X1055 N1054 g_b1051
  have Z1055 : n0 ≤ h1055.size := Nat.le_trans Z1054 (Nat.le_of_eq W1055.size.symm)
  refine k_aload X1055 hx (hb hby at_46) rfl rfl (pc' := 48) rfl ?_
  refine k_iconst X1055 hx (hb hby at_48) (pc' := 49) rfl (z := (4 : Int32)) rfl ?_
  refine k_lload X1055 hx (hb hby at_49) rfl (pc' := 51) rfl ?_
  refine k_lastore X1055 hx hZ e1055 Vw1055 ⟨by decide, by decide⟩ (i := 4) rfl (Nat.le_of_ble_eq_true rfl) (hb hby at_51) (pc' := 52) rfl (fun T1056 h1056 X1056 e1056 W1056 V1056 => ?_)
  have Vw1056 : Arv Z h1056 b1051 k1051 .long (8 : Int32) [(.long v1050), (.long v1050), (.long v1050), (.long v1050), (.long v1050), (.long (0 : Int64)), (.long (0 : Int64)), (.long (0 : Int64))] (.long (0 : Int64)) := V1056
  have N1056 := Fr.snoc X1056 N1055 g_b1051
  have Z1056 : n0 ≤ h1056.size := Nat.le_trans Z1055 (Nat.le_of_eq W1056.size.symm)
  refine k_aload X1056 hx (hb hby at_52) rfl rfl (pc' := 54) rfl ?_
  refine k_iconst X1056 hx (hb hby at_54) (pc' := 55) rfl (z := (5 : Int32)) rfl ?_
  refine k_lload X1056 hx (hb hby at_55) rfl (pc' := 57) rfl ?_
  refine k_lastore X1056 hx hZ e1056 Vw1056 ⟨by decide, by decide⟩ (i := 5) rfl (Nat.le_of_ble_eq_true rfl) (hb hby at_57) (pc' := 58) rfl (fun T1057 h1057 X1057 e1057 W1057 V1057 => ?_)
  have Vw1057 : Arv Z h1057 b1051 k1051 .long (8 : Int32) [(.long v1050), (.long v1050), (.long v1050), (.long v1050), (.long v1050), (.long v1050), (.long (0 : Int64)), (.long (0 : Int64))] (.long (0 : Int64)) := V1057
  have N1057 := Fr.snoc X1057 N1056 g_b1051
  have Z1057 : n0 ≤ h1057.size := Nat.le_trans Z1056 (Nat.le_of_eq W1057.size.symm)
  refine k_aload X1057 hx (hb hby at_58) rfl rfl (pc' := 60) rfl ?_
  refine k_bipush X1057 hx (hb hby at_60) (pc' := 62) rfl (z := (6 : Int32)) rfl ?_
  refine k_lload X1057 hx (hb hby at_62) rfl (pc' := 64) rfl ?_
  refine k_lastore X1057 hx hZ e1057 Vw1057 ⟨by decide, by decide⟩ (i := 6) rfl (Nat.le_of_ble_eq_true rfl) (hb hby at_64) (pc' := 65) rfl (fun T1058 h1058 X1058 e1058 W1058 V1058 => ?_)
  have Vw1058 : Arv Z h1058 b1051 k1051 .long (8 : Int32) [(.long v1050), (.long v1050), (.long v1050), (.long v1050), (.long v1050), (.long v1050), (.long v1050), (.long (0 : Int64))] (.long (0 : Int64)) := V1058
  have N1058 := Fr.snoc X1058 N1057 g_b1051
  have Z1058 : n0 ≤ h1058.size := Nat.le_trans Z1057 (Nat.le_of_eq W1058.size.symm)
  refine k_aload X1058 hx (hb hby at_65) rfl rfl (pc' := 67) rfl ?_
  refine k_bipush X1058 hx (hb hby at_67) (pc' := 69) rfl (z := (7 : Int32)) rfl ?_
  refine k_lload X1058 hx (hb hby at_69) rfl (pc' := 71) rfl ?_
  refine k_lastore X1058 hx hZ e1058 Vw1058 ⟨by decide, by decide⟩ (i := 7) rfl (Nat.le_of_ble_eq_true rfl) (hb hby at_71) (pc' := 72) rfl (fun T1059 h1059 X1059 e1059 W1059 V1059 => ?_)
  have Vw1059 : Arv Z h1059 b1051 k1051 .long (8 : Int32) [(.long v1050), (.long v1050), (.long v1050), (.long v1050), (.long v1050), (.long v1050), (.long v1050), (.long v1050)] (.long (0 : Int64)) := V1059
  have N1059 := Fr.snoc X1059 N1058 g_b1051
  have Z1059 : n0 ≤ h1059.size := Nat.le_trans Z1058 (Nat.le_of_eq W1059.size.symm)
  refine k_aload X1059 hx (hb hby at_72) rfl rfl (pc' := 74) rfl ?_
  refine k_iload X1059 hx (hb hby at_74) rfl (pc' := 76) rfl ?_
  refine k_lloadN X1059 hx (hb hby at_76) rfl (pc' := 77) rfl ?_
  refine k_lastore X1059 hx hZ e1059 Vw1059 ⟨by decide, by decide⟩ (i := 3) rfl (Nat.le_of_ble_eq_true rfl) (hb hby at_77) (pc' := 78) rfl (fun T1060 h1060 X1060 e1060 W1060 V1060 => ?_)
  have Vw1060 : Arv Z h1060 b1051 k1051 .long (8 : Int32) [(.long v1050), (.long v1050), (.long v1050), (.long i0), (.long v1050), (.long v1050), (.long v1050), (.long v1050)] (.long (0 : Int64)) := V1060
  have N1060 := Fr.snoc X1060 N1059 g_b1051
  have Z1060 : n0 ≤ h1060.size := Nat.le_trans Z1059 (Nat.le_of_eq W1060.size.symm)
  refine k_aload X1060 hx (hb hby at_78) rfl rfl (pc' := 80) rfl ?_
  refine k_iload X1060 hx (hb hby at_80) rfl (pc' := 82) rfl ?_
  refine k_iconst X1060 hx (hb hby at_82) (pc' := 83) rfl (z := (1 : Int32)) rfl ?_
  refine k_iaddL X1060 hx (hb hby at_83) (pc' := 84) rfl (z := (4 : Int32)) (by decide) ?_
  refine k_lloadN X1060 hx (hb hby at_84) rfl (pc' := 85) rfl ?_
  refine k_lastore X1060 hx hZ e1060 Vw1060 ⟨by decide, by decide⟩ (i := 4) rfl (Nat.le_of_ble_eq_true rfl) (hb hby at_85) (pc' := 86) rfl (fun T1061 h1061 X1061 e1061 W1061 V1061 => ?_)
  have Vw1061 : Arv Z h1061 b1051 k1051 .long (8 : Int32) [(.long v1050), (.long v1050), (.long v1050), (.long i0), (.long i1), (.long v1050), (.long v1050), (.long v1050)] (.long (0 : Int64)) := V1061
  have N1061 := Fr.snoc X1061 N1060 g_b1051
  have Z1061 : n0 ≤ h1061.size := Nat.le_trans Z1060 (Nat.le_of_eq W1061.size.symm)
  refine k_aload X1061 hx (hb hby at_86) rfl rfl (pc' := 88) rfl ?_
  refine k_iload X1061 hx (hb hby at_88) rfl (pc' := 90) rfl ?_
  refine k_iconst X1061 hx (hb hby at_90) (pc' := 91) rfl (z := (2 : Int32)) rfl ?_
  refine k_iaddL X1061 hx (hb hby at_91) (pc' := 92) rfl (z := (5 : Int32)) (by decide) ?_
  refine k_lload X1061 hx (hb hby at_92) rfl (pc' := 94) rfl ?_
  refine k_lastore X1061 hx hZ e1061 Vw1061 ⟨by decide, by decide⟩ (i := 5) rfl (Nat.le_of_ble_eq_true rfl) (hb hby at_94) (pc' := 95) rfl (fun T1062 h1062 X1062 e1062 W1062 V1062 => ?_)
  have Vw1062 : Arv Z h1062 b1051 k1051 .long (8 : Int32) [(.long v1050), (.long v1050), (.long v1050), (.long i0), (.long i1), (.long i2), (.long v1050), (.long v1050)] (.long (0 : Int64)) := V1062
  have N1062 := Fr.snoc X1062 N1061 g_b1051
  have Z1062 : n0 ≤ h1062.size := Nat.le_trans Z1061 (Nat.le_of_eq W1062.size.symm)
  refine k_aload X1062 hx (hb hby at_95) rfl rfl (pc' := 97) rfl ?_
  refine k_iload X1062 hx (hb hby at_97) rfl (pc' := 99) rfl ?_
  refine k_iconst X1062 hx (hb hby at_99) (pc' := 100) rfl (z := (3 : Int32)) rfl ?_
  refine k_iaddL X1062 hx (hb hby at_100) (pc' := 101) rfl (z := (6 : Int32)) (by decide) ?_
  refine k_lload X1062 hx (hb hby at_101) rfl (pc' := 103) rfl ?_
  refine k_lastore X1062 hx hZ e1062 Vw1062 ⟨by decide, by decide⟩ (i := 6) rfl (Nat.le_of_ble_eq_true rfl) (hb hby at_103) (pc' := 104) rfl (fun T1063 h1063 X1063 e1063 W1063 V1063 => ?_)
  have Vw1063 : Arv Z h1063 b1051 k1051 .long (8 : Int32) [(.long v1050), (.long v1050), (.long v1050), (.long i0), (.long i1), (.long i2), (.long i3), (.long v1050)] (.long (0 : Int64)) := V1063
  have N1063 := Fr.snoc X1063 N1062 g_b1051
  have Z1063 : n0 ≤ h1063.size := Nat.le_trans Z1062 (Nat.le_of_eq W1063.size.symm)
  refine k_aload X1063 hx (hb hby at_104) rfl rfl (pc' := 106) rfl ?_
  refine k_iload X1063 hx (hb hby at_106) rfl (pc' := 108) rfl ?_
  refine k_iconst X1063 hx (hb hby at_108) (pc' := 109) rfl (z := (4 : Int32)) rfl ?_
  refine k_iaddL X1063 hx (hb hby at_109) (pc' := 110) rfl (z := (7 : Int32)) (by decide) ?_
  refine k_lload X1063 hx (hb hby at_110) rfl (pc' := 112) rfl ?_
  refine k_lastore X1063 hx hZ e1063 Vw1063 ⟨by decide, by decide⟩ (i := 7) rfl (Nat.le_of_ble_eq_true rfl) (hb hby at_112) (pc' := 113) rfl (fun T1064 h1064 X1064 e1064 W1064 V1064 => ?_)
  have Vw1064 : Arv Z h1064 b1051 k1051 .long (8 : Int32) [(.long v1050), (.long v1050), (.long v1050), (.long i0), (.long i1), (.long i2), (.long i3), (.long i4)] (.long (0 : Int64)) := V1064
  have N1064 := Fr.snoc X1064 N1063 g_b1051
  have Z1064 : n0 ≤ h1064.size := Nat.le_trans Z1063 (Nat.le_of_eq W1064.size.symm)
  refine k_bipush X1064 hx (hb hby at_113) (pc' := 115) rfl (z := (9 : Int32)) rfl ?_
  refine k_newA X1064 hx hZ (hw _ (List.mem_of_getElem? (i := 1) rfl)) e1064 (hb hby at_115) (by decide) (cap := 9) (by decide) (by decide) (by decide) (by decide) (pc' := 117) rfl (fun T1065 h1065 b1065 k1065 g1065 X1065 e1065 E1065 V1065 => ?_)
  have g_b1065 : n0 ≤ b1065 := Nat.le_trans Z1064 (Nat.le_of_eq g1065.symm)
  have lt_b1065 : b1051 < b1065 := Nat.lt_of_lt_of_le Vw1064.lt (Nat.le_of_eq g1065.symm)
  have Z1065 : n0 ≤ h1065.size := Nat.le_trans Z1064 E1065.1
  have Vw1065 : Arv Z h1065 b1065 k1065 .long (9 : Int32) [(.long (0 : Int64)), (.long (0 : Int64)), (.long (0 : Int64)), (.long (0 : Int64)), (.long (0 : Int64)), (.long (0 : Int64)), (.long (0 : Int64)), (.long (0 : Int64)), (.long (0 : Int64))] (.long (0 : Int64)) := V1065
  refine k_astore X1065 hx (hb hby at_117) rfl (Ls' := #[.val (.long i0), .second, .val (.long i1), .second, .val (.long i2), .second, .val (.long i3), .second, .val (.long i4), .second, .val (.int i5), .val (.int (3 : Int32)), .val (.long v1050), .second, .val (.ref b1051), .val (.ref b1065)]) rfl (pc' := 119) rfl ?_
  refine k_aload X1065 hx (hb hby at_119) rfl rfl (pc' := 121) rfl ?_
  refine k_iconst X1065 hx (hb hby at_121) (pc' := 122) rfl (z := (0 : Int32)) rfl ?_
  refine k_ldcL X1065 hx hZ hown (hw _ (List.mem_of_getElem? (i := 0) rfl)) (hb hby at_122) (pc' := 125) rfl ?_
  refine k_lastore X1065 hx hZ e1065 Vw1065 ⟨by decide, by decide⟩ (i := 0) rfl (Nat.le_of_ble_eq_true rfl) (hb hby at_125) (pc' := 126) rfl (fun T1066 h1066 X1066 e1066 W1066 V1066 => ?_)
  have Vw1066 : Arv Z h1066 b1065 k1065 .long (9 : Int32) [(.long (-1 : Int64)), (.long (0 : Int64)), (.long (0 : Int64)), (.long (0 : Int64)), (.long (0 : Int64)), (.long (0 : Int64)), (.long (0 : Int64)), (.long (0 : Int64)), (.long (0 : Int64))] (.long (0 : Int64)) := V1066
  have N1066 := Fr.snoc X1066 N1064 g_b1065
  have Z1066 : n0 ≤ h1066.size := Nat.le_trans Z1065 (Nat.le_of_eq W1066.size.symm)
  refine k_aload X1066 hx (hb hby at_126) rfl rfl (pc' := 128) rfl ?_
  refine k_iconst X1066 hx (hb hby at_128) (pc' := 129) rfl (z := (1 : Int32)) rfl ?_
  refine k_ldcL X1066 hx hZ hown (hw _ (List.mem_of_getElem? (i := 0) rfl)) (hb hby at_129) (pc' := 132) rfl ?_
  refine k_lastore X1066 hx hZ e1066 Vw1066 ⟨by decide, by decide⟩ (i := 1) rfl (Nat.le_of_ble_eq_true rfl) (hb hby at_132) (pc' := 133) rfl (fun T1067 h1067 X1067 e1067 W1067 V1067 => ?_)
  have Vw1067 : Arv Z h1067 b1065 k1065 .long (9 : Int32) [(.long (-1 : Int64)), (.long (-1 : Int64)), (.long (0 : Int64)), (.long (0 : Int64)), (.long (0 : Int64)), (.long (0 : Int64)), (.long (0 : Int64)), (.long (0 : Int64)), (.long (0 : Int64))] (.long (0 : Int64)) := V1067
  have N1067 := Fr.snoc X1067 N1066 g_b1065
  have Z1067 : n0 ≤ h1067.size := Nat.le_trans Z1066 (Nat.le_of_eq W1067.size.symm)
  refine k_aload X1067 hx (hb hby at_133) rfl rfl (pc' := 135) rfl ?_
  refine k_iconst X1067 hx (hb hby at_135) (pc' := 136) rfl (z := (2 : Int32)) rfl ?_
  refine k_ldcL X1067 hx hZ hown (hw _ (List.mem_of_getElem? (i := 0) rfl)) (hb hby at_136) (pc' := 139) rfl ?_
  refine k_lastore X1067 hx hZ e1067 Vw1067 ⟨by decide, by decide⟩ (i := 2) rfl (Nat.le_of_ble_eq_true rfl) (hb hby at_139) (pc' := 140) rfl (fun T1068 h1068 X1068 e1068 W1068 V1068 => ?_)
  have Vw1068 : Arv Z h1068 b1065 k1065 .long (9 : Int32) [(.long (-1 : Int64)), (.long (-1 : Int64)), (.long (-1 : Int64)), (.long (0 : Int64)), (.long (0 : Int64)), (.long (0 : Int64)), (.long (0 : Int64)), (.long (0 : Int64)), (.long (0 : Int64))] (.long (0 : Int64)) := V1068
  have N1068 := Fr.snoc X1068 N1067 g_b1065
  have Z1068 : n0 ≤ h1068.size := Nat.le_trans Z1067 (Nat.le_of_eq W1068.size.symm)
  refine k_aload X1068 hx (hb hby at_140) rfl rfl (pc' := 142) rfl ?_
  refine k_iconst X1068 hx (hb hby at_142) (pc' := 143) rfl (z := (3 : Int32)) rfl ?_
  refine k_ldcL X1068 hx hZ hown (hw _ (List.mem_of_getElem? (i := 0) rfl)) (hb hby at_143) (pc' := 146) rfl ?_
  refine k_lastore X1068 hx hZ e1068 Vw1068 ⟨by decide, by decide⟩ (i := 3) rfl (Nat.le_of_ble_eq_true rfl) (hb hby at_146) (pc' := 147) rfl (fun T1069 h1069 X1069 e1069 W1069 V1069 => ?_)
  have Vw1069 : Arv Z h1069 b1065 k1065 .long (9 : Int32) [(.long (-1 : Int64)), (.long (-1 : Int64)), (.long (-1 : Int64)), (.long (-1 : Int64)), (.long (0 : Int64)), (.long (0 : Int64)), (.long (0 : Int64)), (.long (0 : Int64)), (.long (0 : Int64))] (.long (0 : Int64)) := V1069
  have N1069 := Fr.snoc X1069 N1068 g_b1065
  have Z1069 : n0 ≤ h1069.size := Nat.le_trans Z1068 (Nat.le_of_eq W1069.size.symm)
  refine k_aload X1069 hx (hb hby at_147) rfl rfl (pc' := 149) rfl ?_
  refine k_iconst X1069 hx (hb hby at_149) (pc' := 150) rfl (z := (4 : Int32)) rfl ?_
  refine k_ldcL X1069 hx hZ hown (hw _ (List.mem_of_getElem? (i := 0) rfl)) (hb hby at_150) (pc' := 153) rfl ?_
  refine k_lastore X1069 hx hZ e1069 Vw1069 ⟨by decide, by decide⟩ (i := 4) rfl (Nat.le_of_ble_eq_true rfl) (hb hby at_153) (pc' := 154) rfl (fun T1070 h1070 X1070 e1070 W1070 V1070 => ?_)
  have Vw1070 : Arv Z h1070 b1065 k1065 .long (9 : Int32) [(.long (-1 : Int64)), (.long (-1 : Int64)), (.long (-1 : Int64)), (.long (-1 : Int64)), (.long (-1 : Int64)), (.long (0 : Int64)), (.long (0 : Int64)), (.long (0 : Int64)), (.long (0 : Int64))] (.long (0 : Int64)) := V1070
  have N1070 := Fr.snoc X1070 N1069 g_b1065
  have Z1070 : n0 ≤ h1070.size := Nat.le_trans Z1069 (Nat.le_of_eq W1070.size.symm)
  refine k_aload X1070 hx (hb hby at_154) rfl rfl (pc' := 156) rfl ?_
  refine k_iconst X1070 hx (hb hby at_156) (pc' := 157) rfl (z := (5 : Int32)) rfl ?_
  refine k_ldcL X1070 hx hZ hown (hw _ (List.mem_of_getElem? (i := 0) rfl)) (hb hby at_157) (pc' := 160) rfl ?_
  refine k_lastore X1070 hx hZ e1070 Vw1070 ⟨by decide, by decide⟩ (i := 5) rfl (Nat.le_of_ble_eq_true rfl) (hb hby at_160) (pc' := 161) rfl (fun T1071 h1071 X1071 e1071 W1071 V1071 => ?_)
  have Vw1071 : Arv Z h1071 b1065 k1065 .long (9 : Int32) [(.long (-1 : Int64)), (.long (-1 : Int64)), (.long (-1 : Int64)), (.long (-1 : Int64)), (.long (-1 : Int64)), (.long (-1 : Int64)), (.long (0 : Int64)), (.long (0 : Int64)), (.long (0 : Int64))] (.long (0 : Int64)) := V1071
  have N1071 := Fr.snoc X1071 N1070 g_b1065
  have Z1071 : n0 ≤ h1071.size := Nat.le_trans Z1070 (Nat.le_of_eq W1071.size.symm)
  refine k_aload X1071 hx (hb hby at_161) rfl rfl (pc' := 163) rfl ?_
  refine k_bipush X1071 hx (hb hby at_163) (pc' := 165) rfl (z := (6 : Int32)) rfl ?_
  refine k_ldcL X1071 hx hZ hown (hw _ (List.mem_of_getElem? (i := 0) rfl)) (hb hby at_165) (pc' := 168) rfl ?_
  refine k_lastore X1071 hx hZ e1071 Vw1071 ⟨by decide, by decide⟩ (i := 6) rfl (Nat.le_of_ble_eq_true rfl) (hb hby at_168) (pc' := 169) rfl (fun T1072 h1072 X1072 e1072 W1072 V1072 => ?_)
  have Vw1072 : Arv Z h1072 b1065 k1065 .long (9 : Int32) [(.long (-1 : Int64)), (.long (-1 : Int64)), (.long (-1 : Int64)), (.long (-1 : Int64)), (.long (-1 : Int64)), (.long (-1 : Int64)), (.long (-1 : Int64)), (.long (0 : Int64)), (.long (0 : Int64))] (.long (0 : Int64)) := V1072
  have N1072 := Fr.snoc X1072 N1071 g_b1065
  have Z1072 : n0 ≤ h1072.size := Nat.le_trans Z1071 (Nat.le_of_eq W1072.size.symm)
  refine k_aload X1072 hx (hb hby at_169) rfl rfl (pc' := 171) rfl ?_
  refine k_bipush X1072 hx (hb hby at_171) (pc' := 173) rfl (z := (7 : Int32)) rfl ?_
  refine k_ldcL X1072 hx hZ hown (hw _ (List.mem_of_getElem? (i := 0) rfl)) (hb hby at_173) (pc' := 176) rfl ?_
  refine k_lastore X1072 hx hZ e1072 Vw1072 ⟨by decide, by decide⟩ (i := 7) rfl (Nat.le_of_ble_eq_true rfl) (hb hby at_176) (pc' := 177) rfl (fun T1073 h1073 X1073 e1073 W1073 V1073 => ?_)
  have Vw1073 : Arv Z h1073 b1065 k1065 .long (9 : Int32) [(.long (-1 : Int64)), (.long (-1 : Int64)), (.long (-1 : Int64)), (.long (-1 : Int64)), (.long (-1 : Int64)), (.long (-1 : Int64)), (.long (-1 : Int64)), (.long (-1 : Int64)), (.long (0 : Int64))] (.long (0 : Int64)) := V1073
  have N1073 := Fr.snoc X1073 N1072 g_b1065
  have Z1073 : n0 ≤ h1073.size := Nat.le_trans Z1072 (Nat.le_of_eq W1073.size.symm)
  refine k_aload X1073 hx (hb hby at_177) rfl rfl (pc' := 179) rfl ?_
  refine k_bipush X1073 hx (hb hby at_179) (pc' := 181) rfl (z := (8 : Int32)) rfl ?_
  refine k_ldcL X1073 hx hZ hown (hw _ (List.mem_of_getElem? (i := 0) rfl)) (hb hby at_181) (pc' := 184) rfl ?_
  refine k_lastore X1073 hx hZ e1073 Vw1073 ⟨by decide, by decide⟩ (i := 8) rfl (Nat.le_of_ble_eq_true rfl) (hb hby at_184) (pc' := 185) rfl (fun T1074 h1074 X1074 e1074 W1074 V1074 => ?_)
  have Vw1074 : Arv Z h1074 b1065 k1065 .long (9 : Int32) [(.long (-1 : Int64)), (.long (-1 : Int64)), (.long (-1 : Int64)), (.long (-1 : Int64)), (.long (-1 : Int64)), (.long (-1 : Int64)), (.long (-1 : Int64)), (.long (-1 : Int64)), (.long (-1 : Int64))] (.long (0 : Int64)) := V1074
  have N1074 := Fr.snoc X1074 N1073 g_b1065
  have Z1074 : n0 ≤ h1074.size := Nat.le_trans Z1073 (Nat.le_of_eq W1074.size.symm)
  refine k_aload X1074 hx (hb hby at_185) rfl rfl (pc' := 187) rfl ?_
  refine k_aload X1074 hx (hb hby at_187) rfl rfl (pc' := 189) rfl ?_
  refine k_iload X1074 hx (hb hby at_189) rfl (pc' := 191) rfl ?_
  have F1075 := ((((((((((Vw1064.ext E1065).other W1066 (Nat.ne_of_lt lt_b1065)).other W1067 (Nat.ne_of_lt lt_b1065)).other W1068 (Nat.ne_of_lt lt_b1065)).other W1069 (Nat.ne_of_lt lt_b1065)).other W1070 (Nat.ne_of_lt lt_b1065)).other W1071 (Nat.ne_of_lt lt_b1065)).other W1072 (Nat.ne_of_lt lt_b1065)).other W1073 (Nat.ne_of_lt lt_b1065)).other W1074 (Nat.ne_of_lt lt_b1065))
  refine k_callS X1074 hx hZ hown (hw _ (List.mem_of_getElem? (i := 2) rfl)) (hw _ (List.mem_of_getElem? (i := 3) rfl)) (hw _ (List.mem_of_getElem? (i := 4) rfl)) (hw _ (List.mem_of_getElem? (i := 5) rfl)) (by decide) (rm1_1076 l Z a0 hw [] b1065 b1051 k1051 v1050 i0 i1 i2 i3 i4 k1065 h1074 n0 Z1074 F1075 g_b1051 Vw1074 g_b1065 lt_b1065) (by decide) (by decide) e1074 (by rw [hml]; rfl) (argsL := [(.ref b1065), (.ref b1051), (.int (3 : Int32))]) (rest := []) (lenOf pd_0 rfl) rfl (W := 0) (Nat.le_refl _) rfl (hb hby at_191) (by decide) (by decide) (pc' := 194) rfl (fun T1108 L1108 r1108 X1108 q1108 => ?_)
  obtain ⟨N1108, q1108⟩ := q1108
  have N1108' := Fr.app N1074 N1108
  obtain ⟨v1109, v1110, v1111, v1112, v1113, v1114, v1115, v1116, v1117, v1118, v1119, v1120, v1121, h1122, h1123, h1124, h1125, h1126, h1127, h1128, h1129, h1130, h1131, h1132, h1133, h1134, rfl, F1135, F1136, Z1137⟩ := q1108
  show KEnds p e below s _ _ _ T1108 (mkF m 194 #[.val (.long i0), .second, .val (.long i1), .second, .val (.long i2), .second, .val (.long i3), .second, .val (.long i4), .second, .val (.int i5), .val (.int (3 : Int32)), .val (.long v1050), .second, .val (.ref b1051), .val (.ref b1065)] [])
  refine k_aload X1108 hx (hb hby at_194) rfl rfl (pc' := 196) rfl ?_
  refine k_iconst X1108 hx (hb hby at_196) (pc' := 197) rfl (z := (0 : Int32)) rfl ?_
  refine k_laload X1108 hx hZ rfl F1136 ⟨by decide, by decide⟩ (v := (.long v1109)) rfl (hb hby at_197) (pc' := 198) rfl ?_
  refine k_aload X1108 hx (hb hby at_198) rfl rfl (pc' := 200) rfl ?_
  refine k_iconst X1108 hx (hb hby at_200) (pc' := 201) rfl (z := (1 : Int32)) rfl ?_
  refine k_laload X1108 hx hZ rfl F1136 ⟨by decide, by decide⟩ (v := (.long v1111)) rfl (hb hby at_201) (pc' := 202) rfl ?_
  refine k_lloadN X1108 hx (hb hby at_202) rfl (pc' := 203) rfl ?_
  refine k_callS X1108 hx hZ hown (hw _ (List.mem_of_getElem? (i := 7) rfl)) (hw _ (List.mem_of_getElem? (i := 8) rfl)) (hw _ (List.mem_of_getElem? (i := 9) rfl)) (hw _ (List.mem_of_getElem? (i := 10) rfl)) (by decide) (rm2_94 l Z a0 hw [] v1109 v1111 i0 T1108.heap n0 Z1137 ) (by decide) (by decide) rfl (by rw [hml]; rfl) (argsL := [(.long v1109), (.long v1111), (.long i0)]) (rest := []) (lenOf pd_1 rfl) rfl (W := 0) (Nat.le_refl _) rfl (hb hby at_203) (by decide) (by decide) (pc' := 206) rfl (fun T1138 L1138 r1138 X1138 q1138 => ?_)
  obtain ⟨N1138, e1138, q1138⟩ := q1138
  have N1138' := Fr.app N1108' N1138
  rcases q1138 with ⟨hc1139, rfl⟩ | ⟨hc1140, hc1141, rfl⟩ | ⟨hc1142, hc1143, hc1144, rfl⟩ | ⟨hc1145, hc1146, hc1147, hc1148, rfl⟩ | ⟨v1149, v1150, v1151, h1152, h1153, h1154, hc1155, hc1156, hc1157, hc1158, hc1159, rfl⟩ | ⟨v1160, v1161, v1162, h1163, h1164, h1165, hc1166, hc1167, hc1168, hc1169, hc1170, rfl⟩
  ·
   show KEnds p e below s _ _ _ T1138 (mkF m 206 #[.val (.long i0), .second, .val (.long i1), .second, .val (.long i2), .second, .val (.long i3), .second, .val (.long i4), .second, .val (.int i5), .val (.int (3 : Int32)), .val (.long v1050), .second, .val (.ref b1051), .val (.ref b1065)] [(.int (0 : Int32))])
   refine k_if_eq X1138 hx (hb hby at_206) (pn := 209) rfl (py := 299) (by decide) (fun _ => ?_) (fun hc => absurd (by decide) hc)
   refine k_iconst X1138 hx (hb hby at_299) (pc' := 300) rfl (z := (0 : Int32)) rfl ?_
   exfalso
   have := rng64 v1109
   have := rng64 i0
   have : (536870911 : Int64).toInt = 536870911 := (by decide)
   have q1171 : v1109.toInt = i0.toInt % 536870912 := (by rw [h1122]; exact c_maskL _ _ 29 (by decide) (by decide))
   have : (0 : Int64).toInt = 0 := (by decide)
   have q1172 := hc1139; rw [Int64.lt_iff_toInt_lt] at q1172
   omega
  ·
   show KEnds p e below s _ _ _ T1138 (mkF m 206 #[.val (.long i0), .second, .val (.long i1), .second, .val (.long i2), .second, .val (.long i3), .second, .val (.long i4), .second, .val (.int i5), .val (.int (3 : Int32)), .val (.long v1050), .second, .val (.ref b1051), .val (.ref b1065)] [(.int (0 : Int32))])
   refine k_if_eq X1138 hx (hb hby at_206) (pn := 209) rfl (py := 299) (by decide) (fun _ => ?_) (fun hc => absurd (by decide) hc)
   refine k_iconst X1138 hx (hb hby at_299) (pc' := 300) rfl (z := (0 : Int32)) rfl ?_
   exfalso
   have := rng64 v1109
   have := rng64 i0
   have : (536870911 : Int64).toInt = 536870911 := (by decide)
   have q1173 : v1109.toInt = i0.toInt % 536870912 := (by rw [h1122]; exact c_maskL _ _ 29 (by decide) (by decide))
   have : (0 : Int64).toInt = 0 := (by decide)
   have q1174 := hc1140; rw [Int64.lt_iff_toInt_lt] at q1174
   have q1175 := hc1141; rw [Int64.lt_iff_toInt_lt] at q1175
   omega
  ·
   show KEnds p e below s _ _ _ T1138 (mkF m 206 #[.val (.long i0), .second, .val (.long i1), .second, .val (.long i2), .second, .val (.long i3), .second, .val (.long i4), .second, .val (.int i5), .val (.int (3 : Int32)), .val (.long v1050), .second, .val (.ref b1051), .val (.ref b1065)] [(.int (0 : Int32))])
   refine k_if_eq X1138 hx (hb hby at_206) (pn := 209) rfl (py := 299) (by decide) (fun _ => ?_) (fun hc => absurd (by decide) hc)
   refine k_iconst X1138 hx (hb hby at_299) (pc' := 300) rfl (z := (0 : Int32)) rfl ?_
   exfalso
   have := rng64 v1109
   have := rng64 i0
   have : (536870911 : Int64).toInt = 536870911 := (by decide)
   have q1176 : v1109.toInt = i0.toInt % 536870912 := (by rw [h1122]; exact c_maskL _ _ 29 (by decide) (by decide))
   have : (0 : Int64).toInt = 0 := (by decide)
   have q1177 := hc1142; rw [Int64.lt_iff_toInt_lt] at q1177
   have q1178 := hc1143; rw [Int64.lt_iff_toInt_lt] at q1178
   have := rng64 v1111
   have := rng64 v1110
   have : (29 : Int32).toInt = 29 := (by decide)
   have q1179 : v1110.toInt = (i0.toInt % 18446744073709551616) / 536870912 := (by rw [h1123]; exact c_lushr _ _ 29 (by decide) (by decide))
   have q1180 : v1111.toInt = v1110.toInt % 536870912 := (by rw [h1124]; exact c_maskL _ _ 29 (by decide) (by decide))
   have q1181 := hc1144; rw [Int64.lt_iff_toInt_lt] at q1181
   omega
  ·
   show KEnds p e below s _ _ _ T1138 (mkF m 206 #[.val (.long i0), .second, .val (.long i1), .second, .val (.long i2), .second, .val (.long i3), .second, .val (.long i4), .second, .val (.int i5), .val (.int (3 : Int32)), .val (.long v1050), .second, .val (.ref b1051), .val (.ref b1065)] [(.int (0 : Int32))])
   refine k_if_eq X1138 hx (hb hby at_206) (pn := 209) rfl (py := 299) (by decide) (fun _ => ?_) (fun hc => absurd (by decide) hc)
   refine k_iconst X1138 hx (hb hby at_299) (pc' := 300) rfl (z := (0 : Int32)) rfl ?_
   exfalso
   have := rng64 v1109
   have := rng64 i0
   have : (536870911 : Int64).toInt = 536870911 := (by decide)
   have q1182 : v1109.toInt = i0.toInt % 536870912 := (by rw [h1122]; exact c_maskL _ _ 29 (by decide) (by decide))
   have : (0 : Int64).toInt = 0 := (by decide)
   have q1183 := hc1145; rw [Int64.lt_iff_toInt_lt] at q1183
   have q1184 := hc1146; rw [Int64.lt_iff_toInt_lt] at q1184
   have := rng64 v1111
   have := rng64 v1110
   have : (29 : Int32).toInt = 29 := (by decide)
   have q1185 : v1110.toInt = (i0.toInt % 18446744073709551616) / 536870912 := (by rw [h1123]; exact c_lushr _ _ 29 (by decide) (by decide))
   have q1186 : v1111.toInt = v1110.toInt % 536870912 := (by rw [h1124]; exact c_maskL _ _ 29 (by decide) (by decide))
   have q1187 := hc1147; rw [Int64.lt_iff_toInt_lt] at q1187
   have q1188 := hc1148; rw [Int64.lt_iff_toInt_lt] at q1188
   omega
  ·
   show KEnds p e below s _ _ _ T1138 (mkF m 206 #[.val (.long i0), .second, .val (.long i1), .second, .val (.long i2), .second, .val (.long i3), .second, .val (.long i4), .second, .val (.int i5), .val (.int (3 : Int32)), .val (.long v1050), .second, .val (.ref b1051), .val (.ref b1065)] [(.int (0 : Int32))])
   refine k_if_eq X1138 hx (hb hby at_206) (pn := 209) rfl (py := 299) (by decide) (fun _ => ?_) (fun hc => absurd (by decide) hc)
   refine k_iconst X1138 hx (hb hby at_299) (pc' := 300) rfl (z := (0 : Int32)) rfl ?_
   exfalso
   have := rng64 v1109
   have := rng64 i0
   have : (536870911 : Int64).toInt = 536870911 := (by decide)
   have q1189 : v1109.toInt = i0.toInt % 536870912 := (by rw [h1122]; exact c_maskL _ _ 29 (by decide) (by decide))
   have : (0 : Int64).toInt = 0 := (by decide)
   have q1190 := hc1155; rw [Int64.lt_iff_toInt_lt] at q1190
   have q1191 := hc1156; rw [Int64.lt_iff_toInt_lt] at q1191
   have := rng64 v1111
   have := rng64 v1110
   have : (29 : Int32).toInt = 29 := (by decide)
   have q1192 : v1110.toInt = (i0.toInt % 18446744073709551616) / 536870912 := (by rw [h1123]; exact c_lushr _ _ 29 (by decide) (by decide))
   have q1193 : v1111.toInt = v1110.toInt % 536870912 := (by rw [h1124]; exact c_maskL _ _ 29 (by decide) (by decide))
   have q1194 := hc1157; rw [Int64.lt_iff_toInt_lt] at q1194
   have q1195 := hc1158; rw [Int64.lt_iff_toInt_lt] at q1195
   have := rng64 v1150
   have := rng64 v1149
   have q1196 : (v1149.toInt - v1111.toInt * 536870912) % 18446744073709551616 = 0 := (by rw [h1152]; exact c_lshl _ _ 29 (by decide))
   have q1197 : (v1150.toInt - (v1109.toInt + v1149.toInt)) % 18446744073709551616 = 0 := (by rw [h1153]; exact c_ladd _ _)
   have := rng64 v1151
   have : (288230376151711743 : Int64).toInt = 288230376151711743 := (by decide)
   have q1198 : v1151.toInt = i0.toInt % 288230376151711744 := (by rw [h1154]; exact c_maskL _ _ 58 (by decide) (by decide))
   have q1199 : ¬ v1150.toInt = v1151.toInt := fun q => hc1159 (Int64.toInt_inj.mp q)
   omega
  ·
   show KEnds p e below s _ _ _ T1138 (mkF m 206 #[.val (.long i0), .second, .val (.long i1), .second, .val (.long i2), .second, .val (.long i3), .second, .val (.long i4), .second, .val (.int i5), .val (.int (3 : Int32)), .val (.long v1050), .second, .val (.ref b1051), .val (.ref b1065)] [(.int (1 : Int32))])
   refine k_if_eq X1138 hx (hb hby at_206) (pn := 209) rfl (py := 299) (by decide) (fun hc => absurd hc (by decide)) (fun _ => ?_)
   refine k_aload X1138 hx (hb hby at_209) rfl rfl (pc' := 211) rfl ?_
   refine k_iconst X1138 hx (hb hby at_211) (pc' := 212) rfl (z := (2 : Int32)) rfl ?_
   refine k_laload X1138 hx hZ e1138 F1136 ⟨by decide, by decide⟩ (v := (.long v1112)) rfl (hb hby at_212) (pc' := 213) rfl ?_
   refine k_aload X1138 hx (hb hby at_213) rfl rfl (pc' := 215) rfl ?_
   refine k_iconst X1138 hx (hb hby at_215) (pc' := 216) rfl (z := (3 : Int32)) rfl ?_
   refine k_laload X1138 hx hZ e1138 F1136 ⟨by decide, by decide⟩ (v := (.long v1114)) rfl (hb hby at_216) (pc' := 217) rfl ?_
   refine k_lloadN X1138 hx (hb hby at_217) rfl (pc' := 218) rfl ?_
   refine k_callS X1138 hx hZ hown (hw _ (List.mem_of_getElem? (i := 7) rfl)) (hw _ (List.mem_of_getElem? (i := 8) rfl)) (hw _ (List.mem_of_getElem? (i := 9) rfl)) (hw _ (List.mem_of_getElem? (i := 10) rfl)) (by decide) (rm2_94 l Z a0 hw [] v1112 v1114 i1 T1108.heap n0 Z1137 ) (by decide) (by decide) e1138 (by rw [hml]; rfl) (argsL := [(.long v1112), (.long v1114), (.long i1)]) (rest := []) (lenOf pd_1 rfl) rfl (W := 0) (Nat.le_refl _) rfl (hb hby at_218) (by decide) (by decide) (pc' := 221) rfl (fun T1200 L1200 r1200 X1200 q1200 => ?_)
   obtain ⟨N1200, e1200, q1200⟩ := q1200
   have N1200' := Fr.app N1138' N1200
   rcases q1200 with ⟨hc1201, rfl⟩ | ⟨hc1202, hc1203, rfl⟩ | ⟨hc1204, hc1205, hc1206, rfl⟩ | ⟨hc1207, hc1208, hc1209, hc1210, rfl⟩ | ⟨v1211, v1212, v1213, h1214, h1215, h1216, hc1217, hc1218, hc1219, hc1220, hc1221, rfl⟩ | ⟨v1222, v1223, v1224, h1225, h1226, h1227, hc1228, hc1229, hc1230, hc1231, hc1232, rfl⟩
   ·
    show KEnds p e below s _ _ _ T1200 (mkF m 221 #[.val (.long i0), .second, .val (.long i1), .second, .val (.long i2), .second, .val (.long i3), .second, .val (.long i4), .second, .val (.int i5), .val (.int (3 : Int32)), .val (.long v1050), .second, .val (.ref b1051), .val (.ref b1065)] [(.int (0 : Int32))])
    refine k_if_eq X1200 hx (hb hby at_221) (pn := 224) rfl (py := 299) (by decide) (fun _ => ?_) (fun hc => absurd (by decide) hc)
    refine k_iconst X1200 hx (hb hby at_299) (pc' := 300) rfl (z := (0 : Int32)) rfl ?_
    exfalso
    have := rng64 v1112
    have := rng64 i1
    have : (536870911 : Int64).toInt = 536870911 := (by decide)
    have q1233 : v1112.toInt = i1.toInt % 536870912 := (by rw [h1125]; exact c_maskL _ _ 29 (by decide) (by decide))
    have : (0 : Int64).toInt = 0 := (by decide)
    have q1234 := hc1201; rw [Int64.lt_iff_toInt_lt] at q1234
    omega
   ·
    show KEnds p e below s _ _ _ T1200 (mkF m 221 #[.val (.long i0), .second, .val (.long i1), .second, .val (.long i2), .second, .val (.long i3), .second, .val (.long i4), .second, .val (.int i5), .val (.int (3 : Int32)), .val (.long v1050), .second, .val (.ref b1051), .val (.ref b1065)] [(.int (0 : Int32))])
    refine k_if_eq X1200 hx (hb hby at_221) (pn := 224) rfl (py := 299) (by decide) (fun _ => ?_) (fun hc => absurd (by decide) hc)
    refine k_iconst X1200 hx (hb hby at_299) (pc' := 300) rfl (z := (0 : Int32)) rfl ?_
    exfalso
    have := rng64 v1112
    have := rng64 i1
    have : (536870911 : Int64).toInt = 536870911 := (by decide)
    have q1235 : v1112.toInt = i1.toInt % 536870912 := (by rw [h1125]; exact c_maskL _ _ 29 (by decide) (by decide))
    have : (0 : Int64).toInt = 0 := (by decide)
    have q1236 := hc1202; rw [Int64.lt_iff_toInt_lt] at q1236
    have q1237 := hc1203; rw [Int64.lt_iff_toInt_lt] at q1237
    omega
   ·
    show KEnds p e below s _ _ _ T1200 (mkF m 221 #[.val (.long i0), .second, .val (.long i1), .second, .val (.long i2), .second, .val (.long i3), .second, .val (.long i4), .second, .val (.int i5), .val (.int (3 : Int32)), .val (.long v1050), .second, .val (.ref b1051), .val (.ref b1065)] [(.int (0 : Int32))])
    refine k_if_eq X1200 hx (hb hby at_221) (pn := 224) rfl (py := 299) (by decide) (fun _ => ?_) (fun hc => absurd (by decide) hc)
    refine k_iconst X1200 hx (hb hby at_299) (pc' := 300) rfl (z := (0 : Int32)) rfl ?_
    exfalso
    have := rng64 v1112
    have := rng64 i1
    have : (536870911 : Int64).toInt = 536870911 := (by decide)
    have q1238 : v1112.toInt = i1.toInt % 536870912 := (by rw [h1125]; exact c_maskL _ _ 29 (by decide) (by decide))
    have : (0 : Int64).toInt = 0 := (by decide)
    have q1239 := hc1204; rw [Int64.lt_iff_toInt_lt] at q1239
    have q1240 := hc1205; rw [Int64.lt_iff_toInt_lt] at q1240
    have := rng64 v1114
    have := rng64 v1113
    have : (29 : Int32).toInt = 29 := (by decide)
    have q1241 : v1113.toInt = (i1.toInt % 18446744073709551616) / 536870912 := (by rw [h1126]; exact c_lushr _ _ 29 (by decide) (by decide))
    have q1242 : v1114.toInt = v1113.toInt % 536870912 := (by rw [h1127]; exact c_maskL _ _ 29 (by decide) (by decide))
    have q1243 := hc1206; rw [Int64.lt_iff_toInt_lt] at q1243
    omega
   ·
    show KEnds p e below s _ _ _ T1200 (mkF m 221 #[.val (.long i0), .second, .val (.long i1), .second, .val (.long i2), .second, .val (.long i3), .second, .val (.long i4), .second, .val (.int i5), .val (.int (3 : Int32)), .val (.long v1050), .second, .val (.ref b1051), .val (.ref b1065)] [(.int (0 : Int32))])
    refine k_if_eq X1200 hx (hb hby at_221) (pn := 224) rfl (py := 299) (by decide) (fun _ => ?_) (fun hc => absurd (by decide) hc)
    refine k_iconst X1200 hx (hb hby at_299) (pc' := 300) rfl (z := (0 : Int32)) rfl ?_
    exfalso
    have := rng64 v1112
    have := rng64 i1
    have : (536870911 : Int64).toInt = 536870911 := (by decide)
    have q1244 : v1112.toInt = i1.toInt % 536870912 := (by rw [h1125]; exact c_maskL _ _ 29 (by decide) (by decide))
    have : (0 : Int64).toInt = 0 := (by decide)
    have q1245 := hc1207; rw [Int64.lt_iff_toInt_lt] at q1245
    have q1246 := hc1208; rw [Int64.lt_iff_toInt_lt] at q1246
    have := rng64 v1114
    have := rng64 v1113
    have : (29 : Int32).toInt = 29 := (by decide)
    have q1247 : v1113.toInt = (i1.toInt % 18446744073709551616) / 536870912 := (by rw [h1126]; exact c_lushr _ _ 29 (by decide) (by decide))
    have q1248 : v1114.toInt = v1113.toInt % 536870912 := (by rw [h1127]; exact c_maskL _ _ 29 (by decide) (by decide))
    have q1249 := hc1209; rw [Int64.lt_iff_toInt_lt] at q1249
    have q1250 := hc1210; rw [Int64.lt_iff_toInt_lt] at q1250
    omega
   ·
    show KEnds p e below s _ _ _ T1200 (mkF m 221 #[.val (.long i0), .second, .val (.long i1), .second, .val (.long i2), .second, .val (.long i3), .second, .val (.long i4), .second, .val (.int i5), .val (.int (3 : Int32)), .val (.long v1050), .second, .val (.ref b1051), .val (.ref b1065)] [(.int (0 : Int32))])
    refine k_if_eq X1200 hx (hb hby at_221) (pn := 224) rfl (py := 299) (by decide) (fun _ => ?_) (fun hc => absurd (by decide) hc)
    refine k_iconst X1200 hx (hb hby at_299) (pc' := 300) rfl (z := (0 : Int32)) rfl ?_
    exfalso
    have := rng64 v1112
    have := rng64 i1
    have : (536870911 : Int64).toInt = 536870911 := (by decide)
    have q1251 : v1112.toInt = i1.toInt % 536870912 := (by rw [h1125]; exact c_maskL _ _ 29 (by decide) (by decide))
    have : (0 : Int64).toInt = 0 := (by decide)
    have q1252 := hc1217; rw [Int64.lt_iff_toInt_lt] at q1252
    have q1253 := hc1218; rw [Int64.lt_iff_toInt_lt] at q1253
    have := rng64 v1114
    have := rng64 v1113
    have : (29 : Int32).toInt = 29 := (by decide)
    have q1254 : v1113.toInt = (i1.toInt % 18446744073709551616) / 536870912 := (by rw [h1126]; exact c_lushr _ _ 29 (by decide) (by decide))
    have q1255 : v1114.toInt = v1113.toInt % 536870912 := (by rw [h1127]; exact c_maskL _ _ 29 (by decide) (by decide))
    have q1256 := hc1219; rw [Int64.lt_iff_toInt_lt] at q1256
    have q1257 := hc1220; rw [Int64.lt_iff_toInt_lt] at q1257
    have := rng64 v1212
    have := rng64 v1211
    have q1258 : (v1211.toInt - v1114.toInt * 536870912) % 18446744073709551616 = 0 := (by rw [h1214]; exact c_lshl _ _ 29 (by decide))
    have q1259 : (v1212.toInt - (v1112.toInt + v1211.toInt)) % 18446744073709551616 = 0 := (by rw [h1215]; exact c_ladd _ _)
    have := rng64 v1213
    have : (288230376151711743 : Int64).toInt = 288230376151711743 := (by decide)
    have q1260 : v1213.toInt = i1.toInt % 288230376151711744 := (by rw [h1216]; exact c_maskL _ _ 58 (by decide) (by decide))
    have q1261 : ¬ v1212.toInt = v1213.toInt := fun q => hc1221 (Int64.toInt_inj.mp q)
    omega
   ·
    show KEnds p e below s _ _ _ T1200 (mkF m 221 #[.val (.long i0), .second, .val (.long i1), .second, .val (.long i2), .second, .val (.long i3), .second, .val (.long i4), .second, .val (.int i5), .val (.int (3 : Int32)), .val (.long v1050), .second, .val (.ref b1051), .val (.ref b1065)] [(.int (1 : Int32))])
    refine k_if_eq X1200 hx (hb hby at_221) (pn := 224) rfl (py := 299) (by decide) (fun hc => absurd hc (by decide)) (fun _ => ?_)
    refine k_aload X1200 hx (hb hby at_224) rfl rfl (pc' := 226) rfl ?_
    refine k_iconst X1200 hx (hb hby at_226) (pc' := 227) rfl (z := (4 : Int32)) rfl ?_
    refine k_laload X1200 hx hZ e1200 F1136 ⟨by decide, by decide⟩ (v := (.long v1115)) rfl (hb hby at_227) (pc' := 228) rfl ?_
    refine k_aload X1200 hx (hb hby at_228) rfl rfl (pc' := 230) rfl ?_
    refine k_iconst X1200 hx (hb hby at_230) (pc' := 231) rfl (z := (5 : Int32)) rfl ?_
    refine k_laload X1200 hx hZ e1200 F1136 ⟨by decide, by decide⟩ (v := (.long v1117)) rfl (hb hby at_231) (pc' := 232) rfl ?_
    refine k_lload X1200 hx (hb hby at_232) rfl (pc' := 234) rfl ?_
    refine k_callS X1200 hx hZ hown (hw _ (List.mem_of_getElem? (i := 7) rfl)) (hw _ (List.mem_of_getElem? (i := 8) rfl)) (hw _ (List.mem_of_getElem? (i := 9) rfl)) (hw _ (List.mem_of_getElem? (i := 10) rfl)) (by decide) (rm2_94 l Z a0 hw [] v1115 v1117 i2 T1108.heap n0 Z1137 ) (by decide) (by decide) e1200 (by rw [hml]; rfl) (argsL := [(.long v1115), (.long v1117), (.long i2)]) (rest := []) (lenOf pd_1 rfl) rfl (W := 0) (Nat.le_refl _) rfl (hb hby at_234) (by decide) (by decide) (pc' := 237) rfl (fun T1262 L1262 r1262 X1262 q1262 => ?_)
    obtain ⟨N1262, e1262, q1262⟩ := q1262
    have N1262' := Fr.app N1200' N1262
    rcases q1262 with ⟨hc1263, rfl⟩ | ⟨hc1264, hc1265, rfl⟩ | ⟨hc1266, hc1267, hc1268, rfl⟩ | ⟨hc1269, hc1270, hc1271, hc1272, rfl⟩ | ⟨v1273, v1274, v1275, h1276, h1277, h1278, hc1279, hc1280, hc1281, hc1282, hc1283, rfl⟩ | ⟨v1284, v1285, v1286, h1287, h1288, h1289, hc1290, hc1291, hc1292, hc1293, hc1294, rfl⟩
    ·
     show KEnds p e below s _ _ _ T1262 (mkF m 237 #[.val (.long i0), .second, .val (.long i1), .second, .val (.long i2), .second, .val (.long i3), .second, .val (.long i4), .second, .val (.int i5), .val (.int (3 : Int32)), .val (.long v1050), .second, .val (.ref b1051), .val (.ref b1065)] [(.int (0 : Int32))])
     refine k_if_eq X1262 hx (hb hby at_237) (pn := 240) rfl (py := 299) (by decide) (fun _ => ?_) (fun hc => absurd (by decide) hc)
     refine k_iconst X1262 hx (hb hby at_299) (pc' := 300) rfl (z := (0 : Int32)) rfl ?_
     exfalso
     have := rng64 v1115
     have := rng64 i2
     have : (536870911 : Int64).toInt = 536870911 := (by decide)
     have q1295 : v1115.toInt = i2.toInt % 536870912 := (by rw [h1128]; exact c_maskL _ _ 29 (by decide) (by decide))
     have : (0 : Int64).toInt = 0 := (by decide)
     have q1296 := hc1263; rw [Int64.lt_iff_toInt_lt] at q1296
     omega
    ·
     show KEnds p e below s _ _ _ T1262 (mkF m 237 #[.val (.long i0), .second, .val (.long i1), .second, .val (.long i2), .second, .val (.long i3), .second, .val (.long i4), .second, .val (.int i5), .val (.int (3 : Int32)), .val (.long v1050), .second, .val (.ref b1051), .val (.ref b1065)] [(.int (0 : Int32))])
     refine k_if_eq X1262 hx (hb hby at_237) (pn := 240) rfl (py := 299) (by decide) (fun _ => ?_) (fun hc => absurd (by decide) hc)
     refine k_iconst X1262 hx (hb hby at_299) (pc' := 300) rfl (z := (0 : Int32)) rfl ?_
     exfalso
     have := rng64 v1115
     have := rng64 i2
     have : (536870911 : Int64).toInt = 536870911 := (by decide)
     have q1297 : v1115.toInt = i2.toInt % 536870912 := (by rw [h1128]; exact c_maskL _ _ 29 (by decide) (by decide))
     have : (0 : Int64).toInt = 0 := (by decide)
     have q1298 := hc1264; rw [Int64.lt_iff_toInt_lt] at q1298
     have q1299 := hc1265; rw [Int64.lt_iff_toInt_lt] at q1299
     omega
    ·
     show KEnds p e below s _ _ _ T1262 (mkF m 237 #[.val (.long i0), .second, .val (.long i1), .second, .val (.long i2), .second, .val (.long i3), .second, .val (.long i4), .second, .val (.int i5), .val (.int (3 : Int32)), .val (.long v1050), .second, .val (.ref b1051), .val (.ref b1065)] [(.int (0 : Int32))])
     refine k_if_eq X1262 hx (hb hby at_237) (pn := 240) rfl (py := 299) (by decide) (fun _ => ?_) (fun hc => absurd (by decide) hc)
     refine k_iconst X1262 hx (hb hby at_299) (pc' := 300) rfl (z := (0 : Int32)) rfl ?_
     exfalso
     have := rng64 v1115
     have := rng64 i2
     have : (536870911 : Int64).toInt = 536870911 := (by decide)
     have q1300 : v1115.toInt = i2.toInt % 536870912 := (by rw [h1128]; exact c_maskL _ _ 29 (by decide) (by decide))
     have : (0 : Int64).toInt = 0 := (by decide)
     have q1301 := hc1266; rw [Int64.lt_iff_toInt_lt] at q1301
     have q1302 := hc1267; rw [Int64.lt_iff_toInt_lt] at q1302
     have := rng64 v1117
     have := rng64 v1116
     have : (29 : Int32).toInt = 29 := (by decide)
     have q1303 : v1116.toInt = (i2.toInt % 18446744073709551616) / 536870912 := (by rw [h1129]; exact c_lushr _ _ 29 (by decide) (by decide))
     have q1304 : v1117.toInt = v1116.toInt % 536870912 := (by rw [h1130]; exact c_maskL _ _ 29 (by decide) (by decide))
     have q1305 := hc1268; rw [Int64.lt_iff_toInt_lt] at q1305
     omega
    ·
     show KEnds p e below s _ _ _ T1262 (mkF m 237 #[.val (.long i0), .second, .val (.long i1), .second, .val (.long i2), .second, .val (.long i3), .second, .val (.long i4), .second, .val (.int i5), .val (.int (3 : Int32)), .val (.long v1050), .second, .val (.ref b1051), .val (.ref b1065)] [(.int (0 : Int32))])
     refine k_if_eq X1262 hx (hb hby at_237) (pn := 240) rfl (py := 299) (by decide) (fun _ => ?_) (fun hc => absurd (by decide) hc)
     refine k_iconst X1262 hx (hb hby at_299) (pc' := 300) rfl (z := (0 : Int32)) rfl ?_
     exfalso
     have := rng64 v1115
     have := rng64 i2
     have : (536870911 : Int64).toInt = 536870911 := (by decide)
     have q1306 : v1115.toInt = i2.toInt % 536870912 := (by rw [h1128]; exact c_maskL _ _ 29 (by decide) (by decide))
     have : (0 : Int64).toInt = 0 := (by decide)
     have q1307 := hc1269; rw [Int64.lt_iff_toInt_lt] at q1307
     have q1308 := hc1270; rw [Int64.lt_iff_toInt_lt] at q1308
     have := rng64 v1117
     have := rng64 v1116
     have : (29 : Int32).toInt = 29 := (by decide)
     have q1309 : v1116.toInt = (i2.toInt % 18446744073709551616) / 536870912 := (by rw [h1129]; exact c_lushr _ _ 29 (by decide) (by decide))
     have q1310 : v1117.toInt = v1116.toInt % 536870912 := (by rw [h1130]; exact c_maskL _ _ 29 (by decide) (by decide))
     have q1311 := hc1271; rw [Int64.lt_iff_toInt_lt] at q1311
     have q1312 := hc1272; rw [Int64.lt_iff_toInt_lt] at q1312
     omega
    ·
     show KEnds p e below s _ _ _ T1262 (mkF m 237 #[.val (.long i0), .second, .val (.long i1), .second, .val (.long i2), .second, .val (.long i3), .second, .val (.long i4), .second, .val (.int i5), .val (.int (3 : Int32)), .val (.long v1050), .second, .val (.ref b1051), .val (.ref b1065)] [(.int (0 : Int32))])
     refine k_if_eq X1262 hx (hb hby at_237) (pn := 240) rfl (py := 299) (by decide) (fun _ => ?_) (fun hc => absurd (by decide) hc)
     refine k_iconst X1262 hx (hb hby at_299) (pc' := 300) rfl (z := (0 : Int32)) rfl ?_
     exfalso
     have := rng64 v1115
     have := rng64 i2
     have : (536870911 : Int64).toInt = 536870911 := (by decide)
     have q1313 : v1115.toInt = i2.toInt % 536870912 := (by rw [h1128]; exact c_maskL _ _ 29 (by decide) (by decide))
     have : (0 : Int64).toInt = 0 := (by decide)
     have q1314 := hc1279; rw [Int64.lt_iff_toInt_lt] at q1314
     have q1315 := hc1280; rw [Int64.lt_iff_toInt_lt] at q1315
     have := rng64 v1117
     have := rng64 v1116
     have : (29 : Int32).toInt = 29 := (by decide)
     have q1316 : v1116.toInt = (i2.toInt % 18446744073709551616) / 536870912 := (by rw [h1129]; exact c_lushr _ _ 29 (by decide) (by decide))
     have q1317 : v1117.toInt = v1116.toInt % 536870912 := (by rw [h1130]; exact c_maskL _ _ 29 (by decide) (by decide))
     have q1318 := hc1281; rw [Int64.lt_iff_toInt_lt] at q1318
     have q1319 := hc1282; rw [Int64.lt_iff_toInt_lt] at q1319
     have := rng64 v1274
     have := rng64 v1273
     have q1320 : (v1273.toInt - v1117.toInt * 536870912) % 18446744073709551616 = 0 := (by rw [h1276]; exact c_lshl _ _ 29 (by decide))
     have q1321 : (v1274.toInt - (v1115.toInt + v1273.toInt)) % 18446744073709551616 = 0 := (by rw [h1277]; exact c_ladd _ _)
     have := rng64 v1275
     have : (288230376151711743 : Int64).toInt = 288230376151711743 := (by decide)
     have q1322 : v1275.toInt = i2.toInt % 288230376151711744 := (by rw [h1278]; exact c_maskL _ _ 58 (by decide) (by decide))
     have q1323 : ¬ v1274.toInt = v1275.toInt := fun q => hc1283 (Int64.toInt_inj.mp q)
     omega
    ·
     show KEnds p e below s _ _ _ T1262 (mkF m 237 #[.val (.long i0), .second, .val (.long i1), .second, .val (.long i2), .second, .val (.long i3), .second, .val (.long i4), .second, .val (.int i5), .val (.int (3 : Int32)), .val (.long v1050), .second, .val (.ref b1051), .val (.ref b1065)] [(.int (1 : Int32))])
     refine k_if_eq X1262 hx (hb hby at_237) (pn := 240) rfl (py := 299) (by decide) (fun hc => absurd hc (by decide)) (fun _ => ?_)
     refine k_aload X1262 hx (hb hby at_240) rfl rfl (pc' := 242) rfl ?_
     refine k_bipush X1262 hx (hb hby at_242) (pc' := 244) rfl (z := (6 : Int32)) rfl ?_
     refine k_laload X1262 hx hZ e1262 F1136 ⟨by decide, by decide⟩ (v := (.long v1118)) rfl (hb hby at_244) (pc' := 245) rfl ?_
     refine k_aload X1262 hx (hb hby at_245) rfl rfl (pc' := 247) rfl ?_
     refine k_bipush X1262 hx (hb hby at_247) (pc' := 249) rfl (z := (7 : Int32)) rfl ?_
     refine k_laload X1262 hx hZ e1262 F1136 ⟨by decide, by decide⟩ (v := (.long v1120)) rfl (hb hby at_249) (pc' := 250) rfl ?_
     refine k_lload X1262 hx (hb hby at_250) rfl (pc' := 252) rfl ?_
     refine k_callS X1262 hx hZ hown (hw _ (List.mem_of_getElem? (i := 7) rfl)) (hw _ (List.mem_of_getElem? (i := 8) rfl)) (hw _ (List.mem_of_getElem? (i := 9) rfl)) (hw _ (List.mem_of_getElem? (i := 10) rfl)) (by decide) (rm2_94 l Z a0 hw [] v1118 v1120 i3 T1108.heap n0 Z1137 ) (by decide) (by decide) e1262 (by rw [hml]; rfl) (argsL := [(.long v1118), (.long v1120), (.long i3)]) (rest := []) (lenOf pd_1 rfl) rfl (W := 0) (Nat.le_refl _) rfl (hb hby at_252) (by decide) (by decide) (pc' := 255) rfl (fun T1324 L1324 r1324 X1324 q1324 => ?_)
     obtain ⟨N1324, e1324, q1324⟩ := q1324
     have N1324' := Fr.app N1262' N1324
     rcases q1324 with ⟨hc1325, rfl⟩ | ⟨hc1326, hc1327, rfl⟩ | ⟨hc1328, hc1329, hc1330, rfl⟩ | ⟨hc1331, hc1332, hc1333, hc1334, rfl⟩ | ⟨v1335, v1336, v1337, h1338, h1339, h1340, hc1341, hc1342, hc1343, hc1344, hc1345, rfl⟩ | ⟨v1346, v1347, v1348, h1349, h1350, h1351, hc1352, hc1353, hc1354, hc1355, hc1356, rfl⟩
     ·
      show KEnds p e below s _ _ _ T1324 (mkF m 255 #[.val (.long i0), .second, .val (.long i1), .second, .val (.long i2), .second, .val (.long i3), .second, .val (.long i4), .second, .val (.int i5), .val (.int (3 : Int32)), .val (.long v1050), .second, .val (.ref b1051), .val (.ref b1065)] [(.int (0 : Int32))])
      refine k_if_eq X1324 hx (hb hby at_255) (pn := 258) rfl (py := 299) (by decide) (fun _ => ?_) (fun hc => absurd (by decide) hc)
      refine k_iconst X1324 hx (hb hby at_299) (pc' := 300) rfl (z := (0 : Int32)) rfl ?_
      exfalso
      have := rng64 v1118
      have := rng64 i3
      have : (536870911 : Int64).toInt = 536870911 := (by decide)
      have q1357 : v1118.toInt = i3.toInt % 536870912 := (by rw [h1131]; exact c_maskL _ _ 29 (by decide) (by decide))
      have : (0 : Int64).toInt = 0 := (by decide)
      have q1358 := hc1325; rw [Int64.lt_iff_toInt_lt] at q1358
      omega
     ·
      show KEnds p e below s _ _ _ T1324 (mkF m 255 #[.val (.long i0), .second, .val (.long i1), .second, .val (.long i2), .second, .val (.long i3), .second, .val (.long i4), .second, .val (.int i5), .val (.int (3 : Int32)), .val (.long v1050), .second, .val (.ref b1051), .val (.ref b1065)] [(.int (0 : Int32))])
      refine k_if_eq X1324 hx (hb hby at_255) (pn := 258) rfl (py := 299) (by decide) (fun _ => ?_) (fun hc => absurd (by decide) hc)
      refine k_iconst X1324 hx (hb hby at_299) (pc' := 300) rfl (z := (0 : Int32)) rfl ?_
      exfalso
      have := rng64 v1118
      have := rng64 i3
      have : (536870911 : Int64).toInt = 536870911 := (by decide)
      have q1359 : v1118.toInt = i3.toInt % 536870912 := (by rw [h1131]; exact c_maskL _ _ 29 (by decide) (by decide))
      have : (0 : Int64).toInt = 0 := (by decide)
      have q1360 := hc1326; rw [Int64.lt_iff_toInt_lt] at q1360
      have q1361 := hc1327; rw [Int64.lt_iff_toInt_lt] at q1361
      omega
     ·
      show KEnds p e below s _ _ _ T1324 (mkF m 255 #[.val (.long i0), .second, .val (.long i1), .second, .val (.long i2), .second, .val (.long i3), .second, .val (.long i4), .second, .val (.int i5), .val (.int (3 : Int32)), .val (.long v1050), .second, .val (.ref b1051), .val (.ref b1065)] [(.int (0 : Int32))])
      refine k_if_eq X1324 hx (hb hby at_255) (pn := 258) rfl (py := 299) (by decide) (fun _ => ?_) (fun hc => absurd (by decide) hc)
      refine k_iconst X1324 hx (hb hby at_299) (pc' := 300) rfl (z := (0 : Int32)) rfl ?_
      exfalso
      have := rng64 v1118
      have := rng64 i3
      have : (536870911 : Int64).toInt = 536870911 := (by decide)
      have q1362 : v1118.toInt = i3.toInt % 536870912 := (by rw [h1131]; exact c_maskL _ _ 29 (by decide) (by decide))
      have : (0 : Int64).toInt = 0 := (by decide)
      have q1363 := hc1328; rw [Int64.lt_iff_toInt_lt] at q1363
      have q1364 := hc1329; rw [Int64.lt_iff_toInt_lt] at q1364
      have := rng64 v1120
      have := rng64 v1119
      have : (29 : Int32).toInt = 29 := (by decide)
      have q1365 : v1119.toInt = (i3.toInt % 18446744073709551616) / 536870912 := (by rw [h1132]; exact c_lushr _ _ 29 (by decide) (by decide))
      have q1366 : v1120.toInt = v1119.toInt % 536870912 := (by rw [h1133]; exact c_maskL _ _ 29 (by decide) (by decide))
      have q1367 := hc1330; rw [Int64.lt_iff_toInt_lt] at q1367
      omega
     ·
      show KEnds p e below s _ _ _ T1324 (mkF m 255 #[.val (.long i0), .second, .val (.long i1), .second, .val (.long i2), .second, .val (.long i3), .second, .val (.long i4), .second, .val (.int i5), .val (.int (3 : Int32)), .val (.long v1050), .second, .val (.ref b1051), .val (.ref b1065)] [(.int (0 : Int32))])
      refine k_if_eq X1324 hx (hb hby at_255) (pn := 258) rfl (py := 299) (by decide) (fun _ => ?_) (fun hc => absurd (by decide) hc)
      refine k_iconst X1324 hx (hb hby at_299) (pc' := 300) rfl (z := (0 : Int32)) rfl ?_
      exfalso
      have := rng64 v1118
      have := rng64 i3
      have : (536870911 : Int64).toInt = 536870911 := (by decide)
      have q1368 : v1118.toInt = i3.toInt % 536870912 := (by rw [h1131]; exact c_maskL _ _ 29 (by decide) (by decide))
      have : (0 : Int64).toInt = 0 := (by decide)
      have q1369 := hc1331; rw [Int64.lt_iff_toInt_lt] at q1369
      have q1370 := hc1332; rw [Int64.lt_iff_toInt_lt] at q1370
      have := rng64 v1120
      have := rng64 v1119
      have : (29 : Int32).toInt = 29 := (by decide)
      have q1371 : v1119.toInt = (i3.toInt % 18446744073709551616) / 536870912 := (by rw [h1132]; exact c_lushr _ _ 29 (by decide) (by decide))
      have q1372 : v1120.toInt = v1119.toInt % 536870912 := (by rw [h1133]; exact c_maskL _ _ 29 (by decide) (by decide))
      have q1373 := hc1333; rw [Int64.lt_iff_toInt_lt] at q1373
      have q1374 := hc1334; rw [Int64.lt_iff_toInt_lt] at q1374
      omega
     ·
      show KEnds p e below s _ _ _ T1324 (mkF m 255 #[.val (.long i0), .second, .val (.long i1), .second, .val (.long i2), .second, .val (.long i3), .second, .val (.long i4), .second, .val (.int i5), .val (.int (3 : Int32)), .val (.long v1050), .second, .val (.ref b1051), .val (.ref b1065)] [(.int (0 : Int32))])
      refine k_if_eq X1324 hx (hb hby at_255) (pn := 258) rfl (py := 299) (by decide) (fun _ => ?_) (fun hc => absurd (by decide) hc)
      refine k_iconst X1324 hx (hb hby at_299) (pc' := 300) rfl (z := (0 : Int32)) rfl ?_
      exfalso
      have := rng64 v1118
      have := rng64 i3
      have : (536870911 : Int64).toInt = 536870911 := (by decide)
      have q1375 : v1118.toInt = i3.toInt % 536870912 := (by rw [h1131]; exact c_maskL _ _ 29 (by decide) (by decide))
      have : (0 : Int64).toInt = 0 := (by decide)
      have q1376 := hc1341; rw [Int64.lt_iff_toInt_lt] at q1376
      have q1377 := hc1342; rw [Int64.lt_iff_toInt_lt] at q1377
      have := rng64 v1120
      have := rng64 v1119
      have : (29 : Int32).toInt = 29 := (by decide)
      have q1378 : v1119.toInt = (i3.toInt % 18446744073709551616) / 536870912 := (by rw [h1132]; exact c_lushr _ _ 29 (by decide) (by decide))
      have q1379 : v1120.toInt = v1119.toInt % 536870912 := (by rw [h1133]; exact c_maskL _ _ 29 (by decide) (by decide))
      have q1380 := hc1343; rw [Int64.lt_iff_toInt_lt] at q1380
      have q1381 := hc1344; rw [Int64.lt_iff_toInt_lt] at q1381
      have := rng64 v1336
      have := rng64 v1335
      have q1382 : (v1335.toInt - v1120.toInt * 536870912) % 18446744073709551616 = 0 := (by rw [h1338]; exact c_lshl _ _ 29 (by decide))
      have q1383 : (v1336.toInt - (v1118.toInt + v1335.toInt)) % 18446744073709551616 = 0 := (by rw [h1339]; exact c_ladd _ _)
      have := rng64 v1337
      have : (288230376151711743 : Int64).toInt = 288230376151711743 := (by decide)
      have q1384 : v1337.toInt = i3.toInt % 288230376151711744 := (by rw [h1340]; exact c_maskL _ _ 58 (by decide) (by decide))
      have q1385 : ¬ v1336.toInt = v1337.toInt := fun q => hc1345 (Int64.toInt_inj.mp q)
      omega
     ·
      show KEnds p e below s _ _ _ T1324 (mkF m 255 #[.val (.long i0), .second, .val (.long i1), .second, .val (.long i2), .second, .val (.long i3), .second, .val (.long i4), .second, .val (.int i5), .val (.int (3 : Int32)), .val (.long v1050), .second, .val (.ref b1051), .val (.ref b1065)] [(.int (1 : Int32))])
      refine k_if_eq X1324 hx (hb hby at_255) (pn := 258) rfl (py := 299) (by decide) (fun hc => absurd hc (by decide)) (fun _ => ?_)
      refine k_aload X1324 hx (hb hby at_258) rfl rfl (pc' := 260) rfl ?_
      refine k_bipush X1324 hx (hb hby at_260) (pc' := 262) rfl (z := (8 : Int32)) rfl ?_
      refine k_laload X1324 hx hZ e1324 F1136 ⟨by decide, by decide⟩ (v := (.long v1121)) rfl (hb hby at_262) (pc' := 263) rfl ?_
      refine k_lconst X1324 hx (hb hby at_263) (pc' := 264) rfl (z := (0 : Int64)) rfl ?_
      refine k_lcif_lt X1324 hx (hb hby at_264) (pm := 265) rfl (hb hby at_265) (pn := 268) rfl (py := 299) (by decide) (fun hc1386 => ?_) (fun hc1386 => ?_)
      ·
       refine k_iconst X1324 hx (hb hby at_299) (pc' := 300) rfl (z := (0 : Int32)) rfl ?_
       exfalso
       have := rng64 v1121
       have := rng64 i4
       have : (536870911 : Int64).toInt = 536870911 := (by decide)
       have q1387 : v1121.toInt = i4.toInt % 536870912 := (by rw [h1134]; exact c_maskL _ _ 29 (by decide) (by decide))
       have : (0 : Int64).toInt = 0 := (by decide)
       have q1388 := hc1386; rw [Int64.lt_iff_toInt_lt] at q1388
       omega
      ·
       refine k_aload X1324 hx (hb hby at_268) rfl rfl (pc' := 270) rfl ?_
       refine k_bipush X1324 hx (hb hby at_270) (pc' := 272) rfl (z := (8 : Int32)) rfl ?_
       refine k_laload X1324 hx hZ e1324 F1136 ⟨by decide, by decide⟩ (v := (.long v1121)) rfl (hb hby at_272) (pc' := 273) rfl ?_
       refine k_ldcL X1324 hx hZ hown (hw _ (List.mem_of_getElem? (i := 11) rfl)) (hb hby at_273) (pc' := 276) rfl ?_
       refine k_lcif_gt X1324 hx (hb hby at_276) (pm := 277) rfl (hb hby at_277) (pn := 280) rfl (py := 299) (by decide) (fun hc1389 => ?_) (fun hc1389 => ?_)
       ·
        refine k_iconst X1324 hx (hb hby at_299) (pc' := 300) rfl (z := (0 : Int32)) rfl ?_
        exfalso
        have := rng64 v1121
        have := rng64 i4
        have : (536870911 : Int64).toInt = 536870911 := (by decide)
        have q1390 : v1121.toInt = i4.toInt % 536870912 := (by rw [h1134]; exact c_maskL _ _ 29 (by decide) (by decide))
        have : (0 : Int64).toInt = 0 := (by decide)
        have q1391 := hc1386; rw [Int64.lt_iff_toInt_lt] at q1391
        have q1392 := hc1389; rw [Int64.lt_iff_toInt_lt] at q1392
        omega
       ·
        refine k_aload X1324 hx (hb hby at_280) rfl rfl (pc' := 282) rfl ?_
        refine k_bipush X1324 hx (hb hby at_282) (pc' := 284) rfl (z := (8 : Int32)) rfl ?_
        refine k_laload X1324 hx hZ e1324 F1136 ⟨by decide, by decide⟩ (v := (.long v1121)) rfl (hb hby at_284) (pc' := 285) rfl ?_
        refine k_lload X1324 hx (hb hby at_285) rfl (pc' := 287) rfl ?_
        refine k_ldcL X1324 hx hZ hown (hw _ (List.mem_of_getElem? (i := 11) rfl)) (hb hby at_287) (pc' := 290) rfl ?_
        refine k_landL X1324 hx (hb hby at_290) (pc' := 291) rfl (z := v1121) h1134.symm ?_
        refine k_lcif_ne X1324 hx (hb hby at_291) (pm := 292) rfl (hb hby at_292) (pn := 295) rfl (py := 299) (by decide) (fun hc => absurd rfl hc) (fun _ => ?_)
        refine k_iconst X1324 hx (hb hby at_295) (pc' := 296) rfl (z := (1 : Int32)) rfl ?_
        refine k_goto X1324 hx (hb hby at_296) (pc' := 300) (by decide) ?_
        exact k_retN X1324 hx (t := .boolean) Bd.returns (by simp) (hb hby at_300) hlk (by decide) (by decide) (z' := (1 : Int32)) rfl ⟨rfl, N1324'⟩
set_option maxRecDepth 65536 in
set_option maxHeartbeats 40000000 in
theorem comes_1 {Post : Tables → Env → Array Value → State → Outcome → State → Prop} (hpost : ∀ tb e args s v u, (limb_1_1.after args s (.returned v) u = true ∧ limb_1_2.after args s (.returned v) u = true ∧ True) → FrameEnd s (.returned v) u (Jvm.fieldLocs frame_1_writes args s ++ Jvm.arrayLocs frame_1_arrays args s ++ Jvm.staticLocs frame_1_statics s) 16 128 → Post tb e args s (.returned v) u) :
    ArmFor flags0 classFile x code maxLocals ret World_1 tables_1 room_1 Calls_1 rest_1 Pre_1 Post := by
  intro l hfl _ _ p e ha hc hk s m args below hf hA hF happ hP
  obtain ⟨hcalls, hrest, hpre⟩ := hP
  obtain ⟨-, -, -, hnamed, -, -, -, hat⟩ := (Spec.applies_iff hf).mp happ
  obtain ⟨hg, hn⟩ := and_e (Cond.before_iff.mp (show (Jvm.Cond.and given_1 narrow_1).before args s = true from hpre))
  obtain ⟨g1393, g1394⟩ := and_e hg
  obtain ⟨g1395, g1396⟩ := and_e g1394
  obtain ⟨g1397, g1398⟩ := and_e g1396
  obtain ⟨g1399, g1400⟩ := and_e g1398
  obtain ⟨g1401, g1402⟩ := and_e g1400
  obtain ⟨g1403, g1404⟩ := and_e g1402
  obtain ⟨w0, w1, w2, w3, w4, w5, rfl⟩ : ∃ w0 w1 w2 w3 w4 w5 : Value, args = #[w0, w1, w2, w3, w4, w5] := by
    have hs : args.size = 6 := by simpa [Cond.value, given_1] using g1393
    obtain ⟨L⟩ := args
    match L, hs with
    | [w0, w1, w2, w3, w4, w5], _ => exact ⟨w0, w1, w2, w3, w4, w5, rfl⟩
  have hw := fun d (hd : d ∈ tables_1) => atoms_spec (ws := Jvm.Cond.code x code maxLocals ret :: tables_1) hat d (List.mem_cons_of_mem _ hd)
  obtain ⟨i0, ei0⟩ := isL_v g1395
  obtain rfl : w0 = (.long i0) := Option.some.inj ei0
  obtain ⟨i1, ei1⟩ := isL_v g1397
  obtain rfl : w1 = (.long i1) := Option.some.inj ei1
  obtain ⟨i2, ei2⟩ := isL_v g1399
  obtain rfl : w2 = (.long i2) := Option.some.inj ei2
  obtain ⟨i3, ei3⟩ := isL_v g1401
  obtain rfl : w3 = (.long i3) := Option.some.inj ei3
  obtain ⟨i4, ei4⟩ := isL_v g1403
  obtain rfl : w4 = (.long i4) := Option.some.inj ei4
  obtain ⟨i5, ei5⟩ := is_v g1404
  obtain rfl : w5 = (.int i5) := Option.some.inj ei5
  obtain ⟨n, o, h1, h2, h3, _, L, rfl, ⟨rfl, N⟩, hq⟩ := rm0 l s _ hw tables_1 i0 i1 i2 i3 i4 i5 s.heap s.heap.size (Nat.le_refl _) p e ha hc hk s m _ below hf ((Spec.applies_iff_loose hf).mp happ).1 ⟨rfl, State.Warmed39.refl s, rfl⟩ trivial
  refine ⟨n, _, h1, h2, h3, hpost _ _ _ _ _ _ ⟨Cond.after_iff.mpr rfl, Cond.after_iff.mpr (eq_i res_at (Term.int_eval (1)) rfl), trivial⟩ ⟨hq.1, hq.2.1, (hq.2.2.sift fun y hy => Or.inr (N y hy)).mono (by decide) (by decide)⟩⟩
theorem main_1_1 : Claimed_1_1 := comes_1 fun _ _ _ _ _ _ h hF => ⟨h.1, hF⟩
theorem main_1_2 : Claimed_1_2 := comes_1 fun _ _ _ _ _ _ h hF => ⟨h.2.1, hF⟩
end Jvm.Pilot.@@N@@
namespace Jvm.Pilot.@@N@@
open Jvm Jvm.ClassFile Sem Op Lib Jvm.Free Jvm.Stand Jvm.Pilot.@@N@@.Jvm.D
/-! MADE BY PROGRAM (witnessworld.py) out of the Statement's table words and the real class files: 11 classes; the members and pool entries that the words name. The judged class is class 1, her method 1. -/
namespace start1
open Jvm.ClassFile
def u (s : String) : CpInfo := .utf8 (stringToUtf16 s)
/-- a pool by its gaps: so many unusable entries, then the entry; so many at the end -/
def gap : Nat → List CpInfo → List CpInfo
  | 0, r => r
  | n + 1, r => .unusable :: gap n r
def poolList (es : List (Nat × CpInfo)) (last : Nat) : List CpInfo := es.foldr (fun e r => gap e.1 (e.2 :: r)) (gap last [])
def pool (es : List (Nat × CpInfo)) (last : Nat) : Array CpInfo := ⟨poolList es last⟩
def fileOf (pool : Array CpInfo) (this : Nat) (attrs : Array Attribute := #[]) (ms : Array MethodInfo := #[]) (fl : Nat := 33) (sup : Nat := 0) (ifs : Array Nat := #[]) (fds : Array FieldInfo := #[]) : ClassFile where
  minorVersion := 0
  majorVersion := 65
  constantPool := pool
  accessFlags := fl
  thisClass := this
  superClass := sup
  interfaces := ifs
  fields := fds
  methods := ms
  attributes := attrs
def plain (name : String) (sup : Option ClassId) : Class where
  name := name
  kind := .ordinary
  loader := none
  accessFlags := 33
  super := sup
  interfaces := #[]
  cf := none
  fields := #[]
  methods := #[]
  instanceTypes := #[]
  staticTypes := #[]
  resolved := #[]
  callSites := []
  init := .initialized
  statics := none
  mirror := none

def pool0 : Array CpInfo := pool [(5, u "<init>"), (0, u "()V"), (1, .class_ 10), (1, u "java/lang/Object")] 113

def k0m0 : Method := { name := "<init>", desc := "()V", sig := { parameters := [], returnType := none }, accessFlags := 1, code := none }
/-- java/lang/Object -/
def k0 : Class := { plain "java/lang/Object" none with
  accessFlags := 33
  interfaces := #[]
  cf := some (fileOf pool0 8 #[] #[{ accessFlags := 1, nameIndex := 5, descriptorIndex := 6, attributes := #[] }] 33 0 #[] #[])
  fields := #[]
  methods := #[k0m0]
  instanceTypes := #[]
  staticTypes := #[]
  resolved := Array.replicate 124 none
  statics := none }

def pool1 : Array CpInfo := pool [(2, .class_ 4), (1, u "java/lang/Object"), (0, u "<init>"), (0, u "()V"), (0, .long 18446744073709551615), (1, .methodref 10 11), (0, .class_ 12), (0, .nameAndType 13 14), (0, u "com/example/portcullis/portcullis/protocol/Field"), (0, u "unpack"), (0, u "([J[JI)V"), (0, .methodref 16 17), (0, .class_ 18), (0, .nameAndType 19 20), (0, u "com/example/portcullis/portcullis/protocol/FieldUnpackPinLaw"), (0, u "pair"), (0, u "(JJJ)Z"), (0, .long 536870911), (1, .long 288230376151711743), (3, u "law"), (0, u "(JJJJJI)Z")] 5

def k1m0 : Method := { name := "<init>", desc := "()V", sig := { parameters := [], returnType := none }, accessFlags := 1, code := none }
def k1c1 : Code := { maxStack := 6, maxLocals := 16, code := code, exceptionTable := #[], attributes := #[] }
def k1m1 : Method := { name := "law", desc := "(JJJJJI)Z", sig := { parameters := [.long, .long, .long, .long, .long, .int], returnType := some .boolean }, accessFlags := 9, code := some k1c1 }
def k1c2 : Code := { maxStack := 6, maxLocals := 6, code := method_3_code, exceptionTable := #[], attributes := #[] }
def k1m2 : Method := { name := "pair", desc := "(JJJ)Z", sig := { parameters := [.long, .long, .long], returnType := some .boolean }, accessFlags := 10, code := some k1c2 }
/-- com/example/portcullis/portcullis/protocol/FieldUnpackPinLaw -/
def k1 : Class := { plain "com/example/portcullis/portcullis/protocol/FieldUnpackPinLaw" (some 0) with
  accessFlags := 49
  interfaces := #[]
  cf := some (fileOf pool1 16 #[] #[{ accessFlags := 1, nameIndex := 5, descriptorIndex := 6, attributes := #[] }, { accessFlags := 9, nameIndex := 27, descriptorIndex := 28, attributes := #[] }, { accessFlags := 10, nameIndex := 19, descriptorIndex := 20, attributes := #[] }] 49 2 #[] #[])
  fields := #[]
  methods := #[k1m0, k1m1, k1m2]
  instanceTypes := #[]
  staticTypes := #[]
  resolved := Array.replicate 34 none
  statics := none }

def pool2 : Array CpInfo := pool [(1, .class_ 2), (0, u "com/example/portcullis/portcullis/protocol/Field"), (1, .class_ 6), (1, u "java/lang/Object"), (4, u "modulus"), (0, u "Ljava/math/BigInteger;"), (6, u "limbs"), (0, u "[J"), (8, u "twice"), (17, u "inverse"), (0, u "J"), (2, u "SPARSE_PRIME"), (6, u "sparse"), (0, u "Z"), (2, u "RADIX"), (8, u "radixSquared"), (2, u "one"), (12, u "inverter"), (0, u "[I"), (26, .long 536870911), (49, u "P"), (0, u "Lcom/example/portcullis/portcullis/protocol/Field;"), (8, u "N"), (0, u "LIMBS"), (0, u "I"), (2, u "BYTES"), (1, u "PACKED"), (1, u "BITS"), (1, u "MASK"), (11, u "([J[JI)V"), (0, u "unpack")] 10

def k2c0 : Code := { maxStack := 6, maxLocals := 4, code := prog_3_method_11_code, exceptionTable := #[], attributes := #[] }
def k2m0 : Method := { name := "unpack", desc := "([J[JI)V", sig := { parameters := [(.array .long), (.array .long), .int], returnType := none }, accessFlags := 8, code := some k2c0 }
/-- com/example/portcullis/portcullis/protocol/Field -/
def k2 : Class := { plain "com/example/portcullis/portcullis/protocol/Field" (some 0) with
  accessFlags := 48
  interfaces := #[]
  cf := some (fileOf pool2 1 #[] #[{ accessFlags := 8, nameIndex := 199, descriptorIndex := 198, attributes := #[] }] 48 4 #[] #[{ accessFlags := 24, nameIndex := 176, descriptorIndex := 177, attributes := #[] }, { accessFlags := 24, nameIndex := 180, descriptorIndex := 177, attributes := #[] }, { accessFlags := 24, nameIndex := 182, descriptorIndex := 177, attributes := #[] }, { accessFlags := 26, nameIndex := 184, descriptorIndex := 177, attributes := #[] }, { accessFlags := 26, nameIndex := 186, descriptorIndex := 48, attributes := #[] }, { accessFlags := 26, nameIndex := 62, descriptorIndex := 12, attributes := #[] }, { accessFlags := 26, nameIndex := 51, descriptorIndex := 12, attributes := #[] }, { accessFlags := 24, nameIndex := 165, descriptorIndex := 166, attributes := #[] }, { accessFlags := 24, nameIndex := 175, descriptorIndex := 166, attributes := #[] }, { accessFlags := 18, nameIndex := 11, descriptorIndex := 12, attributes := #[] }, { accessFlags := 18, nameIndex := 19, descriptorIndex := 20, attributes := #[] }, { accessFlags := 18, nameIndex := 29, descriptorIndex := 20, attributes := #[] }, { accessFlags := 18, nameIndex := 47, descriptorIndex := 48, attributes := #[] }, { accessFlags := 18, nameIndex := 58, descriptorIndex := 59, attributes := #[] }, { accessFlags := 18, nameIndex := 71, descriptorIndex := 20, attributes := #[] }, { accessFlags := 18, nameIndex := 74, descriptorIndex := 20, attributes := #[] }, { accessFlags := 18, nameIndex := 87, descriptorIndex := 88, attributes := #[] }])
  fields := #[{ name := "LIMBS", type := .int, accessFlags := 24, slot := 0, constantValue := 0 }, { name := "BYTES", type := .int, accessFlags := 24, slot := 1, constantValue := 0 }, { name := "PACKED", type := .int, accessFlags := 24, slot := 2, constantValue := 0 }, { name := "BITS", type := .int, accessFlags := 26, slot := 3, constantValue := 0 }, { name := "MASK", type := .long, accessFlags := 26, slot := 4, constantValue := 0 }, { name := "RADIX", type := (.object "java/math/BigInteger"), accessFlags := 26, slot := 5, constantValue := 0 }, { name := "SPARSE_PRIME", type := (.object "java/math/BigInteger"), accessFlags := 26, slot := 6, constantValue := 0 }, { name := "P", type := (.object "com/example/portcullis/portcullis/protocol/Field"), accessFlags := 24, slot := 7, constantValue := 0 }, { name := "N", type := (.object "com/example/portcullis/portcullis/protocol/Field"), accessFlags := 24, slot := 8, constantValue := 0 }, { name := "modulus", type := (.object "java/math/BigInteger"), accessFlags := 18, slot := 0, constantValue := 0 }, { name := "limbs", type := (.array .long), accessFlags := 18, slot := 1, constantValue := 0 }, { name := "twice", type := (.array .long), accessFlags := 18, slot := 2, constantValue := 0 }, { name := "inverse", type := .long, accessFlags := 18, slot := 3, constantValue := 0 }, { name := "sparse", type := .boolean, accessFlags := 18, slot := 4, constantValue := 0 }, { name := "radixSquared", type := (.array .long), accessFlags := 18, slot := 5, constantValue := 0 }, { name := "one", type := (.array .long), accessFlags := 18, slot := 6, constantValue := 0 }, { name := "inverter", type := (.array .int), accessFlags := 18, slot := 7, constantValue := 0 }]
  methods := #[k2m0]
  instanceTypes := #[(.object "java/math/BigInteger"), (.array .long), (.array .long), .long, .boolean, (.array .long), (.array .long), (.array .int)]
  staticTypes := #[.int, .int, .int, .int, .long, (.object "java/math/BigInteger"), (.object "java/math/BigInteger"), (.object "com/example/portcullis/portcullis/protocol/Field"), (.object "com/example/portcullis/portcullis/protocol/Field")]
  resolved := Array.replicate 210 none
  statics := none }

def pool3 : Array CpInfo := pool [(1, u "java/lang/Cloneable"), (0, .class_ 1), (0, u "java/lang/Object"), (0, .class_ 3)] 3

/-- java/lang/Cloneable -/
def k3 : Class := { plain "java/lang/Cloneable" (some 0) with
  accessFlags := 1537
  interfaces := #[]
  cf := some (fileOf pool3 2 #[] #[] 1537 4 #[] #[])
  fields := #[]
  methods := #[]
  instanceTypes := #[]
  staticTypes := #[]
  resolved := Array.replicate 8 none
  statics := none }

def pool4 : Array CpInfo := pool [(1, u "java/io/Serializable"), (0, .class_ 1), (0, u "java/lang/Object"), (0, .class_ 3)] 3

/-- java/io/Serializable -/
def k4 : Class := { plain "java/io/Serializable" (some 0) with
  accessFlags := 1537
  interfaces := #[]
  cf := some (fileOf pool4 2 #[] #[] 1537 4 #[] #[])
  fields := #[]
  methods := #[]
  instanceTypes := #[]
  staticTypes := #[]
  resolved := Array.replicate 8 none
  statics := none }

/-- the primitive byte -/
def k5 : Class := { plain "byte" none with kind := .primitive 'B', accessFlags := 0x411 }
/-- [B -/
def k6 : Class := { plain "[B" (some 0) with kind := .array 5 .byte, interfaces := #[3, 4], accessFlags := 1041 }

/-- the primitive int -/
def k7 : Class := { plain "int" none with kind := .primitive 'I', accessFlags := 0x411 }
/-- [I -/
def k8 : Class := { plain "[I" (some 0) with kind := .array 7 .int, interfaces := #[3, 4], accessFlags := 1041 }

/-- the primitive long -/
def k9 : Class := { plain "long" none with kind := .primitive 'J', accessFlags := 0x411 }
/-- [J -/
def k10 : Class := { plain "[J" (some 0) with kind := .array 9 .long, interfaces := #[3, 4], accessFlags := 1041 }

def heap : Heap := #[]
def classes : Array Class := #[k0, k1, k2, k3, k4, k5, k6, k7, k8, k9, k10]
def interned : List (Array UInt16 × Addr) := []
def slotsUsed : Nat := 0
def theMethod : MethodId := ⟨1, 1⟩
def args0 : Array Value := #[.long 5, .long 7, .long 1, .long 3, .long 9, .int 2]
def aboutOver (below : List Frame) : State where
  vm := { classes := classes, interned := interned.toArray }
  heap := heap
  slotsUsed := slotsUsed
  threads := #[{ frames := .invoking theMethod args0 :: below }]
def below0 : List Frame := [.native { method := ⟨0, 0⟩, args := #[] }]
def about1 : State := aboutOver below0
def p0 : Program := .bare "" "" ""
def e0 : Env := launch0.env 0 0 0
theorem w_frames : about1.frames = Frame.invoking theMethod args0 :: below0 := rfl
set_option maxRecDepth 65536 in
theorem w_args : argsFit about1.vm theMethod args0 = true := by decide +kernel
set_option maxRecDepth 65536 in
theorem w_heap : heapFits about1 = true := by decide +kernel
set_option maxRecDepth 65536 in
theorem w_runnable : about1.curStatus? = some .runnable := by decide +kernel
set_option maxRecDepth 65536 in
theorem w_alone : about1.alone = true := by decide +kernel
set_option maxRecDepth 65536 in
theorem w_named : about1.methodNamed? x = some theMethod := by decide +kernel
set_option maxRecDepth 65536 in
theorem w_hears : about1.hears theMethod below0 = true := by decide +kernel
set_option maxRecDepth 65536 in
theorem w_ripe : about1.ripe theMethod args0 below0 = true := by decide +kernel
theorem w_running : about1.status = .running := rfl
set_option maxRecDepth 65536 in
theorem w_room : about1.hasRoom e0.platform room_1 = true :=
  launch0.hasRoom_least _ room_1 (by decide +kernel) (by decide +kernel) (by decide +kernel) (by decide +kernel) (by decide +kernel) (by decide +kernel)
theorem allAtoms_all (ts : List Jvm.Cond) (a : Array Jvm.Value) (st : Jvm.State) : (allAtoms ts).before a st = ts.all (fun c => c.before a st) := by
  induction ts with
  | nil => rfl
  | cons c t ih =>
    show (Jvm.Cond.and c (allAtoms t)).before a st = _
    rw [Jvm.Cond.before_and, ih, List.all_cons]
def words1 : List Jvm.Cond := Jvm.Cond.code x code maxLocals ret :: tables_1
/-- a 'code' word, met by the world's own term for the bytes: nothing is compared byte by byte -/
theorem code_word {y : MethodName} {bytes : ByteArray} {mx : Nat} {rt : Option FieldType} {a : Array Value} {s : State} {m : MethodId} {meth : Method} {c : Code} (h1 : s.methodNamed? y = some m) (h2 : s.vm.method? m = some meth) (h3 : meth.code = some c) (h4 : c.code = bytes)
    (h5 : (c.maxLocals == mx && c.exceptionTable.isEmpty && decide (c.maxStack ≤ mostOperands) && decide (meth.sig.returnType = rt) && !meth.locks && decide (parseMethodDescriptor y.desc = some meth.sig)) = true) : (Jvm.Cond.code y bytes mx rt).before a s = true := by
  simp only [Bool.and_eq_true, beq_iff_eq, Bool.not_eq_true', decide_eq_true_eq] at h5
  obtain ⟨⟨⟨⟨⟨g1, g2⟩, g3⟩, g4⟩, g5⟩, g6⟩ := h5
  simp [Cond.before, Cond.holds, Cond.value, h1, h2, h3, h4, g1, g2, g3, g4, g5, g6]
def isCode : Jvm.Cond → Bool
  | .code _ _ _ _ => true
  | _ => false
theorem all_split {L : List Jvm.Cond} {P : Jvm.Cond → Bool} (h1 : L.all (fun c => isCode c || P c) = true) (h2 : ∀ c ∈ L.filter isCode, P c = true) : L.all P = true := by
  refine List.all_eq_true.mpr fun c hc => ?_
  have h := List.all_eq_true.mp h1 c hc
  rcases Bool.eq_false_or_eq_true (isCode c) with hi | hi
  · exact h2 c (List.mem_filter.mpr ⟨hc, hi⟩)
  · simpa [hi] using h
set_option maxRecDepth 65536 in
theorem w_c0 : (Jvm.Cond.code x code maxLocals ret).before args0 about1 = true := code_word (m := ⟨1, 1⟩) (meth := k1m1) (c := k1c1) (by decide +kernel) rfl rfl rfl (by decide +kernel)
set_option maxRecDepth 65536 in
theorem w_c1 : (Jvm.Cond.code ({ cls := "com/example/portcullis/portcullis/protocol/Field", name := "unpack", desc := "([J[JI)V" } : Jvm.MethodName) prog_3_method_11_code (4 : Nat) (Option.none : Option Jvm.ClassFile.FieldType)).before args0 about1 = true := code_word (m := ⟨2, 0⟩) (meth := k2m0) (c := k2c0) (by decide +kernel) rfl rfl rfl (by decide +kernel)
set_option maxRecDepth 65536 in
theorem w_c2 : (Jvm.Cond.code ({ cls := "com/example/portcullis/portcullis/protocol/FieldUnpackPinLaw", name := "pair", desc := "(JJJ)Z" } : Jvm.MethodName) method_3_code (6 : Nat) (Option.some Jvm.ClassFile.FieldType.boolean)).before args0 about1 = true := code_word (m := ⟨1, 2⟩) (meth := k1m2) (c := k1c2) (by decide +kernel) rfl rfl rfl (by decide +kernel)
def codes1 : List Jvm.Cond := [Jvm.Cond.code x code maxLocals ret, Jvm.Cond.code ({ cls := "com/example/portcullis/portcullis/protocol/Field", name := "unpack", desc := "([J[JI)V" } : Jvm.MethodName) prog_3_method_11_code (4 : Nat) (Option.none : Option Jvm.ClassFile.FieldType), Jvm.Cond.code ({ cls := "com/example/portcullis/portcullis/protocol/FieldUnpackPinLaw", name := "pair", desc := "(JJJ)Z" } : Jvm.MethodName) method_3_code (6 : Nat) (Option.some Jvm.ClassFile.FieldType.boolean)]
set_option maxRecDepth 65536 in
theorem codes_eq : words1.filter isCode = codes1 := rfl
theorem w_codes : ∀ c ∈ words1.filter isCode, c.before args0 about1 = true := by
  rw [codes_eq]
  intro c hc
  simp only [codes1, List.mem_cons, List.not_mem_nil, or_false] at hc
  rcases hc with rfl | rfl | rfl
  · exact w_c0
  · exact w_c1
  · exact w_c2
set_option maxRecDepth 65536 in
theorem w_t1 : words1.all (fun c => isCode c || c.before args0 about1) = true := by decide +kernel
theorem w_tables : (allAtoms (Jvm.Cond.code x code maxLocals ret :: tables_1)).before args0 about1 = true := by
  rw [allAtoms_all]
  show words1.all (fun c => c.before args0 about1) = true
  refine all_split ?_ w_codes
  rw [w_t1]
set_option maxRecDepth 65536 in
theorem w_case : (Jvm.Cond.and given_1 narrow_1).before args0 about1 = true := by decide +kernel
theorem w_applies : (headSpec (Jvm.Cond.code x code maxLocals ret :: tables_1) room_1).applies x e0.platform about1 = true :=
  (Spec.applies_iff w_frames).mpr ⟨w_running, w_runnable, w_alone, w_named, w_hears, w_ripe, w_room, w_tables⟩
theorem atStart : AtStart classFile x code maxLocals ret World_1 tables_1 room_1 Calls_1 rest_1 Pre_1 launch0 p0 e0 about1 theMethod args0 below0 :=
  ⟨lists_1, trivial, launch0.admits_env _ _ _, launch0.least_env, fairChoices_fair.cas, fairChoices_fair.clock, w_frames, w_args, w_heap, w_applies, trivial, trivial, w_case⟩
end start1
theorem witness_1 : WitnessClaimed_1 := ⟨start1.p0, start1.e0, start1.about1, start1.theMethod, start1.args0, start1.below0, start1.atStart⟩
end Jvm.Pilot.@@N@@
