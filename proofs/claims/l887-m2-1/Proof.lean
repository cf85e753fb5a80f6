import JvmDerived
import JvmDerived.Pilot.@@N@@Statement
import JvmDerived.Pilot.@@N@@Code
set_option linter.unusedVariables false
set_option linter.unusedSimpArgs false
namespace Jvm.OwnK
open Sem ClassFile Op Lib Jvm.Stand Jvm.Free Jvm.LawKit Jvm.RoadKit
section
variable {p : Program} {l : Launch} {e : Env} {R : Room} {s : State} {m : MethodId} {args : Array Value} {below : List Frame} {meth : Method} {c : Code} {T : State} {locs : List Loc} {cells slots : Nat} {Cn Sn : Nat} {Q : Option Value → Heap → List Loc → Prop}
/-- from the frame f the run comes to an end that Q takes -/
def KEnds (p : Program) (e : Env) (below : List Frame) (s : State) (Cn Sn : Nat) (Q : Option Value → Heap → List Loc → Prop) (T : State) (f : JFrame) : Prop :=
  ∃ s₂ o, Steps p.tables e below (T.setTop f) s₂ ∧ s₂.status = .running ∧ Ended s₂ below o ∧ ∃ v L, o = .returned v ∧ Q v s₂.heap L ∧ FrameEnd s o s₂ L Cn Sn
theorem k_via {T' : State} {f f' : JFrame} (st : ∀ t, Steps p.tables e below (T'.setTop f') t → Steps p.tables e below (T.setTop f) t) (k : KEnds p e below s Cn Sn Q T' f') : KEnds p e below s Cn Sn Q T f := by
  obtain ⟨s₂, o, h, r⟩ := k
  exact ⟨s₂, o, st _ h, r⟩
theorem k_iloadN (X : Stand p l e R s m args below meth c T locs cells slots) (hx : p.tables.exec = Jvm.exec) {pc pc' : Nat} {Ls : Array Slot} {St : List Value} {i : Fin 4} {v : Int32} (hd : decode c.code pc = .ok (.iload_n i, 1)) (hl : Ls[i.val]? = some (.val (.int v))) (hpc : pc + 1 = pc') (k : KEnds p e below s Cn Sn Q T (mkF m pc' Ls (.int v :: St))) : KEnds p e below s Cn Sn Q T (mkF m pc Ls (St)) := by
  subst hpc; exact k_via (fun t h => XS.iloadN X.here hx rfl hd hl h) k
theorem k_iload (X : Stand p l e R s m args below meth c T locs cells slots) (hx : p.tables.exec = Jvm.exec) {pc pc' : Nat} {Ls : Array Slot} {St : List Value} {i : Nat} {v : Int32} (hd : decode c.code pc = .ok (.iload i, 2)) (hl : Ls[i]? = some (.val (.int v))) (hpc : pc + 2 = pc') (k : KEnds p e below s Cn Sn Q T (mkF m pc' Ls (.int v :: St))) : KEnds p e below s Cn Sn Q T (mkF m pc Ls (St)) := by
  subst hpc; exact k_via (fun t h => XS.iload X.here hx rfl hd hl h) k
theorem k_istore (X : Stand p l e R s m args below meth c T locs cells slots) (hx : p.tables.exec = Jvm.exec) {pc pc' : Nat} {Ls : Array Slot} {St : List Value} {i : Nat} {v : Int32} {Ls' : Array Slot} (hd : decode c.code pc = .ok (.istore i, 2)) (hl : storeLocals Ls i (.int v) = some Ls') (hpc : pc + 2 = pc') (k : KEnds p e below s Cn Sn Q T (mkF m pc' Ls' (St))) : KEnds p e below s Cn Sn Q T (mkF m pc Ls (.int v :: St)) := by
  subst hpc; exact k_via (fun t h => XS.istore X.here hx rfl hd rfl hl h) k
theorem k_lloadN (X : Stand p l e R s m args below meth c T locs cells slots) (hx : p.tables.exec = Jvm.exec) {pc pc' : Nat} {Ls : Array Slot} {St : List Value} {i : Fin 4} {v : Int64} (hd : decode c.code pc = .ok (.lload_n i, 1)) (hl : Ls[i.val]? = some (.val (.long v))) (hpc : pc + 1 = pc') (k : KEnds p e below s Cn Sn Q T (mkF m pc' Ls (.long v :: St))) : KEnds p e below s Cn Sn Q T (mkF m pc Ls (St)) := by
  subst hpc; exact k_via (fun t h => XS.lloadN X.here hx rfl hd hl h) k
theorem k_lload (X : Stand p l e R s m args below meth c T locs cells slots) (hx : p.tables.exec = Jvm.exec) {pc pc' : Nat} {Ls : Array Slot} {St : List Value} {i : Nat} {v : Int64} (hd : decode c.code pc = .ok (.lload i, 2)) (hl : Ls[i]? = some (.val (.long v))) (hpc : pc + 2 = pc') (k : KEnds p e below s Cn Sn Q T (mkF m pc' Ls (.long v :: St))) : KEnds p e below s Cn Sn Q T (mkF m pc Ls (St)) := by
  subst hpc; exact k_via (fun t h => XS.lload X.here hx rfl hd hl h) k
theorem k_lstoreN (X : Stand p l e R s m args below meth c T locs cells slots) (hx : p.tables.exec = Jvm.exec) {pc pc' : Nat} {Ls : Array Slot} {St : List Value} {i : Fin 4} {v : Int64} {Ls' : Array Slot} (hd : decode c.code pc = .ok (.lstore_n i, 1)) (hl : storeLocals Ls i.val (.long v) = some Ls') (hpc : pc + 1 = pc') (k : KEnds p e below s Cn Sn Q T (mkF m pc' Ls' (St))) : KEnds p e below s Cn Sn Q T (mkF m pc Ls (.long v :: St)) := by
  subst hpc; exact k_via (fun t h => XS.lstoreN X.here hx rfl hd rfl hl h) k
theorem k_lstore (X : Stand p l e R s m args below meth c T locs cells slots) (hx : p.tables.exec = Jvm.exec) {pc pc' : Nat} {Ls : Array Slot} {St : List Value} {i : Nat} {v : Int64} {Ls' : Array Slot} (hd : decode c.code pc = .ok (.lstore i, 2)) (hl : storeLocals Ls i (.long v) = some Ls') (hpc : pc + 2 = pc') (k : KEnds p e below s Cn Sn Q T (mkF m pc' Ls' (St))) : KEnds p e below s Cn Sn Q T (mkF m pc Ls (.long v :: St)) := by
  subst hpc; exact k_via (fun t h => XS.lstore X.here hx rfl hd rfl hl h) k
theorem k_aloadN (X : Stand p l e R s m args below meth c T locs cells slots) (hx : p.tables.exec = Jvm.exec) {pc pc' : Nat} {Ls : Array Slot} {St : List Value} {i : Fin 4} {v : Value} (hd : decode c.code pc = .ok (.aload_n i, 1)) (hl : Ls[i.val]? = some (.val v)) (hv : v.isRef = true) (hpc : pc + 1 = pc') (k : KEnds p e below s Cn Sn Q T (mkF m pc' Ls (v :: St))) : KEnds p e below s Cn Sn Q T (mkF m pc Ls (St)) := by
  subst hpc; exact k_via (fun t h => XS.aloadN X.here hx rfl hd hl hv h) k
theorem k_aload (X : Stand p l e R s m args below meth c T locs cells slots) (hx : p.tables.exec = Jvm.exec) {pc pc' : Nat} {Ls : Array Slot} {St : List Value} {i : Nat} {v : Value} (hd : decode c.code pc = .ok (.aload i, 2)) (hl : Ls[i]? = some (.val v)) (hv : v.isRef = true) (hpc : pc + 2 = pc') (k : KEnds p e below s Cn Sn Q T (mkF m pc' Ls (v :: St))) : KEnds p e below s Cn Sn Q T (mkF m pc Ls (St)) := by
  subst hpc; exact k_via (fun t h => XS.aload X.here hx rfl hd hl hv h) k
theorem k_astoreN (X : Stand p l e R s m args below meth c T locs cells slots) (hx : p.tables.exec = Jvm.exec) {pc pc' : Nat} {Ls : Array Slot} {St : List Value} {i : Fin 4} {v : Value} {Ls' : Array Slot} (hd : decode c.code pc = .ok (.astore_n i, 1)) (hv : v.isRef = true) (hl : storeLocals Ls i.val v = some Ls') (hpc : pc + 1 = pc') (k : KEnds p e below s Cn Sn Q T (mkF m pc' Ls' (St))) : KEnds p e below s Cn Sn Q T (mkF m pc Ls (v :: St)) := by
  subst hpc; exact k_via (fun t h => XS.astoreN X.here hx rfl hd rfl hv hl h) k
theorem k_astore (X : Stand p l e R s m args below meth c T locs cells slots) (hx : p.tables.exec = Jvm.exec) {pc pc' : Nat} {Ls : Array Slot} {St : List Value} {i : Nat} {v : Value} {Ls' : Array Slot} (hd : decode c.code pc = .ok (.astore i, 2)) (hv : v.isRef = true) (hl : storeLocals Ls i v = some Ls') (hpc : pc + 2 = pc') (k : KEnds p e below s Cn Sn Q T (mkF m pc' Ls' (St))) : KEnds p e below s Cn Sn Q T (mkF m pc Ls (v :: St)) := by
  subst hpc; exact k_via (fun t h => XS.astore X.here hx rfl hd rfl hv hl h) k
theorem k_iconst (X : Stand p l e R s m args below meth c T locs cells slots) (hx : p.tables.exec = Jvm.exec) {pc pc' : Nat} {Ls : Array Slot} {St : List Value} {i : Int} {z : Int32} (hd : decode c.code pc = .ok (.iconst i, 1)) (hpc : pc + 1 = pc') (hz : Int32.ofInt i = z) (k : KEnds p e below s Cn Sn Q T (mkF m pc' Ls (.int z :: St))) : KEnds p e below s Cn Sn Q T (mkF m pc Ls St) := by
  subst hpc hz; exact k_via (fun t h => XS.iconst X.here hx rfl hd h) k
theorem k_lconst (X : Stand p l e R s m args below meth c T locs cells slots) (hx : p.tables.exec = Jvm.exec) {pc pc' : Nat} {Ls : Array Slot} {St : List Value} {i : Fin 2} {z : Int64} (hd : decode c.code pc = .ok (.lconst i, 1)) (hpc : pc + 1 = pc') (hz : Int64.ofNat i = z) (k : KEnds p e below s Cn Sn Q T (mkF m pc' Ls (.long z :: St))) : KEnds p e below s Cn Sn Q T (mkF m pc Ls St) := by
  subst hpc hz; exact k_via (fun t h => XS.lconst X.here hx rfl hd h) k
theorem k_iandL (X : Stand p l e R s m args below meth c T locs cells slots) (hx : p.tables.exec = Jvm.exec) {pc pc' : Nat} {Ls : Array Slot} {St : List Value} {x y : Int32} {z : Int32} (hd : decode c.code pc = .ok (.iand, 1))  (hpc : pc + 1 = pc') (hz : x &&& y = z) (k : KEnds p e below s Cn Sn Q T (mkF m pc' Ls (.int z :: St))) : KEnds p e below s Cn Sn Q T (mkF m pc Ls (.int y :: .int x :: St)) := by
  subst hpc hz; exact k_via (fun t h => XS.iand X.here hx rfl hd rfl h) k
theorem k_iand (X : Stand p l e R s m args below meth c T locs cells slots) (hx : p.tables.exec = Jvm.exec) {pc pc' : Nat} {Ls : Array Slot} {St : List Value} {x y : Int32} (hd : decode c.code pc = .ok (.iand, 1))  (hpc : pc + 1 = pc') (k : ∀ z : Int32, z = x &&& y → KEnds p e below s Cn Sn Q T (mkF m pc' Ls (.int z :: St))) : KEnds p e below s Cn Sn Q T (mkF m pc Ls (.int y :: .int x :: St)) := by
  subst hpc; exact k_via (fun t h => XS.iand X.here hx rfl hd rfl h) (k _ rfl)
theorem k_laddL (X : Stand p l e R s m args below meth c T locs cells slots) (hx : p.tables.exec = Jvm.exec) {pc pc' : Nat} {Ls : Array Slot} {St : List Value} {x y : Int64} {z : Int64} (hd : decode c.code pc = .ok (.ladd, 1))  (hpc : pc + 1 = pc') (hz : x + y = z) (k : KEnds p e below s Cn Sn Q T (mkF m pc' Ls (.long z :: St))) : KEnds p e below s Cn Sn Q T (mkF m pc Ls (.long y :: .long x :: St)) := by
  subst hpc hz; exact k_via (fun t h => XS.ladd X.here hx rfl hd rfl h) k
theorem k_ladd (X : Stand p l e R s m args below meth c T locs cells slots) (hx : p.tables.exec = Jvm.exec) {pc pc' : Nat} {Ls : Array Slot} {St : List Value} {x y : Int64} (hd : decode c.code pc = .ok (.ladd, 1))  (hpc : pc + 1 = pc') (k : ∀ z : Int64, z = x + y → KEnds p e below s Cn Sn Q T (mkF m pc' Ls (.long z :: St))) : KEnds p e below s Cn Sn Q T (mkF m pc Ls (.long y :: .long x :: St)) := by
  subst hpc; exact k_via (fun t h => XS.ladd X.here hx rfl hd rfl h) (k _ rfl)
theorem k_irem (X : Stand p l e R s m args below meth c T locs cells slots) (hx : p.tables.exec = Jvm.exec) {pc pc' : Nat} {Ls : Array Slot} {St : List Value} {x y : Int32} (hd : decode c.code pc = .ok (.irem, 1)) (hy : y ≠ 0) (hpc : pc + 1 = pc') (k : ∀ z : Int32, z = x % y → KEnds p e below s Cn Sn Q T (mkF m pc' Ls (.int z :: St))) : KEnds p e below s Cn Sn Q T (mkF m pc Ls (.int y :: .int x :: St)) := by
  subst hpc; exact k_via (fun t h => iremM X hx rfl hd rfl hy h) (k _ rfl)
theorem k_i2l (X : Stand p l e R s m args below meth c T locs cells slots) (hx : p.tables.exec = Jvm.exec) {pc pc' : Nat} {Ls : Array Slot} {St : List Value} {x : Int32} (hd : decode c.code pc = .ok (.i2l, 1))  (hpc : pc + 1 = pc') (k : ∀ z : Int64, z = x.toInt64 → KEnds p e below s Cn Sn Q T (mkF m pc' Ls (.long z :: St))) : KEnds p e below s Cn Sn Q T (mkF m pc Ls (.int x :: St)) := by
  subst hpc; exact k_via (fun t h => XS.i2l X.here hx rfl hd rfl h) (k _ rfl)
theorem k_iinc (X : Stand p l e R s m args below meth c T locs cells slots) (hx : p.tables.exec = Jvm.exec) {pc pc' : Nat} {Ls : Array Slot} {St : List Value} {i : Nat} {cst : Int} {x z : Int32} {Ls' : Array Slot} (hd : decode c.code pc = .ok (.iinc i cst, 3)) (hl : Ls[i]? = some (.val (.int x))) (hpc : pc + 3 = pc') (hz : x + Int32.ofInt cst = z) (hl' : storeLocals Ls i (.int z) = some Ls') (k : KEnds p e below s Cn Sn Q T (mkF m pc' Ls' St)) : KEnds p e below s Cn Sn Q T (mkF m pc Ls St) := by
  subst hpc hz; exact k_via (fun t h => XS.iinc X.here hx rfl hd hl hl' h) k
theorem k_dup (X : Stand p l e R s m args below meth c T locs cells slots) (hx : p.tables.exec = Jvm.exec) {pc pc' : Nat} {Ls : Array Slot} {St : List Value} {v : Value} (hd : decode c.code pc = .ok (.dup, 1)) (hv : v.category = 1) (hpc : pc + 1 = pc') (k : KEnds p e below s Cn Sn Q T (mkF m pc' Ls (v :: v :: St))) : KEnds p e below s Cn Sn Q T (mkF m pc Ls (v :: St)) := by
  subst hpc; exact k_via (fun t h => XS.dup X.here hx rfl hd rfl hv h) k
theorem k_goto (X : Stand p l e R s m args below meth c T locs cells slots) (hx : p.tables.exec = Jvm.exec) {pc pc' : Nat} {Ls : Array Slot} {St : List Value} {o : Int} (hd : decode c.code pc = .ok (.goto o, 3)) (hp : (pc : Int) + o = (pc' : Int)) (k : KEnds p e below s Cn Sn Q T (mkF m pc' Ls St)) : KEnds p e below s Cn Sn Q T (mkF m pc Ls St) :=
  k_via (fun t h => XS.goto X.here hx rfl (pc0 := pc) rfl hd (by omega) (by omega) h) k
theorem k_icmp_lt (X : Stand p l e R s m args below meth c T locs cells slots) (hx : p.tables.exec = Jvm.exec) {pc pn py : Nat} {Ls : Array Slot} {St : List Value} {x y : Int32} {o : Int} (hd : decode c.code pc = .ok (.if_icmp .lt o, 3)) (hn : pc + 3 = pn) (hp : (pc : Int) + o = (py : Int)) (ky : x < y → KEnds p e below s Cn Sn Q T (mkF m py Ls St)) (kn : ¬ x < y → KEnds p e below s Cn Sn Q T (mkF m pn Ls St)) : KEnds p e below s Cn Sn Q T (mkF m pc Ls (.int y :: .int x :: St)) := by
  subst hn
  by_cases hc : x < y
  · exact k_via (fun t h => XS.icmpYes X.here hx rfl (pc0 := pc) rfl hd rfl (tlt hc).1 (by omega) (by omega) h) (ky hc)
  · exact k_via (fun t h => XS.icmpNo X.here hx rfl hd rfl (flt hc).1 h) (kn hc)
theorem k_icmp_ge (X : Stand p l e R s m args below meth c T locs cells slots) (hx : p.tables.exec = Jvm.exec) {pc pn py : Nat} {Ls : Array Slot} {St : List Value} {x y : Int32} {o : Int} (hd : decode c.code pc = .ok (.if_icmp .ge o, 3)) (hn : pc + 3 = pn) (hp : (pc : Int) + o = (py : Int)) (ky : ¬ x < y → KEnds p e below s Cn Sn Q T (mkF m py Ls St)) (kn : x < y → KEnds p e below s Cn Sn Q T (mkF m pn Ls St)) : KEnds p e below s Cn Sn Q T (mkF m pc Ls (.int y :: .int x :: St)) := by
  subst hn
  by_cases hc : x < y
  · exact k_via (fun t h => XS.icmpNo X.here hx rfl hd rfl (tlt hc).2.1 h) (kn hc)
  · exact k_via (fun t h => XS.icmpYes X.here hx rfl (pc0 := pc) rfl hd rfl (flt hc).2.1 (by omega) (by omega) h) (ky hc)
theorem k_icmp_le (X : Stand p l e R s m args below meth c T locs cells slots) (hx : p.tables.exec = Jvm.exec) {pc pn py : Nat} {Ls : Array Slot} {St : List Value} {x y : Int32} {o : Int} (hd : decode c.code pc = .ok (.if_icmp .le o, 3)) (hn : pc + 3 = pn) (hp : (pc : Int) + o = (py : Int)) (ky : ¬ y < x → KEnds p e below s Cn Sn Q T (mkF m py Ls St)) (kn : y < x → KEnds p e below s Cn Sn Q T (mkF m pn Ls St)) : KEnds p e below s Cn Sn Q T (mkF m pc Ls (.int y :: .int x :: St)) := by
  subst hn
  by_cases hc : y < x
  · exact k_via (fun t h => XS.icmpNo X.here hx rfl hd rfl (tlt hc).2.2.2 h) (kn hc)
  · exact k_via (fun t h => XS.icmpYes X.here hx rfl (pc0 := pc) rfl hd rfl (flt hc).2.2.2 (by omega) (by omega) h) (ky hc)
theorem k_if_le (X : Stand p l e R s m args below meth c T locs cells slots) (hx : p.tables.exec = Jvm.exec) {pc pn py : Nat} {Ls : Array Slot} {St : List Value} {x : Int32} {o : Int} (hd : decode c.code pc = .ok (.ifCond .le o, 3)) (hn : pc + 3 = pn) (hp : (pc : Int) + o = (py : Int)) (ky : ¬ (0 : Int32) < x → KEnds p e below s Cn Sn Q T (mkF m py Ls St)) (kn : (0 : Int32) < x → KEnds p e below s Cn Sn Q T (mkF m pn Ls St)) : KEnds p e below s Cn Sn Q T (mkF m pc Ls (.int x :: St)) := by
  subst hn
  by_cases hc : (0 : Int32) < x
  · exact k_via (fun t h => XS.ifNo X.here hx rfl hd rfl ((if0 _ _).trans (tlt hc).2.2.2) h) (kn hc)
  · exact k_via (fun t h => XS.ifYes X.here hx rfl (pc0 := pc) rfl hd rfl ((if0 _ _).trans (flt hc).2.2.2) (by omega) (by omega) h) (ky hc)
theorem k_icmp_ne (X : Stand p l e R s m args below meth c T locs cells slots) (hx : p.tables.exec = Jvm.exec) {pc pn py : Nat} {Ls : Array Slot} {St : List Value} {x y : Int32} {o : Int} (hd : decode c.code pc = .ok (.if_icmp .ne o, 3)) (hn : pc + 3 = pn) (hp : (pc : Int) + o = (py : Int)) (ky : ¬ x = y → KEnds p e below s Cn Sn Q T (mkF m py Ls St)) (kn : x = y → KEnds p e below s Cn Sn Q T (mkF m pn Ls St)) : KEnds p e below s Cn Sn Q T (mkF m pc Ls (.int y :: .int x :: St)) := by
  subst hn
  by_cases hc : x = y
  · exact k_via (fun t h => XS.icmpNo X.here hx rfl hd rfl (teq hc).2 h) (kn hc)
  · exact k_via (fun t h => XS.icmpYes X.here hx rfl (pc0 := pc) rfl hd rfl (feq hc).2 (by omega) (by omega) h) (ky hc)
theorem k_if_ne (X : Stand p l e R s m args below meth c T locs cells slots) (hx : p.tables.exec = Jvm.exec) {pc pn py : Nat} {Ls : Array Slot} {St : List Value} {x : Int32} {o : Int} (hd : decode c.code pc = .ok (.ifCond .ne o, 3)) (hn : pc + 3 = pn) (hp : (pc : Int) + o = (py : Int)) (ky : ¬ x = (0 : Int32) → KEnds p e below s Cn Sn Q T (mkF m py Ls St)) (kn : x = (0 : Int32) → KEnds p e below s Cn Sn Q T (mkF m pn Ls St)) : KEnds p e below s Cn Sn Q T (mkF m pc Ls (.int x :: St)) := by
  subst hn
  by_cases hc : x = (0 : Int32)
  · exact k_via (fun t h => XS.ifNo X.here hx rfl hd rfl ((if0 _ _).trans (teq hc).2) h) (kn hc)
  · exact k_via (fun t h => XS.ifYes X.here hx rfl (pc0 := pc) rfl hd rfl ((if0 _ _).trans (feq hc).2) (by omega) (by omega) h) (ky hc)
theorem k_lcif_ne (X : Stand p l e R s m args below meth c T locs cells slots) (hx : p.tables.exec = Jvm.exec) {pc pn py : Nat} {Ls : Array Slot} {St : List Value} {x y : Int64} {o : Int} {pm : Nat} (hd0 : decode c.code pc = .ok (.lcmp, 1)) (hm : pc + 1 = pm) (hd : decode c.code pm = .ok (.ifCond .ne o, 3)) (hn : pm + 3 = pn) (hp : (pm : Int) + o = (py : Int)) (ky : ¬ x = y → KEnds p e below s Cn Sn Q T (mkF m py Ls St)) (kn : x = y → KEnds p e below s Cn Sn Q T (mkF m pn Ls St)) : KEnds p e below s Cn Sn Q T (mkF m pc Ls (.long y :: .long x :: St)) := by
  subst hm
  have F := k_if_ne (Q := Q) (Cn := Cn) (Sn := Sn) (Ls := Ls) (St := St) (x := lcmpW x y) X hx hd hn hp (fun hc => ky (fun q => hc ((lw_eq x y).mpr q))) (fun hc => kn ((lw_eq x y).mp hc))
  exact k_via (fun t h => XS.lcmp X.here hx rfl hd0 rfl h) F
theorem k_retN (X : Stand p l e R s m args below meth c T locs cells slots) (hx : p.tables.exec = Jvm.exec) {pc : Nat} {Ls : Array Slot} {St : List Value} {t : FieldType} {z z' : Int32} (hret : meth.sig.returnType = some t) (ht : t = .boolean ∨ t = .byte ∨ t = .char ∨ t = .short) (hd : decode c.code pc = .ok (.ireturn, 1)) (hlk : meth.locks = false) (hC : cells ≤ Cn) (hS : slots ≤ Sn) (hz : nar t z = z') (q : Q (some (.int z')) T.heap locs) : KEnds p e below s Cn Sn Q T (mkF m pc Ls (.int z :: St)) := by
  subst hz
  obtain ⟨fs, hr, hrun, hended, hW, hsame⟩ := X.leave (v := some (.int (nar t z))) (fun h => by rw [hret] at h; cases h) hlk
  exact ⟨_, _, retN X hx hret ht hd hr, hrun, hended, _, _, rfl, q, ⟨_, rfl⟩, hW, hsame.mono hC hS⟩
theorem k_retI (X : Stand p l e R s m args below meth c T locs cells slots) (hx : p.tables.exec = Jvm.exec) {pc : Nat} {Ls : Array Slot} {St : List Value} {z : Int32} (hret : meth.sig.returnType = some .int) (hd : decode c.code pc = .ok (.ireturn, 1)) (hlk : meth.locks = false) (hC : cells ≤ Cn) (hS : slots ≤ Sn) (q : Q (some (.int z)) T.heap locs) : KEnds p e below s Cn Sn Q T (mkF m pc Ls (.int z :: St)) := by
  obtain ⟨fs, hr, hrun, hended, hW, hsame⟩ := X.leave (v := some (.int z)) (fun h => by rw [hret] at h; cases h) hlk
  exact ⟨_, _, retOut X hx hret rfl (Or.inl ⟨rfl, Or.inl rfl, _, rfl⟩) hd hr, hrun, hended, _, _, rfl, q, ⟨_, rfl⟩, hW, hsame.mono hC hS⟩
theorem k_retL (X : Stand p l e R s m args below meth c T locs cells slots) (hx : p.tables.exec = Jvm.exec) {pc : Nat} {Ls : Array Slot} {St : List Value} {z : Int64} (hret : meth.sig.returnType = some .long) (hd : decode c.code pc = .ok (.lreturn, 1)) (hlk : meth.locks = false) (hC : cells ≤ Cn) (hS : slots ≤ Sn) (q : Q (some (.long z)) T.heap locs) : KEnds p e below s Cn Sn Q T (mkF m pc Ls (.long z :: St)) := by
  obtain ⟨fs, hr, hrun, hended, hW, hsame⟩ := X.leave (v := some (.long z)) (fun h => by rw [hret] at h; cases h) hlk
  exact ⟨_, _, retOut X hx hret rfl (Or.inr (Or.inl ⟨rfl, rfl, _, rfl⟩)) hd hr, hrun, hended, _, _, rfl, q, ⟨_, rfl⟩, hW, hsame.mono hC hS⟩
theorem k_ret (X : Stand p l e R s m args below meth c T locs cells slots) (hx : p.tables.exec = Jvm.exec) {pc : Nat} {Ls : Array Slot} (hret : meth.sig.returnType = none) (hd : decode c.code pc = .ok (.return_, 1)) (hlk : meth.locks = false) (hC : cells ≤ Cn) (hS : slots ≤ Sn) (q : Q none T.heap locs) : KEnds p e below s Cn Sn Q T (mkF m pc Ls []) := by
  obtain ⟨fs, hr, hrun, hended, hW, hsame⟩ := X.leave (v := none) (fun _ => rfl) hlk
  exact ⟨_, _, X.returnOut hx hret hd hr, hrun, hended, _, _, rfl, q, ⟨_, rfl⟩, hW, hsame.mono hC hS⟩
variable {Z : State} {a0 : Array Value} {h : Heap} {own : String}
theorem k_ldc (X : Stand p l e R s m args below meth c T locs cells slots) (hx : p.tables.exec = Jvm.exec) (hZ : Z.Warmed39 s.vm) (hown : s.vm.findClass own = some m.cls) {pc pc' : Nat} {Ls : Array Slot} {St : List Value} {index : Nat} {v : Int32} (w : (Cond.constant own index v).before a0 Z = true) (hd : decode c.code pc = .ok (.ldc index, 2)) (hpc : pc + 2 = pc') (k : KEnds p e below s Cn Sn Q T (mkF m pc' Ls (.int v :: St))) : KEnds p e below s Cn Sn Q T (mkF m pc Ls St) := by
  subst hpc; exact k_via (X.ldcInt hx hown (mvT hZ w) (g := mkF m pc Ls St) rfl hd) k
theorem k_getF (X : Stand p l e R s m args below meth c T locs cells slots) (hx : p.tables.exec = Jvm.exec) (hZ : Z.Warmed39 s.vm) (hown : s.vm.findClass own = some m.cls) {pc pc' : Nat} {Ls : Array Slot} {St : List Value} {R0 O n d host : String} {index : Nat} (w : (Cond.fieldLink own index R0 n d).before a0 Z = true ∨ (Cond.fieldLinkNest own index R0 n d host).before a0 Z = true) (via : Via Z R0 O n d) (eT : T.heap = h) {a : Addr} {v : Value} (F : Fld Z h a O n d v) (hd : decode c.code pc = .ok (.getfield index, 3)) (hpc : pc + 3 = pc') (k : ∀ T', Stand p l e R s m args below meth c T' locs cells slots → T'.heap = h → KEnds p e below s Cn Sn Q T' (mkF m pc' Ls (v :: St))) : KEnds p e below s Cn Sn Q T (mkF m pc Ls (.ref a :: St)) := by
  subst hpc
  obtain ⟨T', X', e', st⟩ := getF X hx hZ hown w via eT F (g := mkF m pc Ls (.ref a :: St)) rfl rfl hd
  exact k_via st (k T' X' e')
theorem k_putF (X : Stand p l e R s m args below meth c T locs cells slots) (hx : p.tables.exec = Jvm.exec) (hZ : Z.Warmed39 s.vm) (hown : s.vm.findClass own = some m.cls) {pc pc' : Nat} {Ls : Array Slot} {St : List Value} {R0 O n d host C : String} {index kk : Nat} {ty : FieldType} (w : (Cond.fieldLink own index R0 n d).before a0 Z = true ∨ (Cond.fieldLinkNest own index R0 n d host).before a0 Z = true) (via : Via Z R0 O n d) (eT : T.heap = h) {a : Addr} {v old : Value} (F : Fld Z h a O n d old) (Ex : Exa Z h a C) (L : (Cond.lays C O n d).before a0 Z = true ∨ ((Cond.laysFinal C O n d).before a0 Z = true ∧ own = O ∧ meth.name = "<init>")) (wi : (Cond.instantiable C kk).before a0 Z = true) (hty : parseFieldDescriptor d = some ty) (hn : narrow ty v = v) (hf : fits ty v = true) (hd : decode c.code pc = .ok (.putfield index, 3)) (hpc : pc + 3 = pc') (k : ∀ T' h', Stand p l e R s m args below meth c T' (locs ++ [⟨a, Jvm.RoadKit.slotOf Z O n d⟩]) cells slots → T'.heap = h' → Wr h h' a (Jvm.RoadKit.slotOf Z O n d) v → KEnds p e below s Cn Sn Q T' (mkF m pc' Ls St)) : KEnds p e below s Cn Sn Q T (mkF m pc Ls (v :: .ref a :: St)) := by
  subst hpc
  obtain ⟨T', h', X', e', W', st⟩ := putF X hx hZ hown w via eT F Ex L wi hty hn hf (g := mkF m pc Ls (v :: .ref a :: St)) rfl rfl hd
  exact k_via st (k T' h' X' e' W')
theorem k_newO (X : Stand p l e R s m args below meth c T locs cells slots) (hx : p.tables.exec = Jvm.exec) (hZ : Z.Warmed39 s.vm) (hown : s.vm.findClass own = some m.cls) {pc pc' : Nat} {Ls : Array Slot} {St : List Value} {C : String} {index n : Nat} (w : (Cond.classLink own index C).before a0 Z = true) (wi : (Cond.instantiable C n).before a0 Z = true) (wz : (Cond.initialized C).before a0 Z = true) (eT : T.heap = h) (hd : decode c.code pc = .ok (.new index, 3)) (hc : cells + 1 ≤ R.cells) (hl : slots + n ≤ R.slots) (hpc : pc + 3 = pc') (k : ∀ T' h' a, a = h.size → Stand p l e R s m args below meth c T' locs (cells + 1) (slots + n) → T'.heap = h' → Ext h h' → Exa Z h' a C → (∀ {O nm d : String} {ty : FieldType}, Laid Z a0 C O nm d → parseFieldDescriptor d = some ty → Fld Z h' a O nm d (defaultValue ty)) → KEnds p e below s Cn Sn Q T' (mkF m pc' Ls (.ref a :: St))) : KEnds p e below s Cn Sn Q T (mkF m pc Ls St) := by
  subst hpc
  obtain ⟨T', h', X', e', E', A', D', -, st⟩ := newO X hx hZ hown w wi wz eT (g := mkF m pc Ls St) rfl hd hc hl
  exact k_via st (k T' h' _ rfl X' e' E' A' D')
theorem k_initO (X : Stand p l e R s m args below meth c T locs cells slots) (hx : p.tables.exec = Jvm.exec) (hZ : Z.Warmed39 s.vm) (hown : s.vm.findClass own = some m.cls) {pc pc' : Nat} {Ls : Array Slot} {St : List Value} {idx : Nat} (w1 : (Cond.methodLink own idx Lib.objectInit).before a0 Z = true) (w2 : (Cond.instanceMethod Lib.objectInit).before a0 Z = true) (w3 : (Cond.code Lib.objectInit ⟨#[0xb1]⟩ 1 none).before a0 Z = true) (eT : T.heap = h) (hsize : Ls.size = c.maxLocals) {a : Addr} (hd : decode c.code pc = .ok (.invokespecial idx, 3)) (hf : 1 ≤ R.frames) {W : Nat} (hW : (St.map fun v => v.category).sum ≤ W) (hl : W + 12 ≤ R.locals) (hpc : pc + 3 = pc') (k : ∀ T', Stand p l e R s m args below meth c T' locs cells slots → T'.heap = h → KEnds p e below s Cn Sn Q T' (mkF m pc' Ls St)) : KEnds p e below s Cn Sn Q T (mkF m pc Ls (.ref a :: St)) := by
  subst hpc
  obtain ⟨T', X', e', st⟩ := initO X hx hZ hown w1 w2 w3 eT (g := mkF m pc Ls (.ref a :: St)) rfl hsize rfl hd hf (W := W) (by show 2 * 0 + _ ≤ _; omega) hl
  exact k_via st (k T' X' e')
theorem k_newA (X : Stand p l e R s m args below meth c T locs cells slots) (hx : p.tables.exec = Jvm.exec) (hZ : Z.Warmed39 s.vm) {pc pc' : Nat} {Ls : Array Slot} {St : List Value} {aty : ArrayType} (w : (Cond.arrayClass (newarray.typeOf aty)).before a0 Z = true) (eT : T.heap = h) (hd : decode c.code pc = .ok (.newarray aty, 2)) {n : Int32} (hn : ¬ n < 0) {cap : Nat} (hcap : n.toNatClampNeg ≤ cap) (hb : cap * 8 ≤ 536870912) (hc : cells + 1 ≤ R.cells) (hl : slots + cap ≤ R.slots) (hpc : pc + 2 = pc') (k : ∀ T' h' a cA, a = h.size → Stand p l e R s m args below meth c T' locs (cells + 1) (slots + cap) → T'.heap = h' → Ext h h' → Arv Z h' a cA (newarray.typeOf aty) n (List.replicate cap (defaultValue (newarray.typeOf aty))) (defaultValue (newarray.typeOf aty)) → KEnds p e below s Cn Sn Q T' (mkF m pc' Ls (.ref a :: St))) : KEnds p e below s Cn Sn Q T (mkF m pc Ls (.int n :: St)) := by
  subst hpc
  obtain ⟨T', h', cA, X', e', E', A', st⟩ := newP X hx hZ w eT (g := mkF m pc Ls (.int n :: St)) rfl hd rfl hn hcap hb hc hl
  exact k_via st (k T' h' _ cA rfl X' e' E' ((Arv.new A' hn).pad (pad_rep [] _ cap)))
theorem k_iastore (X : Stand p l e R s m args below meth c T locs cells slots) (hx : p.tables.exec = Jvm.exec) (hZ : Z.Warmed39 s.vm) {pc pc' : Nat} {Ls : Array Slot} {St : List Value} (eT : T.heap = h) {a : Addr} {kA : ClassId} {z j : Int32} {x : Int32} {vs : List Value} {dv : Value} (F : Arv Z h a kA .int z vs dv) (hj : ¬ j < 0 ∧ j < z) {i : Nat} (hi : j.toNatClampNeg = i) (hil : i < vs.length) (hd : decode c.code pc = .ok (.iastore, 1)) (hpc : pc + 1 = pc') (k : ∀ T' h', Stand p l e R s m args below meth c T' (locs ++ [⟨a, j.toNatClampNeg⟩]) cells slots → T'.heap = h' → Wr h h' a j.toNatClampNeg (.int (x)) → Arv Z h' a kA .int z (vs.set i (.int (x))) dv → KEnds p e below s Cn Sn Q T' (mkF m pc' Ls St)) : KEnds p e below s Cn Sn Q T (mkF m pc Ls (.int x :: .int j :: .ref a :: St)) := by
  subst hpc
  obtain ⟨cl, A, q1, S, N, H, G⟩ := F
  obtain ⟨T', h', X', e', W', st⟩ := stI X hx hZ eT A (inb_of S hj) (g := mkF m pc Ls (.int x :: .int j :: .ref a :: St)) rfl rfl hd
  exact k_via st (k T' h' X' e' W' (Arv.set A q1 S N H G rfl W' i hi hil))
theorem k_iaload (X : Stand p l e R s m args below meth c T locs cells slots) (hx : p.tables.exec = Jvm.exec) (hZ : Z.Warmed39 s.vm) {pc pc' : Nat} {Ls : Array Slot} {St : List Value} (eT : T.heap = h) {a : Addr} {kA : ClassId} {z j : Int32} {v : Value} {vs : List Value} {dv : Value} (F : Arv Z h a kA .int z vs dv) (hj : ¬ j < 0 ∧ j < z) (hv : vs.getD j.toNatClampNeg dv = v) (hd : decode c.code pc = .ok (.iaload, 1)) (hpc : pc + 1 = pc') (k : KEnds p e below s Cn Sn Q T (mkF m pc' Ls (v :: St))) : KEnds p e below s Cn Sn Q T (mkF m pc Ls (.int j :: .ref a :: St)) := by
  subst hpc
  obtain ⟨cl, A, q1, S, N, H, G⟩ := F
  exact k_via (fun t hs => X.iaload hx (by rw [eT]; exact A.1) (State.isArrayOf_alike hZ.alike A.2.1) A.2.2 (inb_of S hj) (H.at (inb_of S hj) hv) (g := mkF m pc Ls (.int j :: .ref a :: St)) rfl rfl hd t hs) k
theorem k_alen (X : Stand p l e R s m args below meth c T locs cells slots) (hx : p.tables.exec = Jvm.exec) (hZ : Z.Warmed39 s.vm) {pc pc' : Nat} {Ls : Array Slot} {St : List Value} (eT : T.heap = h) {a : Addr} {kA : ClassId} {ty : FieldType} {z : Int32} {vs : List Value} {dv : Value} (F : Arv Z h a kA ty z vs dv) (hd : decode c.code pc = .ok (.arraylength, 1)) (hpc : pc + 1 = pc') (k : KEnds p e below s Cn Sn Q T (mkF m pc' Ls (.int z :: St))) : KEnds p e below s Cn Sn Q T (mkF m pc Ls (.ref a :: St)) := by
  subst hpc
  obtain ⟨cl, A, q1, S, N, H, G⟩ := F
  refine k_via (fun t hs => X.arraylength hx (by rw [eT]; exact A.1) (State.isArrayOf_alike hZ.alike A.2.1) (g := mkF m pc Ls (.ref a :: St)) rfl rfl hd t ?_) k
  rw [len_of S N]; exact hs
theorem k_callS (X : Stand p l e R s m args below meth c T locs cells slots) (hx : p.tables.exec = Jvm.exec) (hZ : Z.Warmed39 s.vm) (hown : s.vm.findClass own = some m.cls) {pc pc' : Nat} {Ls : Array Slot} {St : List Value} {y : MethodName} {bytes : ByteArray} {maxL : Nat} {ret : Option FieldType} {rm : Room} {index W : Nat} {as' : Array Value} {Q' : Option Value → Heap → List Loc → Prop} (w1 : (Cond.methodLink own index y).before a0 Z = true) (w2 : (Cond.static y).before a0 Z = true) (w3 : (Cond.initialized y.cls).before a0 Z = true) (w4 : (Cond.code y bytes maxL ret).before a0 Z = true) (hy : y.cls ≠ "java/lang/invoke/MethodHandle" ∧ y.cls ≠ "java/lang/invoke/VarHandle") (hM : MetFree l y (head1 [Cond.code y bytes maxL ret] rm) (fun a U => a = as' ∧ Z.Warmed39 U.vm ∧ U.heap = h) (fun _ _ _ _ _ => True) (fun _ U o U' => ∃ v L, o = .returned v ∧ Q' v U'.heap L ∧ FrameEnd U o U' L rm.cells rm.slots)) (hf : rm.frames + 1 ≤ R.frames) (hl : W + (maxL + 11) + rm.locals ≤ R.locals) (eT : T.heap = h) (hsize : Ls.size = c.maxLocals) {argsL rest : List Value} (hlen : ∀ sig, parseMethodDescriptor y.desc = some sig → argsL.length = sig.parameters.length) (hst : St = argsL.reverse ++ rest) (hW : (rest.map fun v => v.category).sum ≤ W) (has : argsL.toArray = as') (hd : decode c.code pc = .ok (.invokestatic index, 3)) (hce : cells + rm.cells ≤ R.cells) (hsl : slots + rm.slots ≤ R.slots) (hpc : pc + 3 = pc') (k : ∀ T' L v, Stand p l e R s m args below meth c T' (locs ++ L) (cells + rm.cells) (slots + rm.slots) → Q' v T'.heap L → KEnds p e below s Cn Sn Q T' (mkF m pc' Ls (v.toList ++ rest))) : KEnds p e below s Cn Sn Q T (mkF m pc Ls St) := by
  subst hpc
  obtain ⟨v, _, ⟨T', L', k', n'⟩, -, X', ⟨Lc, hQ, l', y', z'⟩, st⟩ := Jvm.LawKit.callS X hx (y := y) hown (mvT hZ w1) (mvT hZ w2) (mvT hZ w3) (mvT hZ w4) hy (backOf (W := W) hM hZ w4 w3 hf hl) (g := mkF m pc Ls St) rfl hsize hlen hst (by show 2 * 0 + _ ≤ _; omega) hd (fun _ _ => ⟨has, eT, hce, hsl⟩)
  dsimp only [Pt.U, Pt.locs, Pt.cells, Pt.slots] at X' l' y' z' st hQ
  subst l' y' z'
  exact k_via st (k T' Lc v X' hQ)
theorem k_callV (X : Stand p l e R s m args below meth c T locs cells slots) (hx : p.tables.exec = Jvm.exec) (hZ : Z.Warmed39 s.vm) (hown : s.vm.findClass own = some m.cls) {pc pc' : Nat} {Ls : Array Slot} {St : List Value} {y : MethodName} {bytes : ByteArray} {maxL : Nat} {ret : Option FieldType} {rm : Room} {index W : Nat} {as' : Array Value} {Q' : Option Value → Heap → List Loc → Prop} {C : String} {a : Addr} (w1 : (Cond.methodLink own index y).before a0 Z = true) (w2 : (Cond.declares y).before a0 Z = true) (w3 : (Cond.selects C y y).before a0 Z = true) (w5 : (Cond.instanceMethod y).before a0 Z = true) (w6 : (Cond.initialized y.cls).before a0 Z = true) (w4 : (Cond.code y bytes maxL ret).before a0 Z = true) (hy : y.cls ≠ "java/lang/invoke/MethodHandle" ∧ y.cls ≠ "java/lang/invoke/VarHandle") (Ex : Exa Z h a C) (hM : MetFree l y (head1 [Cond.code y bytes maxL ret] rm) (fun a U => a = as' ∧ Z.Warmed39 U.vm ∧ U.heap = h) (fun _ _ _ _ _ => True) (fun _ U o U' => ∃ v L, o = .returned v ∧ Q' v U'.heap L ∧ FrameEnd U o U' L rm.cells rm.slots)) (hf : rm.frames + 1 ≤ R.frames) (hl : W + (maxL + 11) + rm.locals ≤ R.locals) (eT : T.heap = h) (hsize : Ls.size = c.maxLocals) {argsL rest : List Value} (hlen : ∀ sig, parseMethodDescriptor y.desc = some sig → argsL.length = sig.parameters.length) (hst : St = argsL.reverse ++ .ref a :: rest) (hW : (rest.map fun v => v.category).sum ≤ W) (has : (.ref a :: argsL).toArray = as') (hd : decode c.code pc = .ok (.invokevirtual index, 3)) (hce : cells + rm.cells ≤ R.cells) (hsl : slots + rm.slots ≤ R.slots) (hpc : pc + 3 = pc') (k : ∀ T' L v, Stand p l e R s m args below meth c T' (locs ++ L) (cells + rm.cells) (slots + rm.slots) → Q' v T'.heap L → KEnds p e below s Cn Sn Q T' (mkF m pc' Ls (v.toList ++ rest))) : KEnds p e below s Cn Sn Q T (mkF m pc Ls St) := by
  subst hpc
  obtain ⟨cq, kq, qa, qb, qc⟩ := isOf hZ eT Ex
  obtain ⟨v, _, ⟨T', L', k', n'⟩, -, X', ⟨Lc, hQ, l', y', z'⟩, st⟩ := X.virtualBack hx (y := y) (z := y) hown (mvT hZ w1) (mvT hZ w2) (notFace_of_selects (args := #[]) (mvT hZ w3)) (mvT hZ w3) (mvT hZ w5) hy (backOf (W := W) hM hZ w4 w6 hf hl) qa qc (g := mkF m pc Ls St) rfl hsize (Steps.refl _) hlen hst (by show 2 * 0 + _ ≤ _; omega) hd (fun _ _ => ⟨has, eT, hce, hsl⟩)
  dsimp only [Pt.U, Pt.locs, Pt.cells, Pt.slots] at X' l' y' z' st hQ
  subst l' y' z'
  exact k_via (fun t h => st.trans h) (k T' Lc v X' hQ)
theorem k_callI (X : Stand p l e R s m args below meth c T locs cells slots) (hx : p.tables.exec = Jvm.exec) (hZ : Z.Warmed39 s.vm) (hown : s.vm.findClass own = some m.cls) {pc pc' : Nat} {Ls : Array Slot} {St : List Value} {y : MethodName} {bytes : ByteArray} {maxL : Nat} {ret : Option FieldType} {rm : Room} {index W : Nat} {as' : Array Value} {Q' : Option Value → Heap → List Loc → Prop} {a : Addr} (hin : y.name = "<init>") (w1 : (Cond.methodLink own index y).before a0 Z = true) (w5 : (Cond.instanceMethod y).before a0 Z = true) (w6 : (Cond.initialized y.cls).before a0 Z = true) (w4 : (Cond.code y bytes maxL none).before a0 Z = true) (hr : ret = none) (hy : y.cls ≠ "java/lang/invoke/MethodHandle" ∧ y.cls ≠ "java/lang/invoke/VarHandle") (hM : MetFree l y (head1 [Cond.code y bytes maxL ret] rm) (fun a U => a = as' ∧ Z.Warmed39 U.vm ∧ U.heap = h) (fun _ _ _ _ _ => True) (fun _ U o U' => ∃ v L, o = .returned v ∧ Q' v U'.heap L ∧ FrameEnd U o U' L rm.cells rm.slots)) (hf : rm.frames + 1 ≤ R.frames) (hl : W + (maxL + 11) + rm.locals ≤ R.locals) (eT : T.heap = h) (hsize : Ls.size = c.maxLocals) {argsL rest : List Value} (hlen : ∀ sig, parseMethodDescriptor y.desc = some sig → argsL.length = sig.parameters.length) (hst : St = argsL.reverse ++ .ref a :: rest) (hW : (rest.map fun v => v.category).sum ≤ W) (has : (.ref a :: argsL).toArray = as') (hd : decode c.code pc = .ok (.invokespecial index, 3)) (hce : cells + rm.cells ≤ R.cells) (hsl : slots + rm.slots ≤ R.slots) (hpc : pc + 3 = pc') (k : ∀ T' L v, Stand p l e R s m args below meth c T' (locs ++ L) (cells + rm.cells) (slots + rm.slots) → Q' v T'.heap L → KEnds p e below s Cn Sn Q T' (mkF m pc' Ls (v.toList ++ rest))) : KEnds p e below s Cn Sn Q T (mkF m pc Ls St) := by
  subst hpc hr
  obtain ⟨v, _, ⟨T', L', k', n'⟩, -, X', ⟨Lc, hQ, l', y', z'⟩, st⟩ := X.specialBack hx (y := y) hin hown (mvT hZ w1) (mvT hZ w5) (mvT hZ w4) hy (backOf (W := W) hM hZ w4 w6 hf hl) (g := mkF m pc Ls St) rfl hsize (Steps.refl _) (a := a) hlen hst (by show 2 * 0 + _ ≤ _; omega) hd (fun _ _ => ⟨has, eT, hce, hsl⟩)
  dsimp only [Pt.U, Pt.locs, Pt.cells, Pt.slots] at X' l' y' z' st hQ
  subst l' y' z'
  exact k_via (fun t h => st.trans h) (k T' Lc v X' hQ)
end
end Jvm.OwnK
namespace Jvm.Pilot.@@N@@
open Jvm Jvm.ClassFile Sem Op Lib Jvm.Free Jvm.Stand Jvm.LawKit Jvm.RoadKit Jvm.OwnK Bundle Jvm.Pilot.@@N@@.Jvm.D
theorem d1_0 : decode method_3_code 0 = .ok (.iconst 1, 1) := by decide +kernel
theorem d1_1 : decode method_3_code 1 = .ok (.iload_n 0, 1) := by decide +kernel
theorem d1_2 : decode method_3_code 2 = .ok (.ldc 7, 2) := by decide +kernel
theorem d1_4 : decode method_3_code 4 = .ok (.iand, 1) := by decide +kernel
theorem d1_5 : decode method_3_code 5 = .ok (.invokestatic 23, 3) := by decide +kernel
theorem d2_0 : decode jdk_29_method_65_code 0 = .ok (.iload_n 0, 1) := by decide +kernel
theorem d2_1 : decode jdk_29_method_65_code 1 = .ok (.iload_n 1, 1) := by decide +kernel
theorem d2_2 : decode jdk_29_method_65_code 2 = .ok (.if_icmp .lt 7, 3) := by decide +kernel
theorem d2_9 : decode jdk_29_method_65_code 9 = .ok (.iload_n 1, 1) := by decide +kernel
theorem d2_10 : decode jdk_29_method_65_code 10 = .ok (.ireturn, 1) := by decide +kernel
theorem d2_5 : decode jdk_29_method_65_code 5 = .ok (.iload_n 0, 1) := by decide +kernel
theorem d2_6 : decode jdk_29_method_65_code 6 = .ok (.goto 4, 3) := by decide +kernel
abbrev R2_8 : Room := { frames := 0, cells := 0, slots := 0, locals := 0 }
def f2_8 (p1 : Int32) : Int32 := (if (1 : Int32) < p1 then p1 else (1 : Int32))
def Q2_8 (Z : State) (p1 : Int32) (h0 : Heap) (n0 : Nat) (v : Option Value) (h : Heap) (L : List Loc) : Prop := Fr n0 L ∧ h = h0 ∧ v = some (.int (f2_8 p1))
theorem ef2_8 (m : MethodId) (x1 : Int32) : entryFrame m #[(.int (1 : Int32)), (.int x1)] 2 = mkF m 0 #[.val (.int (1 : Int32)), .val (.int x1)] [] := by first | (simp [entryFrame, mkF, argsToLocals, Value.category]; done) | rfl
set_option maxRecDepth 65536 in
set_option maxHeartbeats 40000000 in
theorem rm2_8 (l : Launch) (Z : State) (a0 : Array Value) (hw : ∀ d ∈ tables_1, d.before a0 Z = true) (ws : List Jvm.Cond) (p1 : Int32) (h0 : Heap) (n0 : Nat) (Z0 : n0 ≤ h0.size)  :
    MetFree l (⟨"java/lang/Math", "max", "(II)I"⟩ : MethodName) (head1 (Jvm.Cond.code (⟨"java/lang/Math", "max", "(II)I"⟩ : MethodName) jdk_29_method_65_code 2 (some .int) :: ws) R2_8) (fun a U => a = #[(.int (1 : Int32)), (.int p1)] ∧ Z.Warmed39 U.vm ∧ U.heap = h0) (fun _ _ _ _ _ => True) (fun _ U o U' => ∃ v L, o = .returned v ∧ Q2_8 Z p1 h0 n0 v U'.heap L ∧ FrameEnd U o U' L R2_8.cells R2_8.slots) := by
 refine MetFree.of_bodySF (Jvm.Free.JP.mathPlain rfl (by decide +kernel)) hisR ?_
 intro p e s m args below meth c s₁ Bd hml0 hP hK
 obtain ⟨rfl, hZ, hh⟩ := hP
 have hx := Bd.exec
 have hby := Bd.bytes
 have hml : c.maxLocals = 2 := hml0
 have hlk : meth.locks = false := Bd.notSynchronized
 have hown : s.vm.findClass "java/lang/Math" = some m.cls := findClass_of_methodNamed Bd.named
 have hnm := (name_of_methodNamed Bd.named Bd.method).1
 have X0 : Stand p l e R2_8 s m #[(.int (1 : Int32)), (.int p1)] below meth c s₁ [] 0 0 := Stand.of_body Bd
 have e0 : s₁.heap = h0 := by rw [← hh, Bd.state]; rfl
 have N0 := Fr.nil n0
 rw [ef2_8 m p1]
 show KEnds p e below s R2_8.cells R2_8.slots (Q2_8 Z p1 h0 n0) s₁ (mkF m 0 #[.val (.int (1 : Int32)), .val (.int p1)] [])
 refine k_iloadN X0 hx (hb hby d2_0) rfl (pc' := 1) rfl ?_
 refine k_iloadN X0 hx (hb hby d2_1) rfl (pc' := 2) rfl ?_
 refine k_icmp_lt X0 hx (hb hby d2_2) (pn := 5) rfl (py := 9) (by decide) (fun hc9 => ?_) (fun hc9 => ?_)
 ·
  refine k_iloadN X0 hx (hb hby d2_9) rfl (pc' := 10) rfl ?_
  have hf : f2_8 p1 = p1 := by simp only [f2_8, if_pos hc9]
  exact k_retI X0 hx Bd.returns (hb hby d2_10) hlk (by decide) (by decide) ⟨N0, e0, by rw [hf]⟩
 ·
  refine k_iloadN X0 hx (hb hby d2_5) rfl (pc' := 6) rfl ?_
  refine k_goto X0 hx (hb hby d2_6) (pc' := 10) (by decide) ?_
  have hf : f2_8 p1 = (1 : Int32) := by simp only [f2_8, if_neg hc9]
  exact k_retI X0 hx Bd.returns (hb hby d2_10) hlk (by decide) (by decide) ⟨N0, e0, by rw [hf]⟩
theorem pd_0 : parseMethodDescriptor "(II)I" = some ⟨[.int, .int], some .int⟩ := by decide +kernel
theorem d1_8 : decode method_3_code 8 = .ok (.ireturn, 1) := by decide +kernel
abbrev R1_7 : Room := { frames := 1, cells := 0, slots := 0, locals := 13 }
def f1_7 (p1 : Int32) : Int32 := (f2_8 (p1 &&& (2147483647 : Int32)))
def Q1_7 (Z : State) (p1 : Int32) (h0 : Heap) (n0 : Nat) (v : Option Value) (h : Heap) (L : List Loc) : Prop := Fr n0 L ∧ h = h0 ∧ v = some (.int (f1_7 p1))
theorem ef1_7 (m : MethodId) (x0 : Int32) : entryFrame m #[(.int x0)] 1 = mkF m 0 #[.val (.int x0)] [] := by first | (simp [entryFrame, mkF, argsToLocals, Value.category]; done) | rfl
theorem pn_0 : plainName "com/example/kallimachos/kallimachos/index/PostingsCollectionFrequencyPinLaw" = true := by first | (simp [plainName, overriddenIn]; done) | decide +kernel
set_option maxRecDepth 65536 in
set_option maxHeartbeats 40000000 in
theorem rm1_7 (l : Launch) (Z : State) (a0 : Array Value) (hw : ∀ d ∈ tables_1, d.before a0 Z = true) (ws : List Jvm.Cond) (p1 : Int32) (h0 : Heap) (n0 : Nat) (Z0 : n0 ≤ h0.size)  :
    MetFree l (⟨"com/example/kallimachos/kallimachos/index/PostingsCollectionFrequencyPinLaw", "pos", "(I)I"⟩ : MethodName) (head1 (Jvm.Cond.code (⟨"com/example/kallimachos/kallimachos/index/PostingsCollectionFrequencyPinLaw", "pos", "(I)I"⟩ : MethodName) method_3_code 1 (some .int) :: ws) R1_7) (fun a U => a = #[(.int p1)] ∧ Z.Warmed39 U.vm ∧ U.heap = h0) (fun _ _ _ _ _ => True) (fun _ U o U' => ∃ v L, o = .returned v ∧ Q1_7 Z p1 h0 n0 v U'.heap L ∧ FrameEnd U o U' L R1_7.cells R1_7.slots) := by
 refine MetFree.of_bodySF (plainFor_of_name pn_0) hisR ?_
 intro p e s m args below meth c s₁ Bd hml0 hP hK
 obtain ⟨rfl, hZ, hh⟩ := hP
 have hx := Bd.exec
 have hby := Bd.bytes
 have hml : c.maxLocals = 1 := hml0
 have hlk : meth.locks = false := Bd.notSynchronized
 have hown : s.vm.findClass "com/example/kallimachos/kallimachos/index/PostingsCollectionFrequencyPinLaw" = some m.cls := findClass_of_methodNamed Bd.named
 have hnm := (name_of_methodNamed Bd.named Bd.method).1
 have X0 : Stand p l e R1_7 s m #[(.int p1)] below meth c s₁ [] 0 0 := Stand.of_body Bd
 have e0 : s₁.heap = h0 := by rw [← hh, Bd.state]; rfl
 have N0 := Fr.nil n0
 rw [ef1_7 m p1]
 show KEnds p e below s R1_7.cells R1_7.slots (Q1_7 Z p1 h0 n0) s₁ (mkF m 0 #[.val (.int p1)] [])
 refine k_iconst X0 hx (hb hby d1_0) (pc' := 1) rfl (z := (1 : Int32)) rfl ?_
 refine k_iloadN X0 hx (hb hby d1_1) rfl (pc' := 2) rfl ?_
 refine k_ldc X0 hx hZ hown (hw _ (List.mem_of_getElem? (i := 0) rfl)) (hb hby d1_2) (pc' := 4) rfl ?_
 refine k_iandL X0 hx (hb hby d1_4) (pc' := 5) rfl rfl ?_
 refine k_callS X0 hx hZ hown (hw _ (List.mem_of_getElem? (i := 5) rfl)) (hw _ (List.mem_of_getElem? (i := 6) rfl)) (hw _ (List.mem_of_getElem? (i := 7) rfl)) (hw _ (List.mem_of_getElem? (i := 8) rfl)) (by decide) (rm2_8 l Z a0 hw [] (p1 &&& (2147483647 : Int32)) h0 n0 Z0 ) (by decide) (by decide) e0 (by rw [hml]; rfl) (argsL := [(.int (1 : Int32)), (.int (p1 &&& (2147483647 : Int32)))]) (rest := []) (lenOf pd_0 rfl) rfl (W := 0) (Nat.le_refl _) rfl (hb hby d1_5) (by decide) (by decide) (pc' := 8) rfl (fun T10 L10 r10 X10 q10 => ?_)
 obtain ⟨N10, e10, rfl⟩ := q10
 have N10' := Fr.app N0 N10
 show KEnds p e below s _ _ _ T10 (mkF m 8 #[.val (.int p1)] [(.int (f2_8 (p1 &&& (2147483647 : Int32))))])
 have hf : f1_7 p1 = (f2_8 (p1 &&& (2147483647 : Int32))) := by rfl
 exact k_retI X10 hx Bd.returns (hb hby d1_8) hlk (by decide) (by decide) ⟨N10', e10, by rw [hf]⟩
theorem pd_1 : parseMethodDescriptor "(I)I" = some ⟨[.int], some .int⟩ := by decide +kernel
theorem d3_0 : decode prog_13_method_1_code 0 = .ok (.aload_n 0, 1) := by decide +kernel
theorem d3_1 : decode prog_13_method_1_code 1 = .ok (.invokespecial 1, 3) := by decide +kernel
theorem d3_4 : decode prog_13_method_1_code 4 = .ok (.aload_n 0, 1) := by decide +kernel
theorem d3_5 : decode prog_13_method_1_code 5 = .ok (.aload_n 1, 1) := by decide +kernel
theorem d3_6 : decode prog_13_method_1_code 6 = .ok (.putfield 7, 3) := by decide +kernel
theorem d3_9 : decode prog_13_method_1_code 9 = .ok (.aload_n 0, 1) := by decide +kernel
theorem d3_10 : decode prog_13_method_1_code 10 = .ok (.aload_n 2, 1) := by decide +kernel
theorem d3_11 : decode prog_13_method_1_code 11 = .ok (.putfield 13, 3) := by decide +kernel
theorem d3_14 : decode prog_13_method_1_code 14 = .ok (.return_, 1) := by decide +kernel
abbrev R3_26 : Room := { frames := 1, cells := 0, slots := 0, locals := 12 }
def Q3_26 (Z : State) (a1 : Addr) (a2 : Addr) (a3 : Addr) (k4 : ClassId) (k5 : ClassId) (h0 : Heap) (n0 : Nat) (v : Option Value) (h : Heap) (L : List Loc) : Prop := Fr n0 L ∧ ((v = none ∧ Arv Z h a2 k4 .int (0 : Int32) [] (.int (0 : Int32)) ∧ Arv Z h a3 k5 .int (0 : Int32) [] (.int (0 : Int32)) ∧ Exa Z h a1 "com/example/kallimachos/kallimachos/index/Postings" ∧ Fld Z h a1 "com/example/kallimachos/kallimachos/index/Postings" "documents" "[I" (.ref a2) ∧ Fld Z h a1 "com/example/kallimachos/kallimachos/index/Postings" "frequencies" "[I" (.ref a3) ∧ n0 ≤ h.size))
theorem ef3_26 (m : MethodId) (x0 : Addr) (x1 : Addr) (x2 : Addr) : entryFrame m #[(.ref x0), (.ref x1), (.ref x2)] 3 = mkF m 0 #[.val (.ref x0), .val (.ref x1), .val (.ref x2)] [] := by first | (simp [entryFrame, mkF, argsToLocals, Value.category]; done) | rfl
theorem pn_1 : plainName "com/example/kallimachos/kallimachos/index/Postings" = true := by first | (simp [plainName, overriddenIn]; done) | decide +kernel
set_option maxRecDepth 65536 in
set_option maxHeartbeats 40000000 in
theorem rm3_26 (l : Launch) (Z : State) (a0 : Array Value) (hw : ∀ d ∈ tables_1, d.before a0 Z = true) (ws : List Jvm.Cond) (a1 : Addr) (a2 : Addr) (a3 : Addr) (k4 : ClassId) (k5 : ClassId) (h0 : Heap) (n0 : Nat) (Z0 : n0 ≤ h0.size) (F0_0 : Arv Z h0 a2 k4 .int (0 : Int32) [] (.int (0 : Int32))) (g_a2 : n0 ≤ a2) (F0_2 : Arv Z h0 a3 k5 .int (0 : Int32) [] (.int (0 : Int32))) (g_a3 : n0 ≤ a3) (F0_4 : Exa Z h0 a1 "com/example/kallimachos/kallimachos/index/Postings") (F0_5 : Fld Z h0 a1 "com/example/kallimachos/kallimachos/index/Postings" "documents" "[I" .null) (F0_6 : Fld Z h0 a1 "com/example/kallimachos/kallimachos/index/Postings" "frequencies" "[I" .null) (g_a1 : n0 ≤ a1) (lt0_0 : a2 < a3) (lt0_1 : a3 < a1) :
    MetFree l (⟨"com/example/kallimachos/kallimachos/index/Postings", "<init>", "([I[I)V"⟩ : MethodName) (head1 (Jvm.Cond.code (⟨"com/example/kallimachos/kallimachos/index/Postings", "<init>", "([I[I)V"⟩ : MethodName) prog_13_method_1_code 3 none :: ws) R3_26) (fun a U => a = #[(.ref a1), (.ref a2), (.ref a3)] ∧ Z.Warmed39 U.vm ∧ U.heap = h0) (fun _ _ _ _ _ => True) (fun _ U o U' => ∃ v L, o = .returned v ∧ Q3_26 Z a1 a2 a3 k4 k5 h0 n0 v U'.heap L ∧ FrameEnd U o U' L R3_26.cells R3_26.slots) := by
 refine MetFree.of_bodySF (plainFor_of_name pn_1) hisR ?_
 intro p e s m args below meth c s₁ Bd hml0 hP hK
 obtain ⟨rfl, hZ, hh⟩ := hP
 have hx := Bd.exec
 have hby := Bd.bytes
 have hml : c.maxLocals = 3 := hml0
 have hlk : meth.locks = false := Bd.notSynchronized
 have hown : s.vm.findClass "com/example/kallimachos/kallimachos/index/Postings" = some m.cls := findClass_of_methodNamed Bd.named
 have hnm := (name_of_methodNamed Bd.named Bd.method).1
 have X0 : Stand p l e R3_26 s m #[(.ref a1), (.ref a2), (.ref a3)] below meth c s₁ [] 0 0 := Stand.of_body Bd
 have e0 : s₁.heap = h0 := by rw [← hh, Bd.state]; rfl
 have N0 := Fr.nil n0
 rw [ef3_26 m a1 a2 a3]
 show KEnds p e below s R3_26.cells R3_26.slots (Q3_26 Z a1 a2 a3 k4 k5 h0 n0) s₁ (mkF m 0 #[.val (.ref a1), .val (.ref a2), .val (.ref a3)] [])
 refine k_aloadN X0 hx (hb hby d3_0) rfl rfl (pc' := 1) rfl ?_
 refine k_initO X0 hx hZ hown (hw _ (List.mem_of_getElem? (i := 16) rfl)) (hw _ (List.mem_of_getElem? (i := 17) rfl)) (hw _ (List.mem_of_getElem? (i := 18) rfl)) e0 (by rw [hml]; rfl) (hb hby d3_1) (by decide) (W := 0) (by decide) (by decide) (pc' := 4) rfl (fun T27 X27 e27 => ?_)
 refine k_aloadN X27 hx (hb hby d3_4) rfl rfl (pc' := 5) rfl ?_
 refine k_aloadN X27 hx (hb hby d3_5) rfl rfl (pc' := 6) rfl ?_
 refine k_putF X27 hx hZ hown (host := "") (Or.inl (hw _ (List.mem_of_getElem? (i := 19) rfl))) Via.refl e27 F0_5 F0_4 (Or.inr ⟨(hw _ (List.mem_of_getElem? (i := 20) rfl)), rfl, hnm⟩) (hw _ (List.mem_of_getElem? (i := 11) rfl)) (ty := (.array .int)) (by decide) rfl rfl (hb hby d3_6) (pc' := 9) rfl (fun T28 h28 X28 e28 W28 => ?_)
 have Fw28 : Fld Z h28 a1 "com/example/kallimachos/kallimachos/index/Postings" "documents" "[I" (.ref a2) := F0_5.same W28
 have N28 := Fr.snoc X28 N0 g_a1
 have Z28 : n0 ≤ h28.size := Nat.le_trans Z0 (Nat.le_of_eq W28.size.symm)
 refine k_aloadN X28 hx (hb hby d3_9) rfl rfl (pc' := 10) rfl ?_
 refine k_aloadN X28 hx (hb hby d3_10) rfl rfl (pc' := 11) rfl ?_
 have F29 := (F0_6.other W28 (Or.inr (slot_ne (Or.inr (hw _ (List.mem_of_getElem? (i := 22) rfl))) (Or.inr (hw _ (List.mem_of_getElem? (i := 20) rfl))) (by decide) (t := (.array .int)) (t' := (.array .int)) (by decide) (by decide))))
 have F30 := (F0_4.wr W28)
 refine k_putF X28 hx hZ hown (host := "") (Or.inl (hw _ (List.mem_of_getElem? (i := 21) rfl))) Via.refl e28 F29 F30 (Or.inr ⟨(hw _ (List.mem_of_getElem? (i := 22) rfl)), rfl, hnm⟩) (hw _ (List.mem_of_getElem? (i := 11) rfl)) (ty := (.array .int)) (by decide) rfl rfl (hb hby d3_11) (pc' := 14) rfl (fun T31 h31 X31 e31 W31 => ?_)
 have Fw31 : Fld Z h31 a1 "com/example/kallimachos/kallimachos/index/Postings" "frequencies" "[I" (.ref a3) := F29.same W31
 have N31 := Fr.snoc X31 N28 g_a1
 have Z31 : n0 ≤ h31.size := Nat.le_trans Z28 (Nat.le_of_eq W31.size.symm)
 have F32 := ((F0_0.other W28 (Nat.ne_of_lt (Nat.lt_trans lt0_0 lt0_1))).other W31 (Nat.ne_of_lt (Nat.lt_trans lt0_0 lt0_1)))
 have F33 := ((F0_2.other W28 (Nat.ne_of_lt lt0_1)).other W31 (Nat.ne_of_lt lt0_1))
 have F34 := (F30.wr W31)
 have F35 := (Fw28.other W31 (Or.inr (slot_ne (Or.inr (hw _ (List.mem_of_getElem? (i := 20) rfl))) (Or.inr (hw _ (List.mem_of_getElem? (i := 22) rfl))) (by decide) (t := (.array .int)) (t' := (.array .int)) (by decide) (by decide))))
 exact k_ret X31 hx Bd.returns (hb hby d3_14) hlk (by decide) (by decide) (by rw [e31]; exact ⟨N31, ⟨rfl, F32, F33, F34, F35, Fw31, Z31⟩⟩)
theorem pd_2 : parseMethodDescriptor "([I[I)V" = some ⟨[(.array .int), (.array .int)], none⟩ := by decide +kernel
theorem d5_0 : decode prog_13_method_5_code 0 = .ok (.lconst 0, 1) := by decide +kernel
theorem d5_1 : decode prog_13_method_5_code 1 = .ok (.lstore_n 1, 1) := by decide +kernel
theorem d5_2 : decode prog_13_method_5_code 2 = .ok (.aload_n 0, 1) := by decide +kernel
theorem d5_3 : decode prog_13_method_5_code 3 = .ok (.getfield 13, 3) := by decide +kernel
theorem d5_6 : decode prog_13_method_5_code 6 = .ok (.astore_n 3, 1) := by decide +kernel
theorem d5_7 : decode prog_13_method_5_code 7 = .ok (.aload_n 3, 1) := by decide +kernel
theorem d5_8 : decode prog_13_method_5_code 8 = .ok (.arraylength, 1) := by decide +kernel
theorem d5_9 : decode prog_13_method_5_code 9 = .ok (.istore 4, 2) := by decide +kernel
theorem d5_11 : decode prog_13_method_5_code 11 = .ok (.iconst 0, 1) := by decide +kernel
theorem d5_12 : decode prog_13_method_5_code 12 = .ok (.istore 5, 2) := by decide +kernel
theorem d5_14 : decode prog_13_method_5_code 14 = .ok (.iload 5, 2) := by decide +kernel
theorem d5_16 : decode prog_13_method_5_code 16 = .ok (.iload 4, 2) := by decide +kernel
theorem d5_18 : decode prog_13_method_5_code 18 = .ok (.if_icmp .ge 21, 3) := by decide +kernel
theorem d5_39 : decode prog_13_method_5_code 39 = .ok (.lload_n 1, 1) := by decide +kernel
theorem d5_40 : decode prog_13_method_5_code 40 = .ok (.lreturn, 1) := by decide +kernel
abbrev R5_43 : Room := { frames := 0, cells := 0, slots := 0, locals := 0 }
def Q5_43 (Z : State) (a1 : Addr) (a2 : Addr) (k3 : ClassId) (a4 : Addr) (k5 : ClassId) (h0 : Heap) (n0 : Nat) (v : Option Value) (h : Heap) (L : List Loc) : Prop := Fr n0 L ∧ h = h0 ∧ ((v = some (.long (0 : Int64))))
theorem ef5_43 (m : MethodId) (x0 : Addr) : entryFrame m #[(.ref x0)] 7 = mkF m 0 #[.val (.ref x0), .unset, .unset, .unset, .unset, .unset, .unset] [] := by first | (simp [entryFrame, mkF, argsToLocals, Value.category]; done) | rfl
set_option maxRecDepth 65536 in
set_option maxHeartbeats 40000000 in
theorem rm5_43 (l : Launch) (Z : State) (a0 : Array Value) (hw : ∀ d ∈ tables_1, d.before a0 Z = true) (ws : List Jvm.Cond) (a1 : Addr) (a2 : Addr) (k3 : ClassId) (a4 : Addr) (k5 : ClassId) (h0 : Heap) (n0 : Nat) (Z0 : n0 ≤ h0.size) (F0_0 : Arv Z h0 a2 k3 .int (0 : Int32) [] (.int (0 : Int32))) (F0_1 : Arv Z h0 a4 k5 .int (0 : Int32) [] (.int (0 : Int32))) (F0_2 : Exa Z h0 a1 "com/example/kallimachos/kallimachos/index/Postings") (F0_3 : Fld Z h0 a1 "com/example/kallimachos/kallimachos/index/Postings" "documents" "[I" (.ref a2)) (F0_4 : Fld Z h0 a1 "com/example/kallimachos/kallimachos/index/Postings" "frequencies" "[I" (.ref a4)) (lt0_0 : a2 < a4) (lt0_1 : a4 < a1) :
    MetFree l (⟨"com/example/kallimachos/kallimachos/index/Postings", "collectionFrequency", "()J"⟩ : MethodName) (head1 (Jvm.Cond.code (⟨"com/example/kallimachos/kallimachos/index/Postings", "collectionFrequency", "()J"⟩ : MethodName) prog_13_method_5_code 7 (some .long) :: ws) R5_43) (fun a U => a = #[(.ref a1)] ∧ Z.Warmed39 U.vm ∧ U.heap = h0) (fun _ _ _ _ _ => True) (fun _ U o U' => ∃ v L, o = .returned v ∧ Q5_43 Z a1 a2 k3 a4 k5 h0 n0 v U'.heap L ∧ FrameEnd U o U' L R5_43.cells R5_43.slots) := by
 refine MetFree.of_bodySF (plainFor_of_name pn_1) hisR ?_
 intro p e s m args below meth c s₁ Bd hml0 hP hK
 obtain ⟨rfl, hZ, hh⟩ := hP
 have hx := Bd.exec
 have hby := Bd.bytes
 have hml : c.maxLocals = 7 := hml0
 have hlk : meth.locks = false := Bd.notSynchronized
 have hown : s.vm.findClass "com/example/kallimachos/kallimachos/index/Postings" = some m.cls := findClass_of_methodNamed Bd.named
 have hnm := (name_of_methodNamed Bd.named Bd.method).1
 have X0 : Stand p l e R5_43 s m #[(.ref a1)] below meth c s₁ [] 0 0 := Stand.of_body Bd
 have e0 : s₁.heap = h0 := by rw [← hh, Bd.state]; rfl
 have N0 := Fr.nil n0
 rw [ef5_43 m a1]
 show KEnds p e below s R5_43.cells R5_43.slots (Q5_43 Z a1 a2 k3 a4 k5 h0 n0) s₁ (mkF m 0 #[.val (.ref a1), .unset, .unset, .unset, .unset, .unset, .unset] [])
 refine k_lconst X0 hx (hb hby d5_0) (pc' := 1) rfl (z := (0 : Int64)) rfl ?_
 refine k_lstoreN X0 hx (hb hby d5_1) (Ls' := #[.val (.ref a1), .val (.long (0 : Int64)), .second, .unset, .unset, .unset, .unset]) rfl (pc' := 2) rfl ?_
 refine k_aloadN X0 hx (hb hby d5_2) rfl rfl (pc' := 3) rfl ?_
 refine k_getF X0 hx hZ hown (host := "") (Or.inl (hw _ (List.mem_of_getElem? (i := 21) rfl))) Via.refl e0 F0_4 (hb hby d5_3) (pc' := 6) rfl (fun T44 X44 e44 => ?_)
 refine k_astoreN X44 hx (hb hby d5_6) rfl (Ls' := #[.val (.ref a1), .val (.long (0 : Int64)), .second, .val (.ref a4), .unset, .unset, .unset]) rfl (pc' := 7) rfl ?_
 refine k_aloadN X44 hx (hb hby d5_7) rfl rfl (pc' := 8) rfl ?_
 refine k_alen X44 hx hZ e44 F0_1 (hb hby d5_8) (pc' := 9) rfl ?_
 refine k_istore X44 hx (hb hby d5_9) (Ls' := #[.val (.ref a1), .val (.long (0 : Int64)), .second, .val (.ref a4), .val (.int (0 : Int32)), .unset, .unset]) rfl (pc' := 11) rfl ?_
 refine k_iconst X44 hx (hb hby d5_11) (pc' := 12) rfl (z := (0 : Int32)) rfl ?_
 refine k_istore X44 hx (hb hby d5_12) (Ls' := #[.val (.ref a1), .val (.long (0 : Int64)), .second, .val (.ref a4), .val (.int (0 : Int32)), .val (.int (0 : Int32)), .unset]) rfl (pc' := 14) rfl ?_
 refine k_iload X44 hx (hb hby d5_14) rfl (pc' := 16) rfl ?_
 refine k_iload X44 hx (hb hby d5_16) rfl (pc' := 18) rfl ?_
 refine k_icmp_ge X44 hx (hb hby d5_18) (pn := 21) rfl (py := 39) (by decide) (fun _ => ?_) (fun hc => absurd hc (by decide))
 refine k_lloadN X44 hx (hb hby d5_39) rfl (pc' := 40) rfl ?_
 exact k_retL X44 hx Bd.returns (hb hby d5_40) hlk (by decide) (by decide) ⟨N0, e44, rfl⟩
theorem pd_3 : parseMethodDescriptor "()J" = some ⟨[], some .long⟩ := by decide +kernel
abbrev R3_64 : Room := { frames := 1, cells := 0, slots := 0, locals := 12 }
def Q3_64 (Z : State) (a1 : Addr) (a2 : Addr) (a3 : Addr) (k4 : ClassId) (k5 : ClassId) (p6 : Int32) (h0 : Heap) (n0 : Nat) (v : Option Value) (h : Heap) (L : List Loc) : Prop := Fr n0 L ∧ ((v = none ∧ Arv Z h a2 k4 .int (1 : Int32) [(.int (0 : Int32))] (.int (0 : Int32)) ∧ Arv Z h a3 k5 .int (1 : Int32) [(.int p6)] (.int (0 : Int32)) ∧ Exa Z h a1 "com/example/kallimachos/kallimachos/index/Postings" ∧ Fld Z h a1 "com/example/kallimachos/kallimachos/index/Postings" "documents" "[I" (.ref a2) ∧ Fld Z h a1 "com/example/kallimachos/kallimachos/index/Postings" "frequencies" "[I" (.ref a3) ∧ n0 ≤ h.size))
theorem ef3_64 (m : MethodId) (x0 : Addr) (x1 : Addr) (x2 : Addr) : entryFrame m #[(.ref x0), (.ref x1), (.ref x2)] 3 = mkF m 0 #[.val (.ref x0), .val (.ref x1), .val (.ref x2)] [] := by first | (simp [entryFrame, mkF, argsToLocals, Value.category]; done) | rfl
set_option maxRecDepth 65536 in
set_option maxHeartbeats 40000000 in
theorem rm3_64 (l : Launch) (Z : State) (a0 : Array Value) (hw : ∀ d ∈ tables_1, d.before a0 Z = true) (ws : List Jvm.Cond) (a1 : Addr) (a2 : Addr) (a3 : Addr) (k4 : ClassId) (k5 : ClassId) (p6 : Int32) (h0 : Heap) (n0 : Nat) (Z0 : n0 ≤ h0.size) (F0_0 : Arv Z h0 a2 k4 .int (1 : Int32) [(.int (0 : Int32))] (.int (0 : Int32))) (g_a2 : n0 ≤ a2) (F0_2 : Arv Z h0 a3 k5 .int (1 : Int32) [(.int p6)] (.int (0 : Int32))) (g_a3 : n0 ≤ a3) (F0_4 : Exa Z h0 a1 "com/example/kallimachos/kallimachos/index/Postings") (F0_5 : Fld Z h0 a1 "com/example/kallimachos/kallimachos/index/Postings" "documents" "[I" .null) (F0_6 : Fld Z h0 a1 "com/example/kallimachos/kallimachos/index/Postings" "frequencies" "[I" .null) (g_a1 : n0 ≤ a1) (lt0_0 : a2 < a3) (lt0_1 : a3 < a1) :
    MetFree l (⟨"com/example/kallimachos/kallimachos/index/Postings", "<init>", "([I[I)V"⟩ : MethodName) (head1 (Jvm.Cond.code (⟨"com/example/kallimachos/kallimachos/index/Postings", "<init>", "([I[I)V"⟩ : MethodName) prog_13_method_1_code 3 none :: ws) R3_64) (fun a U => a = #[(.ref a1), (.ref a2), (.ref a3)] ∧ Z.Warmed39 U.vm ∧ U.heap = h0) (fun _ _ _ _ _ => True) (fun _ U o U' => ∃ v L, o = .returned v ∧ Q3_64 Z a1 a2 a3 k4 k5 p6 h0 n0 v U'.heap L ∧ FrameEnd U o U' L R3_64.cells R3_64.slots) := by
 refine MetFree.of_bodySF (plainFor_of_name pn_1) hisR ?_
 intro p e s m args below meth c s₁ Bd hml0 hP hK
 obtain ⟨rfl, hZ, hh⟩ := hP
 have hx := Bd.exec
 have hby := Bd.bytes
 have hml : c.maxLocals = 3 := hml0
 have hlk : meth.locks = false := Bd.notSynchronized
 have hown : s.vm.findClass "com/example/kallimachos/kallimachos/index/Postings" = some m.cls := findClass_of_methodNamed Bd.named
 have hnm := (name_of_methodNamed Bd.named Bd.method).1
 have X0 : Stand p l e R3_64 s m #[(.ref a1), (.ref a2), (.ref a3)] below meth c s₁ [] 0 0 := Stand.of_body Bd
 have e0 : s₁.heap = h0 := by rw [← hh, Bd.state]; rfl
 have N0 := Fr.nil n0
 rw [ef3_64 m a1 a2 a3]
 show KEnds p e below s R3_64.cells R3_64.slots (Q3_64 Z a1 a2 a3 k4 k5 p6 h0 n0) s₁ (mkF m 0 #[.val (.ref a1), .val (.ref a2), .val (.ref a3)] [])
 refine k_aloadN X0 hx (hb hby d3_0) rfl rfl (pc' := 1) rfl ?_
 refine k_initO X0 hx hZ hown (hw _ (List.mem_of_getElem? (i := 16) rfl)) (hw _ (List.mem_of_getElem? (i := 17) rfl)) (hw _ (List.mem_of_getElem? (i := 18) rfl)) e0 (by rw [hml]; rfl) (hb hby d3_1) (by decide) (W := 0) (by decide) (by decide) (pc' := 4) rfl (fun T65 X65 e65 => ?_)
 refine k_aloadN X65 hx (hb hby d3_4) rfl rfl (pc' := 5) rfl ?_
 refine k_aloadN X65 hx (hb hby d3_5) rfl rfl (pc' := 6) rfl ?_
 refine k_putF X65 hx hZ hown (host := "") (Or.inl (hw _ (List.mem_of_getElem? (i := 19) rfl))) Via.refl e65 F0_5 F0_4 (Or.inr ⟨(hw _ (List.mem_of_getElem? (i := 20) rfl)), rfl, hnm⟩) (hw _ (List.mem_of_getElem? (i := 11) rfl)) (ty := (.array .int)) (by decide) rfl rfl (hb hby d3_6) (pc' := 9) rfl (fun T66 h66 X66 e66 W66 => ?_)
 have Fw66 : Fld Z h66 a1 "com/example/kallimachos/kallimachos/index/Postings" "documents" "[I" (.ref a2) := F0_5.same W66
 have N66 := Fr.snoc X66 N0 g_a1
 have Z66 : n0 ≤ h66.size := Nat.le_trans Z0 (Nat.le_of_eq W66.size.symm)
 refine k_aloadN X66 hx (hb hby d3_9) rfl rfl (pc' := 10) rfl ?_
 refine k_aloadN X66 hx (hb hby d3_10) rfl rfl (pc' := 11) rfl ?_
 have F67 := (F0_6.other W66 (Or.inr (slot_ne (Or.inr (hw _ (List.mem_of_getElem? (i := 22) rfl))) (Or.inr (hw _ (List.mem_of_getElem? (i := 20) rfl))) (by decide) (t := (.array .int)) (t' := (.array .int)) (by decide) (by decide))))
 have F68 := (F0_4.wr W66)
 refine k_putF X66 hx hZ hown (host := "") (Or.inl (hw _ (List.mem_of_getElem? (i := 21) rfl))) Via.refl e66 F67 F68 (Or.inr ⟨(hw _ (List.mem_of_getElem? (i := 22) rfl)), rfl, hnm⟩) (hw _ (List.mem_of_getElem? (i := 11) rfl)) (ty := (.array .int)) (by decide) rfl rfl (hb hby d3_11) (pc' := 14) rfl (fun T69 h69 X69 e69 W69 => ?_)
 have Fw69 : Fld Z h69 a1 "com/example/kallimachos/kallimachos/index/Postings" "frequencies" "[I" (.ref a3) := F67.same W69
 have N69 := Fr.snoc X69 N66 g_a1
 have Z69 : n0 ≤ h69.size := Nat.le_trans Z66 (Nat.le_of_eq W69.size.symm)
 have F70 := ((F0_0.other W66 (Nat.ne_of_lt (Nat.lt_trans lt0_0 lt0_1))).other W69 (Nat.ne_of_lt (Nat.lt_trans lt0_0 lt0_1)))
 have F71 := ((F0_2.other W66 (Nat.ne_of_lt lt0_1)).other W69 (Nat.ne_of_lt lt0_1))
 have F72 := (F68.wr W69)
 have F73 := (Fw66.other W69 (Or.inr (slot_ne (Or.inr (hw _ (List.mem_of_getElem? (i := 20) rfl))) (Or.inr (hw _ (List.mem_of_getElem? (i := 22) rfl))) (by decide) (t := (.array .int)) (t' := (.array .int)) (by decide) (by decide))))
 exact k_ret X69 hx Bd.returns (hb hby d3_14) hlk (by decide) (by decide) (by rw [e69]; exact ⟨N69, ⟨rfl, F70, F71, F72, F73, Fw69, Z69⟩⟩)
theorem d5_21 : decode prog_13_method_5_code 21 = .ok (.aload_n 3, 1) := by decide +kernel
theorem d5_22 : decode prog_13_method_5_code 22 = .ok (.iload 5, 2) := by decide +kernel
theorem d5_24 : decode prog_13_method_5_code 24 = .ok (.iaload, 1) := by decide +kernel
theorem d5_25 : decode prog_13_method_5_code 25 = .ok (.istore 6, 2) := by decide +kernel
theorem d5_27 : decode prog_13_method_5_code 27 = .ok (.lload_n 1, 1) := by decide +kernel
theorem d5_28 : decode prog_13_method_5_code 28 = .ok (.iload 6, 2) := by decide +kernel
theorem d5_30 : decode prog_13_method_5_code 30 = .ok (.i2l, 1) := by decide +kernel
theorem d5_31 : decode prog_13_method_5_code 31 = .ok (.ladd, 1) := by decide +kernel
theorem d5_32 : decode prog_13_method_5_code 32 = .ok (.lstore_n 1, 1) := by decide +kernel
theorem d5_33 : decode prog_13_method_5_code 33 = .ok (.iinc 5 1, 3) := by decide +kernel
theorem d5_36 : decode prog_13_method_5_code 36 = .ok (.goto (-22), 3) := by decide +kernel
abbrev R5_82 : Room := { frames := 0, cells := 0, slots := 0, locals := 0 }
def Q5_82 (Z : State) (a1 : Addr) (a2 : Addr) (k3 : ClassId) (a4 : Addr) (k5 : ClassId) (p6 : Int32) (h0 : Heap) (n0 : Nat) (v : Option Value) (h : Heap) (L : List Loc) : Prop := Fr n0 L ∧ h = h0 ∧ ((∃ (v84 : Int64), v84 = p6.toInt64 ∧ v = some (.long v84)))
theorem ef5_82 (m : MethodId) (x0 : Addr) : entryFrame m #[(.ref x0)] 7 = mkF m 0 #[.val (.ref x0), .unset, .unset, .unset, .unset, .unset, .unset] [] := by first | (simp [entryFrame, mkF, argsToLocals, Value.category]; done) | rfl
set_option maxRecDepth 65536 in
set_option maxHeartbeats 40000000 in
theorem rm5_82 (l : Launch) (Z : State) (a0 : Array Value) (hw : ∀ d ∈ tables_1, d.before a0 Z = true) (ws : List Jvm.Cond) (a1 : Addr) (a2 : Addr) (k3 : ClassId) (a4 : Addr) (k5 : ClassId) (p6 : Int32) (h0 : Heap) (n0 : Nat) (Z0 : n0 ≤ h0.size) (F0_0 : Arv Z h0 a2 k3 .int (1 : Int32) [(.int (0 : Int32))] (.int (0 : Int32))) (F0_1 : Arv Z h0 a4 k5 .int (1 : Int32) [(.int p6)] (.int (0 : Int32))) (F0_2 : Exa Z h0 a1 "com/example/kallimachos/kallimachos/index/Postings") (F0_3 : Fld Z h0 a1 "com/example/kallimachos/kallimachos/index/Postings" "documents" "[I" (.ref a2)) (F0_4 : Fld Z h0 a1 "com/example/kallimachos/kallimachos/index/Postings" "frequencies" "[I" (.ref a4)) (lt0_0 : a2 < a4) (lt0_1 : a4 < a1) :
    MetFree l (⟨"com/example/kallimachos/kallimachos/index/Postings", "collectionFrequency", "()J"⟩ : MethodName) (head1 (Jvm.Cond.code (⟨"com/example/kallimachos/kallimachos/index/Postings", "collectionFrequency", "()J"⟩ : MethodName) prog_13_method_5_code 7 (some .long) :: ws) R5_82) (fun a U => a = #[(.ref a1)] ∧ Z.Warmed39 U.vm ∧ U.heap = h0) (fun _ _ _ _ _ => True) (fun _ U o U' => ∃ v L, o = .returned v ∧ Q5_82 Z a1 a2 k3 a4 k5 p6 h0 n0 v U'.heap L ∧ FrameEnd U o U' L R5_82.cells R5_82.slots) := by
 refine MetFree.of_bodySF (plainFor_of_name pn_1) hisR ?_
 intro p e s m args below meth c s₁ Bd hml0 hP hK
 obtain ⟨rfl, hZ, hh⟩ := hP
 have hx := Bd.exec
 have hby := Bd.bytes
 have hml : c.maxLocals = 7 := hml0
 have hlk : meth.locks = false := Bd.notSynchronized
 have hown : s.vm.findClass "com/example/kallimachos/kallimachos/index/Postings" = some m.cls := findClass_of_methodNamed Bd.named
 have hnm := (name_of_methodNamed Bd.named Bd.method).1
 have X0 : Stand p l e R5_82 s m #[(.ref a1)] below meth c s₁ [] 0 0 := Stand.of_body Bd
 have e0 : s₁.heap = h0 := by rw [← hh, Bd.state]; rfl
 have N0 := Fr.nil n0
 rw [ef5_82 m a1]
 show KEnds p e below s R5_82.cells R5_82.slots (Q5_82 Z a1 a2 k3 a4 k5 p6 h0 n0) s₁ (mkF m 0 #[.val (.ref a1), .unset, .unset, .unset, .unset, .unset, .unset] [])
 refine k_lconst X0 hx (hb hby d5_0) (pc' := 1) rfl (z := (0 : Int64)) rfl ?_
 refine k_lstoreN X0 hx (hb hby d5_1) (Ls' := #[.val (.ref a1), .val (.long (0 : Int64)), .second, .unset, .unset, .unset, .unset]) rfl (pc' := 2) rfl ?_
 refine k_aloadN X0 hx (hb hby d5_2) rfl rfl (pc' := 3) rfl ?_
 refine k_getF X0 hx hZ hown (host := "") (Or.inl (hw _ (List.mem_of_getElem? (i := 21) rfl))) Via.refl e0 F0_4 (hb hby d5_3) (pc' := 6) rfl (fun T83 X83 e83 => ?_)
 refine k_astoreN X83 hx (hb hby d5_6) rfl (Ls' := #[.val (.ref a1), .val (.long (0 : Int64)), .second, .val (.ref a4), .unset, .unset, .unset]) rfl (pc' := 7) rfl ?_
 refine k_aloadN X83 hx (hb hby d5_7) rfl rfl (pc' := 8) rfl ?_
 refine k_alen X83 hx hZ e83 F0_1 (hb hby d5_8) (pc' := 9) rfl ?_
 refine k_istore X83 hx (hb hby d5_9) (Ls' := #[.val (.ref a1), .val (.long (0 : Int64)), .second, .val (.ref a4), .val (.int (1 : Int32)), .unset, .unset]) rfl (pc' := 11) rfl ?_
 refine k_iconst X83 hx (hb hby d5_11) (pc' := 12) rfl (z := (0 : Int32)) rfl ?_
 refine k_istore X83 hx (hb hby d5_12) (Ls' := #[.val (.ref a1), .val (.long (0 : Int64)), .second, .val (.ref a4), .val (.int (1 : Int32)), .val (.int (0 : Int32)), .unset]) rfl (pc' := 14) rfl ?_
 refine k_iload X83 hx (hb hby d5_14) rfl (pc' := 16) rfl ?_
 refine k_iload X83 hx (hb hby d5_16) rfl (pc' := 18) rfl ?_
 refine k_icmp_ge X83 hx (hb hby d5_18) (pn := 21) rfl (py := 39) (by decide) (fun hc => absurd (by decide) hc) (fun _ => ?_)
 refine k_aloadN X83 hx (hb hby d5_21) rfl rfl (pc' := 22) rfl ?_
 refine k_iload X83 hx (hb hby d5_22) rfl (pc' := 24) rfl ?_
 refine k_iaload X83 hx hZ e83 F0_1 ⟨by decide, by decide⟩ (v := (.int p6)) rfl (hb hby d5_24) (pc' := 25) rfl ?_
 refine k_istore X83 hx (hb hby d5_25) (Ls' := #[.val (.ref a1), .val (.long (0 : Int64)), .second, .val (.ref a4), .val (.int (1 : Int32)), .val (.int (0 : Int32)), .val (.int p6)]) rfl (pc' := 27) rfl ?_
 refine k_lloadN X83 hx (hb hby d5_27) rfl (pc' := 28) rfl ?_
 refine k_iload X83 hx (hb hby d5_28) rfl (pc' := 30) rfl ?_
 refine k_i2l X83 hx (hb hby d5_30) (pc' := 31) rfl (fun v84 hv84 => ?_)
 refine k_laddL X83 hx (hb hby d5_31) (pc' := 32) rfl (z := v84) (Int64.zero_add _) ?_
 refine k_lstoreN X83 hx (hb hby d5_32) (Ls' := #[.val (.ref a1), .val (.long v84), .second, .val (.ref a4), .val (.int (1 : Int32)), .val (.int (0 : Int32)), .val (.int p6)]) rfl (pc' := 33) rfl ?_
 refine k_iinc X83 hx (hb hby d5_33) rfl (pc' := 36) rfl (z := (1 : Int32)) (by decide) (Ls' := #[.val (.ref a1), .val (.long v84), .second, .val (.ref a4), .val (.int (1 : Int32)), .val (.int (1 : Int32)), .val (.int p6)]) rfl ?_
 refine k_goto X83 hx (hb hby d5_36) (pc' := 14) (by decide) ?_
 refine k_iload X83 hx (hb hby d5_14) rfl (pc' := 16) rfl ?_
 refine k_iload X83 hx (hb hby d5_16) rfl (pc' := 18) rfl ?_
 refine k_icmp_ge X83 hx (hb hby d5_18) (pn := 21) rfl (py := 39) (by decide) (fun _ => ?_) (fun hc => absurd hc (by decide))
 refine k_lloadN X83 hx (hb hby d5_39) rfl (pc' := 40) rfl ?_
 exact k_retL X83 hx Bd.returns (hb hby d5_40) hlk (by decide) (by decide) ⟨N0, e83, ⟨v84, hv84, rfl⟩⟩
abbrev R3_109 : Room := { frames := 1, cells := 0, slots := 0, locals := 12 }
def Q3_109 (Z : State) (a1 : Addr) (a2 : Addr) (a3 : Addr) (k4 : ClassId) (k5 : ClassId) (p6 : Int32) (p7 : Int32) (h0 : Heap) (n0 : Nat) (v : Option Value) (h : Heap) (L : List Loc) : Prop := Fr n0 L ∧ ((v = none ∧ Arv Z h a2 k4 .int (2 : Int32) [(.int (0 : Int32)), (.int (1 : Int32))] (.int (0 : Int32)) ∧ Arv Z h a3 k5 .int (2 : Int32) [(.int p6), (.int p7)] (.int (0 : Int32)) ∧ Exa Z h a1 "com/example/kallimachos/kallimachos/index/Postings" ∧ Fld Z h a1 "com/example/kallimachos/kallimachos/index/Postings" "documents" "[I" (.ref a2) ∧ Fld Z h a1 "com/example/kallimachos/kallimachos/index/Postings" "frequencies" "[I" (.ref a3) ∧ n0 ≤ h.size))
theorem ef3_109 (m : MethodId) (x0 : Addr) (x1 : Addr) (x2 : Addr) : entryFrame m #[(.ref x0), (.ref x1), (.ref x2)] 3 = mkF m 0 #[.val (.ref x0), .val (.ref x1), .val (.ref x2)] [] := by first | (simp [entryFrame, mkF, argsToLocals, Value.category]; done) | rfl
set_option maxRecDepth 65536 in
set_option maxHeartbeats 40000000 in
theorem rm3_109 (l : Launch) (Z : State) (a0 : Array Value) (hw : ∀ d ∈ tables_1, d.before a0 Z = true) (ws : List Jvm.Cond) (a1 : Addr) (a2 : Addr) (a3 : Addr) (k4 : ClassId) (k5 : ClassId) (p6 : Int32) (p7 : Int32) (h0 : Heap) (n0 : Nat) (Z0 : n0 ≤ h0.size) (F0_0 : Arv Z h0 a2 k4 .int (2 : Int32) [(.int (0 : Int32)), (.int (1 : Int32))] (.int (0 : Int32))) (g_a2 : n0 ≤ a2) (F0_2 : Arv Z h0 a3 k5 .int (2 : Int32) [(.int p6), (.int p7)] (.int (0 : Int32))) (g_a3 : n0 ≤ a3) (F0_4 : Exa Z h0 a1 "com/example/kallimachos/kallimachos/index/Postings") (F0_5 : Fld Z h0 a1 "com/example/kallimachos/kallimachos/index/Postings" "documents" "[I" .null) (F0_6 : Fld Z h0 a1 "com/example/kallimachos/kallimachos/index/Postings" "frequencies" "[I" .null) (g_a1 : n0 ≤ a1) (lt0_0 : a2 < a3) (lt0_1 : a3 < a1) :
    MetFree l (⟨"com/example/kallimachos/kallimachos/index/Postings", "<init>", "([I[I)V"⟩ : MethodName) (head1 (Jvm.Cond.code (⟨"com/example/kallimachos/kallimachos/index/Postings", "<init>", "([I[I)V"⟩ : MethodName) prog_13_method_1_code 3 none :: ws) R3_109) (fun a U => a = #[(.ref a1), (.ref a2), (.ref a3)] ∧ Z.Warmed39 U.vm ∧ U.heap = h0) (fun _ _ _ _ _ => True) (fun _ U o U' => ∃ v L, o = .returned v ∧ Q3_109 Z a1 a2 a3 k4 k5 p6 p7 h0 n0 v U'.heap L ∧ FrameEnd U o U' L R3_109.cells R3_109.slots) := by
 refine MetFree.of_bodySF (plainFor_of_name pn_1) hisR ?_
 intro p e s m args below meth c s₁ Bd hml0 hP hK
 obtain ⟨rfl, hZ, hh⟩ := hP
 have hx := Bd.exec
 have hby := Bd.bytes
 have hml : c.maxLocals = 3 := hml0
 have hlk : meth.locks = false := Bd.notSynchronized
 have hown : s.vm.findClass "com/example/kallimachos/kallimachos/index/Postings" = some m.cls := findClass_of_methodNamed Bd.named
 have hnm := (name_of_methodNamed Bd.named Bd.method).1
 have X0 : Stand p l e R3_109 s m #[(.ref a1), (.ref a2), (.ref a3)] below meth c s₁ [] 0 0 := Stand.of_body Bd
 have e0 : s₁.heap = h0 := by rw [← hh, Bd.state]; rfl
 have N0 := Fr.nil n0
 rw [ef3_109 m a1 a2 a3]
 show KEnds p e below s R3_109.cells R3_109.slots (Q3_109 Z a1 a2 a3 k4 k5 p6 p7 h0 n0) s₁ (mkF m 0 #[.val (.ref a1), .val (.ref a2), .val (.ref a3)] [])
 refine k_aloadN X0 hx (hb hby d3_0) rfl rfl (pc' := 1) rfl ?_
 refine k_initO X0 hx hZ hown (hw _ (List.mem_of_getElem? (i := 16) rfl)) (hw _ (List.mem_of_getElem? (i := 17) rfl)) (hw _ (List.mem_of_getElem? (i := 18) rfl)) e0 (by rw [hml]; rfl) (hb hby d3_1) (by decide) (W := 0) (by decide) (by decide) (pc' := 4) rfl (fun T110 X110 e110 => ?_)
 refine k_aloadN X110 hx (hb hby d3_4) rfl rfl (pc' := 5) rfl ?_
 refine k_aloadN X110 hx (hb hby d3_5) rfl rfl (pc' := 6) rfl ?_
 refine k_putF X110 hx hZ hown (host := "") (Or.inl (hw _ (List.mem_of_getElem? (i := 19) rfl))) Via.refl e110 F0_5 F0_4 (Or.inr ⟨(hw _ (List.mem_of_getElem? (i := 20) rfl)), rfl, hnm⟩) (hw _ (List.mem_of_getElem? (i := 11) rfl)) (ty := (.array .int)) (by decide) rfl rfl (hb hby d3_6) (pc' := 9) rfl (fun T111 h111 X111 e111 W111 => ?_)
 have Fw111 : Fld Z h111 a1 "com/example/kallimachos/kallimachos/index/Postings" "documents" "[I" (.ref a2) := F0_5.same W111
 have N111 := Fr.snoc X111 N0 g_a1
 have Z111 : n0 ≤ h111.size := Nat.le_trans Z0 (Nat.le_of_eq W111.size.symm)
 refine k_aloadN X111 hx (hb hby d3_9) rfl rfl (pc' := 10) rfl ?_
 refine k_aloadN X111 hx (hb hby d3_10) rfl rfl (pc' := 11) rfl ?_
 have F112 := (F0_6.other W111 (Or.inr (slot_ne (Or.inr (hw _ (List.mem_of_getElem? (i := 22) rfl))) (Or.inr (hw _ (List.mem_of_getElem? (i := 20) rfl))) (by decide) (t := (.array .int)) (t' := (.array .int)) (by decide) (by decide))))
 have F113 := (F0_4.wr W111)
 refine k_putF X111 hx hZ hown (host := "") (Or.inl (hw _ (List.mem_of_getElem? (i := 21) rfl))) Via.refl e111 F112 F113 (Or.inr ⟨(hw _ (List.mem_of_getElem? (i := 22) rfl)), rfl, hnm⟩) (hw _ (List.mem_of_getElem? (i := 11) rfl)) (ty := (.array .int)) (by decide) rfl rfl (hb hby d3_11) (pc' := 14) rfl (fun T114 h114 X114 e114 W114 => ?_)
 have Fw114 : Fld Z h114 a1 "com/example/kallimachos/kallimachos/index/Postings" "frequencies" "[I" (.ref a3) := F112.same W114
 have N114 := Fr.snoc X114 N111 g_a1
 have Z114 : n0 ≤ h114.size := Nat.le_trans Z111 (Nat.le_of_eq W114.size.symm)
 have F115 := ((F0_0.other W111 (Nat.ne_of_lt (Nat.lt_trans lt0_0 lt0_1))).other W114 (Nat.ne_of_lt (Nat.lt_trans lt0_0 lt0_1)))
 have F116 := ((F0_2.other W111 (Nat.ne_of_lt lt0_1)).other W114 (Nat.ne_of_lt lt0_1))
 have F117 := (F113.wr W114)
 have F118 := (Fw111.other W114 (Or.inr (slot_ne (Or.inr (hw _ (List.mem_of_getElem? (i := 20) rfl))) (Or.inr (hw _ (List.mem_of_getElem? (i := 22) rfl))) (by decide) (t := (.array .int)) (t' := (.array .int)) (by decide) (by decide))))
 exact k_ret X114 hx Bd.returns (hb hby d3_14) hlk (by decide) (by decide) (by rw [e114]; exact ⟨N114, ⟨rfl, F115, F116, F117, F118, Fw114, Z114⟩⟩)
abbrev R5_129 : Room := { frames := 0, cells := 0, slots := 0, locals := 0 }
def Q5_129 (Z : State) (a1 : Addr) (a2 : Addr) (k3 : ClassId) (a4 : Addr) (k5 : ClassId) (p6 : Int32) (p7 : Int32) (h0 : Heap) (n0 : Nat) (v : Option Value) (h : Heap) (L : List Loc) : Prop := Fr n0 L ∧ h = h0 ∧ ((∃ (v131 : Int64) (v132 : Int64) (v133 : Int64), v131 = p6.toInt64 ∧ v132 = p7.toInt64 ∧ v133 = v131 + v132 ∧ v = some (.long v133)))
theorem ef5_129 (m : MethodId) (x0 : Addr) : entryFrame m #[(.ref x0)] 7 = mkF m 0 #[.val (.ref x0), .unset, .unset, .unset, .unset, .unset, .unset] [] := by first | (simp [entryFrame, mkF, argsToLocals, Value.category]; done) | rfl
set_option maxRecDepth 65536 in
set_option maxHeartbeats 40000000 in
theorem rm5_129 (l : Launch) (Z : State) (a0 : Array Value) (hw : ∀ d ∈ tables_1, d.before a0 Z = true) (ws : List Jvm.Cond) (a1 : Addr) (a2 : Addr) (k3 : ClassId) (a4 : Addr) (k5 : ClassId) (p6 : Int32) (p7 : Int32) (h0 : Heap) (n0 : Nat) (Z0 : n0 ≤ h0.size) (F0_0 : Arv Z h0 a2 k3 .int (2 : Int32) [(.int (0 : Int32)), (.int (1 : Int32))] (.int (0 : Int32))) (F0_1 : Arv Z h0 a4 k5 .int (2 : Int32) [(.int p6), (.int p7)] (.int (0 : Int32))) (F0_2 : Exa Z h0 a1 "com/example/kallimachos/kallimachos/index/Postings") (F0_3 : Fld Z h0 a1 "com/example/kallimachos/kallimachos/index/Postings" "documents" "[I" (.ref a2)) (F0_4 : Fld Z h0 a1 "com/example/kallimachos/kallimachos/index/Postings" "frequencies" "[I" (.ref a4)) (lt0_0 : a2 < a4) (lt0_1 : a4 < a1) :
    MetFree l (⟨"com/example/kallimachos/kallimachos/index/Postings", "collectionFrequency", "()J"⟩ : MethodName) (head1 (Jvm.Cond.code (⟨"com/example/kallimachos/kallimachos/index/Postings", "collectionFrequency", "()J"⟩ : MethodName) prog_13_method_5_code 7 (some .long) :: ws) R5_129) (fun a U => a = #[(.ref a1)] ∧ Z.Warmed39 U.vm ∧ U.heap = h0) (fun _ _ _ _ _ => True) (fun _ U o U' => ∃ v L, o = .returned v ∧ Q5_129 Z a1 a2 k3 a4 k5 p6 p7 h0 n0 v U'.heap L ∧ FrameEnd U o U' L R5_129.cells R5_129.slots) := by
 refine MetFree.of_bodySF (plainFor_of_name pn_1) hisR ?_
 intro p e s m args below meth c s₁ Bd hml0 hP hK
 obtain ⟨rfl, hZ, hh⟩ := hP
 have hx := Bd.exec
 have hby := Bd.bytes
 have hml : c.maxLocals = 7 := hml0
 have hlk : meth.locks = false := Bd.notSynchronized
 have hown : s.vm.findClass "com/example/kallimachos/kallimachos/index/Postings" = some m.cls := findClass_of_methodNamed Bd.named
 have hnm := (name_of_methodNamed Bd.named Bd.method).1
 have X0 : Stand p l e R5_129 s m #[(.ref a1)] below meth c s₁ [] 0 0 := Stand.of_body Bd
 have e0 : s₁.heap = h0 := by rw [← hh, Bd.state]; rfl
 have N0 := Fr.nil n0
 rw [ef5_129 m a1]
 show KEnds p e below s R5_129.cells R5_129.slots (Q5_129 Z a1 a2 k3 a4 k5 p6 p7 h0 n0) s₁ (mkF m 0 #[.val (.ref a1), .unset, .unset, .unset, .unset, .unset, .unset] [])
 refine k_lconst X0 hx (hb hby d5_0) (pc' := 1) rfl (z := (0 : Int64)) rfl ?_
 refine k_lstoreN X0 hx (hb hby d5_1) (Ls' := #[.val (.ref a1), .val (.long (0 : Int64)), .second, .unset, .unset, .unset, .unset]) rfl (pc' := 2) rfl ?_
 refine k_aloadN X0 hx (hb hby d5_2) rfl rfl (pc' := 3) rfl ?_
 refine k_getF X0 hx hZ hown (host := "") (Or.inl (hw _ (List.mem_of_getElem? (i := 21) rfl))) Via.refl e0 F0_4 (hb hby d5_3) (pc' := 6) rfl (fun T130 X130 e130 => ?_)
 refine k_astoreN X130 hx (hb hby d5_6) rfl (Ls' := #[.val (.ref a1), .val (.long (0 : Int64)), .second, .val (.ref a4), .unset, .unset, .unset]) rfl (pc' := 7) rfl ?_
 refine k_aloadN X130 hx (hb hby d5_7) rfl rfl (pc' := 8) rfl ?_
 refine k_alen X130 hx hZ e130 F0_1 (hb hby d5_8) (pc' := 9) rfl ?_
 refine k_istore X130 hx (hb hby d5_9) (Ls' := #[.val (.ref a1), .val (.long (0 : Int64)), .second, .val (.ref a4), .val (.int (2 : Int32)), .unset, .unset]) rfl (pc' := 11) rfl ?_
 refine k_iconst X130 hx (hb hby d5_11) (pc' := 12) rfl (z := (0 : Int32)) rfl ?_
 refine k_istore X130 hx (hb hby d5_12) (Ls' := #[.val (.ref a1), .val (.long (0 : Int64)), .second, .val (.ref a4), .val (.int (2 : Int32)), .val (.int (0 : Int32)), .unset]) rfl (pc' := 14) rfl ?_
 refine k_iload X130 hx (hb hby d5_14) rfl (pc' := 16) rfl ?_
 refine k_iload X130 hx (hb hby d5_16) rfl (pc' := 18) rfl ?_
 refine k_icmp_ge X130 hx (hb hby d5_18) (pn := 21) rfl (py := 39) (by decide) (fun hc => absurd (by decide) hc) (fun _ => ?_)
 refine k_aloadN X130 hx (hb hby d5_21) rfl rfl (pc' := 22) rfl ?_
 refine k_iload X130 hx (hb hby d5_22) rfl (pc' := 24) rfl ?_
 refine k_iaload X130 hx hZ e130 F0_1 ⟨by decide, by decide⟩ (v := (.int p6)) rfl (hb hby d5_24) (pc' := 25) rfl ?_
 refine k_istore X130 hx (hb hby d5_25) (Ls' := #[.val (.ref a1), .val (.long (0 : Int64)), .second, .val (.ref a4), .val (.int (2 : Int32)), .val (.int (0 : Int32)), .val (.int p6)]) rfl (pc' := 27) rfl ?_
 refine k_lloadN X130 hx (hb hby d5_27) rfl (pc' := 28) rfl ?_
 refine k_iload X130 hx (hb hby d5_28) rfl (pc' := 30) rfl ?_
 refine k_i2l X130 hx (hb hby d5_30) (pc' := 31) rfl (fun v131 hv131 => ?_)
 refine k_laddL X130 hx (hb hby d5_31) (pc' := 32) rfl (z := v131) (Int64.zero_add _) ?_
 refine k_lstoreN X130 hx (hb hby d5_32) (Ls' := #[.val (.ref a1), .val (.long v131), .second, .val (.ref a4), .val (.int (2 : Int32)), .val (.int (0 : Int32)), .val (.int p6)]) rfl (pc' := 33) rfl ?_
 refine k_iinc X130 hx (hb hby d5_33) rfl (pc' := 36) rfl (z := (1 : Int32)) (by decide) (Ls' := #[.val (.ref a1), .val (.long v131), .second, .val (.ref a4), .val (.int (2 : Int32)), .val (.int (1 : Int32)), .val (.int p6)]) rfl ?_
 refine k_goto X130 hx (hb hby d5_36) (pc' := 14) (by decide) ?_
 refine k_iload X130 hx (hb hby d5_14) rfl (pc' := 16) rfl ?_
 refine k_iload X130 hx (hb hby d5_16) rfl (pc' := 18) rfl ?_
 refine k_icmp_ge X130 hx (hb hby d5_18) (pn := 21) rfl (py := 39) (by decide) (fun hc => absurd (by decide) hc) (fun _ => ?_)
 refine k_aloadN X130 hx (hb hby d5_21) rfl rfl (pc' := 22) rfl ?_
 refine k_iload X130 hx (hb hby d5_22) rfl (pc' := 24) rfl ?_
 refine k_iaload X130 hx hZ e130 F0_1 ⟨by decide, by decide⟩ (v := (.int p7)) rfl (hb hby d5_24) (pc' := 25) rfl ?_
 refine k_istore X130 hx (hb hby d5_25) (Ls' := #[.val (.ref a1), .val (.long v131), .second, .val (.ref a4), .val (.int (2 : Int32)), .val (.int (1 : Int32)), .val (.int p7)]) rfl (pc' := 27) rfl ?_
 refine k_lloadN X130 hx (hb hby d5_27) rfl (pc' := 28) rfl ?_
 refine k_iload X130 hx (hb hby d5_28) rfl (pc' := 30) rfl ?_
 refine k_i2l X130 hx (hb hby d5_30) (pc' := 31) rfl (fun v132 hv132 => ?_)
 refine k_ladd X130 hx (hb hby d5_31) (pc' := 32) rfl (fun v133 hv133 => ?_)
 refine k_lstoreN X130 hx (hb hby d5_32) (Ls' := #[.val (.ref a1), .val (.long v133), .second, .val (.ref a4), .val (.int (2 : Int32)), .val (.int (1 : Int32)), .val (.int p7)]) rfl (pc' := 33) rfl ?_
 refine k_iinc X130 hx (hb hby d5_33) rfl (pc' := 36) rfl (z := (2 : Int32)) (by decide) (Ls' := #[.val (.ref a1), .val (.long v133), .second, .val (.ref a4), .val (.int (2 : Int32)), .val (.int (2 : Int32)), .val (.int p7)]) rfl ?_
 refine k_goto X130 hx (hb hby d5_36) (pc' := 14) (by decide) ?_
 refine k_iload X130 hx (hb hby d5_14) rfl (pc' := 16) rfl ?_
 refine k_iload X130 hx (hb hby d5_16) rfl (pc' := 18) rfl ?_
 refine k_icmp_ge X130 hx (hb hby d5_18) (pn := 21) rfl (py := 39) (by decide) (fun _ => ?_) (fun hc => absurd hc (by decide))
 refine k_lloadN X130 hx (hb hby d5_39) rfl (pc' := 40) rfl ?_
 exact k_retL X130 hx Bd.returns (hb hby d5_40) hlk (by decide) (by decide) ⟨N0, e130, ⟨v131, v132, v133, hv131, hv132, hv133, rfl⟩⟩
abbrev R3_166 : Room := { frames := 1, cells := 0, slots := 0, locals := 12 }
def Q3_166 (Z : State) (a1 : Addr) (a2 : Addr) (a3 : Addr) (k4 : ClassId) (k5 : ClassId) (p6 : Int32) (p7 : Int32) (p8 : Int32) (h0 : Heap) (n0 : Nat) (v : Option Value) (h : Heap) (L : List Loc) : Prop := Fr n0 L ∧ ((v = none ∧ Arv Z h a2 k4 .int (3 : Int32) [(.int (0 : Int32)), (.int (1 : Int32)), (.int (2 : Int32))] (.int (0 : Int32)) ∧ Arv Z h a3 k5 .int (3 : Int32) [(.int p6), (.int p7), (.int p8)] (.int (0 : Int32)) ∧ Exa Z h a1 "com/example/kallimachos/kallimachos/index/Postings" ∧ Fld Z h a1 "com/example/kallimachos/kallimachos/index/Postings" "documents" "[I" (.ref a2) ∧ Fld Z h a1 "com/example/kallimachos/kallimachos/index/Postings" "frequencies" "[I" (.ref a3) ∧ n0 ≤ h.size))
theorem ef3_166 (m : MethodId) (x0 : Addr) (x1 : Addr) (x2 : Addr) : entryFrame m #[(.ref x0), (.ref x1), (.ref x2)] 3 = mkF m 0 #[.val (.ref x0), .val (.ref x1), .val (.ref x2)] [] := by first | (simp [entryFrame, mkF, argsToLocals, Value.category]; done) | rfl
set_option maxRecDepth 65536 in
set_option maxHeartbeats 40000000 in
theorem rm3_166 (l : Launch) (Z : State) (a0 : Array Value) (hw : ∀ d ∈ tables_1, d.before a0 Z = true) (ws : List Jvm.Cond) (a1 : Addr) (a2 : Addr) (a3 : Addr) (k4 : ClassId) (k5 : ClassId) (p6 : Int32) (p7 : Int32) (p8 : Int32) (h0 : Heap) (n0 : Nat) (Z0 : n0 ≤ h0.size) (F0_0 : Arv Z h0 a2 k4 .int (3 : Int32) [(.int (0 : Int32)), (.int (1 : Int32)), (.int (2 : Int32))] (.int (0 : Int32))) (g_a2 : n0 ≤ a2) (F0_2 : Arv Z h0 a3 k5 .int (3 : Int32) [(.int p6), (.int p7), (.int p8)] (.int (0 : Int32))) (g_a3 : n0 ≤ a3) (F0_4 : Exa Z h0 a1 "com/example/kallimachos/kallimachos/index/Postings") (F0_5 : Fld Z h0 a1 "com/example/kallimachos/kallimachos/index/Postings" "documents" "[I" .null) (F0_6 : Fld Z h0 a1 "com/example/kallimachos/kallimachos/index/Postings" "frequencies" "[I" .null) (g_a1 : n0 ≤ a1) (lt0_0 : a2 < a3) (lt0_1 : a3 < a1) :
    MetFree l (⟨"com/example/kallimachos/kallimachos/index/Postings", "<init>", "([I[I)V"⟩ : MethodName) (head1 (Jvm.Cond.code (⟨"com/example/kallimachos/kallimachos/index/Postings", "<init>", "([I[I)V"⟩ : MethodName) prog_13_method_1_code 3 none :: ws) R3_166) (fun a U => a = #[(.ref a1), (.ref a2), (.ref a3)] ∧ Z.Warmed39 U.vm ∧ U.heap = h0) (fun _ _ _ _ _ => True) (fun _ U o U' => ∃ v L, o = .returned v ∧ Q3_166 Z a1 a2 a3 k4 k5 p6 p7 p8 h0 n0 v U'.heap L ∧ FrameEnd U o U' L R3_166.cells R3_166.slots) := by
 refine MetFree.of_bodySF (plainFor_of_name pn_1) hisR ?_
 intro p e s m args below meth c s₁ Bd hml0 hP hK
 obtain ⟨rfl, hZ, hh⟩ := hP
 have hx := Bd.exec
 have hby := Bd.bytes
 have hml : c.maxLocals = 3 := hml0
 have hlk : meth.locks = false := Bd.notSynchronized
 have hown : s.vm.findClass "com/example/kallimachos/kallimachos/index/Postings" = some m.cls := findClass_of_methodNamed Bd.named
 have hnm := (name_of_methodNamed Bd.named Bd.method).1
 have X0 : Stand p l e R3_166 s m #[(.ref a1), (.ref a2), (.ref a3)] below meth c s₁ [] 0 0 := Stand.of_body Bd
 have e0 : s₁.heap = h0 := by rw [← hh, Bd.state]; rfl
 have N0 := Fr.nil n0
 rw [ef3_166 m a1 a2 a3]
 show KEnds p e below s R3_166.cells R3_166.slots (Q3_166 Z a1 a2 a3 k4 k5 p6 p7 p8 h0 n0) s₁ (mkF m 0 #[.val (.ref a1), .val (.ref a2), .val (.ref a3)] [])
 refine k_aloadN X0 hx (hb hby d3_0) rfl rfl (pc' := 1) rfl ?_
 refine k_initO X0 hx hZ hown (hw _ (List.mem_of_getElem? (i := 16) rfl)) (hw _ (List.mem_of_getElem? (i := 17) rfl)) (hw _ (List.mem_of_getElem? (i := 18) rfl)) e0 (by rw [hml]; rfl) (hb hby d3_1) (by decide) (W := 0) (by decide) (by decide) (pc' := 4) rfl (fun T167 X167 e167 => ?_)
 refine k_aloadN X167 hx (hb hby d3_4) rfl rfl (pc' := 5) rfl ?_
 refine k_aloadN X167 hx (hb hby d3_5) rfl rfl (pc' := 6) rfl ?_
 refine k_putF X167 hx hZ hown (host := "") (Or.inl (hw _ (List.mem_of_getElem? (i := 19) rfl))) Via.refl e167 F0_5 F0_4 (Or.inr ⟨(hw _ (List.mem_of_getElem? (i := 20) rfl)), rfl, hnm⟩) (hw _ (List.mem_of_getElem? (i := 11) rfl)) (ty := (.array .int)) (by decide) rfl rfl (hb hby d3_6) (pc' := 9) rfl (fun T168 h168 X168 e168 W168 => ?_)
 have Fw168 : Fld Z h168 a1 "com/example/kallimachos/kallimachos/index/Postings" "documents" "[I" (.ref a2) := F0_5.same W168
 have N168 := Fr.snoc X168 N0 g_a1
 have Z168 : n0 ≤ h168.size := Nat.le_trans Z0 (Nat.le_of_eq W168.size.symm)
 refine k_aloadN X168 hx (hb hby d3_9) rfl rfl (pc' := 10) rfl ?_
 refine k_aloadN X168 hx (hb hby d3_10) rfl rfl (pc' := 11) rfl ?_
 have F169 := (F0_6.other W168 (Or.inr (slot_ne (Or.inr (hw _ (List.mem_of_getElem? (i := 22) rfl))) (Or.inr (hw _ (List.mem_of_getElem? (i := 20) rfl))) (by decide) (t := (.array .int)) (t' := (.array .int)) (by decide) (by decide))))
 have F170 := (F0_4.wr W168)
 refine k_putF X168 hx hZ hown (host := "") (Or.inl (hw _ (List.mem_of_getElem? (i := 21) rfl))) Via.refl e168 F169 F170 (Or.inr ⟨(hw _ (List.mem_of_getElem? (i := 22) rfl)), rfl, hnm⟩) (hw _ (List.mem_of_getElem? (i := 11) rfl)) (ty := (.array .int)) (by decide) rfl rfl (hb hby d3_11) (pc' := 14) rfl (fun T171 h171 X171 e171 W171 => ?_)
 have Fw171 : Fld Z h171 a1 "com/example/kallimachos/kallimachos/index/Postings" "frequencies" "[I" (.ref a3) := F169.same W171
 have N171 := Fr.snoc X171 N168 g_a1
 have Z171 : n0 ≤ h171.size := Nat.le_trans Z168 (Nat.le_of_eq W171.size.symm)
 have F172 := ((F0_0.other W168 (Nat.ne_of_lt (Nat.lt_trans lt0_0 lt0_1))).other W171 (Nat.ne_of_lt (Nat.lt_trans lt0_0 lt0_1)))
 have F173 := ((F0_2.other W168 (Nat.ne_of_lt lt0_1)).other W171 (Nat.ne_of_lt lt0_1))
 have F174 := (F170.wr W171)
 have F175 := (Fw168.other W171 (Or.inr (slot_ne (Or.inr (hw _ (List.mem_of_getElem? (i := 20) rfl))) (Or.inr (hw _ (List.mem_of_getElem? (i := 22) rfl))) (by decide) (t := (.array .int)) (t' := (.array .int)) (by decide) (by decide))))
 exact k_ret X171 hx Bd.returns (hb hby d3_14) hlk (by decide) (by decide) (by rw [e171]; exact ⟨N171, ⟨rfl, F172, F173, F174, F175, Fw171, Z171⟩⟩)
abbrev R5_188 : Room := { frames := 0, cells := 0, slots := 0, locals := 0 }
def Q5_188 (Z : State) (a1 : Addr) (a2 : Addr) (k3 : ClassId) (a4 : Addr) (k5 : ClassId) (p6 : Int32) (p7 : Int32) (p8 : Int32) (h0 : Heap) (n0 : Nat) (v : Option Value) (h : Heap) (L : List Loc) : Prop := Fr n0 L ∧ h = h0 ∧ ((∃ (v190 : Int64) (v191 : Int64) (v192 : Int64) (v193 : Int64) (v194 : Int64), v190 = p6.toInt64 ∧ v191 = p7.toInt64 ∧ v192 = v190 + v191 ∧ v193 = p8.toInt64 ∧ v194 = v192 + v193 ∧ v = some (.long v194)))
theorem ef5_188 (m : MethodId) (x0 : Addr) : entryFrame m #[(.ref x0)] 7 = mkF m 0 #[.val (.ref x0), .unset, .unset, .unset, .unset, .unset, .unset] [] := by first | (simp [entryFrame, mkF, argsToLocals, Value.category]; done) | rfl
set_option maxRecDepth 65536 in
set_option maxHeartbeats 40000000 in
theorem rm5_188 (l : Launch) (Z : State) (a0 : Array Value) (hw : ∀ d ∈ tables_1, d.before a0 Z = true) (ws : List Jvm.Cond) (a1 : Addr) (a2 : Addr) (k3 : ClassId) (a4 : Addr) (k5 : ClassId) (p6 : Int32) (p7 : Int32) (p8 : Int32) (h0 : Heap) (n0 : Nat) (Z0 : n0 ≤ h0.size) (F0_0 : Arv Z h0 a2 k3 .int (3 : Int32) [(.int (0 : Int32)), (.int (1 : Int32)), (.int (2 : Int32))] (.int (0 : Int32))) (F0_1 : Arv Z h0 a4 k5 .int (3 : Int32) [(.int p6), (.int p7), (.int p8)] (.int (0 : Int32))) (F0_2 : Exa Z h0 a1 "com/example/kallimachos/kallimachos/index/Postings") (F0_3 : Fld Z h0 a1 "com/example/kallimachos/kallimachos/index/Postings" "documents" "[I" (.ref a2)) (F0_4 : Fld Z h0 a1 "com/example/kallimachos/kallimachos/index/Postings" "frequencies" "[I" (.ref a4)) (lt0_0 : a2 < a4) (lt0_1 : a4 < a1) :
    MetFree l (⟨"com/example/kallimachos/kallimachos/index/Postings", "collectionFrequency", "()J"⟩ : MethodName) (head1 (Jvm.Cond.code (⟨"com/example/kallimachos/kallimachos/index/Postings", "collectionFrequency", "()J"⟩ : MethodName) prog_13_method_5_code 7 (some .long) :: ws) R5_188) (fun a U => a = #[(.ref a1)] ∧ Z.Warmed39 U.vm ∧ U.heap = h0) (fun _ _ _ _ _ => True) (fun _ U o U' => ∃ v L, o = .returned v ∧ Q5_188 Z a1 a2 k3 a4 k5 p6 p7 p8 h0 n0 v U'.heap L ∧ FrameEnd U o U' L R5_188.cells R5_188.slots) := by
 refine MetFree.of_bodySF (plainFor_of_name pn_1) hisR ?_
 intro p e s m args below meth c s₁ Bd hml0 hP hK
 obtain ⟨rfl, hZ, hh⟩ := hP
 have hx := Bd.exec
 have hby := Bd.bytes
 have hml : c.maxLocals = 7 := hml0
 have hlk : meth.locks = false := Bd.notSynchronized
 have hown : s.vm.findClass "com/example/kallimachos/kallimachos/index/Postings" = some m.cls := findClass_of_methodNamed Bd.named
 have hnm := (name_of_methodNamed Bd.named Bd.method).1
 have X0 : Stand p l e R5_188 s m #[(.ref a1)] below meth c s₁ [] 0 0 := Stand.of_body Bd
 have e0 : s₁.heap = h0 := by rw [← hh, Bd.state]; rfl
 have N0 := Fr.nil n0
 rw [ef5_188 m a1]
 show KEnds p e below s R5_188.cells R5_188.slots (Q5_188 Z a1 a2 k3 a4 k5 p6 p7 p8 h0 n0) s₁ (mkF m 0 #[.val (.ref a1), .unset, .unset, .unset, .unset, .unset, .unset] [])
 refine k_lconst X0 hx (hb hby d5_0) (pc' := 1) rfl (z := (0 : Int64)) rfl ?_
 refine k_lstoreN X0 hx (hb hby d5_1) (Ls' := #[.val (.ref a1), .val (.long (0 : Int64)), .second, .unset, .unset, .unset, .unset]) rfl (pc' := 2) rfl ?_
 refine k_aloadN X0 hx (hb hby d5_2) rfl rfl (pc' := 3) rfl ?_
 refine k_getF X0 hx hZ hown (host := "") (Or.inl (hw _ (List.mem_of_getElem? (i := 21) rfl))) Via.refl e0 F0_4 (hb hby d5_3) (pc' := 6) rfl (fun T189 X189 e189 => ?_)
 refine k_astoreN X189 hx (hb hby d5_6) rfl (Ls' := #[.val (.ref a1), .val (.long (0 : Int64)), .second, .val (.ref a4), .unset, .unset, .unset]) rfl (pc' := 7) rfl ?_
 refine k_aloadN X189 hx (hb hby d5_7) rfl rfl (pc' := 8) rfl ?_
 refine k_alen X189 hx hZ e189 F0_1 (hb hby d5_8) (pc' := 9) rfl ?_
 refine k_istore X189 hx (hb hby d5_9) (Ls' := #[.val (.ref a1), .val (.long (0 : Int64)), .second, .val (.ref a4), .val (.int (3 : Int32)), .unset, .unset]) rfl (pc' := 11) rfl ?_
 refine k_iconst X189 hx (hb hby d5_11) (pc' := 12) rfl (z := (0 : Int32)) rfl ?_
 refine k_istore X189 hx (hb hby d5_12) (Ls' := #[.val (.ref a1), .val (.long (0 : Int64)), .second, .val (.ref a4), .val (.int (3 : Int32)), .val (.int (0 : Int32)), .unset]) rfl (pc' := 14) rfl ?_
 refine k_iload X189 hx (hb hby d5_14) rfl (pc' := 16) rfl ?_
 refine k_iload X189 hx (hb hby d5_16) rfl (pc' := 18) rfl ?_
 refine k_icmp_ge X189 hx (hb hby d5_18) (pn := 21) rfl (py := 39) (by decide) (fun hc => absurd (by decide) hc) (fun _ => ?_)
 refine k_aloadN X189 hx (hb hby d5_21) rfl rfl (pc' := 22) rfl ?_
 refine k_iload X189 hx (hb hby d5_22) rfl (pc' := 24) rfl ?_
 refine k_iaload X189 hx hZ e189 F0_1 ⟨by decide, by decide⟩ (v := (.int p6)) rfl (hb hby d5_24) (pc' := 25) rfl ?_
 refine k_istore X189 hx (hb hby d5_25) (Ls' := #[.val (.ref a1), .val (.long (0 : Int64)), .second, .val (.ref a4), .val (.int (3 : Int32)), .val (.int (0 : Int32)), .val (.int p6)]) rfl (pc' := 27) rfl ?_
 refine k_lloadN X189 hx (hb hby d5_27) rfl (pc' := 28) rfl ?_
 refine k_iload X189 hx (hb hby d5_28) rfl (pc' := 30) rfl ?_
 refine k_i2l X189 hx (hb hby d5_30) (pc' := 31) rfl (fun v190 hv190 => ?_)
 refine k_laddL X189 hx (hb hby d5_31) (pc' := 32) rfl (z := v190) (Int64.zero_add _) ?_
 refine k_lstoreN X189 hx (hb hby d5_32) (Ls' := #[.val (.ref a1), .val (.long v190), .second, .val (.ref a4), .val (.int (3 : Int32)), .val (.int (0 : Int32)), .val (.int p6)]) rfl (pc' := 33) rfl ?_
 refine k_iinc X189 hx (hb hby d5_33) rfl (pc' := 36) rfl (z := (1 : Int32)) (by decide) (Ls' := #[.val (.ref a1), .val (.long v190), .second, .val (.ref a4), .val (.int (3 : Int32)), .val (.int (1 : Int32)), .val (.int p6)]) rfl ?_
 refine k_goto X189 hx (hb hby d5_36) (pc' := 14) (by decide) ?_
 refine k_iload X189 hx (hb hby d5_14) rfl (pc' := 16) rfl ?_
 refine k_iload X189 hx (hb hby d5_16) rfl (pc' := 18) rfl ?_
 refine k_icmp_ge X189 hx (hb hby d5_18) (pn := 21) rfl (py := 39) (by decide) (fun hc => absurd (by decide) hc) (fun _ => ?_)
 refine k_aloadN X189 hx (hb hby d5_21) rfl rfl (pc' := 22) rfl ?_
 refine k_iload X189 hx (hb hby d5_22) rfl (pc' := 24) rfl ?_
 refine k_iaload X189 hx hZ e189 F0_1 ⟨by decide, by decide⟩ (v := (.int p7)) rfl (hb hby d5_24) (pc' := 25) rfl ?_
 refine k_istore X189 hx (hb hby d5_25) (Ls' := #[.val (.ref a1), .val (.long v190), .second, .val (.ref a4), .val (.int (3 : Int32)), .val (.int (1 : Int32)), .val (.int p7)]) rfl (pc' := 27) rfl ?_
 refine k_lloadN X189 hx (hb hby d5_27) rfl (pc' := 28) rfl ?_
 refine k_iload X189 hx (hb hby d5_28) rfl (pc' := 30) rfl ?_
 refine k_i2l X189 hx (hb hby d5_30) (pc' := 31) rfl (fun v191 hv191 => ?_)
 refine k_ladd X189 hx (hb hby d5_31) (pc' := 32) rfl (fun v192 hv192 => ?_)
 refine k_lstoreN X189 hx (hb hby d5_32) (Ls' := #[.val (.ref a1), .val (.long v192), .second, .val (.ref a4), .val (.int (3 : Int32)), .val (.int (1 : Int32)), .val (.int p7)]) rfl (pc' := 33) rfl ?_
 refine k_iinc X189 hx (hb hby d5_33) rfl (pc' := 36) rfl (z := (2 : Int32)) (by decide) (Ls' := #[.val (.ref a1), .val (.long v192), .second, .val (.ref a4), .val (.int (3 : Int32)), .val (.int (2 : Int32)), .val (.int p7)]) rfl ?_
 refine k_goto X189 hx (hb hby d5_36) (pc' := 14) (by decide) ?_
 refine k_iload X189 hx (hb hby d5_14) rfl (pc' := 16) rfl ?_
 refine k_iload X189 hx (hb hby d5_16) rfl (pc' := 18) rfl ?_
 refine k_icmp_ge X189 hx (hb hby d5_18) (pn := 21) rfl (py := 39) (by decide) (fun hc => absurd (by decide) hc) (fun _ => ?_)
 refine k_aloadN X189 hx (hb hby d5_21) rfl rfl (pc' := 22) rfl ?_
 refine k_iload X189 hx (hb hby d5_22) rfl (pc' := 24) rfl ?_
 refine k_iaload X189 hx hZ e189 F0_1 ⟨by decide, by decide⟩ (v := (.int p8)) rfl (hb hby d5_24) (pc' := 25) rfl ?_
 refine k_istore X189 hx (hb hby d5_25) (Ls' := #[.val (.ref a1), .val (.long v192), .second, .val (.ref a4), .val (.int (3 : Int32)), .val (.int (2 : Int32)), .val (.int p8)]) rfl (pc' := 27) rfl ?_
 refine k_lloadN X189 hx (hb hby d5_27) rfl (pc' := 28) rfl ?_
 refine k_iload X189 hx (hb hby d5_28) rfl (pc' := 30) rfl ?_
 refine k_i2l X189 hx (hb hby d5_30) (pc' := 31) rfl (fun v193 hv193 => ?_)
 refine k_ladd X189 hx (hb hby d5_31) (pc' := 32) rfl (fun v194 hv194 => ?_)
 refine k_lstoreN X189 hx (hb hby d5_32) (Ls' := #[.val (.ref a1), .val (.long v194), .second, .val (.ref a4), .val (.int (3 : Int32)), .val (.int (2 : Int32)), .val (.int p8)]) rfl (pc' := 33) rfl ?_
 refine k_iinc X189 hx (hb hby d5_33) rfl (pc' := 36) rfl (z := (3 : Int32)) (by decide) (Ls' := #[.val (.ref a1), .val (.long v194), .second, .val (.ref a4), .val (.int (3 : Int32)), .val (.int (3 : Int32)), .val (.int p8)]) rfl ?_
 refine k_goto X189 hx (hb hby d5_36) (pc' := 14) (by decide) ?_
 refine k_iload X189 hx (hb hby d5_14) rfl (pc' := 16) rfl ?_
 refine k_iload X189 hx (hb hby d5_16) rfl (pc' := 18) rfl ?_
 refine k_icmp_ge X189 hx (hb hby d5_18) (pn := 21) rfl (py := 39) (by decide) (fun _ => ?_) (fun hc => absurd hc (by decide))
 refine k_lloadN X189 hx (hb hby d5_39) rfl (pc' := 40) rfl ?_
 exact k_retL X189 hx Bd.returns (hb hby d5_40) hlk (by decide) (by decide) ⟨N0, e189, ⟨v190, v191, v192, v193, v194, hv190, hv191, hv192, hv193, hv194, rfl⟩⟩
abbrev R3_235 : Room := { frames := 1, cells := 0, slots := 0, locals := 12 }
def Q3_235 (Z : State) (a1 : Addr) (a2 : Addr) (a3 : Addr) (k4 : ClassId) (k5 : ClassId) (p6 : Int32) (p7 : Int32) (p8 : Int32) (p9 : Int32) (h0 : Heap) (n0 : Nat) (v : Option Value) (h : Heap) (L : List Loc) : Prop := Fr n0 L ∧ ((v = none ∧ Arv Z h a2 k4 .int (4 : Int32) [(.int (0 : Int32)), (.int (1 : Int32)), (.int (2 : Int32)), (.int (3 : Int32))] (.int (0 : Int32)) ∧ Arv Z h a3 k5 .int (4 : Int32) [(.int p6), (.int p7), (.int p8), (.int p9)] (.int (0 : Int32)) ∧ Exa Z h a1 "com/example/kallimachos/kallimachos/index/Postings" ∧ Fld Z h a1 "com/example/kallimachos/kallimachos/index/Postings" "documents" "[I" (.ref a2) ∧ Fld Z h a1 "com/example/kallimachos/kallimachos/index/Postings" "frequencies" "[I" (.ref a3) ∧ n0 ≤ h.size))
theorem ef3_235 (m : MethodId) (x0 : Addr) (x1 : Addr) (x2 : Addr) : entryFrame m #[(.ref x0), (.ref x1), (.ref x2)] 3 = mkF m 0 #[.val (.ref x0), .val (.ref x1), .val (.ref x2)] [] := by first | (simp [entryFrame, mkF, argsToLocals, Value.category]; done) | rfl
set_option maxRecDepth 65536 in
set_option maxHeartbeats 40000000 in
theorem rm3_235 (l : Launch) (Z : State) (a0 : Array Value) (hw : ∀ d ∈ tables_1, d.before a0 Z = true) (ws : List Jvm.Cond) (a1 : Addr) (a2 : Addr) (a3 : Addr) (k4 : ClassId) (k5 : ClassId) (p6 : Int32) (p7 : Int32) (p8 : Int32) (p9 : Int32) (h0 : Heap) (n0 : Nat) (Z0 : n0 ≤ h0.size) (F0_0 : Arv Z h0 a2 k4 .int (4 : Int32) [(.int (0 : Int32)), (.int (1 : Int32)), (.int (2 : Int32)), (.int (3 : Int32))] (.int (0 : Int32))) (g_a2 : n0 ≤ a2) (F0_2 : Arv Z h0 a3 k5 .int (4 : Int32) [(.int p6), (.int p7), (.int p8), (.int p9)] (.int (0 : Int32))) (g_a3 : n0 ≤ a3) (F0_4 : Exa Z h0 a1 "com/example/kallimachos/kallimachos/index/Postings") (F0_5 : Fld Z h0 a1 "com/example/kallimachos/kallimachos/index/Postings" "documents" "[I" .null) (F0_6 : Fld Z h0 a1 "com/example/kallimachos/kallimachos/index/Postings" "frequencies" "[I" .null) (g_a1 : n0 ≤ a1) (lt0_0 : a2 < a3) (lt0_1 : a3 < a1) :
    MetFree l (⟨"com/example/kallimachos/kallimachos/index/Postings", "<init>", "([I[I)V"⟩ : MethodName) (head1 (Jvm.Cond.code (⟨"com/example/kallimachos/kallimachos/index/Postings", "<init>", "([I[I)V"⟩ : MethodName) prog_13_method_1_code 3 none :: ws) R3_235) (fun a U => a = #[(.ref a1), (.ref a2), (.ref a3)] ∧ Z.Warmed39 U.vm ∧ U.heap = h0) (fun _ _ _ _ _ => True) (fun _ U o U' => ∃ v L, o = .returned v ∧ Q3_235 Z a1 a2 a3 k4 k5 p6 p7 p8 p9 h0 n0 v U'.heap L ∧ FrameEnd U o U' L R3_235.cells R3_235.slots) := by
 refine MetFree.of_bodySF (plainFor_of_name pn_1) hisR ?_
 intro p e s m args below meth c s₁ Bd hml0 hP hK
 obtain ⟨rfl, hZ, hh⟩ := hP
 have hx := Bd.exec
 have hby := Bd.bytes
 have hml : c.maxLocals = 3 := hml0
 have hlk : meth.locks = false := Bd.notSynchronized
 have hown : s.vm.findClass "com/example/kallimachos/kallimachos/index/Postings" = some m.cls := findClass_of_methodNamed Bd.named
 have hnm := (name_of_methodNamed Bd.named Bd.method).1
 have X0 : Stand p l e R3_235 s m #[(.ref a1), (.ref a2), (.ref a3)] below meth c s₁ [] 0 0 := Stand.of_body Bd
 have e0 : s₁.heap = h0 := by rw [← hh, Bd.state]; rfl
 have N0 := Fr.nil n0
 rw [ef3_235 m a1 a2 a3]
 show KEnds p e below s R3_235.cells R3_235.slots (Q3_235 Z a1 a2 a3 k4 k5 p6 p7 p8 p9 h0 n0) s₁ (mkF m 0 #[.val (.ref a1), .val (.ref a2), .val (.ref a3)] [])
 refine k_aloadN X0 hx (hb hby d3_0) rfl rfl (pc' := 1) rfl ?_
 refine k_initO X0 hx hZ hown (hw _ (List.mem_of_getElem? (i := 16) rfl)) (hw _ (List.mem_of_getElem? (i := 17) rfl)) (hw _ (List.mem_of_getElem? (i := 18) rfl)) e0 (by rw [hml]; rfl) (hb hby d3_1) (by decide) (W := 0) (by decide) (by decide) (pc' := 4) rfl (fun T236 X236 e236 => ?_)
 refine k_aloadN X236 hx (hb hby d3_4) rfl rfl (pc' := 5) rfl ?_
 refine k_aloadN X236 hx (hb hby d3_5) rfl rfl (pc' := 6) rfl ?_
 refine k_putF X236 hx hZ hown (host := "") (Or.inl (hw _ (List.mem_of_getElem? (i := 19) rfl))) Via.refl e236 F0_5 F0_4 (Or.inr ⟨(hw _ (List.mem_of_getElem? (i := 20) rfl)), rfl, hnm⟩) (hw _ (List.mem_of_getElem? (i := 11) rfl)) (ty := (.array .int)) (by decide) rfl rfl (hb hby d3_6) (pc' := 9) rfl (fun T237 h237 X237 e237 W237 => ?_)
 have Fw237 : Fld Z h237 a1 "com/example/kallimachos/kallimachos/index/Postings" "documents" "[I" (.ref a2) := F0_5.same W237
 have N237 := Fr.snoc X237 N0 g_a1
 have Z237 : n0 ≤ h237.size := Nat.le_trans Z0 (Nat.le_of_eq W237.size.symm)
 refine k_aloadN X237 hx (hb hby d3_9) rfl rfl (pc' := 10) rfl ?_
 refine k_aloadN X237 hx (hb hby d3_10) rfl rfl (pc' := 11) rfl ?_
 have F238 := (F0_6.other W237 (Or.inr (slot_ne (Or.inr (hw _ (List.mem_of_getElem? (i := 22) rfl))) (Or.inr (hw _ (List.mem_of_getElem? (i := 20) rfl))) (by decide) (t := (.array .int)) (t' := (.array .int)) (by decide) (by decide))))
 have F239 := (F0_4.wr W237)
 refine k_putF X237 hx hZ hown (host := "") (Or.inl (hw _ (List.mem_of_getElem? (i := 21) rfl))) Via.refl e237 F238 F239 (Or.inr ⟨(hw _ (List.mem_of_getElem? (i := 22) rfl)), rfl, hnm⟩) (hw _ (List.mem_of_getElem? (i := 11) rfl)) (ty := (.array .int)) (by decide) rfl rfl (hb hby d3_11) (pc' := 14) rfl (fun T240 h240 X240 e240 W240 => ?_)
 have Fw240 : Fld Z h240 a1 "com/example/kallimachos/kallimachos/index/Postings" "frequencies" "[I" (.ref a3) := F238.same W240
 have N240 := Fr.snoc X240 N237 g_a1
 have Z240 : n0 ≤ h240.size := Nat.le_trans Z237 (Nat.le_of_eq W240.size.symm)
 have F241 := ((F0_0.other W237 (Nat.ne_of_lt (Nat.lt_trans lt0_0 lt0_1))).other W240 (Nat.ne_of_lt (Nat.lt_trans lt0_0 lt0_1)))
 have F242 := ((F0_2.other W237 (Nat.ne_of_lt lt0_1)).other W240 (Nat.ne_of_lt lt0_1))
 have F243 := (F239.wr W240)
 have F244 := (Fw237.other W240 (Or.inr (slot_ne (Or.inr (hw _ (List.mem_of_getElem? (i := 20) rfl))) (Or.inr (hw _ (List.mem_of_getElem? (i := 22) rfl))) (by decide) (t := (.array .int)) (t' := (.array .int)) (by decide) (by decide))))
 exact k_ret X240 hx Bd.returns (hb hby d3_14) hlk (by decide) (by decide) (by rw [e240]; exact ⟨N240, ⟨rfl, F241, F242, F243, F244, Fw240, Z240⟩⟩)
abbrev R5_259 : Room := { frames := 0, cells := 0, slots := 0, locals := 0 }
def Q5_259 (Z : State) (a1 : Addr) (a2 : Addr) (k3 : ClassId) (a4 : Addr) (k5 : ClassId) (p6 : Int32) (p7 : Int32) (p8 : Int32) (p9 : Int32) (h0 : Heap) (n0 : Nat) (v : Option Value) (h : Heap) (L : List Loc) : Prop := Fr n0 L ∧ h = h0 ∧ ((∃ (v261 : Int64) (v262 : Int64) (v263 : Int64) (v264 : Int64) (v265 : Int64) (v266 : Int64) (v267 : Int64), v261 = p6.toInt64 ∧ v262 = p7.toInt64 ∧ v263 = v261 + v262 ∧ v264 = p8.toInt64 ∧ v265 = v263 + v264 ∧ v266 = p9.toInt64 ∧ v267 = v265 + v266 ∧ v = some (.long v267)))
theorem ef5_259 (m : MethodId) (x0 : Addr) : entryFrame m #[(.ref x0)] 7 = mkF m 0 #[.val (.ref x0), .unset, .unset, .unset, .unset, .unset, .unset] [] := by first | (simp [entryFrame, mkF, argsToLocals, Value.category]; done) | rfl
set_option maxRecDepth 65536 in
set_option maxHeartbeats 40000000 in
theorem rm5_259 (l : Launch) (Z : State) (a0 : Array Value) (hw : ∀ d ∈ tables_1, d.before a0 Z = true) (ws : List Jvm.Cond) (a1 : Addr) (a2 : Addr) (k3 : ClassId) (a4 : Addr) (k5 : ClassId) (p6 : Int32) (p7 : Int32) (p8 : Int32) (p9 : Int32) (h0 : Heap) (n0 : Nat) (Z0 : n0 ≤ h0.size) (F0_0 : Arv Z h0 a2 k3 .int (4 : Int32) [(.int (0 : Int32)), (.int (1 : Int32)), (.int (2 : Int32)), (.int (3 : Int32))] (.int (0 : Int32))) (F0_1 : Arv Z h0 a4 k5 .int (4 : Int32) [(.int p6), (.int p7), (.int p8), (.int p9)] (.int (0 : Int32))) (F0_2 : Exa Z h0 a1 "com/example/kallimachos/kallimachos/index/Postings") (F0_3 : Fld Z h0 a1 "com/example/kallimachos/kallimachos/index/Postings" "documents" "[I" (.ref a2)) (F0_4 : Fld Z h0 a1 "com/example/kallimachos/kallimachos/index/Postings" "frequencies" "[I" (.ref a4)) (lt0_0 : a2 < a4) (lt0_1 : a4 < a1) :
    MetFree l (⟨"com/example/kallimachos/kallimachos/index/Postings", "collectionFrequency", "()J"⟩ : MethodName) (head1 (Jvm.Cond.code (⟨"com/example/kallimachos/kallimachos/index/Postings", "collectionFrequency", "()J"⟩ : MethodName) prog_13_method_5_code 7 (some .long) :: ws) R5_259) (fun a U => a = #[(.ref a1)] ∧ Z.Warmed39 U.vm ∧ U.heap = h0) (fun _ _ _ _ _ => True) (fun _ U o U' => ∃ v L, o = .returned v ∧ Q5_259 Z a1 a2 k3 a4 k5 p6 p7 p8 p9 h0 n0 v U'.heap L ∧ FrameEnd U o U' L R5_259.cells R5_259.slots) := by
 refine MetFree.of_bodySF (plainFor_of_name pn_1) hisR ?_
 intro p e s m args below meth c s₁ Bd hml0 hP hK
 obtain ⟨rfl, hZ, hh⟩ := hP
 have hx := Bd.exec
 have hby := Bd.bytes
 have hml : c.maxLocals = 7 := hml0
 have hlk : meth.locks = false := Bd.notSynchronized
 have hown : s.vm.findClass "com/example/kallimachos/kallimachos/index/Postings" = some m.cls := findClass_of_methodNamed Bd.named
 have hnm := (name_of_methodNamed Bd.named Bd.method).1
 have X0 : Stand p l e R5_259 s m #[(.ref a1)] below meth c s₁ [] 0 0 := Stand.of_body Bd
 have e0 : s₁.heap = h0 := by rw [← hh, Bd.state]; rfl
 have N0 := Fr.nil n0
 rw [ef5_259 m a1]
 show KEnds p e below s R5_259.cells R5_259.slots (Q5_259 Z a1 a2 k3 a4 k5 p6 p7 p8 p9 h0 n0) s₁ (mkF m 0 #[.val (.ref a1), .unset, .unset, .unset, .unset, .unset, .unset] [])
 refine k_lconst X0 hx (hb hby d5_0) (pc' := 1) rfl (z := (0 : Int64)) rfl ?_
 refine k_lstoreN X0 hx (hb hby d5_1) (Ls' := #[.val (.ref a1), .val (.long (0 : Int64)), .second, .unset, .unset, .unset, .unset]) rfl (pc' := 2) rfl ?_
 refine k_aloadN X0 hx (hb hby d5_2) rfl rfl (pc' := 3) rfl ?_
 refine k_getF X0 hx hZ hown (host := "") (Or.inl (hw _ (List.mem_of_getElem? (i := 21) rfl))) Via.refl e0 F0_4 (hb hby d5_3) (pc' := 6) rfl (fun T260 X260 e260 => ?_)
 refine k_astoreN X260 hx (hb hby d5_6) rfl (Ls' := #[.val (.ref a1), .val (.long (0 : Int64)), .second, .val (.ref a4), .unset, .unset, .unset]) rfl (pc' := 7) rfl ?_
 refine k_aloadN X260 hx (hb hby d5_7) rfl rfl (pc' := 8) rfl ?_
 refine k_alen X260 hx hZ e260 F0_1 (hb hby d5_8) (pc' := 9) rfl ?_
 refine k_istore X260 hx (hb hby d5_9) (Ls' := #[.val (.ref a1), .val (.long (0 : Int64)), .second, .val (.ref a4), .val (.int (4 : Int32)), .unset, .unset]) rfl (pc' := 11) rfl ?_
 refine k_iconst X260 hx (hb hby d5_11) (pc' := 12) rfl (z := (0 : Int32)) rfl ?_
 refine k_istore X260 hx (hb hby d5_12) (Ls' := #[.val (.ref a1), .val (.long (0 : Int64)), .second, .val (.ref a4), .val (.int (4 : Int32)), .val (.int (0 : Int32)), .unset]) rfl (pc' := 14) rfl ?_
 refine k_iload X260 hx (hb hby d5_14) rfl (pc' := 16) rfl ?_
 refine k_iload X260 hx (hb hby d5_16) rfl (pc' := 18) rfl ?_
 refine k_icmp_ge X260 hx (hb hby d5_18) (pn := 21) rfl (py := 39) (by decide) (fun hc => absurd (by decide) hc) (fun _ => ?_)
 refine k_aloadN X260 hx (hb hby d5_21) rfl rfl (pc' := 22) rfl ?_
 refine k_iload X260 hx (hb hby d5_22) rfl (pc' := 24) rfl ?_
 refine k_iaload X260 hx hZ e260 F0_1 ⟨by decide, by decide⟩ (v := (.int p6)) rfl (hb hby d5_24) (pc' := 25) rfl ?_
 refine k_istore X260 hx (hb hby d5_25) (Ls' := #[.val (.ref a1), .val (.long (0 : Int64)), .second, .val (.ref a4), .val (.int (4 : Int32)), .val (.int (0 : Int32)), .val (.int p6)]) rfl (pc' := 27) rfl ?_
 refine k_lloadN X260 hx (hb hby d5_27) rfl (pc' := 28) rfl ?_
 refine k_iload X260 hx (hb hby d5_28) rfl (pc' := 30) rfl ?_
 refine k_i2l X260 hx (hb hby d5_30) (pc' := 31) rfl (fun v261 hv261 => ?_)
 refine k_laddL X260 hx (hb hby d5_31) (pc' := 32) rfl (z := v261) (Int64.zero_add _) ?_
 refine k_lstoreN X260 hx (hb hby d5_32) (Ls' := #[.val (.ref a1), .val (.long v261), .second, .val (.ref a4), .val (.int (4 : Int32)), .val (.int (0 : Int32)), .val (.int p6)]) rfl (pc' := 33) rfl ?_
 refine k_iinc X260 hx (hb hby d5_33) rfl (pc' := 36) rfl (z := (1 : Int32)) (by decide) (Ls' := #[.val (.ref a1), .val (.long v261), .second, .val (.ref a4), .val (.int (4 : Int32)), .val (.int (1 : Int32)), .val (.int p6)]) rfl ?_
 refine k_goto X260 hx (hb hby d5_36) (pc' := 14) (by decide) ?_
 refine k_iload X260 hx (hb hby d5_14) rfl (pc' := 16) rfl ?_
 refine k_iload X260 hx (hb hby d5_16) rfl (pc' := 18) rfl ?_
 refine k_icmp_ge X260 hx (hb hby d5_18) (pn := 21) rfl (py := 39) (by decide) (fun hc => absurd (by decide) hc) (fun _ => ?_)
 refine k_aloadN X260 hx (hb hby d5_21) rfl rfl (pc' := 22) rfl ?_
 refine k_iload X260 hx (hb hby d5_22) rfl (pc' := 24) rfl ?_
 refine k_iaload X260 hx hZ e260 F0_1 ⟨by decide, by decide⟩ (v := (.int p7)) rfl (hb hby d5_24) (pc' := 25) rfl ?_
 refine k_istore X260 hx (hb hby d5_25) (Ls' := #[.val (.ref a1), .val (.long v261), .second, .val (.ref a4), .val (.int (4 : Int32)), .val (.int (1 : Int32)), .val (.int p7)]) rfl (pc' := 27) rfl ?_
 refine k_lloadN X260 hx (hb hby d5_27) rfl (pc' := 28) rfl ?_
 refine k_iload X260 hx (hb hby d5_28) rfl (pc' := 30) rfl ?_
 refine k_i2l X260 hx (hb hby d5_30) (pc' := 31) rfl (fun v262 hv262 => ?_)
 refine k_ladd X260 hx (hb hby d5_31) (pc' := 32) rfl (fun v263 hv263 => ?_)
 refine k_lstoreN X260 hx (hb hby d5_32) (Ls' := #[.val (.ref a1), .val (.long v263), .second, .val (.ref a4), .val (.int (4 : Int32)), .val (.int (1 : Int32)), .val (.int p7)]) rfl (pc' := 33) rfl ?_
 refine k_iinc X260 hx (hb hby d5_33) rfl (pc' := 36) rfl (z := (2 : Int32)) (by decide) (Ls' := #[.val (.ref a1), .val (.long v263), .second, .val (.ref a4), .val (.int (4 : Int32)), .val (.int (2 : Int32)), .val (.int p7)]) rfl ?_
 refine k_goto X260 hx (hb hby d5_36) (pc' := 14) (by decide) ?_
 refine k_iload X260 hx (hb hby d5_14) rfl (pc' := 16) rfl ?_
 refine k_iload X260 hx (hb hby d5_16) rfl (pc' := 18) rfl ?_
 refine k_icmp_ge X260 hx (hb hby d5_18) (pn := 21) rfl (py := 39) (by decide) (fun hc => absurd (by decide) hc) (fun _ => ?_)
 refine k_aloadN X260 hx (hb hby d5_21) rfl rfl (pc' := 22) rfl ?_
 refine k_iload X260 hx (hb hby d5_22) rfl (pc' := 24) rfl ?_
 refine k_iaload X260 hx hZ e260 F0_1 ⟨by decide, by decide⟩ (v := (.int p8)) rfl (hb hby d5_24) (pc' := 25) rfl ?_
 refine k_istore X260 hx (hb hby d5_25) (Ls' := #[.val (.ref a1), .val (.long v263), .second, .val (.ref a4), .val (.int (4 : Int32)), .val (.int (2 : Int32)), .val (.int p8)]) rfl (pc' := 27) rfl ?_
 refine k_lloadN X260 hx (hb hby d5_27) rfl (pc' := 28) rfl ?_
 refine k_iload X260 hx (hb hby d5_28) rfl (pc' := 30) rfl ?_
 refine k_i2l X260 hx (hb hby d5_30) (pc' := 31) rfl (fun v264 hv264 => ?_)
 refine k_ladd X260 hx (hb hby d5_31) (pc' := 32) rfl (fun v265 hv265 => ?_)
 refine k_lstoreN X260 hx (hb hby d5_32) (Ls' := #[.val (.ref a1), .val (.long v265), .second, .val (.ref a4), .val (.int (4 : Int32)), .val (.int (2 : Int32)), .val (.int p8)]) rfl (pc' := 33) rfl ?_
 refine k_iinc X260 hx (hb hby d5_33) rfl (pc' := 36) rfl (z := (3 : Int32)) (by decide) (Ls' := #[.val (.ref a1), .val (.long v265), .second, .val (.ref a4), .val (.int (4 : Int32)), .val (.int (3 : Int32)), .val (.int p8)]) rfl ?_
 refine k_goto X260 hx (hb hby d5_36) (pc' := 14) (by decide) ?_
 refine k_iload X260 hx (hb hby d5_14) rfl (pc' := 16) rfl ?_
 refine k_iload X260 hx (hb hby d5_16) rfl (pc' := 18) rfl ?_
 refine k_icmp_ge X260 hx (hb hby d5_18) (pn := 21) rfl (py := 39) (by decide) (fun hc => absurd (by decide) hc) (fun _ => ?_)
 refine k_aloadN X260 hx (hb hby d5_21) rfl rfl (pc' := 22) rfl ?_
 refine k_iload X260 hx (hb hby d5_22) rfl (pc' := 24) rfl ?_
 refine k_iaload X260 hx hZ e260 F0_1 ⟨by decide, by decide⟩ (v := (.int p9)) rfl (hb hby d5_24) (pc' := 25) rfl ?_
 refine k_istore X260 hx (hb hby d5_25) (Ls' := #[.val (.ref a1), .val (.long v265), .second, .val (.ref a4), .val (.int (4 : Int32)), .val (.int (3 : Int32)), .val (.int p9)]) rfl (pc' := 27) rfl ?_
 refine k_lloadN X260 hx (hb hby d5_27) rfl (pc' := 28) rfl ?_
 refine k_iload X260 hx (hb hby d5_28) rfl (pc' := 30) rfl ?_
 refine k_i2l X260 hx (hb hby d5_30) (pc' := 31) rfl (fun v266 hv266 => ?_)
 refine k_ladd X260 hx (hb hby d5_31) (pc' := 32) rfl (fun v267 hv267 => ?_)
 refine k_lstoreN X260 hx (hb hby d5_32) (Ls' := #[.val (.ref a1), .val (.long v267), .second, .val (.ref a4), .val (.int (4 : Int32)), .val (.int (3 : Int32)), .val (.int p9)]) rfl (pc' := 33) rfl ?_
 refine k_iinc X260 hx (hb hby d5_33) rfl (pc' := 36) rfl (z := (4 : Int32)) (by decide) (Ls' := #[.val (.ref a1), .val (.long v267), .second, .val (.ref a4), .val (.int (4 : Int32)), .val (.int (4 : Int32)), .val (.int p9)]) rfl ?_
 refine k_goto X260 hx (hb hby d5_36) (pc' := 14) (by decide) ?_
 refine k_iload X260 hx (hb hby d5_14) rfl (pc' := 16) rfl ?_
 refine k_iload X260 hx (hb hby d5_16) rfl (pc' := 18) rfl ?_
 refine k_icmp_ge X260 hx (hb hby d5_18) (pn := 21) rfl (py := 39) (by decide) (fun _ => ?_) (fun hc => absurd hc (by decide))
 refine k_lloadN X260 hx (hb hby d5_39) rfl (pc' := 40) rfl ?_
 exact k_retL X260 hx Bd.returns (hb hby d5_40) hlk (by decide) (by decide) ⟨N0, e260, ⟨v261, v262, v263, v264, v265, v266, v267, hv261, hv262, hv263, hv264, hv265, hv266, hv267, rfl⟩⟩
theorem ef0 (m : MethodId) (x0 : Int32) (x1 : Int32) (x2 : Int32) (x3 : Int32) (x4 : Int32) : entryFrame m #[(.int x0), (.int x1), (.int x2), (.int x3), (.int x4)] maxLocals = mkF m 0 #[.val (.int x0), .val (.int x1), .val (.int x2), .val (.int x3), .val (.int x4), .unset, .unset, .unset, .unset, .unset, .unset, .unset, .unset, .unset, .unset] [] := by first | (simp [entryFrame, mkF, argsToLocals, Value.category, maxLocals]; done) | rfl
def Q0 (n0 : Nat) (v : Option Value) (h : Heap) (L : List Loc) : Prop := v = some (.int 1) ∧ Fr n0 L
set_option maxRecDepth 65536 in
set_option maxHeartbeats 40000000 in
theorem rm0 (l : Launch) (Z : State) (a0 : Array Value) (hw : ∀ d ∈ tables_1, d.before a0 Z = true) (ws : List Jvm.Cond) (i0 : Int32) (i1 : Int32) (i2 : Int32) (i3 : Int32) (i4 : Int32) (h0 : Heap) (n0 : Nat) (Z0 : n0 ≤ h0.size) :
    MetFree l x (head1 (Jvm.Cond.code x code maxLocals ret :: ws) room_1) (fun a U => a = #[(.int i0), (.int i1), (.int i2), (.int i3), (.int i4)] ∧ Z.Warmed39 U.vm ∧ U.heap = h0) (fun _ _ _ _ _ => True) (fun _ U o U' => ∃ v L, o = .returned v ∧ Q0 n0 v U'.heap L ∧ FrameEnd U o U' L 16 128) := by
 refine MetFree.of_bodySF (plainFor_of_name pn_0) hisR ?_
 intro p e s m args below meth c s₁ Bd hml0 hP hK
 obtain ⟨rfl, hZ, hh⟩ := hP
 have hx := Bd.exec
 have hby := Bd.bytes
 have hml : c.maxLocals = 15 := hml0
 have hlk : meth.locks = false := Bd.notSynchronized
 have hown : s.vm.findClass "com/example/kallimachos/kallimachos/index/PostingsCollectionFrequencyPinLaw" = some m.cls := findClass_of_methodNamed Bd.named
 have hnm := (name_of_methodNamed Bd.named Bd.method).1
 have X0 : Stand p l e room_1 s m #[(.int i0), (.int i1), (.int i2), (.int i3), (.int i4)] below meth c s₁ [] 0 0 := Stand.of_body Bd
 have e0 : s₁.heap = h0 := by rw [← hh, Bd.state]; rfl
 have N0 := Fr.nil n0
 rw [show entryFrame m #[(.int i0), (.int i1), (.int i2), (.int i3), (.int i4)] maxLocals = _ from ef0 m i0 i1 i2 i3 i4]
 show KEnds p e below s 16 128 (Q0 n0) s₁ (mkF m 0 #[.val (.int i0), .val (.int i1), .val (.int i2), .val (.int i3), .val (.int i4), .unset, .unset, .unset, .unset, .unset, .unset, .unset, .unset, .unset, .unset] [])
 refine k_iloadN X0 hx (hb hby at_0) rfl (pc' := 1) rfl ?_
 refine k_ldc X0 hx hZ hown (hw _ (List.mem_of_getElem? (i := 0) rfl)) (hb hby at_1) (pc' := 3) rfl ?_
 refine k_iand X0 hx (hb hby at_3) (pc' := 4) rfl (fun v1 hv1 => ?_)
 refine k_iconst X0 hx (hb hby at_4) (pc' := 5) rfl (z := (5 : Int32)) rfl ?_
 refine k_irem X0 hx (hb hby at_5) (by decide) (pc' := 6) rfl (fun v2 hv2 => ?_)
 have hs3 : v2 = (0 : Int32) ∨ v2 = (1 : Int32) ∨ v2 = (2 : Int32) ∨ v2 = (3 : Int32) ∨ v2 = (4 : Int32) := by
  have := rng32 v2
  have := rng32 v1
  have := rng32 i0
  have : (2147483647 : Int32).toInt = 2147483647 := by decide
  have q4 : v1.toInt = i0.toInt % 2147483648 := by rw [hv1]; exact c_mask _ _ 31 (by decide) (by decide)
  have : (5 : Int32).toInt = 5 := by decide
  have q5 : (0 ≤ v1.toInt → v2.toInt = v1.toInt % 5) ∧ (v1.toInt < 0 → v2.toInt = -((-v1.toInt) % 5)) := by rw [hv2]; exact c_irem _ _ 5 (by decide)
  rcases (by omega : v2.toInt = 0 ∨ v2.toInt = 1 ∨ v2.toInt = 2 ∨ v2.toInt = 3 ∨ v2.toInt = 4) with hq | hq | hq | hq | hq
  · exact Or.inl (Int32.toInt_inj.mp hq)
  · exact Or.inr (Or.inl (Int32.toInt_inj.mp hq))
  · exact Or.inr (Or.inr (Or.inl (Int32.toInt_inj.mp hq)))
  · exact Or.inr (Or.inr (Or.inr (Or.inl (Int32.toInt_inj.mp hq))))
  · exact Or.inr (Or.inr (Or.inr (Or.inr ((Int32.toInt_inj.mp hq)))))
 rcases hs3 with rfl | rfl | rfl | rfl | rfl
 ·
  show KEnds p e below s _ _ _ s₁ (mkF m 6 #[.val (.int i0), .val (.int i1), .val (.int i2), .val (.int i3), .val (.int i4), .unset, .unset, .unset, .unset, .unset, .unset, .unset, .unset, .unset, .unset] [(.int (0 : Int32))])
  refine k_istore X0 hx (hb hby at_6) (Ls' := #[.val (.int i0), .val (.int i1), .val (.int i2), .val (.int i3), .val (.int i4), .val (.int (0 : Int32)), .unset, .unset, .unset, .unset, .unset, .unset, .unset, .unset, .unset]) rfl (pc' := 8) rfl ?_
  refine k_iloadN X0 hx (hb hby at_8) rfl (pc' := 9) rfl ?_
  refine k_callS X0 hx hZ hown (hw _ (List.mem_of_getElem? (i := 1) rfl)) (hw _ (List.mem_of_getElem? (i := 2) rfl)) (hw _ (List.mem_of_getElem? (i := 3) rfl)) (hw _ (List.mem_of_getElem? (i := 4) rfl)) (by decide) (rm1_7 l Z a0 hw [] i1 h0 n0 Z0 ) (by decide) (by decide) e0 (by rw [hml]; rfl) (argsL := [(.int i1)]) (rest := []) (lenOf pd_1 rfl) rfl (W := 0) (Nat.le_refl _) rfl (hb hby at_9) (by decide) (by decide) (pc' := 12) rfl (fun T11 L11 r11 X11 q11 => ?_)
  obtain ⟨N11, e11, rfl⟩ := q11
  have N11' := Fr.app N0 N11
  show KEnds p e below s _ _ _ T11 (mkF m 12 #[.val (.int i0), .val (.int i1), .val (.int i2), .val (.int i3), .val (.int i4), .val (.int (0 : Int32)), .unset, .unset, .unset, .unset, .unset, .unset, .unset, .unset, .unset] ((.int (f1_7 i1)) :: []))
  obtain ⟨v12, hv12⟩ : ∃ z, z = f1_7 i1 := ⟨_, rfl⟩
  rw [← hv12]
  refine k_istore X11 hx (hb hby at_12) (Ls' := #[.val (.int i0), .val (.int i1), .val (.int i2), .val (.int i3), .val (.int i4), .val (.int (0 : Int32)), .val (.int v12), .unset, .unset, .unset, .unset, .unset, .unset, .unset, .unset]) rfl (pc' := 14) rfl ?_
  refine k_iloadN X11 hx (hb hby at_14) rfl (pc' := 15) rfl ?_
  refine k_callS X11 hx hZ hown (hw _ (List.mem_of_getElem? (i := 1) rfl)) (hw _ (List.mem_of_getElem? (i := 2) rfl)) (hw _ (List.mem_of_getElem? (i := 3) rfl)) (hw _ (List.mem_of_getElem? (i := 4) rfl)) (by decide) (rm1_7 l Z a0 hw [] i2 h0 n0 Z0 ) (by decide) (by decide) e11 (by rw [hml]; rfl) (argsL := [(.int i2)]) (rest := []) (lenOf pd_1 rfl) rfl (W := 0) (Nat.le_refl _) rfl (hb hby at_15) (by decide) (by decide) (pc' := 18) rfl (fun T13 L13 r13 X13 q13 => ?_)
  obtain ⟨N13, e13, rfl⟩ := q13
  have N13' := Fr.app N11' N13
  show KEnds p e below s _ _ _ T13 (mkF m 18 #[.val (.int i0), .val (.int i1), .val (.int i2), .val (.int i3), .val (.int i4), .val (.int (0 : Int32)), .val (.int v12), .unset, .unset, .unset, .unset, .unset, .unset, .unset, .unset] ((.int (f1_7 i2)) :: []))
  obtain ⟨v14, hv14⟩ : ∃ z, z = f1_7 i2 := ⟨_, rfl⟩
  rw [← hv14]
  refine k_istore X13 hx (hb hby at_18) (Ls' := #[.val (.int i0), .val (.int i1), .val (.int i2), .val (.int i3), .val (.int i4), .val (.int (0 : Int32)), .val (.int v12), .val (.int v14), .unset, .unset, .unset, .unset, .unset, .unset, .unset]) rfl (pc' := 20) rfl ?_
  refine k_iloadN X13 hx (hb hby at_20) rfl (pc' := 21) rfl ?_
  refine k_callS X13 hx hZ hown (hw _ (List.mem_of_getElem? (i := 1) rfl)) (hw _ (List.mem_of_getElem? (i := 2) rfl)) (hw _ (List.mem_of_getElem? (i := 3) rfl)) (hw _ (List.mem_of_getElem? (i := 4) rfl)) (by decide) (rm1_7 l Z a0 hw [] i3 h0 n0 Z0 ) (by decide) (by decide) e13 (by rw [hml]; rfl) (argsL := [(.int i3)]) (rest := []) (lenOf pd_1 rfl) rfl (W := 0) (Nat.le_refl _) rfl (hb hby at_21) (by decide) (by decide) (pc' := 24) rfl (fun T15 L15 r15 X15 q15 => ?_)
  obtain ⟨N15, e15, rfl⟩ := q15
  have N15' := Fr.app N13' N15
  show KEnds p e below s _ _ _ T15 (mkF m 24 #[.val (.int i0), .val (.int i1), .val (.int i2), .val (.int i3), .val (.int i4), .val (.int (0 : Int32)), .val (.int v12), .val (.int v14), .unset, .unset, .unset, .unset, .unset, .unset, .unset] ((.int (f1_7 i3)) :: []))
  obtain ⟨v16, hv16⟩ : ∃ z, z = f1_7 i3 := ⟨_, rfl⟩
  rw [← hv16]
  refine k_istore X15 hx (hb hby at_24) (Ls' := #[.val (.int i0), .val (.int i1), .val (.int i2), .val (.int i3), .val (.int i4), .val (.int (0 : Int32)), .val (.int v12), .val (.int v14), .val (.int v16), .unset, .unset, .unset, .unset, .unset, .unset]) rfl (pc' := 26) rfl ?_
  refine k_iload X15 hx (hb hby at_26) rfl (pc' := 28) rfl ?_
  refine k_callS X15 hx hZ hown (hw _ (List.mem_of_getElem? (i := 1) rfl)) (hw _ (List.mem_of_getElem? (i := 2) rfl)) (hw _ (List.mem_of_getElem? (i := 3) rfl)) (hw _ (List.mem_of_getElem? (i := 4) rfl)) (by decide) (rm1_7 l Z a0 hw [] i4 h0 n0 Z0 ) (by decide) (by decide) e15 (by rw [hml]; rfl) (argsL := [(.int i4)]) (rest := []) (lenOf pd_1 rfl) rfl (W := 0) (Nat.le_refl _) rfl (hb hby at_28) (by decide) (by decide) (pc' := 31) rfl (fun T17 L17 r17 X17 q17 => ?_)
  obtain ⟨N17, e17, rfl⟩ := q17
  have N17' := Fr.app N15' N17
  show KEnds p e below s _ _ _ T17 (mkF m 31 #[.val (.int i0), .val (.int i1), .val (.int i2), .val (.int i3), .val (.int i4), .val (.int (0 : Int32)), .val (.int v12), .val (.int v14), .val (.int v16), .unset, .unset, .unset, .unset, .unset, .unset] ((.int (f1_7 i4)) :: []))
  obtain ⟨v18, hv18⟩ : ∃ z, z = f1_7 i4 := ⟨_, rfl⟩
  rw [← hv18]
  refine k_istore X17 hx (hb hby at_31) (Ls' := #[.val (.int i0), .val (.int i1), .val (.int i2), .val (.int i3), .val (.int i4), .val (.int (0 : Int32)), .val (.int v12), .val (.int v14), .val (.int v16), .val (.int v18), .unset, .unset, .unset, .unset, .unset]) rfl (pc' := 33) rfl ?_
  refine k_iload X17 hx (hb hby at_33) rfl (pc' := 35) rfl ?_
  refine k_if_ne X17 hx (hb hby at_35) (pn := 38) rfl (py := 51) (by decide) (fun hc => absurd (by decide) hc) (fun _ => ?_)
  refine k_iconst X17 hx (hb hby at_38) (pc' := 39) rfl (z := (0 : Int32)) rfl ?_
  refine k_newA X17 hx hZ (hw _ (List.mem_of_getElem? (i := 9) rfl)) e17 (hb hby at_39) (by decide) (cap := 0) (by decide) (by decide) (by decide) (by decide) (pc' := 41) rfl (fun T19 h19 b19 k19 g19 X19 e19 E19 V19 => ?_)
  have g_b19 : n0 ≤ b19 := Nat.le_trans Z0 (Nat.le_of_eq g19.symm)
  have Z19 : n0 ≤ h19.size := Nat.le_trans Z0 E19.1
  have Vw19 : Arv Z h19 b19 k19 .int (0 : Int32) [] (.int (0 : Int32)) := V19
  refine k_astore X19 hx (hb hby at_41) rfl (Ls' := #[.val (.int i0), .val (.int i1), .val (.int i2), .val (.int i3), .val (.int i4), .val (.int (0 : Int32)), .val (.int v12), .val (.int v14), .val (.int v16), .val (.int v18), .val (.ref b19), .unset, .unset, .unset, .unset]) rfl (pc' := 43) rfl ?_
  refine k_iconst X19 hx (hb hby at_43) (pc' := 44) rfl (z := (0 : Int32)) rfl ?_
  refine k_newA X19 hx hZ (hw _ (List.mem_of_getElem? (i := 9) rfl)) e19 (hb hby at_44) (by decide) (cap := 0) (by decide) (by decide) (by decide) (by decide) (pc' := 46) rfl (fun T20 h20 b20 k20 g20 X20 e20 E20 V20 => ?_)
  have g_b20 : n0 ≤ b20 := Nat.le_trans Z19 (Nat.le_of_eq g20.symm)
  have lt_b20 : b19 < b20 := Nat.lt_of_lt_of_le Vw19.lt (Nat.le_of_eq g20.symm)
  have Z20 : n0 ≤ h20.size := Nat.le_trans Z19 E20.1
  have Vw20 : Arv Z h20 b20 k20 .int (0 : Int32) [] (.int (0 : Int32)) := V20
  refine k_astore X20 hx (hb hby at_46) rfl (Ls' := #[.val (.int i0), .val (.int i1), .val (.int i2), .val (.int i3), .val (.int i4), .val (.int (0 : Int32)), .val (.int v12), .val (.int v14), .val (.int v16), .val (.int v18), .val (.ref b19), .val (.ref b20), .unset, .unset, .unset]) rfl (pc' := 48) rfl ?_
  refine k_goto X20 hx (hb hby at_48) (pc' := 208) (by decide) ?_
  refine k_newO X20 hx hZ hown (hw _ (List.mem_of_getElem? (i := 10) rfl)) (hw _ (List.mem_of_getElem? (i := 11) rfl)) (hw _ (List.mem_of_getElem? (i := 12) rfl)) e20 (hb hby at_208) (by decide) (by decide) (pc' := 211) rfl (fun T21 h21 b21 g21 X21 e21 E21 A21 D21 => ?_)
  have g_b21 : n0 ≤ b21 := Nat.le_trans Z20 (Nat.le_of_eq g21.symm)
  have lt_b21 : b20 < b21 := Nat.lt_of_lt_of_le Vw20.lt (Nat.le_of_eq g21.symm)
  have Z21 : n0 ≤ h21.size := Nat.le_trans Z20 E21.1
  have F22 : Fld Z h21 b21 "com/example/kallimachos/kallimachos/index/Postings" "documents" "[I" .null := D21 (Or.inr (hw _ (List.mem_of_getElem? (i := 20) rfl))) (ty := (.array .int)) (by decide)
  have F23 : Fld Z h21 b21 "com/example/kallimachos/kallimachos/index/Postings" "frequencies" "[I" .null := D21 (Or.inr (hw _ (List.mem_of_getElem? (i := 22) rfl))) (ty := (.array .int)) (by decide)
  refine k_dup X21 hx (hb hby at_211) rfl (pc' := 212) rfl ?_
  refine k_aload X21 hx (hb hby at_212) rfl rfl (pc' := 214) rfl ?_
  refine k_aload X21 hx (hb hby at_214) rfl rfl (pc' := 216) rfl ?_
  have F24 := ((Vw19.ext E20).ext E21)
  have F25 := (Vw20.ext E21)
  refine k_callI X21 hx hZ hown (a := b21) rfl (hw _ (List.mem_of_getElem? (i := 13) rfl)) (hw _ (List.mem_of_getElem? (i := 14) rfl)) (hw _ (List.mem_of_getElem? (i := 12) rfl)) (hw _ (List.mem_of_getElem? (i := 15) rfl)) rfl (by decide) (rm3_26 l Z a0 hw [] b21 b19 b20 k19 k20 h21 n0 Z21 F24 g_b19 F25 g_b20 A21 F22 F23 g_b21 lt_b20 lt_b21) (by decide) (by decide) e21 (by rw [hml]; rfl) (argsL := [(.ref b19), (.ref b20)]) (rest := [(.ref b21)]) (lenOf pd_2 rfl) rfl (W := 1) (Nat.le_refl _) rfl (hb hby at_216) (by decide) (by decide) (pc' := 219) rfl (fun T36 L36 r36 X36 q36 => ?_)
  obtain ⟨N36, q36⟩ := q36
  have N36' := Fr.app N17' N36
  obtain ⟨rfl, F37, F38, F39, F40, F41, Z42⟩ := q36
  show KEnds p e below s _ _ _ T36 (mkF m 219 #[.val (.int i0), .val (.int i1), .val (.int i2), .val (.int i3), .val (.int i4), .val (.int (0 : Int32)), .val (.int v12), .val (.int v14), .val (.int v16), .val (.int v18), .val (.ref b19), .val (.ref b20), .unset, .unset, .unset] [(.ref b21)])
  refine k_astore X36 hx (hb hby at_219) rfl (Ls' := #[.val (.int i0), .val (.int i1), .val (.int i2), .val (.int i3), .val (.int i4), .val (.int (0 : Int32)), .val (.int v12), .val (.int v14), .val (.int v16), .val (.int v18), .val (.ref b19), .val (.ref b20), .val (.ref b21), .unset, .unset]) rfl (pc' := 221) rfl ?_
  refine k_lconst X36 hx (hb hby at_221) (pc' := 222) rfl (z := (0 : Int64)) rfl ?_
  refine k_lstore X36 hx (hb hby at_222) (Ls' := #[.val (.int i0), .val (.int i1), .val (.int i2), .val (.int i3), .val (.int i4), .val (.int (0 : Int32)), .val (.int v12), .val (.int v14), .val (.int v16), .val (.int v18), .val (.ref b19), .val (.ref b20), .val (.ref b21), .val (.long (0 : Int64)), .second]) rfl (pc' := 224) rfl ?_
  refine k_iload X36 hx (hb hby at_224) rfl (pc' := 226) rfl ?_
  refine k_if_le X36 hx (hb hby at_226) (pn := 229) rfl (py := 237) (by decide) (fun _ => ?_) (fun hc => absurd hc (by decide))
  refine k_iload X36 hx (hb hby at_237) rfl (pc' := 239) rfl ?_
  refine k_iconst X36 hx (hb hby at_239) (pc' := 240) rfl (z := (1 : Int32)) rfl ?_
  refine k_icmp_le X36 hx (hb hby at_240) (pn := 243) rfl (py := 251) (by decide) (fun _ => ?_) (fun hc => absurd hc (by decide))
  refine k_iload X36 hx (hb hby at_251) rfl (pc' := 253) rfl ?_
  refine k_iconst X36 hx (hb hby at_253) (pc' := 254) rfl (z := (2 : Int32)) rfl ?_
  refine k_icmp_le X36 hx (hb hby at_254) (pn := 257) rfl (py := 265) (by decide) (fun _ => ?_) (fun hc => absurd hc (by decide))
  refine k_iload X36 hx (hb hby at_265) rfl (pc' := 267) rfl ?_
  refine k_iconst X36 hx (hb hby at_267) (pc' := 268) rfl (z := (3 : Int32)) rfl ?_
  refine k_icmp_le X36 hx (hb hby at_268) (pn := 271) rfl (py := 279) (by decide) (fun _ => ?_) (fun hc => absurd hc (by decide))
  refine k_aload X36 hx (hb hby at_279) rfl rfl (pc' := 281) rfl ?_
  refine k_callV X36 hx hZ hown (a := b21) (hw _ (List.mem_of_getElem? (i := 23) rfl)) (hw _ (List.mem_of_getElem? (i := 24) rfl)) (hw _ (List.mem_of_getElem? (i := 26) rfl)) (hw _ (List.mem_of_getElem? (i := 25) rfl)) (hw _ (List.mem_of_getElem? (i := 12) rfl)) (hw _ (List.mem_of_getElem? (i := 27) rfl)) (by decide) F39 (rm5_43 l Z a0 hw [] b21 b19 k19 b20 k20 T36.heap n0 Z42 F37 F38 F39 F40 F41 lt_b20 lt_b21) (by decide) (by decide) rfl (by rw [hml]; rfl) (argsL := []) (rest := []) (lenOf pd_3 rfl) rfl (W := 0) (Nat.le_refl _) rfl (hb hby at_281) (by decide) (by decide) (pc' := 284) rfl (fun T45 L45 r45 X45 q45 => ?_)
  obtain ⟨N45, e45, q45⟩ := q45
  have N45' := Fr.app N36' N45
  obtain rfl := q45
  show KEnds p e below s _ _ _ T45 (mkF m 284 #[.val (.int i0), .val (.int i1), .val (.int i2), .val (.int i3), .val (.int i4), .val (.int (0 : Int32)), .val (.int v12), .val (.int v14), .val (.int v16), .val (.int v18), .val (.ref b19), .val (.ref b20), .val (.ref b21), .val (.long (0 : Int64)), .second] [(.long (0 : Int64))])
  refine k_lload X45 hx (hb hby at_284) rfl (pc' := 286) rfl ?_
  refine k_lcif_ne X45 hx (hb hby at_286) (pm := 287) rfl (hb hby at_287) (pn := 290) rfl (py := 294) (by decide) (fun hc => absurd (by decide) hc) (fun _ => ?_)
  refine k_iconst X45 hx (hb hby at_290) (pc' := 291) rfl (z := (1 : Int32)) rfl ?_
  refine k_goto X45 hx (hb hby at_291) (pc' := 295) (by decide) ?_
  exact k_retN X45 hx (t := .boolean) Bd.returns (by simp) (hb hby at_295) hlk (by decide) (by decide) (z' := (1 : Int32)) rfl ⟨rfl, N45'⟩
 ·
  show KEnds p e below s _ _ _ s₁ (mkF m 6 #[.val (.int i0), .val (.int i1), .val (.int i2), .val (.int i3), .val (.int i4), .unset, .unset, .unset, .unset, .unset, .unset, .unset, .unset, .unset, .unset] [(.int (1 : Int32))])
  refine k_istore X0 hx (hb hby at_6) (Ls' := #[.val (.int i0), .val (.int i1), .val (.int i2), .val (.int i3), .val (.int i4), .val (.int (1 : Int32)), .unset, .unset, .unset, .unset, .unset, .unset, .unset, .unset, .unset]) rfl (pc' := 8) rfl ?_
  refine k_iloadN X0 hx (hb hby at_8) rfl (pc' := 9) rfl ?_
  refine k_callS X0 hx hZ hown (hw _ (List.mem_of_getElem? (i := 1) rfl)) (hw _ (List.mem_of_getElem? (i := 2) rfl)) (hw _ (List.mem_of_getElem? (i := 3) rfl)) (hw _ (List.mem_of_getElem? (i := 4) rfl)) (by decide) (rm1_7 l Z a0 hw [] i1 h0 n0 Z0 ) (by decide) (by decide) e0 (by rw [hml]; rfl) (argsL := [(.int i1)]) (rest := []) (lenOf pd_1 rfl) rfl (W := 0) (Nat.le_refl _) rfl (hb hby at_9) (by decide) (by decide) (pc' := 12) rfl (fun T47 L47 r47 X47 q47 => ?_)
  obtain ⟨N47, e47, rfl⟩ := q47
  have N47' := Fr.app N0 N47
  show KEnds p e below s _ _ _ T47 (mkF m 12 #[.val (.int i0), .val (.int i1), .val (.int i2), .val (.int i3), .val (.int i4), .val (.int (1 : Int32)), .unset, .unset, .unset, .unset, .unset, .unset, .unset, .unset, .unset] ((.int (f1_7 i1)) :: []))
  obtain ⟨v48, hv48⟩ : ∃ z, z = f1_7 i1 := ⟨_, rfl⟩
  rw [← hv48]
  refine k_istore X47 hx (hb hby at_12) (Ls' := #[.val (.int i0), .val (.int i1), .val (.int i2), .val (.int i3), .val (.int i4), .val (.int (1 : Int32)), .val (.int v48), .unset, .unset, .unset, .unset, .unset, .unset, .unset, .unset]) rfl (pc' := 14) rfl ?_
  refine k_iloadN X47 hx (hb hby at_14) rfl (pc' := 15) rfl ?_
  refine k_callS X47 hx hZ hown (hw _ (List.mem_of_getElem? (i := 1) rfl)) (hw _ (List.mem_of_getElem? (i := 2) rfl)) (hw _ (List.mem_of_getElem? (i := 3) rfl)) (hw _ (List.mem_of_getElem? (i := 4) rfl)) (by decide) (rm1_7 l Z a0 hw [] i2 h0 n0 Z0 ) (by decide) (by decide) e47 (by rw [hml]; rfl) (argsL := [(.int i2)]) (rest := []) (lenOf pd_1 rfl) rfl (W := 0) (Nat.le_refl _) rfl (hb hby at_15) (by decide) (by decide) (pc' := 18) rfl (fun T49 L49 r49 X49 q49 => ?_)
  obtain ⟨N49, e49, rfl⟩ := q49
  have N49' := Fr.app N47' N49
  show KEnds p e below s _ _ _ T49 (mkF m 18 #[.val (.int i0), .val (.int i1), .val (.int i2), .val (.int i3), .val (.int i4), .val (.int (1 : Int32)), .val (.int v48), .unset, .unset, .unset, .unset, .unset, .unset, .unset, .unset] ((.int (f1_7 i2)) :: []))
  obtain ⟨v50, hv50⟩ : ∃ z, z = f1_7 i2 := ⟨_, rfl⟩
  rw [← hv50]
  refine k_istore X49 hx (hb hby at_18) (Ls' := #[.val (.int i0), .val (.int i1), .val (.int i2), .val (.int i3), .val (.int i4), .val (.int (1 : Int32)), .val (.int v48), .val (.int v50), .unset, .unset, .unset, .unset, .unset, .unset, .unset]) rfl (pc' := 20) rfl ?_
  refine k_iloadN X49 hx (hb hby at_20) rfl (pc' := 21) rfl ?_
  refine k_callS X49 hx hZ hown (hw _ (List.mem_of_getElem? (i := 1) rfl)) (hw _ (List.mem_of_getElem? (i := 2) rfl)) (hw _ (List.mem_of_getElem? (i := 3) rfl)) (hw _ (List.mem_of_getElem? (i := 4) rfl)) (by decide) (rm1_7 l Z a0 hw [] i3 h0 n0 Z0 ) (by decide) (by decide) e49 (by rw [hml]; rfl) (argsL := [(.int i3)]) (rest := []) (lenOf pd_1 rfl) rfl (W := 0) (Nat.le_refl _) rfl (hb hby at_21) (by decide) (by decide) (pc' := 24) rfl (fun T51 L51 r51 X51 q51 => ?_)
  obtain ⟨N51, e51, rfl⟩ := q51
  have N51' := Fr.app N49' N51
  show KEnds p e below s _ _ _ T51 (mkF m 24 #[.val (.int i0), .val (.int i1), .val (.int i2), .val (.int i3), .val (.int i4), .val (.int (1 : Int32)), .val (.int v48), .val (.int v50), .unset, .unset, .unset, .unset, .unset, .unset, .unset] ((.int (f1_7 i3)) :: []))
  obtain ⟨v52, hv52⟩ : ∃ z, z = f1_7 i3 := ⟨_, rfl⟩
  rw [← hv52]
  refine k_istore X51 hx (hb hby at_24) (Ls' := #[.val (.int i0), .val (.int i1), .val (.int i2), .val (.int i3), .val (.int i4), .val (.int (1 : Int32)), .val (.int v48), .val (.int v50), .val (.int v52), .unset, .unset, .unset, .unset, .unset, .unset]) rfl (pc' := 26) rfl ?_
  refine k_iload X51 hx (hb hby at_26) rfl (pc' := 28) rfl ?_
  refine k_callS X51 hx hZ hown (hw _ (List.mem_of_getElem? (i := 1) rfl)) (hw _ (List.mem_of_getElem? (i := 2) rfl)) (hw _ (List.mem_of_getElem? (i := 3) rfl)) (hw _ (List.mem_of_getElem? (i := 4) rfl)) (by decide) (rm1_7 l Z a0 hw [] i4 h0 n0 Z0 ) (by decide) (by decide) e51 (by rw [hml]; rfl) (argsL := [(.int i4)]) (rest := []) (lenOf pd_1 rfl) rfl (W := 0) (Nat.le_refl _) rfl (hb hby at_28) (by decide) (by decide) (pc' := 31) rfl (fun T53 L53 r53 X53 q53 => ?_)
  obtain ⟨N53, e53, rfl⟩ := q53
  have N53' := Fr.app N51' N53
  show KEnds p e below s _ _ _ T53 (mkF m 31 #[.val (.int i0), .val (.int i1), .val (.int i2), .val (.int i3), .val (.int i4), .val (.int (1 : Int32)), .val (.int v48), .val (.int v50), .val (.int v52), .unset, .unset, .unset, .unset, .unset, .unset] ((.int (f1_7 i4)) :: []))
  obtain ⟨v54, hv54⟩ : ∃ z, z = f1_7 i4 := ⟨_, rfl⟩
  rw [← hv54]
  refine k_istore X53 hx (hb hby at_31) (Ls' := #[.val (.int i0), .val (.int i1), .val (.int i2), .val (.int i3), .val (.int i4), .val (.int (1 : Int32)), .val (.int v48), .val (.int v50), .val (.int v52), .val (.int v54), .unset, .unset, .unset, .unset, .unset]) rfl (pc' := 33) rfl ?_
  refine k_iload X53 hx (hb hby at_33) rfl (pc' := 35) rfl ?_
  refine k_if_ne X53 hx (hb hby at_35) (pn := 38) rfl (py := 51) (by decide) (fun _ => ?_) (fun hc => absurd hc (by decide))
  refine k_iload X53 hx (hb hby at_51) rfl (pc' := 53) rfl ?_
  refine k_iconst X53 hx (hb hby at_53) (pc' := 54) rfl (z := (1 : Int32)) rfl ?_
  refine k_icmp_ne X53 hx (hb hby at_54) (pn := 57) rfl (py := 79) (by decide) (fun hc => absurd (by decide) hc) (fun _ => ?_)
  refine k_iconst X53 hx (hb hby at_57) (pc' := 58) rfl (z := (1 : Int32)) rfl ?_
  refine k_newA X53 hx hZ (hw _ (List.mem_of_getElem? (i := 9) rfl)) e53 (hb hby at_58) (by decide) (cap := 1) (by decide) (by decide) (by decide) (by decide) (pc' := 60) rfl (fun T55 h55 b55 k55 g55 X55 e55 E55 V55 => ?_)
  have g_b55 : n0 ≤ b55 := Nat.le_trans Z0 (Nat.le_of_eq g55.symm)
  have Z55 : n0 ≤ h55.size := Nat.le_trans Z0 E55.1
  have Vw55 : Arv Z h55 b55 k55 .int (1 : Int32) [(.int (0 : Int32))] (.int (0 : Int32)) := V55
  refine k_dup X55 hx (hb hby at_60) rfl (pc' := 61) rfl ?_
  refine k_iconst X55 hx (hb hby at_61) (pc' := 62) rfl (z := (0 : Int32)) rfl ?_
  refine k_iconst X55 hx (hb hby at_62) (pc' := 63) rfl (z := (0 : Int32)) rfl ?_
  refine k_iastore X55 hx hZ e55 Vw55 ⟨by decide, by decide⟩ (i := 0) rfl (Nat.le_of_ble_eq_true rfl) (hb hby at_63) (pc' := 64) rfl (fun T56 h56 X56 e56 W56 V56 => ?_)
  have Vw56 : Arv Z h56 b55 k55 .int (1 : Int32) [(.int (0 : Int32))] (.int (0 : Int32)) := V56
  have N56 := Fr.snoc X56 N53' g_b55
  have Z56 : n0 ≤ h56.size := Nat.le_trans Z55 (Nat.le_of_eq W56.size.symm)
  refine k_astore X56 hx (hb hby at_64) rfl (Ls' := #[.val (.int i0), .val (.int i1), .val (.int i2), .val (.int i3), .val (.int i4), .val (.int (1 : Int32)), .val (.int v48), .val (.int v50), .val (.int v52), .val (.int v54), .val (.ref b55), .unset, .unset, .unset, .unset]) rfl (pc' := 66) rfl ?_
  refine k_iconst X56 hx (hb hby at_66) (pc' := 67) rfl (z := (1 : Int32)) rfl ?_
  refine k_newA X56 hx hZ (hw _ (List.mem_of_getElem? (i := 9) rfl)) e56 (hb hby at_67) (by decide) (cap := 1) (by decide) (by decide) (by decide) (by decide) (pc' := 69) rfl (fun T57 h57 b57 k57 g57 X57 e57 E57 V57 => ?_)
  have g_b57 : n0 ≤ b57 := Nat.le_trans Z56 (Nat.le_of_eq g57.symm)
  have lt_b57 : b55 < b57 := Nat.lt_of_lt_of_le Vw56.lt (Nat.le_of_eq g57.symm)
  have Z57 : n0 ≤ h57.size := Nat.le_trans Z56 E57.1
  have Vw57 : Arv Z h57 b57 k57 .int (1 : Int32) [(.int (0 : Int32))] (.int (0 : Int32)) := V57
  refine k_dup X57 hx (hb hby at_69) rfl (pc' := 70) rfl ?_
  refine k_iconst X57 hx (hb hby at_70) (pc' := 71) rfl (z := (0 : Int32)) rfl ?_
  refine k_iload X57 hx (hb hby at_71) rfl (pc' := 73) rfl ?_
  refine k_iastore X57 hx hZ e57 Vw57 ⟨by decide, by decide⟩ (i := 0) rfl (Nat.le_of_ble_eq_true rfl) (hb hby at_73) (pc' := 74) rfl (fun T58 h58 X58 e58 W58 V58 => ?_)
  have Vw58 : Arv Z h58 b57 k57 .int (1 : Int32) [(.int v48)] (.int (0 : Int32)) := V58
  have N58 := Fr.snoc X58 N56 g_b57
  have Z58 : n0 ≤ h58.size := Nat.le_trans Z57 (Nat.le_of_eq W58.size.symm)
  refine k_astore X58 hx (hb hby at_74) rfl (Ls' := #[.val (.int i0), .val (.int i1), .val (.int i2), .val (.int i3), .val (.int i4), .val (.int (1 : Int32)), .val (.int v48), .val (.int v50), .val (.int v52), .val (.int v54), .val (.ref b55), .val (.ref b57), .unset, .unset, .unset]) rfl (pc' := 76) rfl ?_
  refine k_goto X58 hx (hb hby at_76) (pc' := 208) (by decide) ?_
  refine k_newO X58 hx hZ hown (hw _ (List.mem_of_getElem? (i := 10) rfl)) (hw _ (List.mem_of_getElem? (i := 11) rfl)) (hw _ (List.mem_of_getElem? (i := 12) rfl)) e58 (hb hby at_208) (by decide) (by decide) (pc' := 211) rfl (fun T59 h59 b59 g59 X59 e59 E59 A59 D59 => ?_)
  have g_b59 : n0 ≤ b59 := Nat.le_trans Z58 (Nat.le_of_eq g59.symm)
  have lt_b59 : b57 < b59 := Nat.lt_of_lt_of_le Vw58.lt (Nat.le_of_eq g59.symm)
  have Z59 : n0 ≤ h59.size := Nat.le_trans Z58 E59.1
  have F60 : Fld Z h59 b59 "com/example/kallimachos/kallimachos/index/Postings" "documents" "[I" .null := D59 (Or.inr (hw _ (List.mem_of_getElem? (i := 20) rfl))) (ty := (.array .int)) (by decide)
  have F61 : Fld Z h59 b59 "com/example/kallimachos/kallimachos/index/Postings" "frequencies" "[I" .null := D59 (Or.inr (hw _ (List.mem_of_getElem? (i := 22) rfl))) (ty := (.array .int)) (by decide)
  refine k_dup X59 hx (hb hby at_211) rfl (pc' := 212) rfl ?_
  refine k_aload X59 hx (hb hby at_212) rfl rfl (pc' := 214) rfl ?_
  refine k_aload X59 hx (hb hby at_214) rfl rfl (pc' := 216) rfl ?_
  have F62 := (((Vw56.ext E57).other W58 (Nat.ne_of_lt lt_b57)).ext E59)
  have F63 := (Vw58.ext E59)
  refine k_callI X59 hx hZ hown (a := b59) rfl (hw _ (List.mem_of_getElem? (i := 13) rfl)) (hw _ (List.mem_of_getElem? (i := 14) rfl)) (hw _ (List.mem_of_getElem? (i := 12) rfl)) (hw _ (List.mem_of_getElem? (i := 15) rfl)) rfl (by decide) (rm3_64 l Z a0 hw [] b59 b55 b57 k55 k57 v48 h59 n0 Z59 F62 g_b55 F63 g_b57 A59 F60 F61 g_b59 lt_b57 lt_b59) (by decide) (by decide) e59 (by rw [hml]; rfl) (argsL := [(.ref b55), (.ref b57)]) (rest := [(.ref b59)]) (lenOf pd_2 rfl) rfl (W := 1) (Nat.le_refl _) rfl (hb hby at_216) (by decide) (by decide) (pc' := 219) rfl (fun T74 L74 r74 X74 q74 => ?_)
  obtain ⟨N74, q74⟩ := q74
  have N74' := Fr.app N58 N74
  obtain ⟨rfl, F75, F76, F77, F78, F79, Z80⟩ := q74
  show KEnds p e below s _ _ _ T74 (mkF m 219 #[.val (.int i0), .val (.int i1), .val (.int i2), .val (.int i3), .val (.int i4), .val (.int (1 : Int32)), .val (.int v48), .val (.int v50), .val (.int v52), .val (.int v54), .val (.ref b55), .val (.ref b57), .unset, .unset, .unset] [(.ref b59)])
  refine k_astore X74 hx (hb hby at_219) rfl (Ls' := #[.val (.int i0), .val (.int i1), .val (.int i2), .val (.int i3), .val (.int i4), .val (.int (1 : Int32)), .val (.int v48), .val (.int v50), .val (.int v52), .val (.int v54), .val (.ref b55), .val (.ref b57), .val (.ref b59), .unset, .unset]) rfl (pc' := 221) rfl ?_
  refine k_lconst X74 hx (hb hby at_221) (pc' := 222) rfl (z := (0 : Int64)) rfl ?_
  refine k_lstore X74 hx (hb hby at_222) (Ls' := #[.val (.int i0), .val (.int i1), .val (.int i2), .val (.int i3), .val (.int i4), .val (.int (1 : Int32)), .val (.int v48), .val (.int v50), .val (.int v52), .val (.int v54), .val (.ref b55), .val (.ref b57), .val (.ref b59), .val (.long (0 : Int64)), .second]) rfl (pc' := 224) rfl ?_
  refine k_iload X74 hx (hb hby at_224) rfl (pc' := 226) rfl ?_
  refine k_if_le X74 hx (hb hby at_226) (pn := 229) rfl (py := 237) (by decide) (fun hc => absurd (by decide) hc) (fun _ => ?_)
  refine k_lload X74 hx (hb hby at_229) rfl (pc' := 231) rfl ?_
  refine k_iload X74 hx (hb hby at_231) rfl (pc' := 233) rfl ?_
  refine k_i2l X74 hx (hb hby at_233) (pc' := 234) rfl (fun v81 hv81 => ?_)
  refine k_laddL X74 hx (hb hby at_234) (pc' := 235) rfl (z := v81) (Int64.zero_add _) ?_
  refine k_lstore X74 hx (hb hby at_235) (Ls' := #[.val (.int i0), .val (.int i1), .val (.int i2), .val (.int i3), .val (.int i4), .val (.int (1 : Int32)), .val (.int v48), .val (.int v50), .val (.int v52), .val (.int v54), .val (.ref b55), .val (.ref b57), .val (.ref b59), .val (.long v81), .second]) rfl (pc' := 237) rfl ?_
  refine k_iload X74 hx (hb hby at_237) rfl (pc' := 239) rfl ?_
  refine k_iconst X74 hx (hb hby at_239) (pc' := 240) rfl (z := (1 : Int32)) rfl ?_
  refine k_icmp_le X74 hx (hb hby at_240) (pn := 243) rfl (py := 251) (by decide) (fun _ => ?_) (fun hc => absurd hc (by decide))
  refine k_iload X74 hx (hb hby at_251) rfl (pc' := 253) rfl ?_
  refine k_iconst X74 hx (hb hby at_253) (pc' := 254) rfl (z := (2 : Int32)) rfl ?_
  refine k_icmp_le X74 hx (hb hby at_254) (pn := 257) rfl (py := 265) (by decide) (fun _ => ?_) (fun hc => absurd hc (by decide))
  refine k_iload X74 hx (hb hby at_265) rfl (pc' := 267) rfl ?_
  refine k_iconst X74 hx (hb hby at_267) (pc' := 268) rfl (z := (3 : Int32)) rfl ?_
  refine k_icmp_le X74 hx (hb hby at_268) (pn := 271) rfl (py := 279) (by decide) (fun _ => ?_) (fun hc => absurd hc (by decide))
  refine k_aload X74 hx (hb hby at_279) rfl rfl (pc' := 281) rfl ?_
  refine k_callV X74 hx hZ hown (a := b59) (hw _ (List.mem_of_getElem? (i := 23) rfl)) (hw _ (List.mem_of_getElem? (i := 24) rfl)) (hw _ (List.mem_of_getElem? (i := 26) rfl)) (hw _ (List.mem_of_getElem? (i := 25) rfl)) (hw _ (List.mem_of_getElem? (i := 12) rfl)) (hw _ (List.mem_of_getElem? (i := 27) rfl)) (by decide) F77 (rm5_82 l Z a0 hw [] b59 b55 k55 b57 k57 v48 T74.heap n0 Z80 F75 F76 F77 F78 F79 lt_b57 lt_b59) (by decide) (by decide) rfl (by rw [hml]; rfl) (argsL := []) (rest := []) (lenOf pd_3 rfl) rfl (W := 0) (Nat.le_refl _) rfl (hb hby at_281) (by decide) (by decide) (pc' := 284) rfl (fun T85 L85 r85 X85 q85 => ?_)
  obtain ⟨N85, e85, q85⟩ := q85
  have N85' := Fr.app N74' N85
  obtain ⟨v86, h87, rfl⟩ := q85
  have hh88 : v81 = v86 := hv81.trans h87.symm
  subst hh88
  show KEnds p e below s _ _ _ T85 (mkF m 284 #[.val (.int i0), .val (.int i1), .val (.int i2), .val (.int i3), .val (.int i4), .val (.int (1 : Int32)), .val (.int v48), .val (.int v50), .val (.int v52), .val (.int v54), .val (.ref b55), .val (.ref b57), .val (.ref b59), .val (.long v81), .second] [(.long v81)])
  refine k_lload X85 hx (hb hby at_284) rfl (pc' := 286) rfl ?_
  refine k_lcif_ne X85 hx (hb hby at_286) (pm := 287) rfl (hb hby at_287) (pn := 290) rfl (py := 294) (by decide) (fun hc => absurd rfl hc) (fun _ => ?_)
  refine k_iconst X85 hx (hb hby at_290) (pc' := 291) rfl (z := (1 : Int32)) rfl ?_
  refine k_goto X85 hx (hb hby at_291) (pc' := 295) (by decide) ?_
  exact k_retN X85 hx (t := .boolean) Bd.returns (by simp) (hb hby at_295) hlk (by decide) (by decide) (z' := (1 : Int32)) rfl ⟨rfl, N85'⟩
 ·
  show KEnds p e below s _ _ _ s₁ (mkF m 6 #[.val (.int i0), .val (.int i1), .val (.int i2), .val (.int i3), .val (.int i4), .unset, .unset, .unset, .unset, .unset, .unset, .unset, .unset, .unset, .unset] [(.int (2 : Int32))])
  refine k_istore X0 hx (hb hby at_6) (Ls' := #[.val (.int i0), .val (.int i1), .val (.int i2), .val (.int i3), .val (.int i4), .val (.int (2 : Int32)), .unset, .unset, .unset, .unset, .unset, .unset, .unset, .unset, .unset]) rfl (pc' := 8) rfl ?_
  refine k_iloadN X0 hx (hb hby at_8) rfl (pc' := 9) rfl ?_
  refine k_callS X0 hx hZ hown (hw _ (List.mem_of_getElem? (i := 1) rfl)) (hw _ (List.mem_of_getElem? (i := 2) rfl)) (hw _ (List.mem_of_getElem? (i := 3) rfl)) (hw _ (List.mem_of_getElem? (i := 4) rfl)) (by decide) (rm1_7 l Z a0 hw [] i1 h0 n0 Z0 ) (by decide) (by decide) e0 (by rw [hml]; rfl) (argsL := [(.int i1)]) (rest := []) (lenOf pd_1 rfl) rfl (W := 0) (Nat.le_refl _) rfl (hb hby at_9) (by decide) (by decide) (pc' := 12) rfl (fun T90 L90 r90 X90 q90 => ?_)
  obtain ⟨N90, e90, rfl⟩ := q90
  have N90' := Fr.app N0 N90
  show KEnds p e below s _ _ _ T90 (mkF m 12 #[.val (.int i0), .val (.int i1), .val (.int i2), .val (.int i3), .val (.int i4), .val (.int (2 : Int32)), .unset, .unset, .unset, .unset, .unset, .unset, .unset, .unset, .unset] ((.int (f1_7 i1)) :: []))
  obtain ⟨v91, hv91⟩ : ∃ z, z = f1_7 i1 := ⟨_, rfl⟩
  rw [← hv91]
  refine k_istore X90 hx (hb hby at_12) (Ls' := #[.val (.int i0), .val (.int i1), .val (.int i2), .val (.int i3), .val (.int i4), .val (.int (2 : Int32)), .val (.int v91), .unset, .unset, .unset, .unset, .unset, .unset, .unset, .unset]) rfl (pc' := 14) rfl ?_
  refine k_iloadN X90 hx (hb hby at_14) rfl (pc' := 15) rfl ?_
  refine k_callS X90 hx hZ hown (hw _ (List.mem_of_getElem? (i := 1) rfl)) (hw _ (List.mem_of_getElem? (i := 2) rfl)) (hw _ (List.mem_of_getElem? (i := 3) rfl)) (hw _ (List.mem_of_getElem? (i := 4) rfl)) (by decide) (rm1_7 l Z a0 hw [] i2 h0 n0 Z0 ) (by decide) (by decide) e90 (by rw [hml]; rfl) (argsL := [(.int i2)]) (rest := []) (lenOf pd_1 rfl) rfl (W := 0) (Nat.le_refl _) rfl (hb hby at_15) (by decide) (by decide) (pc' := 18) rfl (fun T92 L92 r92 X92 q92 => ?_)
  obtain ⟨N92, e92, rfl⟩ := q92
  have N92' := Fr.app N90' N92
  show KEnds p e below s _ _ _ T92 (mkF m 18 #[.val (.int i0), .val (.int i1), .val (.int i2), .val (.int i3), .val (.int i4), .val (.int (2 : Int32)), .val (.int v91), .unset, .unset, .unset, .unset, .unset, .unset, .unset, .unset] ((.int (f1_7 i2)) :: []))
  obtain ⟨v93, hv93⟩ : ∃ z, z = f1_7 i2 := ⟨_, rfl⟩
  rw [← hv93]
  refine k_istore X92 hx (hb hby at_18) (Ls' := #[.val (.int i0), .val (.int i1), .val (.int i2), .val (.int i3), .val (.int i4), .val (.int (2 : Int32)), .val (.int v91), .val (.int v93), .unset, .unset, .unset, .unset, .unset, .unset, .unset]) rfl (pc' := 20) rfl ?_
  refine k_iloadN X92 hx (hb hby at_20) rfl (pc' := 21) rfl ?_
  refine k_callS X92 hx hZ hown (hw _ (List.mem_of_getElem? (i := 1) rfl)) (hw _ (List.mem_of_getElem? (i := 2) rfl)) (hw _ (List.mem_of_getElem? (i := 3) rfl)) (hw _ (List.mem_of_getElem? (i := 4) rfl)) (by decide) (rm1_7 l Z a0 hw [] i3 h0 n0 Z0 ) (by decide) (by decide) e92 (by rw [hml]; rfl) (argsL := [(.int i3)]) (rest := []) (lenOf pd_1 rfl) rfl (W := 0) (Nat.le_refl _) rfl (hb hby at_21) (by decide) (by decide) (pc' := 24) rfl (fun T94 L94 r94 X94 q94 => ?_)
  obtain ⟨N94, e94, rfl⟩ := q94
  have N94' := Fr.app N92' N94
  show KEnds p e below s _ _ _ T94 (mkF m 24 #[.val (.int i0), .val (.int i1), .val (.int i2), .val (.int i3), .val (.int i4), .val (.int (2 : Int32)), .val (.int v91), .val (.int v93), .unset, .unset, .unset, .unset, .unset, .unset, .unset] ((.int (f1_7 i3)) :: []))
  obtain ⟨v95, hv95⟩ : ∃ z, z = f1_7 i3 := ⟨_, rfl⟩
  rw [← hv95]
  refine k_istore X94 hx (hb hby at_24) (Ls' := #[.val (.int i0), .val (.int i1), .val (.int i2), .val (.int i3), .val (.int i4), .val (.int (2 : Int32)), .val (.int v91), .val (.int v93), .val (.int v95), .unset, .unset, .unset, .unset, .unset, .unset]) rfl (pc' := 26) rfl ?_
  refine k_iload X94 hx (hb hby at_26) rfl (pc' := 28) rfl ?_
  refine k_callS X94 hx hZ hown (hw _ (List.mem_of_getElem? (i := 1) rfl)) (hw _ (List.mem_of_getElem? (i := 2) rfl)) (hw _ (List.mem_of_getElem? (i := 3) rfl)) (hw _ (List.mem_of_getElem? (i := 4) rfl)) (by decide) (rm1_7 l Z a0 hw [] i4 h0 n0 Z0 ) (by decide) (by decide) e94 (by rw [hml]; rfl) (argsL := [(.int i4)]) (rest := []) (lenOf pd_1 rfl) rfl (W := 0) (Nat.le_refl _) rfl (hb hby at_28) (by decide) (by decide) (pc' := 31) rfl (fun T96 L96 r96 X96 q96 => ?_)
  obtain ⟨N96, e96, rfl⟩ := q96
  have N96' := Fr.app N94' N96
  show KEnds p e below s _ _ _ T96 (mkF m 31 #[.val (.int i0), .val (.int i1), .val (.int i2), .val (.int i3), .val (.int i4), .val (.int (2 : Int32)), .val (.int v91), .val (.int v93), .val (.int v95), .unset, .unset, .unset, .unset, .unset, .unset] ((.int (f1_7 i4)) :: []))
  obtain ⟨v97, hv97⟩ : ∃ z, z = f1_7 i4 := ⟨_, rfl⟩
  rw [← hv97]
  refine k_istore X96 hx (hb hby at_31) (Ls' := #[.val (.int i0), .val (.int i1), .val (.int i2), .val (.int i3), .val (.int i4), .val (.int (2 : Int32)), .val (.int v91), .val (.int v93), .val (.int v95), .val (.int v97), .unset, .unset, .unset, .unset, .unset]) rfl (pc' := 33) rfl ?_
  refine k_iload X96 hx (hb hby at_33) rfl (pc' := 35) rfl ?_
  refine k_if_ne X96 hx (hb hby at_35) (pn := 38) rfl (py := 51) (by decide) (fun _ => ?_) (fun hc => absurd hc (by decide))
  refine k_iload X96 hx (hb hby at_51) rfl (pc' := 53) rfl ?_
  refine k_iconst X96 hx (hb hby at_53) (pc' := 54) rfl (z := (1 : Int32)) rfl ?_
  refine k_icmp_ne X96 hx (hb hby at_54) (pn := 57) rfl (py := 79) (by decide) (fun _ => ?_) (fun hc => absurd hc (by decide))
  refine k_iload X96 hx (hb hby at_79) rfl (pc' := 81) rfl ?_
  refine k_iconst X96 hx (hb hby at_81) (pc' := 82) rfl (z := (2 : Int32)) rfl ?_
  refine k_icmp_ne X96 hx (hb hby at_82) (pn := 85) rfl (py := 116) (by decide) (fun hc => absurd (by decide) hc) (fun _ => ?_)
  refine k_iconst X96 hx (hb hby at_85) (pc' := 86) rfl (z := (2 : Int32)) rfl ?_
  refine k_newA X96 hx hZ (hw _ (List.mem_of_getElem? (i := 9) rfl)) e96 (hb hby at_86) (by decide) (cap := 2) (by decide) (by decide) (by decide) (by decide) (pc' := 88) rfl (fun T98 h98 b98 k98 g98 X98 e98 E98 V98 => ?_)
  have g_b98 : n0 ≤ b98 := Nat.le_trans Z0 (Nat.le_of_eq g98.symm)
  have Z98 : n0 ≤ h98.size := Nat.le_trans Z0 E98.1
  have Vw98 : Arv Z h98 b98 k98 .int (2 : Int32) [(.int (0 : Int32)), (.int (0 : Int32))] (.int (0 : Int32)) := V98
  refine k_dup X98 hx (hb hby at_88) rfl (pc' := 89) rfl ?_
  refine k_iconst X98 hx (hb hby at_89) (pc' := 90) rfl (z := (0 : Int32)) rfl ?_
  refine k_iconst X98 hx (hb hby at_90) (pc' := 91) rfl (z := (0 : Int32)) rfl ?_
  refine k_iastore X98 hx hZ e98 Vw98 ⟨by decide, by decide⟩ (i := 0) rfl (Nat.le_of_ble_eq_true rfl) (hb hby at_91) (pc' := 92) rfl (fun T99 h99 X99 e99 W99 V99 => ?_)
  have Vw99 : Arv Z h99 b98 k98 .int (2 : Int32) [(.int (0 : Int32)), (.int (0 : Int32))] (.int (0 : Int32)) := V99
  have N99 := Fr.snoc X99 N96' g_b98
  have Z99 : n0 ≤ h99.size := Nat.le_trans Z98 (Nat.le_of_eq W99.size.symm)
  refine k_dup X99 hx (hb hby at_92) rfl (pc' := 93) rfl ?_
  refine k_iconst X99 hx (hb hby at_93) (pc' := 94) rfl (z := (1 : Int32)) rfl ?_
  refine k_iconst X99 hx (hb hby at_94) (pc' := 95) rfl (z := (1 : Int32)) rfl ?_
  refine k_iastore X99 hx hZ e99 Vw99 ⟨by decide, by decide⟩ (i := 1) rfl (Nat.le_of_ble_eq_true rfl) (hb hby at_95) (pc' := 96) rfl (fun T100 h100 X100 e100 W100 V100 => ?_)
  have Vw100 : Arv Z h100 b98 k98 .int (2 : Int32) [(.int (0 : Int32)), (.int (1 : Int32))] (.int (0 : Int32)) := V100
  have N100 := Fr.snoc X100 N99 g_b98
  have Z100 : n0 ≤ h100.size := Nat.le_trans Z99 (Nat.le_of_eq W100.size.symm)
  refine k_astore X100 hx (hb hby at_96) rfl (Ls' := #[.val (.int i0), .val (.int i1), .val (.int i2), .val (.int i3), .val (.int i4), .val (.int (2 : Int32)), .val (.int v91), .val (.int v93), .val (.int v95), .val (.int v97), .val (.ref b98), .unset, .unset, .unset, .unset]) rfl (pc' := 98) rfl ?_
  refine k_iconst X100 hx (hb hby at_98) (pc' := 99) rfl (z := (2 : Int32)) rfl ?_
  refine k_newA X100 hx hZ (hw _ (List.mem_of_getElem? (i := 9) rfl)) e100 (hb hby at_99) (by decide) (cap := 2) (by decide) (by decide) (by decide) (by decide) (pc' := 101) rfl (fun T101 h101 b101 k101 g101 X101 e101 E101 V101 => ?_)
  have g_b101 : n0 ≤ b101 := Nat.le_trans Z100 (Nat.le_of_eq g101.symm)
  have lt_b101 : b98 < b101 := Nat.lt_of_lt_of_le Vw100.lt (Nat.le_of_eq g101.symm)
  have Z101 : n0 ≤ h101.size := Nat.le_trans Z100 E101.1
  have Vw101 : Arv Z h101 b101 k101 .int (2 : Int32) [(.int (0 : Int32)), (.int (0 : Int32))] (.int (0 : Int32)) := V101
  refine k_dup X101 hx (hb hby at_101) rfl (pc' := 102) rfl ?_
  refine k_iconst X101 hx (hb hby at_102) (pc' := 103) rfl (z := (0 : Int32)) rfl ?_
  refine k_iload X101 hx (hb hby at_103) rfl (pc' := 105) rfl ?_
  refine k_iastore X101 hx hZ e101 Vw101 ⟨by decide, by decide⟩ (i := 0) rfl (Nat.le_of_ble_eq_true rfl) (hb hby at_105) (pc' := 106) rfl (fun T102 h102 X102 e102 W102 V102 => ?_)
  have Vw102 : Arv Z h102 b101 k101 .int (2 : Int32) [(.int v91), (.int (0 : Int32))] (.int (0 : Int32)) := V102
  have N102 := Fr.snoc X102 N100 g_b101
  have Z102 : n0 ≤ h102.size := Nat.le_trans Z101 (Nat.le_of_eq W102.size.symm)
  refine k_dup X102 hx (hb hby at_106) rfl (pc' := 107) rfl ?_
  refine k_iconst X102 hx (hb hby at_107) (pc' := 108) rfl (z := (1 : Int32)) rfl ?_
  refine k_iload X102 hx (hb hby at_108) rfl (pc' := 110) rfl ?_
  refine k_iastore X102 hx hZ e102 Vw102 ⟨by decide, by decide⟩ (i := 1) rfl (Nat.le_of_ble_eq_true rfl) (hb hby at_110) (pc' := 111) rfl (fun T103 h103 X103 e103 W103 V103 => ?_)
  have Vw103 : Arv Z h103 b101 k101 .int (2 : Int32) [(.int v91), (.int v93)] (.int (0 : Int32)) := V103
  have N103 := Fr.snoc X103 N102 g_b101
  have Z103 : n0 ≤ h103.size := Nat.le_trans Z102 (Nat.le_of_eq W103.size.symm)
  refine k_astore X103 hx (hb hby at_111) rfl (Ls' := #[.val (.int i0), .val (.int i1), .val (.int i2), .val (.int i3), .val (.int i4), .val (.int (2 : Int32)), .val (.int v91), .val (.int v93), .val (.int v95), .val (.int v97), .val (.ref b98), .val (.ref b101), .unset, .unset, .unset]) rfl (pc' := 113) rfl ?_
  refine k_goto X103 hx (hb hby at_113) (pc' := 208) (by decide) ?_
  refine k_newO X103 hx hZ hown (hw _ (List.mem_of_getElem? (i := 10) rfl)) (hw _ (List.mem_of_getElem? (i := 11) rfl)) (hw _ (List.mem_of_getElem? (i := 12) rfl)) e103 (hb hby at_208) (by decide) (by decide) (pc' := 211) rfl (fun T104 h104 b104 g104 X104 e104 E104 A104 D104 => ?_)
  have g_b104 : n0 ≤ b104 := Nat.le_trans Z103 (Nat.le_of_eq g104.symm)
  have lt_b104 : b101 < b104 := Nat.lt_of_lt_of_le Vw103.lt (Nat.le_of_eq g104.symm)
  have Z104 : n0 ≤ h104.size := Nat.le_trans Z103 E104.1
  have F105 : Fld Z h104 b104 "com/example/kallimachos/kallimachos/index/Postings" "documents" "[I" .null := D104 (Or.inr (hw _ (List.mem_of_getElem? (i := 20) rfl))) (ty := (.array .int)) (by decide)
  have F106 : Fld Z h104 b104 "com/example/kallimachos/kallimachos/index/Postings" "frequencies" "[I" .null := D104 (Or.inr (hw _ (List.mem_of_getElem? (i := 22) rfl))) (ty := (.array .int)) (by decide)
  refine k_dup X104 hx (hb hby at_211) rfl (pc' := 212) rfl ?_
  refine k_aload X104 hx (hb hby at_212) rfl rfl (pc' := 214) rfl ?_
  refine k_aload X104 hx (hb hby at_214) rfl rfl (pc' := 216) rfl ?_
  have F107 := ((((Vw100.ext E101).other W102 (Nat.ne_of_lt lt_b101)).other W103 (Nat.ne_of_lt lt_b101)).ext E104)
  have F108 := (Vw103.ext E104)
  refine k_callI X104 hx hZ hown (a := b104) rfl (hw _ (List.mem_of_getElem? (i := 13) rfl)) (hw _ (List.mem_of_getElem? (i := 14) rfl)) (hw _ (List.mem_of_getElem? (i := 12) rfl)) (hw _ (List.mem_of_getElem? (i := 15) rfl)) rfl (by decide) (rm3_109 l Z a0 hw [] b104 b98 b101 k98 k101 v91 v93 h104 n0 Z104 F107 g_b98 F108 g_b101 A104 F105 F106 g_b104 lt_b101 lt_b104) (by decide) (by decide) e104 (by rw [hml]; rfl) (argsL := [(.ref b98), (.ref b101)]) (rest := [(.ref b104)]) (lenOf pd_2 rfl) rfl (W := 1) (Nat.le_refl _) rfl (hb hby at_216) (by decide) (by decide) (pc' := 219) rfl (fun T119 L119 r119 X119 q119 => ?_)
  obtain ⟨N119, q119⟩ := q119
  have N119' := Fr.app N103 N119
  obtain ⟨rfl, F120, F121, F122, F123, F124, Z125⟩ := q119
  show KEnds p e below s _ _ _ T119 (mkF m 219 #[.val (.int i0), .val (.int i1), .val (.int i2), .val (.int i3), .val (.int i4), .val (.int (2 : Int32)), .val (.int v91), .val (.int v93), .val (.int v95), .val (.int v97), .val (.ref b98), .val (.ref b101), .unset, .unset, .unset] [(.ref b104)])
  refine k_astore X119 hx (hb hby at_219) rfl (Ls' := #[.val (.int i0), .val (.int i1), .val (.int i2), .val (.int i3), .val (.int i4), .val (.int (2 : Int32)), .val (.int v91), .val (.int v93), .val (.int v95), .val (.int v97), .val (.ref b98), .val (.ref b101), .val (.ref b104), .unset, .unset]) rfl (pc' := 221) rfl ?_
  refine k_lconst X119 hx (hb hby at_221) (pc' := 222) rfl (z := (0 : Int64)) rfl ?_
  refine k_lstore X119 hx (hb hby at_222) (Ls' := #[.val (.int i0), .val (.int i1), .val (.int i2), .val (.int i3), .val (.int i4), .val (.int (2 : Int32)), .val (.int v91), .val (.int v93), .val (.int v95), .val (.int v97), .val (.ref b98), .val (.ref b101), .val (.ref b104), .val (.long (0 : Int64)), .second]) rfl (pc' := 224) rfl ?_
  refine k_iload X119 hx (hb hby at_224) rfl (pc' := 226) rfl ?_
  refine k_if_le X119 hx (hb hby at_226) (pn := 229) rfl (py := 237) (by decide) (fun hc => absurd (by decide) hc) (fun _ => ?_)
  refine k_lload X119 hx (hb hby at_229) rfl (pc' := 231) rfl ?_
  refine k_iload X119 hx (hb hby at_231) rfl (pc' := 233) rfl ?_
  refine k_i2l X119 hx (hb hby at_233) (pc' := 234) rfl (fun v126 hv126 => ?_)
  refine k_laddL X119 hx (hb hby at_234) (pc' := 235) rfl (z := v126) (Int64.zero_add _) ?_
  refine k_lstore X119 hx (hb hby at_235) (Ls' := #[.val (.int i0), .val (.int i1), .val (.int i2), .val (.int i3), .val (.int i4), .val (.int (2 : Int32)), .val (.int v91), .val (.int v93), .val (.int v95), .val (.int v97), .val (.ref b98), .val (.ref b101), .val (.ref b104), .val (.long v126), .second]) rfl (pc' := 237) rfl ?_
  refine k_iload X119 hx (hb hby at_237) rfl (pc' := 239) rfl ?_
  refine k_iconst X119 hx (hb hby at_239) (pc' := 240) rfl (z := (1 : Int32)) rfl ?_
  refine k_icmp_le X119 hx (hb hby at_240) (pn := 243) rfl (py := 251) (by decide) (fun hc => absurd (by decide) hc) (fun _ => ?_)
  refine k_lload X119 hx (hb hby at_243) rfl (pc' := 245) rfl ?_
  refine k_iload X119 hx (hb hby at_245) rfl (pc' := 247) rfl ?_
  refine k_i2l X119 hx (hb hby at_247) (pc' := 248) rfl (fun v127 hv127 => ?_)
  refine k_ladd X119 hx (hb hby at_248) (pc' := 249) rfl (fun v128 hv128 => ?_)
  refine k_lstore X119 hx (hb hby at_249) (Ls' := #[.val (.int i0), .val (.int i1), .val (.int i2), .val (.int i3), .val (.int i4), .val (.int (2 : Int32)), .val (.int v91), .val (.int v93), .val (.int v95), .val (.int v97), .val (.ref b98), .val (.ref b101), .val (.ref b104), .val (.long v128), .second]) rfl (pc' := 251) rfl ?_
  refine k_iload X119 hx (hb hby at_251) rfl (pc' := 253) rfl ?_
  refine k_iconst X119 hx (hb hby at_253) (pc' := 254) rfl (z := (2 : Int32)) rfl ?_
  refine k_icmp_le X119 hx (hb hby at_254) (pn := 257) rfl (py := 265) (by decide) (fun _ => ?_) (fun hc => absurd hc (by decide))
  refine k_iload X119 hx (hb hby at_265) rfl (pc' := 267) rfl ?_
  refine k_iconst X119 hx (hb hby at_267) (pc' := 268) rfl (z := (3 : Int32)) rfl ?_
  refine k_icmp_le X119 hx (hb hby at_268) (pn := 271) rfl (py := 279) (by decide) (fun _ => ?_) (fun hc => absurd hc (by decide))
  refine k_aload X119 hx (hb hby at_279) rfl rfl (pc' := 281) rfl ?_
  refine k_callV X119 hx hZ hown (a := b104) (hw _ (List.mem_of_getElem? (i := 23) rfl)) (hw _ (List.mem_of_getElem? (i := 24) rfl)) (hw _ (List.mem_of_getElem? (i := 26) rfl)) (hw _ (List.mem_of_getElem? (i := 25) rfl)) (hw _ (List.mem_of_getElem? (i := 12) rfl)) (hw _ (List.mem_of_getElem? (i := 27) rfl)) (by decide) F122 (rm5_129 l Z a0 hw [] b104 b98 k98 b101 k101 v91 v93 T119.heap n0 Z125 F120 F121 F122 F123 F124 lt_b101 lt_b104) (by decide) (by decide) rfl (by rw [hml]; rfl) (argsL := []) (rest := []) (lenOf pd_3 rfl) rfl (W := 0) (Nat.le_refl _) rfl (hb hby at_281) (by decide) (by decide) (pc' := 284) rfl (fun T134 L134 r134 X134 q134 => ?_)
  obtain ⟨N134, e134, q134⟩ := q134
  have N134' := Fr.app N119' N134
  obtain ⟨v135, v136, v137, h138, h139, h140, rfl⟩ := q134
  have hh141 : v126 = v135 := hv126.trans h138.symm
  subst hh141
  have hh142 : v127 = v136 := hv127.trans h139.symm
  subst hh142
  have hh143 : v128 = v137 := hv128.trans h140.symm
  subst hh143
  show KEnds p e below s _ _ _ T134 (mkF m 284 #[.val (.int i0), .val (.int i1), .val (.int i2), .val (.int i3), .val (.int i4), .val (.int (2 : Int32)), .val (.int v91), .val (.int v93), .val (.int v95), .val (.int v97), .val (.ref b98), .val (.ref b101), .val (.ref b104), .val (.long v128), .second] [(.long v128)])
  refine k_lload X134 hx (hb hby at_284) rfl (pc' := 286) rfl ?_
  refine k_lcif_ne X134 hx (hb hby at_286) (pm := 287) rfl (hb hby at_287) (pn := 290) rfl (py := 294) (by decide) (fun hc => absurd rfl hc) (fun _ => ?_)
  refine k_iconst X134 hx (hb hby at_290) (pc' := 291) rfl (z := (1 : Int32)) rfl ?_
  refine k_goto X134 hx (hb hby at_291) (pc' := 295) (by decide) ?_
  exact k_retN X134 hx (t := .boolean) Bd.returns (by simp) (hb hby at_295) hlk (by decide) (by decide) (z' := (1 : Int32)) rfl ⟨rfl, N134'⟩
 ·
  show KEnds p e below s _ _ _ s₁ (mkF m 6 #[.val (.int i0), .val (.int i1), .val (.int i2), .val (.int i3), .val (.int i4), .unset, .unset, .unset, .unset, .unset, .unset, .unset, .unset, .unset, .unset] [(.int (3 : Int32))])
  refine k_istore X0 hx (hb hby at_6) (Ls' := #[.val (.int i0), .val (.int i1), .val (.int i2), .val (.int i3), .val (.int i4), .val (.int (3 : Int32)), .unset, .unset, .unset, .unset, .unset, .unset, .unset, .unset, .unset]) rfl (pc' := 8) rfl ?_
  refine k_iloadN X0 hx (hb hby at_8) rfl (pc' := 9) rfl ?_
  refine k_callS X0 hx hZ hown (hw _ (List.mem_of_getElem? (i := 1) rfl)) (hw _ (List.mem_of_getElem? (i := 2) rfl)) (hw _ (List.mem_of_getElem? (i := 3) rfl)) (hw _ (List.mem_of_getElem? (i := 4) rfl)) (by decide) (rm1_7 l Z a0 hw [] i1 h0 n0 Z0 ) (by decide) (by decide) e0 (by rw [hml]; rfl) (argsL := [(.int i1)]) (rest := []) (lenOf pd_1 rfl) rfl (W := 0) (Nat.le_refl _) rfl (hb hby at_9) (by decide) (by decide) (pc' := 12) rfl (fun T145 L145 r145 X145 q145 => ?_)
  obtain ⟨N145, e145, rfl⟩ := q145
  have N145' := Fr.app N0 N145
  show KEnds p e below s _ _ _ T145 (mkF m 12 #[.val (.int i0), .val (.int i1), .val (.int i2), .val (.int i3), .val (.int i4), .val (.int (3 : Int32)), .unset, .unset, .unset, .unset, .unset, .unset, .unset, .unset, .unset] ((.int (f1_7 i1)) :: []))
  obtain ⟨v146, hv146⟩ : ∃ z, z = f1_7 i1 := ⟨_, rfl⟩
  rw [← hv146]
  refine k_istore X145 hx (hb hby at_12) (Ls' := #[.val (.int i0), .val (.int i1), .val (.int i2), .val (.int i3), .val (.int i4), .val (.int (3 : Int32)), .val (.int v146), .unset, .unset, .unset, .unset, .unset, .unset, .unset, .unset]) rfl (pc' := 14) rfl ?_
  refine k_iloadN X145 hx (hb hby at_14) rfl (pc' := 15) rfl ?_
  refine k_callS X145 hx hZ hown (hw _ (List.mem_of_getElem? (i := 1) rfl)) (hw _ (List.mem_of_getElem? (i := 2) rfl)) (hw _ (List.mem_of_getElem? (i := 3) rfl)) (hw _ (List.mem_of_getElem? (i := 4) rfl)) (by decide) (rm1_7 l Z a0 hw [] i2 h0 n0 Z0 ) (by decide) (by decide) e145 (by rw [hml]; rfl) (argsL := [(.int i2)]) (rest := []) (lenOf pd_1 rfl) rfl (W := 0) (Nat.le_refl _) rfl (hb hby at_15) (by decide) (by decide) (pc' := 18) rfl (fun T147 L147 r147 X147 q147 => ?_)
  obtain ⟨N147, e147, rfl⟩ := q147
  have N147' := Fr.app N145' N147
  show KEnds p e below s _ _ _ T147 (mkF m 18 #[.val (.int i0), .val (.int i1), .val (.int i2), .val (.int i3), .val (.int i4), .val (.int (3 : Int32)), .val (.int v146), .unset, .unset, .unset, .unset, .unset, .unset, .unset, .unset] ((.int (f1_7 i2)) :: []))
  obtain ⟨v148, hv148⟩ : ∃ z, z = f1_7 i2 := ⟨_, rfl⟩
  rw [← hv148]
  refine k_istore X147 hx (hb hby at_18) (Ls' := #[.val (.int i0), .val (.int i1), .val (.int i2), .val (.int i3), .val (.int i4), .val (.int (3 : Int32)), .val (.int v146), .val (.int v148), .unset, .unset, .unset, .unset, .unset, .unset, .unset]) rfl (pc' := 20) rfl ?_
  refine k_iloadN X147 hx (hb hby at_20) rfl (pc' := 21) rfl ?_
  refine k_callS X147 hx hZ hown (hw _ (List.mem_of_getElem? (i := 1) rfl)) (hw _ (List.mem_of_getElem? (i := 2) rfl)) (hw _ (List.mem_of_getElem? (i := 3) rfl)) (hw _ (List.mem_of_getElem? (i := 4) rfl)) (by decide) (rm1_7 l Z a0 hw [] i3 h0 n0 Z0 ) (by decide) (by decide) e147 (by rw [hml]; rfl) (argsL := [(.int i3)]) (rest := []) (lenOf pd_1 rfl) rfl (W := 0) (Nat.le_refl _) rfl (hb hby at_21) (by decide) (by decide) (pc' := 24) rfl (fun T149 L149 r149 X149 q149 => ?_)
  obtain ⟨N149, e149, rfl⟩ := q149
  have N149' := Fr.app N147' N149
  show KEnds p e below s _ _ _ T149 (mkF m 24 #[.val (.int i0), .val (.int i1), .val (.int i2), .val (.int i3), .val (.int i4), .val (.int (3 : Int32)), .val (.int v146), .val (.int v148), .unset, .unset, .unset, .unset, .unset, .unset, .unset] ((.int (f1_7 i3)) :: []))
  obtain ⟨v150, hv150⟩ : ∃ z, z = f1_7 i3 := ⟨_, rfl⟩
  rw [← hv150]
  refine k_istore X149 hx (hb hby at_24) (Ls' := #[.val (.int i0), .val (.int i1), .val (.int i2), .val (.int i3), .val (.int i4), .val (.int (3 : Int32)), .val (.int v146), .val (.int v148), .val (.int v150), .unset, .unset, .unset, .unset, .unset, .unset]) rfl (pc' := 26) rfl ?_
  refine k_iload X149 hx (hb hby at_26) rfl (pc' := 28) rfl ?_
  refine k_callS X149 hx hZ hown (hw _ (List.mem_of_getElem? (i := 1) rfl)) (hw _ (List.mem_of_getElem? (i := 2) rfl)) (hw _ (List.mem_of_getElem? (i := 3) rfl)) (hw _ (List.mem_of_getElem? (i := 4) rfl)) (by decide) (rm1_7 l Z a0 hw [] i4 h0 n0 Z0 ) (by decide) (by decide) e149 (by rw [hml]; rfl) (argsL := [(.int i4)]) (rest := []) (lenOf pd_1 rfl) rfl (W := 0) (Nat.le_refl _) rfl (hb hby at_28) (by decide) (by decide) (pc' := 31) rfl (fun T151 L151 r151 X151 q151 => ?_)
  obtain ⟨N151, e151, rfl⟩ := q151
  have N151' := Fr.app N149' N151
  show KEnds p e below s _ _ _ T151 (mkF m 31 #[.val (.int i0), .val (.int i1), .val (.int i2), .val (.int i3), .val (.int i4), .val (.int (3 : Int32)), .val (.int v146), .val (.int v148), .val (.int v150), .unset, .unset, .unset, .unset, .unset, .unset] ((.int (f1_7 i4)) :: []))
  obtain ⟨v152, hv152⟩ : ∃ z, z = f1_7 i4 := ⟨_, rfl⟩
  rw [← hv152]
  refine k_istore X151 hx (hb hby at_31) (Ls' := #[.val (.int i0), .val (.int i1), .val (.int i2), .val (.int i3), .val (.int i4), .val (.int (3 : Int32)), .val (.int v146), .val (.int v148), .val (.int v150), .val (.int v152), .unset, .unset, .unset, .unset, .unset]) rfl (pc' := 33) rfl ?_
  refine k_iload X151 hx (hb hby at_33) rfl (pc' := 35) rfl ?_
  refine k_if_ne X151 hx (hb hby at_35) (pn := 38) rfl (py := 51) (by decide) (fun _ => ?_) (fun hc => absurd hc (by decide))
  refine k_iload X151 hx (hb hby at_51) rfl (pc' := 53) rfl ?_
  refine k_iconst X151 hx (hb hby at_53) (pc' := 54) rfl (z := (1 : Int32)) rfl ?_
  refine k_icmp_ne X151 hx (hb hby at_54) (pn := 57) rfl (py := 79) (by decide) (fun _ => ?_) (fun hc => absurd hc (by decide))
  refine k_iload X151 hx (hb hby at_79) rfl (pc' := 81) rfl ?_
  refine k_iconst X151 hx (hb hby at_81) (pc' := 82) rfl (z := (2 : Int32)) rfl ?_
  refine k_icmp_ne X151 hx (hb hby at_82) (pn := 85) rfl (py := 116) (by decide) (fun _ => ?_) (fun hc => absurd hc (by decide))
  refine k_iload X151 hx (hb hby at_116) rfl (pc' := 118) rfl ?_
  refine k_iconst X151 hx (hb hby at_118) (pc' := 119) rfl (z := (3 : Int32)) rfl ?_
  refine k_icmp_ne X151 hx (hb hby at_119) (pn := 122) rfl (py := 162) (by decide) (fun hc => absurd (by decide) hc) (fun _ => ?_)
  refine k_iconst X151 hx (hb hby at_122) (pc' := 123) rfl (z := (3 : Int32)) rfl ?_
  refine k_newA X151 hx hZ (hw _ (List.mem_of_getElem? (i := 9) rfl)) e151 (hb hby at_123) (by decide) (cap := 3) (by decide) (by decide) (by decide) (by decide) (pc' := 125) rfl (fun T153 h153 b153 k153 g153 X153 e153 E153 V153 => ?_)
  have g_b153 : n0 ≤ b153 := Nat.le_trans Z0 (Nat.le_of_eq g153.symm)
  have Z153 : n0 ≤ h153.size := Nat.le_trans Z0 E153.1
  have Vw153 : Arv Z h153 b153 k153 .int (3 : Int32) [(.int (0 : Int32)), (.int (0 : Int32)), (.int (0 : Int32))] (.int (0 : Int32)) := V153
  refine k_dup X153 hx (hb hby at_125) rfl (pc' := 126) rfl ?_
  refine k_iconst X153 hx (hb hby at_126) (pc' := 127) rfl (z := (0 : Int32)) rfl ?_
  refine k_iconst X153 hx (hb hby at_127) (pc' := 128) rfl (z := (0 : Int32)) rfl ?_
  refine k_iastore X153 hx hZ e153 Vw153 ⟨by decide, by decide⟩ (i := 0) rfl (Nat.le_of_ble_eq_true rfl) (hb hby at_128) (pc' := 129) rfl (fun T154 h154 X154 e154 W154 V154 => ?_)
  have Vw154 : Arv Z h154 b153 k153 .int (3 : Int32) [(.int (0 : Int32)), (.int (0 : Int32)), (.int (0 : Int32))] (.int (0 : Int32)) := V154
  have N154 := Fr.snoc X154 N151' g_b153
  have Z154 : n0 ≤ h154.size := Nat.le_trans Z153 (Nat.le_of_eq W154.size.symm)
  refine k_dup X154 hx (hb hby at_129) rfl (pc' := 130) rfl ?_
  refine k_iconst X154 hx (hb hby at_130) (pc' := 131) rfl (z := (1 : Int32)) rfl ?_
  refine k_iconst X154 hx (hb hby at_131) (pc' := 132) rfl (z := (1 : Int32)) rfl ?_
  refine k_iastore X154 hx hZ e154 Vw154 ⟨by decide, by decide⟩ (i := 1) rfl (Nat.le_of_ble_eq_true rfl) (hb hby at_132) (pc' := 133) rfl (fun T155 h155 X155 e155 W155 V155 => ?_)
  have Vw155 : Arv Z h155 b153 k153 .int (3 : Int32) [(.int (0 : Int32)), (.int (1 : Int32)), (.int (0 : Int32))] (.int (0 : Int32)) := V155
  have N155 := Fr.snoc X155 N154 g_b153
  have Z155 : n0 ≤ h155.size := Nat.le_trans Z154 (Nat.le_of_eq W155.size.symm)
  refine k_dup X155 hx (hb hby at_133) rfl (pc' := 134) rfl ?_
  refine k_iconst X155 hx (hb hby at_134) (pc' := 135) rfl (z := (2 : Int32)) rfl ?_
  refine k_iconst X155 hx (hb hby at_135) (pc' := 136) rfl (z := (2 : Int32)) rfl ?_
  refine k_iastore X155 hx hZ e155 Vw155 ⟨by decide, by decide⟩ (i := 2) rfl (Nat.le_of_ble_eq_true rfl) (hb hby at_136) (pc' := 137) rfl (fun T156 h156 X156 e156 W156 V156 => ?_)
  have Vw156 : Arv Z h156 b153 k153 .int (3 : Int32) [(.int (0 : Int32)), (.int (1 : Int32)), (.int (2 : Int32))] (.int (0 : Int32)) := V156
  have N156 := Fr.snoc X156 N155 g_b153
  have Z156 : n0 ≤ h156.size := Nat.le_trans Z155 (Nat.le_of_eq W156.size.symm)
  refine k_astore X156 hx (hb hby at_137) rfl (Ls' := #[.val (.int i0), .val (.int i1), .val (.int i2), .val (.int i3), .val (.int i4), .val (.int (3 : Int32)), .val (.int v146), .val (.int v148), .val (.int v150), .val (.int v152), .val (.ref b153), .unset, .unset, .unset, .unset]) rfl (pc' := 139) rfl ?_
  refine k_iconst X156 hx (hb hby at_139) (pc' := 140) rfl (z := (3 : Int32)) rfl ?_
  refine k_newA X156 hx hZ (hw _ (List.mem_of_getElem? (i := 9) rfl)) e156 (hb hby at_140) (by decide) (cap := 3) (by decide) (by decide) (by decide) (by decide) (pc' := 142) rfl (fun T157 h157 b157 k157 g157 X157 e157 E157 V157 => ?_)
  have g_b157 : n0 ≤ b157 := Nat.le_trans Z156 (Nat.le_of_eq g157.symm)
  have lt_b157 : b153 < b157 := Nat.lt_of_lt_of_le Vw156.lt (Nat.le_of_eq g157.symm)
  have Z157 : n0 ≤ h157.size := Nat.le_trans Z156 E157.1
  have Vw157 : Arv Z h157 b157 k157 .int (3 : Int32) [(.int (0 : Int32)), (.int (0 : Int32)), (.int (0 : Int32))] (.int (0 : Int32)) := V157
  refine k_dup X157 hx (hb hby at_142) rfl (pc' := 143) rfl ?_
  refine k_iconst X157 hx (hb hby at_143) (pc' := 144) rfl (z := (0 : Int32)) rfl ?_
  refine k_iload X157 hx (hb hby at_144) rfl (pc' := 146) rfl ?_
  refine k_iastore X157 hx hZ e157 Vw157 ⟨by decide, by decide⟩ (i := 0) rfl (Nat.le_of_ble_eq_true rfl) (hb hby at_146) (pc' := 147) rfl (fun T158 h158 X158 e158 W158 V158 => ?_)
  have Vw158 : Arv Z h158 b157 k157 .int (3 : Int32) [(.int v146), (.int (0 : Int32)), (.int (0 : Int32))] (.int (0 : Int32)) := V158
  have N158 := Fr.snoc X158 N156 g_b157
  have Z158 : n0 ≤ h158.size := Nat.le_trans Z157 (Nat.le_of_eq W158.size.symm)
  refine k_dup X158 hx (hb hby at_147) rfl (pc' := 148) rfl ?_
  refine k_iconst X158 hx (hb hby at_148) (pc' := 149) rfl (z := (1 : Int32)) rfl ?_
  refine k_iload X158 hx (hb hby at_149) rfl (pc' := 151) rfl ?_
  refine k_iastore X158 hx hZ e158 Vw158 ⟨by decide, by decide⟩ (i := 1) rfl (Nat.le_of_ble_eq_true rfl) (hb hby at_151) (pc' := 152) rfl (fun T159 h159 X159 e159 W159 V159 => ?_)
  have Vw159 : Arv Z h159 b157 k157 .int (3 : Int32) [(.int v146), (.int v148), (.int (0 : Int32))] (.int (0 : Int32)) := V159
  have N159 := Fr.snoc X159 N158 g_b157
  have Z159 : n0 ≤ h159.size := Nat.le_trans Z158 (Nat.le_of_eq W159.size.symm)
  refine k_dup X159 hx (hb hby at_152) rfl (pc' := 153) rfl ?_
  refine k_iconst X159 hx (hb hby at_153) (pc' := 154) rfl (z := (2 : Int32)) rfl ?_
  refine k_iload X159 hx (hb hby at_154) rfl (pc' := 156) rfl ?_
  refine k_iastore X159 hx hZ e159 Vw159 ⟨by decide, by decide⟩ (i := 2) rfl (Nat.le_of_ble_eq_true rfl) (hb hby at_156) (pc' := 157) rfl (fun T160 h160 X160 e160 W160 V160 => ?_)
  have Vw160 : Arv Z h160 b157 k157 .int (3 : Int32) [(.int v146), (.int v148), (.int v150)] (.int (0 : Int32)) := V160
  have N160 := Fr.snoc X160 N159 g_b157
  have Z160 : n0 ≤ h160.size := Nat.le_trans Z159 (Nat.le_of_eq W160.size.symm)
  refine k_astore X160 hx (hb hby at_157) rfl (Ls' := #[.val (.int i0), .val (.int i1), .val (.int i2), .val (.int i3), .val (.int i4), .val (.int (3 : Int32)), .val (.int v146), .val (.int v148), .val (.int v150), .val (.int v152), .val (.ref b153), .val (.ref b157), .unset, .unset, .unset]) rfl (pc' := 159) rfl ?_
  refine k_goto X160 hx (hb hby at_159) (pc' := 208) (by decide) ?_
  refine k_newO X160 hx hZ hown (hw _ (List.mem_of_getElem? (i := 10) rfl)) (hw _ (List.mem_of_getElem? (i := 11) rfl)) (hw _ (List.mem_of_getElem? (i := 12) rfl)) e160 (hb hby at_208) (by decide) (by decide) (pc' := 211) rfl (fun T161 h161 b161 g161 X161 e161 E161 A161 D161 => ?_)
  have g_b161 : n0 ≤ b161 := Nat.le_trans Z160 (Nat.le_of_eq g161.symm)
  have lt_b161 : b157 < b161 := Nat.lt_of_lt_of_le Vw160.lt (Nat.le_of_eq g161.symm)
  have Z161 : n0 ≤ h161.size := Nat.le_trans Z160 E161.1
  have F162 : Fld Z h161 b161 "com/example/kallimachos/kallimachos/index/Postings" "documents" "[I" .null := D161 (Or.inr (hw _ (List.mem_of_getElem? (i := 20) rfl))) (ty := (.array .int)) (by decide)
  have F163 : Fld Z h161 b161 "com/example/kallimachos/kallimachos/index/Postings" "frequencies" "[I" .null := D161 (Or.inr (hw _ (List.mem_of_getElem? (i := 22) rfl))) (ty := (.array .int)) (by decide)
  refine k_dup X161 hx (hb hby at_211) rfl (pc' := 212) rfl ?_
  refine k_aload X161 hx (hb hby at_212) rfl rfl (pc' := 214) rfl ?_
  refine k_aload X161 hx (hb hby at_214) rfl rfl (pc' := 216) rfl ?_
  have F164 := (((((Vw156.ext E157).other W158 (Nat.ne_of_lt lt_b157)).other W159 (Nat.ne_of_lt lt_b157)).other W160 (Nat.ne_of_lt lt_b157)).ext E161)
  have F165 := (Vw160.ext E161)
  refine k_callI X161 hx hZ hown (a := b161) rfl (hw _ (List.mem_of_getElem? (i := 13) rfl)) (hw _ (List.mem_of_getElem? (i := 14) rfl)) (hw _ (List.mem_of_getElem? (i := 12) rfl)) (hw _ (List.mem_of_getElem? (i := 15) rfl)) rfl (by decide) (rm3_166 l Z a0 hw [] b161 b153 b157 k153 k157 v146 v148 v150 h161 n0 Z161 F164 g_b153 F165 g_b157 A161 F162 F163 g_b161 lt_b157 lt_b161) (by decide) (by decide) e161 (by rw [hml]; rfl) (argsL := [(.ref b153), (.ref b157)]) (rest := [(.ref b161)]) (lenOf pd_2 rfl) rfl (W := 1) (Nat.le_refl _) rfl (hb hby at_216) (by decide) (by decide) (pc' := 219) rfl (fun T176 L176 r176 X176 q176 => ?_)
  obtain ⟨N176, q176⟩ := q176
  have N176' := Fr.app N160 N176
  obtain ⟨rfl, F177, F178, F179, F180, F181, Z182⟩ := q176
  show KEnds p e below s _ _ _ T176 (mkF m 219 #[.val (.int i0), .val (.int i1), .val (.int i2), .val (.int i3), .val (.int i4), .val (.int (3 : Int32)), .val (.int v146), .val (.int v148), .val (.int v150), .val (.int v152), .val (.ref b153), .val (.ref b157), .unset, .unset, .unset] [(.ref b161)])
  refine k_astore X176 hx (hb hby at_219) rfl (Ls' := #[.val (.int i0), .val (.int i1), .val (.int i2), .val (.int i3), .val (.int i4), .val (.int (3 : Int32)), .val (.int v146), .val (.int v148), .val (.int v150), .val (.int v152), .val (.ref b153), .val (.ref b157), .val (.ref b161), .unset, .unset]) rfl (pc' := 221) rfl ?_
  refine k_lconst X176 hx (hb hby at_221) (pc' := 222) rfl (z := (0 : Int64)) rfl ?_
  refine k_lstore X176 hx (hb hby at_222) (Ls' := #[.val (.int i0), .val (.int i1), .val (.int i2), .val (.int i3), .val (.int i4), .val (.int (3 : Int32)), .val (.int v146), .val (.int v148), .val (.int v150), .val (.int v152), .val (.ref b153), .val (.ref b157), .val (.ref b161), .val (.long (0 : Int64)), .second]) rfl (pc' := 224) rfl ?_
  refine k_iload X176 hx (hb hby at_224) rfl (pc' := 226) rfl ?_
  refine k_if_le X176 hx (hb hby at_226) (pn := 229) rfl (py := 237) (by decide) (fun hc => absurd (by decide) hc) (fun _ => ?_)
  refine k_lload X176 hx (hb hby at_229) rfl (pc' := 231) rfl ?_
  refine k_iload X176 hx (hb hby at_231) rfl (pc' := 233) rfl ?_
  refine k_i2l X176 hx (hb hby at_233) (pc' := 234) rfl (fun v183 hv183 => ?_)
  refine k_laddL X176 hx (hb hby at_234) (pc' := 235) rfl (z := v183) (Int64.zero_add _) ?_
  refine k_lstore X176 hx (hb hby at_235) (Ls' := #[.val (.int i0), .val (.int i1), .val (.int i2), .val (.int i3), .val (.int i4), .val (.int (3 : Int32)), .val (.int v146), .val (.int v148), .val (.int v150), .val (.int v152), .val (.ref b153), .val (.ref b157), .val (.ref b161), .val (.long v183), .second]) rfl (pc' := 237) rfl ?_
  refine k_iload X176 hx (hb hby at_237) rfl (pc' := 239) rfl ?_
  refine k_iconst X176 hx (hb hby at_239) (pc' := 240) rfl (z := (1 : Int32)) rfl ?_
  refine k_icmp_le X176 hx (hb hby at_240) (pn := 243) rfl (py := 251) (by decide) (fun hc => absurd (by decide) hc) (fun _ => ?_)
  refine k_lload X176 hx (hb hby at_243) rfl (pc' := 245) rfl ?_
  refine k_iload X176 hx (hb hby at_245) rfl (pc' := 247) rfl ?_
  refine k_i2l X176 hx (hb hby at_247) (pc' := 248) rfl (fun v184 hv184 => ?_)
  refine k_ladd X176 hx (hb hby at_248) (pc' := 249) rfl (fun v185 hv185 => ?_)
  refine k_lstore X176 hx (hb hby at_249) (Ls' := #[.val (.int i0), .val (.int i1), .val (.int i2), .val (.int i3), .val (.int i4), .val (.int (3 : Int32)), .val (.int v146), .val (.int v148), .val (.int v150), .val (.int v152), .val (.ref b153), .val (.ref b157), .val (.ref b161), .val (.long v185), .second]) rfl (pc' := 251) rfl ?_
  refine k_iload X176 hx (hb hby at_251) rfl (pc' := 253) rfl ?_
  refine k_iconst X176 hx (hb hby at_253) (pc' := 254) rfl (z := (2 : Int32)) rfl ?_
  refine k_icmp_le X176 hx (hb hby at_254) (pn := 257) rfl (py := 265) (by decide) (fun hc => absurd (by decide) hc) (fun _ => ?_)
  refine k_lload X176 hx (hb hby at_257) rfl (pc' := 259) rfl ?_
  refine k_iload X176 hx (hb hby at_259) rfl (pc' := 261) rfl ?_
  refine k_i2l X176 hx (hb hby at_261) (pc' := 262) rfl (fun v186 hv186 => ?_)
  refine k_ladd X176 hx (hb hby at_262) (pc' := 263) rfl (fun v187 hv187 => ?_)
  refine k_lstore X176 hx (hb hby at_263) (Ls' := #[.val (.int i0), .val (.int i1), .val (.int i2), .val (.int i3), .val (.int i4), .val (.int (3 : Int32)), .val (.int v146), .val (.int v148), .val (.int v150), .val (.int v152), .val (.ref b153), .val (.ref b157), .val (.ref b161), .val (.long v187), .second]) rfl (pc' := 265) rfl ?_
  refine k_iload X176 hx (hb hby at_265) rfl (pc' := 267) rfl ?_
  refine k_iconst X176 hx (hb hby at_267) (pc' := 268) rfl (z := (3 : Int32)) rfl ?_
  refine k_icmp_le X176 hx (hb hby at_268) (pn := 271) rfl (py := 279) (by decide) (fun _ => ?_) (fun hc => absurd hc (by decide))
  refine k_aload X176 hx (hb hby at_279) rfl rfl (pc' := 281) rfl ?_
  refine k_callV X176 hx hZ hown (a := b161) (hw _ (List.mem_of_getElem? (i := 23) rfl)) (hw _ (List.mem_of_getElem? (i := 24) rfl)) (hw _ (List.mem_of_getElem? (i := 26) rfl)) (hw _ (List.mem_of_getElem? (i := 25) rfl)) (hw _ (List.mem_of_getElem? (i := 12) rfl)) (hw _ (List.mem_of_getElem? (i := 27) rfl)) (by decide) F179 (rm5_188 l Z a0 hw [] b161 b153 k153 b157 k157 v146 v148 v150 T176.heap n0 Z182 F177 F178 F179 F180 F181 lt_b157 lt_b161) (by decide) (by decide) rfl (by rw [hml]; rfl) (argsL := []) (rest := []) (lenOf pd_3 rfl) rfl (W := 0) (Nat.le_refl _) rfl (hb hby at_281) (by decide) (by decide) (pc' := 284) rfl (fun T195 L195 r195 X195 q195 => ?_)
  obtain ⟨N195, e195, q195⟩ := q195
  have N195' := Fr.app N176' N195
  obtain ⟨v196, v197, v198, v199, v200, h201, h202, h203, h204, h205, rfl⟩ := q195
  have hh206 : v183 = v196 := hv183.trans h201.symm
  subst hh206
  have hh207 : v184 = v197 := hv184.trans h202.symm
  subst hh207
  have hh208 : v185 = v198 := hv185.trans h203.symm
  subst hh208
  have hh209 : v186 = v199 := hv186.trans h204.symm
  subst hh209
  have hh210 : v187 = v200 := hv187.trans h205.symm
  subst hh210
  show KEnds p e below s _ _ _ T195 (mkF m 284 #[.val (.int i0), .val (.int i1), .val (.int i2), .val (.int i3), .val (.int i4), .val (.int (3 : Int32)), .val (.int v146), .val (.int v148), .val (.int v150), .val (.int v152), .val (.ref b153), .val (.ref b157), .val (.ref b161), .val (.long v187), .second] [(.long v187)])
  refine k_lload X195 hx (hb hby at_284) rfl (pc' := 286) rfl ?_
  refine k_lcif_ne X195 hx (hb hby at_286) (pm := 287) rfl (hb hby at_287) (pn := 290) rfl (py := 294) (by decide) (fun hc => absurd rfl hc) (fun _ => ?_)
  refine k_iconst X195 hx (hb hby at_290) (pc' := 291) rfl (z := (1 : Int32)) rfl ?_
  refine k_goto X195 hx (hb hby at_291) (pc' := 295) (by decide) ?_
  exact k_retN X195 hx (t := .boolean) Bd.returns (by simp) (hb hby at_295) hlk (by decide) (by decide) (z' := (1 : Int32)) rfl ⟨rfl, N195'⟩
 ·
  show KEnds p e below s _ _ _ s₁ (mkF m 6 #[.val (.int i0), .val (.int i1), .val (.int i2), .val (.int i3), .val (.int i4), .unset, .unset, .unset, .unset, .unset, .unset, .unset, .unset, .unset, .unset] [(.int (4 : Int32))])
  refine k_istore X0 hx (hb hby at_6) (Ls' := #[.val (.int i0), .val (.int i1), .val (.int i2), .val (.int i3), .val (.int i4), .val (.int (4 : Int32)), .unset, .unset, .unset, .unset, .unset, .unset, .unset, .unset, .unset]) rfl (pc' := 8) rfl ?_
  refine k_iloadN X0 hx (hb hby at_8) rfl (pc' := 9) rfl ?_
  refine k_callS X0 hx hZ hown (hw _ (List.mem_of_getElem? (i := 1) rfl)) (hw _ (List.mem_of_getElem? (i := 2) rfl)) (hw _ (List.mem_of_getElem? (i := 3) rfl)) (hw _ (List.mem_of_getElem? (i := 4) rfl)) (by decide) (rm1_7 l Z a0 hw [] i1 h0 n0 Z0 ) (by decide) (by decide) e0 (by rw [hml]; rfl) (argsL := [(.int i1)]) (rest := []) (lenOf pd_1 rfl) rfl (W := 0) (Nat.le_refl _) rfl (hb hby at_9) (by decide) (by decide) (pc' := 12) rfl (fun T212 L212 r212 X212 q212 => ?_)
  obtain ⟨N212, e212, rfl⟩ := q212
  have N212' := Fr.app N0 N212
  show KEnds p e below s _ _ _ T212 (mkF m 12 #[.val (.int i0), .val (.int i1), .val (.int i2), .val (.int i3), .val (.int i4), .val (.int (4 : Int32)), .unset, .unset, .unset, .unset, .unset, .unset, .unset, .unset, .unset] ((.int (f1_7 i1)) :: []))
  obtain ⟨v213, hv213⟩ : ∃ z, z = f1_7 i1 := ⟨_, rfl⟩
  rw [← hv213]
  refine k_istore X212 hx (hb hby at_12) (Ls' := #[.val (.int i0), .val (.int i1), .val (.int i2), .val (.int i3), .val (.int i4), .val (.int (4 : Int32)), .val (.int v213), .unset, .unset, .unset, .unset, .unset, .unset, .unset, .unset]) rfl (pc' := 14) rfl ?_
  refine k_iloadN X212 hx (hb hby at_14) rfl (pc' := 15) rfl ?_
  refine k_callS X212 hx hZ hown (hw _ (List.mem_of_getElem? (i := 1) rfl)) (hw _ (List.mem_of_getElem? (i := 2) rfl)) (hw _ (List.mem_of_getElem? (i := 3) rfl)) (hw _ (List.mem_of_getElem? (i := 4) rfl)) (by decide) (rm1_7 l Z a0 hw [] i2 h0 n0 Z0 ) (by decide) (by decide) e212 (by rw [hml]; rfl) (argsL := [(.int i2)]) (rest := []) (lenOf pd_1 rfl) rfl (W := 0) (Nat.le_refl _) rfl (hb hby at_15) (by decide) (by decide) (pc' := 18) rfl (fun T214 L214 r214 X214 q214 => ?_)
  obtain ⟨N214, e214, rfl⟩ := q214
  have N214' := Fr.app N212' N214
  show KEnds p e below s _ _ _ T214 (mkF m 18 #[.val (.int i0), .val (.int i1), .val (.int i2), .val (.int i3), .val (.int i4), .val (.int (4 : Int32)), .val (.int v213), .unset, .unset, .unset, .unset, .unset, .unset, .unset, .unset] ((.int (f1_7 i2)) :: []))
  obtain ⟨v215, hv215⟩ : ∃ z, z = f1_7 i2 := ⟨_, rfl⟩
  rw [← hv215]
  refine k_istore X214 hx (hb hby at_18) (Ls' := #[.val (.int i0), .val (.int i1), .val (.int i2), .val (.int i3), .val (.int i4), .val (.int (4 : Int32)), .val (.int v213), .val (.int v215), .unset, .unset, .unset, .unset, .unset, .unset, .unset]) rfl (pc' := 20) rfl ?_
  refine k_iloadN X214 hx (hb hby at_20) rfl (pc' := 21) rfl ?_
  refine k_callS X214 hx hZ hown (hw _ (List.mem_of_getElem? (i := 1) rfl)) (hw _ (List.mem_of_getElem? (i := 2) rfl)) (hw _ (List.mem_of_getElem? (i := 3) rfl)) (hw _ (List.mem_of_getElem? (i := 4) rfl)) (by decide) (rm1_7 l Z a0 hw [] i3 h0 n0 Z0 ) (by decide) (by decide) e214 (by rw [hml]; rfl) (argsL := [(.int i3)]) (rest := []) (lenOf pd_1 rfl) rfl (W := 0) (Nat.le_refl _) rfl (hb hby at_21) (by decide) (by decide) (pc' := 24) rfl (fun T216 L216 r216 X216 q216 => ?_)
  obtain ⟨N216, e216, rfl⟩ := q216
  have N216' := Fr.app N214' N216
  show KEnds p e below s _ _ _ T216 (mkF m 24 #[.val (.int i0), .val (.int i1), .val (.int i2), .val (.int i3), .val (.int i4), .val (.int (4 : Int32)), .val (.int v213), .val (.int v215), .unset, .unset, .unset, .unset, .unset, .unset, .unset] ((.int (f1_7 i3)) :: []))
  obtain ⟨v217, hv217⟩ : ∃ z, z = f1_7 i3 := ⟨_, rfl⟩
  rw [← hv217]
  refine k_istore X216 hx (hb hby at_24) (Ls' := #[.val (.int i0), .val (.int i1), .val (.int i2), .val (.int i3), .val (.int i4), .val (.int (4 : Int32)), .val (.int v213), .val (.int v215), .val (.int v217), .unset, .unset, .unset, .unset, .unset, .unset]) rfl (pc' := 26) rfl ?_
  refine k_iload X216 hx (hb hby at_26) rfl (pc' := 28) rfl ?_
  refine k_callS X216 hx hZ hown (hw _ (List.mem_of_getElem? (i := 1) rfl)) (hw _ (List.mem_of_getElem? (i := 2) rfl)) (hw _ (List.mem_of_getElem? (i := 3) rfl)) (hw _ (List.mem_of_getElem? (i := 4) rfl)) (by decide) (rm1_7 l Z a0 hw [] i4 h0 n0 Z0 ) (by decide) (by decide) e216 (by rw [hml]; rfl) (argsL := [(.int i4)]) (rest := []) (lenOf pd_1 rfl) rfl (W := 0) (Nat.le_refl _) rfl (hb hby at_28) (by decide) (by decide) (pc' := 31) rfl (fun T218 L218 r218 X218 q218 => ?_)
  obtain ⟨N218, e218, rfl⟩ := q218
  have N218' := Fr.app N216' N218
  show KEnds p e below s _ _ _ T218 (mkF m 31 #[.val (.int i0), .val (.int i1), .val (.int i2), .val (.int i3), .val (.int i4), .val (.int (4 : Int32)), .val (.int v213), .val (.int v215), .val (.int v217), .unset, .unset, .unset, .unset, .unset, .unset] ((.int (f1_7 i4)) :: []))
  obtain ⟨v219, hv219⟩ : ∃ z, z = f1_7 i4 := ⟨_, rfl⟩
  rw [← hv219]
  refine k_istore X218 hx (hb hby at_31) (Ls' := #[.val (.int i0), .val (.int i1), .val (.int i2), .val (.int i3), .val (.int i4), .val (.int (4 : Int32)), .val (.int v213), .val (.int v215), .val (.int v217), .val (.int v219), .unset, .unset, .unset, .unset, .unset]) rfl (pc' := 33) rfl ?_
  refine k_iload X218 hx (hb hby at_33) rfl (pc' := 35) rfl ?_
  refine k_if_ne X218 hx (hb hby at_35) (pn := 38) rfl (py := 51) (by decide) (fun _ => ?_) (fun hc => absurd hc (by decide))
  refine k_iload X218 hx (hb hby at_51) rfl (pc' := 53) rfl ?_
  refine k_iconst X218 hx (hb hby at_53) (pc' := 54) rfl (z := (1 : Int32)) rfl ?_
  refine k_icmp_ne X218 hx (hb hby at_54) (pn := 57) rfl (py := 79) (by decide) (fun _ => ?_) (fun hc => absurd hc (by decide))
  refine k_iload X218 hx (hb hby at_79) rfl (pc' := 81) rfl ?_
  refine k_iconst X218 hx (hb hby at_81) (pc' := 82) rfl (z := (2 : Int32)) rfl ?_
  refine k_icmp_ne X218 hx (hb hby at_82) (pn := 85) rfl (py := 116) (by decide) (fun _ => ?_) (fun hc => absurd hc (by decide))
  refine k_iload X218 hx (hb hby at_116) rfl (pc' := 118) rfl ?_
  refine k_iconst X218 hx (hb hby at_118) (pc' := 119) rfl (z := (3 : Int32)) rfl ?_
  refine k_icmp_ne X218 hx (hb hby at_119) (pn := 122) rfl (py := 162) (by decide) (fun _ => ?_) (fun hc => absurd hc (by decide))
  refine k_iconst X218 hx (hb hby at_162) (pc' := 163) rfl (z := (4 : Int32)) rfl ?_
  refine k_newA X218 hx hZ (hw _ (List.mem_of_getElem? (i := 9) rfl)) e218 (hb hby at_163) (by decide) (cap := 4) (by decide) (by decide) (by decide) (by decide) (pc' := 165) rfl (fun T220 h220 b220 k220 g220 X220 e220 E220 V220 => ?_)
  have g_b220 : n0 ≤ b220 := Nat.le_trans Z0 (Nat.le_of_eq g220.symm)
  have Z220 : n0 ≤ h220.size := Nat.le_trans Z0 E220.1
  have Vw220 : Arv Z h220 b220 k220 .int (4 : Int32) [(.int (0 : Int32)), (.int (0 : Int32)), (.int (0 : Int32)), (.int (0 : Int32))] (.int (0 : Int32)) := V220
  refine k_dup X220 hx (hb hby at_165) rfl (pc' := 166) rfl ?_
  refine k_iconst X220 hx (hb hby at_166) (pc' := 167) rfl (z := (0 : Int32)) rfl ?_
  refine k_iconst X220 hx (hb hby at_167) (pc' := 168) rfl (z := (0 : Int32)) rfl ?_
  refine k_iastore X220 hx hZ e220 Vw220 ⟨by decide, by decide⟩ (i := 0) rfl (Nat.le_of_ble_eq_true rfl) (hb hby at_168) (pc' := 169) rfl (fun T221 h221 X221 e221 W221 V221 => ?_)
  have Vw221 : Arv Z h221 b220 k220 .int (4 : Int32) [(.int (0 : Int32)), (.int (0 : Int32)), (.int (0 : Int32)), (.int (0 : Int32))] (.int (0 : Int32)) := V221
  have N221 := Fr.snoc X221 N218' g_b220
  have Z221 : n0 ≤ h221.size := Nat.le_trans Z220 (Nat.le_of_eq W221.size.symm)
  refine k_dup X221 hx (hb hby at_169) rfl (pc' := 170) rfl ?_
  refine k_iconst X221 hx (hb hby at_170) (pc' := 171) rfl (z := (1 : Int32)) rfl ?_
  refine k_iconst X221 hx (hb hby at_171) (pc' := 172) rfl (z := (1 : Int32)) rfl ?_
  refine k_iastore X221 hx hZ e221 Vw221 ⟨by decide, by decide⟩ (i := 1) rfl (Nat.le_of_ble_eq_true rfl) (hb hby at_172) (pc' := 173) rfl (fun T222 h222 X222 e222 W222 V222 => ?_)
  have Vw222 : Arv Z h222 b220 k220 .int (4 : Int32) [(.int (0 : Int32)), (.int (1 : Int32)), (.int (0 : Int32)), (.int (0 : Int32))] (.int (0 : Int32)) := V222
  have N222 := Fr.snoc X222 N221 g_b220
  have Z222 : n0 ≤ h222.size := Nat.le_trans Z221 (Nat.le_of_eq W222.size.symm)
  refine k_dup X222 hx (hb hby at_173) rfl (pc' := 174) rfl ?_
  refine k_iconst X222 hx (hb hby at_174) (pc' := 175) rfl (z := (2 : Int32)) rfl ?_
  refine k_iconst X222 hx (hb hby at_175) (pc' := 176) rfl (z := (2 : Int32)) rfl ?_
  refine k_iastore X222 hx hZ e222 Vw222 ⟨by decide, by decide⟩ (i := 2) rfl (Nat.le_of_ble_eq_true rfl) (hb hby at_176) (pc' := 177) rfl (fun T223 h223 X223 e223 W223 V223 => ?_)
  have Vw223 : Arv Z h223 b220 k220 .int (4 : Int32) [(.int (0 : Int32)), (.int (1 : Int32)), (.int (2 : Int32)), (.int (0 : Int32))] (.int (0 : Int32)) := V223
  have N223 := Fr.snoc X223 N222 g_b220
  have Z223 : n0 ≤ h223.size := Nat.le_trans Z222 (Nat.le_of_eq W223.size.symm)
  refine k_dup X223 hx (hb hby at_177) rfl (pc' := 178) rfl ?_
  refine k_iconst X223 hx (hb hby at_178) (pc' := 179) rfl (z := (3 : Int32)) rfl ?_
  refine k_iconst X223 hx (hb hby at_179) (pc' := 180) rfl (z := (3 : Int32)) rfl ?_
  refine k_iastore X223 hx hZ e223 Vw223 ⟨by decide, by decide⟩ (i := 3) rfl (Nat.le_of_ble_eq_true rfl) (hb hby at_180) (pc' := 181) rfl (fun T224 h224 X224 e224 W224 V224 => ?_)
  have Vw224 : Arv Z h224 b220 k220 .int (4 : Int32) [(.int (0 : Int32)), (.int (1 : Int32)), (.int (2 : Int32)), (.int (3 : Int32))] (.int (0 : Int32)) := V224
  have N224 := Fr.snoc X224 N223 g_b220
  have Z224 : n0 ≤ h224.size := Nat.le_trans Z223 (Nat.le_of_eq W224.size.symm)
  refine k_astore X224 hx (hb hby at_181) rfl (Ls' := #[.val (.int i0), .val (.int i1), .val (.int i2), .val (.int i3), .val (.int i4), .val (.int (4 : Int32)), .val (.int v213), .val (.int v215), .val (.int v217), .val (.int v219), .val (.ref b220), .unset, .unset, .unset, .unset]) rfl (pc' := 183) rfl ?_
  refine k_iconst X224 hx (hb hby at_183) (pc' := 184) rfl (z := (4 : Int32)) rfl ?_
  refine k_newA X224 hx hZ (hw _ (List.mem_of_getElem? (i := 9) rfl)) e224 (hb hby at_184) (by decide) (cap := 4) (by decide) (by decide) (by decide) (by decide) (pc' := 186) rfl (fun T225 h225 b225 k225 g225 X225 e225 E225 V225 => ?_)
  have g_b225 : n0 ≤ b225 := Nat.le_trans Z224 (Nat.le_of_eq g225.symm)
  have lt_b225 : b220 < b225 := Nat.lt_of_lt_of_le Vw224.lt (Nat.le_of_eq g225.symm)
  have Z225 : n0 ≤ h225.size := Nat.le_trans Z224 E225.1
  have Vw225 : Arv Z h225 b225 k225 .int (4 : Int32) [(.int (0 : Int32)), (.int (0 : Int32)), (.int (0 : Int32)), (.int (0 : Int32))] (.int (0 : Int32)) := V225
  refine k_dup X225 hx (hb hby at_186) rfl (pc' := 187) rfl ?_
  refine k_iconst X225 hx (hb hby at_187) (pc' := 188) rfl (z := (0 : Int32)) rfl ?_
  refine k_iload X225 hx (hb hby at_188) rfl (pc' := 190) rfl ?_
  refine k_iastore X225 hx hZ e225 Vw225 ⟨by decide, by decide⟩ (i := 0) rfl (Nat.le_of_ble_eq_true rfl) (hb hby at_190) (pc' := 191) rfl (fun T226 h226 X226 e226 W226 V226 => ?_)
  have Vw226 : Arv Z h226 b225 k225 .int (4 : Int32) [(.int v213), (.int (0 : Int32)), (.int (0 : Int32)), (.int (0 : Int32))] (.int (0 : Int32)) := V226
  have N226 := Fr.snoc X226 N224 g_b225
  have Z226 : n0 ≤ h226.size := Nat.le_trans Z225 (Nat.le_of_eq W226.size.symm)
  refine k_dup X226 hx (hb hby at_191) rfl (pc' := 192) rfl ?_
  refine k_iconst X226 hx (hb hby at_192) (pc' := 193) rfl (z := (1 : Int32)) rfl ?_
  refine k_iload X226 hx (hb hby at_193) rfl (pc' := 195) rfl ?_
  refine k_iastore X226 hx hZ e226 Vw226 ⟨by decide, by decide⟩ (i := 1) rfl (Nat.le_of_ble_eq_true rfl) (hb hby at_195) (pc' := 196) rfl (fun T227 h227 X227 e227 W227 V227 => ?_)
  have Vw227 : Arv Z h227 b225 k225 .int (4 : Int32) [(.int v213), (.int v215), (.int (0 : Int32)), (.int (0 : Int32))] (.int (0 : Int32)) := V227
  have N227 := Fr.snoc X227 N226 g_b225
  have Z227 : n0 ≤ h227.size := Nat.le_trans Z226 (Nat.le_of_eq W227.size.symm)
  refine k_dup X227 hx (hb hby at_196) rfl (pc' := 197) rfl ?_
  refine k_iconst X227 hx (hb hby at_197) (pc' := 198) rfl (z := (2 : Int32)) rfl ?_
  refine k_iload X227 hx (hb hby at_198) rfl (pc' := 200) rfl ?_
  refine k_iastore X227 hx hZ e227 Vw227 ⟨by decide, by decide⟩ (i := 2) rfl (Nat.le_of_ble_eq_true rfl) (hb hby at_200) (pc' := 201) rfl (fun T228 h228 X228 e228 W228 V228 => ?_)
  have Vw228 : Arv Z h228 b225 k225 .int (4 : Int32) [(.int v213), (.int v215), (.int v217), (.int (0 : Int32))] (.int (0 : Int32)) := V228
  have N228 := Fr.snoc X228 N227 g_b225
  have Z228 : n0 ≤ h228.size := Nat.le_trans Z227 (Nat.le_of_eq W228.size.symm)
  refine k_dup X228 hx (hb hby at_201) rfl (pc' := 202) rfl ?_
  refine k_iconst X228 hx (hb hby at_202) (pc' := 203) rfl (z := (3 : Int32)) rfl ?_
  refine k_iload X228 hx (hb hby at_203) rfl (pc' := 205) rfl ?_
  refine k_iastore X228 hx hZ e228 Vw228 ⟨by decide, by decide⟩ (i := 3) rfl (Nat.le_of_ble_eq_true rfl) (hb hby at_205) (pc' := 206) rfl (fun T229 h229 X229 e229 W229 V229 => ?_)
  have Vw229 : Arv Z h229 b225 k225 .int (4 : Int32) [(.int v213), (.int v215), (.int v217), (.int v219)] (.int (0 : Int32)) := V229
  have N229 := Fr.snoc X229 N228 g_b225
  have Z229 : n0 ≤ h229.size := Nat.le_trans Z228 (Nat.le_of_eq W229.size.symm)
  refine k_astore X229 hx (hb hby at_206) rfl (Ls' := #[.val (.int i0), .val (.int i1), .val (.int i2), .val (.int i3), .val (.int i4), .val (.int (4 : Int32)), .val (.int v213), .val (.int v215), .val (.int v217), .val (.int v219), .val (.ref b220), .val (.ref b225), .unset, .unset, .unset]) rfl (pc' := 208) rfl ?_
  refine k_newO X229 hx hZ hown (hw _ (List.mem_of_getElem? (i := 10) rfl)) (hw _ (List.mem_of_getElem? (i := 11) rfl)) (hw _ (List.mem_of_getElem? (i := 12) rfl)) e229 (hb hby at_208) (by decide) (by decide) (pc' := 211) rfl (fun T230 h230 b230 g230 X230 e230 E230 A230 D230 => ?_)
  have g_b230 : n0 ≤ b230 := Nat.le_trans Z229 (Nat.le_of_eq g230.symm)
  have lt_b230 : b225 < b230 := Nat.lt_of_lt_of_le Vw229.lt (Nat.le_of_eq g230.symm)
  have Z230 : n0 ≤ h230.size := Nat.le_trans Z229 E230.1
  have F231 : Fld Z h230 b230 "com/example/kallimachos/kallimachos/index/Postings" "documents" "[I" .null := D230 (Or.inr (hw _ (List.mem_of_getElem? (i := 20) rfl))) (ty := (.array .int)) (by decide)
  have F232 : Fld Z h230 b230 "com/example/kallimachos/kallimachos/index/Postings" "frequencies" "[I" .null := D230 (Or.inr (hw _ (List.mem_of_getElem? (i := 22) rfl))) (ty := (.array .int)) (by decide)
  refine k_dup X230 hx (hb hby at_211) rfl (pc' := 212) rfl ?_
  refine k_aload X230 hx (hb hby at_212) rfl rfl (pc' := 214) rfl ?_
  refine k_aload X230 hx (hb hby at_214) rfl rfl (pc' := 216) rfl ?_
  have F233 := ((((((Vw224.ext E225).other W226 (Nat.ne_of_lt lt_b225)).other W227 (Nat.ne_of_lt lt_b225)).other W228 (Nat.ne_of_lt lt_b225)).other W229 (Nat.ne_of_lt lt_b225)).ext E230)
  have F234 := (Vw229.ext E230)
  refine k_callI X230 hx hZ hown (a := b230) rfl (hw _ (List.mem_of_getElem? (i := 13) rfl)) (hw _ (List.mem_of_getElem? (i := 14) rfl)) (hw _ (List.mem_of_getElem? (i := 12) rfl)) (hw _ (List.mem_of_getElem? (i := 15) rfl)) rfl (by decide) (rm3_235 l Z a0 hw [] b230 b220 b225 k220 k225 v213 v215 v217 v219 h230 n0 Z230 F233 g_b220 F234 g_b225 A230 F231 F232 g_b230 lt_b225 lt_b230) (by decide) (by decide) e230 (by rw [hml]; rfl) (argsL := [(.ref b220), (.ref b225)]) (rest := [(.ref b230)]) (lenOf pd_2 rfl) rfl (W := 1) (Nat.le_refl _) rfl (hb hby at_216) (by decide) (by decide) (pc' := 219) rfl (fun T245 L245 r245 X245 q245 => ?_)
  obtain ⟨N245, q245⟩ := q245
  have N245' := Fr.app N229 N245
  obtain ⟨rfl, F246, F247, F248, F249, F250, Z251⟩ := q245
  show KEnds p e below s _ _ _ T245 (mkF m 219 #[.val (.int i0), .val (.int i1), .val (.int i2), .val (.int i3), .val (.int i4), .val (.int (4 : Int32)), .val (.int v213), .val (.int v215), .val (.int v217), .val (.int v219), .val (.ref b220), .val (.ref b225), .unset, .unset, .unset] [(.ref b230)])
  refine k_astore X245 hx (hb hby at_219) rfl (Ls' := #[.val (.int i0), .val (.int i1), .val (.int i2), .val (.int i3), .val (.int i4), .val (.int (4 : Int32)), .val (.int v213), .val (.int v215), .val (.int v217), .val (.int v219), .val (.ref b220), .val (.ref b225), .val (.ref b230), .unset, .unset]) rfl (pc' := 221) rfl ?_
  refine k_lconst X245 hx (hb hby at_221) (pc' := 222) rfl (z := (0 : Int64)) rfl ?_
  refine k_lstore X245 hx (hb hby at_222) (Ls' := #[.val (.int i0), .val (.int i1), .val (.int i2), .val (.int i3), .val (.int i4), .val (.int (4 : Int32)), .val (.int v213), .val (.int v215), .val (.int v217), .val (.int v219), .val (.ref b220), .val (.ref b225), .val (.ref b230), .val (.long (0 : Int64)), .second]) rfl (pc' := 224) rfl ?_
  refine k_iload X245 hx (hb hby at_224) rfl (pc' := 226) rfl ?_
  refine k_if_le X245 hx (hb hby at_226) (pn := 229) rfl (py := 237) (by decide) (fun hc => absurd (by decide) hc) (fun _ => ?_)
  refine k_lload X245 hx (hb hby at_229) rfl (pc' := 231) rfl ?_
  refine k_iload X245 hx (hb hby at_231) rfl (pc' := 233) rfl ?_
  refine k_i2l X245 hx (hb hby at_233) (pc' := 234) rfl (fun v252 hv252 => ?_)
  refine k_laddL X245 hx (hb hby at_234) (pc' := 235) rfl (z := v252) (Int64.zero_add _) ?_
  refine k_lstore X245 hx (hb hby at_235) (Ls' := #[.val (.int i0), .val (.int i1), .val (.int i2), .val (.int i3), .val (.int i4), .val (.int (4 : Int32)), .val (.int v213), .val (.int v215), .val (.int v217), .val (.int v219), .val (.ref b220), .val (.ref b225), .val (.ref b230), .val (.long v252), .second]) rfl (pc' := 237) rfl ?_
  refine k_iload X245 hx (hb hby at_237) rfl (pc' := 239) rfl ?_
  refine k_iconst X245 hx (hb hby at_239) (pc' := 240) rfl (z := (1 : Int32)) rfl ?_
  refine k_icmp_le X245 hx (hb hby at_240) (pn := 243) rfl (py := 251) (by decide) (fun hc => absurd (by decide) hc) (fun _ => ?_)
  refine k_lload X245 hx (hb hby at_243) rfl (pc' := 245) rfl ?_
  refine k_iload X245 hx (hb hby at_245) rfl (pc' := 247) rfl ?_
  refine k_i2l X245 hx (hb hby at_247) (pc' := 248) rfl (fun v253 hv253 => ?_)
  refine k_ladd X245 hx (hb hby at_248) (pc' := 249) rfl (fun v254 hv254 => ?_)
  refine k_lstore X245 hx (hb hby at_249) (Ls' := #[.val (.int i0), .val (.int i1), .val (.int i2), .val (.int i3), .val (.int i4), .val (.int (4 : Int32)), .val (.int v213), .val (.int v215), .val (.int v217), .val (.int v219), .val (.ref b220), .val (.ref b225), .val (.ref b230), .val (.long v254), .second]) rfl (pc' := 251) rfl ?_
  refine k_iload X245 hx (hb hby at_251) rfl (pc' := 253) rfl ?_
  refine k_iconst X245 hx (hb hby at_253) (pc' := 254) rfl (z := (2 : Int32)) rfl ?_
  refine k_icmp_le X245 hx (hb hby at_254) (pn := 257) rfl (py := 265) (by decide) (fun hc => absurd (by decide) hc) (fun _ => ?_)
  refine k_lload X245 hx (hb hby at_257) rfl (pc' := 259) rfl ?_
  refine k_iload X245 hx (hb hby at_259) rfl (pc' := 261) rfl ?_
  refine k_i2l X245 hx (hb hby at_261) (pc' := 262) rfl (fun v255 hv255 => ?_)
  refine k_ladd X245 hx (hb hby at_262) (pc' := 263) rfl (fun v256 hv256 => ?_)
  refine k_lstore X245 hx (hb hby at_263) (Ls' := #[.val (.int i0), .val (.int i1), .val (.int i2), .val (.int i3), .val (.int i4), .val (.int (4 : Int32)), .val (.int v213), .val (.int v215), .val (.int v217), .val (.int v219), .val (.ref b220), .val (.ref b225), .val (.ref b230), .val (.long v256), .second]) rfl (pc' := 265) rfl ?_
  refine k_iload X245 hx (hb hby at_265) rfl (pc' := 267) rfl ?_
  refine k_iconst X245 hx (hb hby at_267) (pc' := 268) rfl (z := (3 : Int32)) rfl ?_
  refine k_icmp_le X245 hx (hb hby at_268) (pn := 271) rfl (py := 279) (by decide) (fun hc => absurd (by decide) hc) (fun _ => ?_)
  refine k_lload X245 hx (hb hby at_271) rfl (pc' := 273) rfl ?_
  refine k_iload X245 hx (hb hby at_273) rfl (pc' := 275) rfl ?_
  refine k_i2l X245 hx (hb hby at_275) (pc' := 276) rfl (fun v257 hv257 => ?_)
  refine k_ladd X245 hx (hb hby at_276) (pc' := 277) rfl (fun v258 hv258 => ?_)
  refine k_lstore X245 hx (hb hby at_277) (Ls' := #[.val (.int i0), .val (.int i1), .val (.int i2), .val (.int i3), .val (.int i4), .val (.int (4 : Int32)), .val (.int v213), .val (.int v215), .val (.int v217), .val (.int v219), .val (.ref b220), .val (.ref b225), .val (.ref b230), .val (.long v258), .second]) rfl (pc' := 279) rfl ?_
  refine k_aload X245 hx (hb hby at_279) rfl rfl (pc' := 281) rfl ?_
  refine k_callV X245 hx hZ hown (a := b230) (hw _ (List.mem_of_getElem? (i := 23) rfl)) (hw _ (List.mem_of_getElem? (i := 24) rfl)) (hw _ (List.mem_of_getElem? (i := 26) rfl)) (hw _ (List.mem_of_getElem? (i := 25) rfl)) (hw _ (List.mem_of_getElem? (i := 12) rfl)) (hw _ (List.mem_of_getElem? (i := 27) rfl)) (by decide) F248 (rm5_259 l Z a0 hw [] b230 b220 k220 b225 k225 v213 v215 v217 v219 T245.heap n0 Z251 F246 F247 F248 F249 F250 lt_b225 lt_b230) (by decide) (by decide) rfl (by rw [hml]; rfl) (argsL := []) (rest := []) (lenOf pd_3 rfl) rfl (W := 0) (Nat.le_refl _) rfl (hb hby at_281) (by decide) (by decide) (pc' := 284) rfl (fun T268 L268 r268 X268 q268 => ?_)
  obtain ⟨N268, e268, q268⟩ := q268
  have N268' := Fr.app N245' N268
  obtain ⟨v269, v270, v271, v272, v273, v274, v275, h276, h277, h278, h279, h280, h281, h282, rfl⟩ := q268
  have hh283 : v252 = v269 := hv252.trans h276.symm
  subst hh283
  have hh284 : v253 = v270 := hv253.trans h277.symm
  subst hh284
  have hh285 : v254 = v271 := hv254.trans h278.symm
  subst hh285
  have hh286 : v255 = v272 := hv255.trans h279.symm
  subst hh286
  have hh287 : v256 = v273 := hv256.trans h280.symm
  subst hh287
  have hh288 : v257 = v274 := hv257.trans h281.symm
  subst hh288
  have hh289 : v258 = v275 := hv258.trans h282.symm
  subst hh289
  show KEnds p e below s _ _ _ T268 (mkF m 284 #[.val (.int i0), .val (.int i1), .val (.int i2), .val (.int i3), .val (.int i4), .val (.int (4 : Int32)), .val (.int v213), .val (.int v215), .val (.int v217), .val (.int v219), .val (.ref b220), .val (.ref b225), .val (.ref b230), .val (.long v258), .second] [(.long v258)])
  refine k_lload X268 hx (hb hby at_284) rfl (pc' := 286) rfl ?_
  refine k_lcif_ne X268 hx (hb hby at_286) (pm := 287) rfl (hb hby at_287) (pn := 290) rfl (py := 294) (by decide) (fun hc => absurd rfl hc) (fun _ => ?_)
  refine k_iconst X268 hx (hb hby at_290) (pc' := 291) rfl (z := (1 : Int32)) rfl ?_
  refine k_goto X268 hx (hb hby at_291) (pc' := 295) (by decide) ?_
  exact k_retN X268 hx (t := .boolean) Bd.returns (by simp) (hb hby at_295) hlk (by decide) (by decide) (z' := (1 : Int32)) rfl ⟨rfl, N268'⟩
set_option maxRecDepth 65536 in
set_option maxHeartbeats 40000000 in
theorem comes_1 {Post : Tables → Env → Array Value → State → Outcome → State → Prop} (hpost : ∀ tb e args s v u, (limb_1_1.after args s (.returned v) u = true ∧ limb_1_2.after args s (.returned v) u = true ∧ True) → FrameEnd s (.returned v) u (Jvm.fieldLocs frame_1_writes args s ++ Jvm.arrayLocs frame_1_arrays args s ++ Jvm.staticLocs frame_1_statics s) 16 128 → Post tb e args s (.returned v) u) :
    ArmFor flags0 classFile x code maxLocals ret World_1 tables_1 room_1 Calls_1 rest_1 Pre_1 Post := by
  intro l hfl _ _ p e ha hc hk s m args below hf hA hF happ hP
  obtain ⟨hcalls, hrest, hpre⟩ := hP
  obtain ⟨-, -, -, hnamed, -, -, -, hat⟩ := (Spec.applies_iff hf).mp happ
  obtain ⟨hg, hn⟩ := and_e (Cond.before_iff.mp (show (Jvm.Cond.and given_1 narrow_1).before args s = true from hpre))
  obtain ⟨g290, g291⟩ := and_e hg
  obtain ⟨g292, g293⟩ := and_e g291
  obtain ⟨g294, g295⟩ := and_e g293
  obtain ⟨g296, g297⟩ := and_e g295
  obtain ⟨g298, g299⟩ := and_e g297
  obtain ⟨w0, w1, w2, w3, w4, rfl⟩ : ∃ w0 w1 w2 w3 w4 : Value, args = #[w0, w1, w2, w3, w4] := by
    have hs : args.size = 5 := by simpa [Cond.value, given_1] using g290
    obtain ⟨L⟩ := args
    match L, hs with
    | [w0, w1, w2, w3, w4], _ => exact ⟨w0, w1, w2, w3, w4, rfl⟩
  have hw := fun d (hd : d ∈ tables_1) => atoms_spec (ws := Jvm.Cond.code x code maxLocals ret :: tables_1) hat d (List.mem_cons_of_mem _ hd)
  obtain ⟨i0, ei0⟩ := is_v g292
  obtain rfl : w0 = (.int i0) := Option.some.inj ei0
  obtain ⟨i1, ei1⟩ := is_v g294
  obtain rfl : w1 = (.int i1) := Option.some.inj ei1
  obtain ⟨i2, ei2⟩ := is_v g296
  obtain rfl : w2 = (.int i2) := Option.some.inj ei2
  obtain ⟨i3, ei3⟩ := is_v g298
  obtain rfl : w3 = (.int i3) := Option.some.inj ei3
  obtain ⟨i4, ei4⟩ := is_v g299
  obtain rfl : w4 = (.int i4) := Option.some.inj ei4
  obtain ⟨n, o, h1, h2, h3, _, L, rfl, ⟨rfl, N⟩, hq⟩ := rm0 l s _ hw tables_1 i0 i1 i2 i3 i4 s.heap s.heap.size (Nat.le_refl _) p e ha hc hk s m _ below hf ((Spec.applies_iff_loose hf).mp happ).1 ⟨rfl, State.Warmed39.refl s, rfl⟩ trivial
  refine ⟨n, _, h1, h2, h3, hpost _ _ _ _ _ _ ⟨Cond.after_iff.mpr rfl, Cond.after_iff.mpr (eq_i res_at (Term.int_eval (1)) rfl), trivial⟩ ⟨hq.1, hq.2.1, (hq.2.2.sift fun y hy => Or.inr (N y hy)).mono (by decide) (by decide)⟩⟩
theorem main_1_1 : Claimed_1_1 := comes_1 fun _ _ _ _ _ _ h hF => ⟨h.1, hF⟩
theorem main_1_2 : Claimed_1_2 := comes_1 fun _ _ _ _ _ _ h hF => ⟨h.2.1, hF⟩
end Jvm.Pilot.@@N@@
namespace Jvm.Pilot.@@N@@
open Jvm Jvm.ClassFile Sem Op Lib Jvm.Free Jvm.Stand Jvm.Pilot.@@N@@.Jvm.D
/-! MADE BY PROGRAM (witnessworld.py) out of the Statement's table words and the real class files: 10 classes; the members and pool entries that the words name. The judged class is class 1, her method 1. -/
namespace start1
open Jvm.ClassFile
def u (s : String) : CpInfo := .utf8 (stringToUtf16 s)
/-- a pool by its gaps: so many unusable entries, then the entry; so many at the end -/
def gap : Nat → List CpInfo → List CpInfo
  | 0, r => r
  | n + 1, r => .unusable :: gap n r
def poolList (es : List (Nat × CpInfo)) (last : Nat) : List CpInfo := es.foldr (fun e r => gap e.1 (e.2 :: r)) (gap last [])
def pool (es : List (Nat × CpInfo)) (last : Nat) : Array CpInfo := ⟨poolList es last⟩
def fileOf (pool : Array CpInfo) (this : Nat) (attrs : Array Attribute := #[]) (ms : Array MethodInfo := #[]) (fl : Nat := 33) (sup : Nat := 0) (ifs : Array Nat := #[]) (fds : Array FieldInfo := #[]) : ClassFile where
  minorVersion := 0
  majorVersion := 65
  constantPool := pool
  accessFlags := fl
  thisClass := this
  superClass := sup
  interfaces := ifs
  fields := fds
  methods := ms
  attributes := attrs
def plain (name : String) (sup : Option ClassId) : Class where
  name := name
  kind := .ordinary
  loader := none
  accessFlags := 33
  super := sup
  interfaces := #[]
  cf := none
  fields := #[]
  methods := #[]
  instanceTypes := #[]
  staticTypes := #[]
  resolved := #[]
  callSites := []
  init := .initialized
  statics := none
  mirror := none

def pool0 : Array CpInfo := pool [(5, u "<init>"), (0, u "()V"), (1, .class_ 10), (1, u "java/lang/Object")] 113

def k0c0 : Code := { maxStack := 0, maxLocals := 1, code := object_method_1_code, exceptionTable := #[], attributes := #[] }
def k0m0 : Method := { name := "<init>", desc := "()V", sig := { parameters := [], returnType := none }, accessFlags := 1, code := some k0c0 }
/-- java/lang/Object -/
def k0 : Class := { plain "java/lang/Object" none with
  accessFlags := 33
  interfaces := #[]
  cf := some (fileOf pool0 8 #[] #[{ accessFlags := 1, nameIndex := 5, descriptorIndex := 6, attributes := #[] }] 33 0 #[] #[])
  fields := #[]
  methods := #[k0m0]
  instanceTypes := #[]
  staticTypes := #[]
  resolved := Array.replicate 124 none
  statics := none }

def pool1 : Array CpInfo := pool [(2, .class_ 4), (1, u "java/lang/Object"), (0, u "<init>"), (0, u "()V"), (0, .integer 2147483647), (0, .methodref 9 10), (0, .class_ 11), (0, .nameAndType 12 13), (0, u "com/example/kallimachos/kallimachos/index/PostingsCollectionFrequencyPinLaw"), (0, u "pos"), (0, u "(I)I"), (0, .class_ 15), (0, u "com/example/kallimachos/kallimachos/index/Postings"), (0, .methodref 14 17), (0, .nameAndType 5 18), (0, u "([I[I)V"), (0, .methodref 14 20), (0, .nameAndType 21 22), (0, u "collectionFrequency"), (0, u "()J"), (0, .methodref 24 25), (0, .class_ 26), (0, .nameAndType 27 28), (0, u "java/lang/Math"), (0, u "max"), (0, u "(II)I"), (2, u "law"), (0, u "(IIIII)Z")] 5

def k1m0 : Method := { name := "<init>", desc := "()V", sig := { parameters := [], returnType := none }, accessFlags := 1, code := none }
def k1c1 : Code := { maxStack := 4, maxLocals := 15, code := code, exceptionTable := #[], attributes := #[] }
def k1m1 : Method := { name := "law", desc := "(IIIII)Z", sig := { parameters := [.int, .int, .int, .int, .int], returnType := some .boolean }, accessFlags := 9, code := some k1c1 }
def k1c2 : Code := { maxStack := 3, maxLocals := 1, code := method_3_code, exceptionTable := #[], attributes := #[] }
def k1m2 : Method := { name := "pos", desc := "(I)I", sig := { parameters := [.int], returnType := some .int }, accessFlags := 10, code := some k1c2 }
/-- com/example/kallimachos/kallimachos/index/PostingsCollectionFrequencyPinLaw -/
def k1 : Class := { plain "com/example/kallimachos/kallimachos/index/PostingsCollectionFrequencyPinLaw" (some 0) with
  accessFlags := 49
  interfaces := #[]
  cf := some (fileOf pool1 9 #[] #[{ accessFlags := 1, nameIndex := 5, descriptorIndex := 6, attributes := #[] }, { accessFlags := 9, nameIndex := 31, descriptorIndex := 32, attributes := #[] }, { accessFlags := 10, nameIndex := 12, descriptorIndex := 13, attributes := #[] }] 49 2 #[] #[])
  fields := #[]
  methods := #[k1m0, k1m1, k1m2]
  instanceTypes := #[]
  staticTypes := #[]
  resolved := Array.replicate 38 none
  statics := none }

def pool2 : Array CpInfo := pool [(1, .class_ 2), (0, u "java/lang/Math"), (1, .class_ 6), (1, u "java/lang/Object"), (0, u "<init>"), (0, u "()V"), (89, .class_ 100), (1, u "java/lang/Math$RandomNumberGeneratorHolder"), (71, u "negativeZeroFloatBits"), (0, u "J"), (2, u "negativeZeroDoubleBits"), (21, u "max"), (46, u "$assertionsDisabled"), (0, u "Z"), (88, u "(II)I"), (2, u "twoToTheDoubleScaleDown"), (0, u "D"), (4, u "twoToTheDoubleScaleUp"), (9, u "E"), (3, u "PI"), (2, u "TAU"), (2, u "DEGREES_TO_RADIANS"), (0, u "RADIANS_TO_DEGREES")] 94

def k2m0 : Method := { name := "<init>", desc := "()V", sig := { parameters := [], returnType := none }, accessFlags := 2, code := none }
def k2c1 : Code := { maxStack := 2, maxLocals := 2, code := jdk_29_method_65_code, exceptionTable := #[], attributes := #[] }
def k2m1 : Method := { name := "max", desc := "(II)I", sig := { parameters := [.int, .int], returnType := some .int }, accessFlags := 9, code := some k2c1 }
/-- java/lang/Math -/
def k2 : Class := { plain "java/lang/Math" (some 0) with
  accessFlags := 49
  interfaces := #[]
  cf := some (fileOf pool2 1 #[.nestMembers #[98]] #[{ accessFlags := 2, nameIndex := 7, descriptorIndex := 8, attributes := #[] }, { accessFlags := 9, nameIndex := 198, descriptorIndex := 335, attributes := #[] }] 49 4 #[] #[{ accessFlags := 25, nameIndex := 354, descriptorIndex := 339, attributes := #[] }, { accessFlags := 25, nameIndex := 358, descriptorIndex := 339, attributes := #[] }, { accessFlags := 25, nameIndex := 361, descriptorIndex := 339, attributes := #[] }, { accessFlags := 26, nameIndex := 364, descriptorIndex := 339, attributes := #[] }, { accessFlags := 26, nameIndex := 365, descriptorIndex := 339, attributes := #[] }, { accessFlags := 26, nameIndex := 172, descriptorIndex := 173, attributes := #[] }, { accessFlags := 26, nameIndex := 176, descriptorIndex := 173, attributes := #[] }, { accessFlags := 8, nameIndex := 344, descriptorIndex := 339, attributes := #[] }, { accessFlags := 8, nameIndex := 338, descriptorIndex := 339, attributes := #[] }, { accessFlags := 4120, nameIndex := 245, descriptorIndex := 246, attributes := #[] }])
  fields := #[{ name := "E", type := .double, accessFlags := 25, slot := 0, constantValue := 0 }, { name := "PI", type := .double, accessFlags := 25, slot := 1, constantValue := 0 }, { name := "TAU", type := .double, accessFlags := 25, slot := 2, constantValue := 0 }, { name := "DEGREES_TO_RADIANS", type := .double, accessFlags := 26, slot := 3, constantValue := 0 }, { name := "RADIANS_TO_DEGREES", type := .double, accessFlags := 26, slot := 4, constantValue := 0 }, { name := "negativeZeroFloatBits", type := .long, accessFlags := 26, slot := 5, constantValue := 0 }, { name := "negativeZeroDoubleBits", type := .long, accessFlags := 26, slot := 6, constantValue := 0 }, { name := "twoToTheDoubleScaleUp", type := .double, accessFlags := 8, slot := 7, constantValue := 0 }, { name := "twoToTheDoubleScaleDown", type := .double, accessFlags := 8, slot := 8, constantValue := 0 }, { name := "$assertionsDisabled", type := .boolean, accessFlags := 4120, slot := 9, constantValue := 0 }]
  methods := #[k2m0, k2m1]
  instanceTypes := #[]
  staticTypes := #[.double, .double, .double, .double, .double, .long, .long, .double, .double, .boolean]
  resolved := Array.replicate 460 none
  statics := none }

def pool3 : Array CpInfo := pool [(1, .methodref 2 3), (0, .class_ 4), (0, .nameAndType 5 6), (0, u "java/lang/Object"), (0, u "<init>"), (0, u "()V"), (0, .fieldref 8 9), (0, .class_ 10), (0, .nameAndType 11 12), (0, u "com/example/kallimachos/kallimachos/index/Postings"), (0, u "documents"), (0, u "[I"), (0, .fieldref 8 14), (0, .nameAndType 15 12), (0, u "frequencies"), (2, u "([I[I)V"), (2, u "EMPTY"), (0, u "Lcom/example/kallimachos/kallimachos/index/Postings;"), (7, u "collectionFrequency"), (0, u "()J")] 5

def k3c0 : Code := { maxStack := 2, maxLocals := 3, code := prog_13_method_1_code, exceptionTable := #[], attributes := #[] }
def k3m0 : Method := { name := "<init>", desc := "([I[I)V", sig := { parameters := [(.array .int), (.array .int)], returnType := none }, accessFlags := 0, code := some k3c0 }
def k3c1 : Code := { maxStack := 4, maxLocals := 7, code := prog_13_method_5_code, exceptionTable := #[], attributes := #[] }
def k3m1 : Method := { name := "collectionFrequency", desc := "()J", sig := { parameters := [], returnType := some .long }, accessFlags := 1, code := some k3c1 }
/-- com/example/kallimachos/kallimachos/index/Postings -/
def k3 : Class := { plain "com/example/kallimachos/kallimachos/index/Postings" (some 0) with
  accessFlags := 49
  interfaces := #[]
  cf := some (fileOf pool3 8 #[] #[{ accessFlags := 0, nameIndex := 5, descriptorIndex := 18, attributes := #[] }, { accessFlags := 1, nameIndex := 30, descriptorIndex := 31, attributes := #[] }] 49 2 #[] #[{ accessFlags := 24, nameIndex := 21, descriptorIndex := 22, attributes := #[] }, { accessFlags := 18, nameIndex := 11, descriptorIndex := 12, attributes := #[] }, { accessFlags := 18, nameIndex := 15, descriptorIndex := 12, attributes := #[] }])
  fields := #[{ name := "EMPTY", type := (.object "com/example/kallimachos/kallimachos/index/Postings"), accessFlags := 24, slot := 0, constantValue := 0 }, { name := "documents", type := (.array .int), accessFlags := 18, slot := 0, constantValue := 0 }, { name := "frequencies", type := (.array .int), accessFlags := 18, slot := 1, constantValue := 0 }]
  methods := #[k3m0, k3m1]
  instanceTypes := #[(.array .int), (.array .int)]
  staticTypes := #[(.object "com/example/kallimachos/kallimachos/index/Postings")]
  resolved := Array.replicate 37 none
  statics := none }

def pool4 : Array CpInfo := pool [(1, u "java/lang/Cloneable"), (0, .class_ 1), (0, u "java/lang/Object"), (0, .class_ 3)] 3

/-- java/lang/Cloneable -/
def k4 : Class := { plain "java/lang/Cloneable" (some 0) with
  accessFlags := 1537
  interfaces := #[]
  cf := some (fileOf pool4 2 #[] #[] 1537 4 #[] #[])
  fields := #[]
  methods := #[]
  instanceTypes := #[]
  staticTypes := #[]
  resolved := Array.replicate 8 none
  statics := none }

def pool5 : Array CpInfo := pool [(1, u "java/io/Serializable"), (0, .class_ 1), (0, u "java/lang/Object"), (0, .class_ 3)] 3

/-- java/io/Serializable -/
def k5 : Class := { plain "java/io/Serializable" (some 0) with
  accessFlags := 1537
  interfaces := #[]
  cf := some (fileOf pool5 2 #[] #[] 1537 4 #[] #[])
  fields := #[]
  methods := #[]
  instanceTypes := #[]
  staticTypes := #[]
  resolved := Array.replicate 8 none
  statics := none }

/-- the primitive byte -/
def k6 : Class := { plain "byte" none with kind := .primitive 'B', accessFlags := 0x411 }
/-- [B -/
def k7 : Class := { plain "[B" (some 0) with kind := .array 6 .byte, interfaces := #[4, 5], accessFlags := 1041 }

/-- the primitive int -/
def k8 : Class := { plain "int" none with kind := .primitive 'I', accessFlags := 0x411 }
/-- [I -/
def k9 : Class := { plain "[I" (some 0) with kind := .array 8 .int, interfaces := #[4, 5], accessFlags := 1041 }

def heap : Heap := #[]
def classes : Array Class := #[k0, k1, k2, k3, k4, k5, k6, k7, k8, k9]
def interned : List (Array UInt16 × Addr) := []
def slotsUsed : Nat := 0
def theMethod : MethodId := ⟨1, 1⟩
def args0 : Array Value := #[.int 5, .int 7, .int 1, .int 3, .int 2]
def aboutOver (below : List Frame) : State where
  vm := { classes := classes, interned := interned.toArray }
  heap := heap
  slotsUsed := slotsUsed
  threads := #[{ frames := .invoking theMethod args0 :: below }]
def below0 : List Frame := [.native { method := ⟨0, 0⟩, args := #[] }]
def about1 : State := aboutOver below0
def p0 : Program := .bare "" "" ""
def e0 : Env := launch0.env 0 0 0
theorem w_frames : about1.frames = Frame.invoking theMethod args0 :: below0 := rfl
set_option maxRecDepth 65536 in
theorem w_args : argsFit about1.vm theMethod args0 = true := by decide +kernel
set_option maxRecDepth 65536 in
theorem w_heap : heapFits about1 = true := by decide +kernel
set_option maxRecDepth 65536 in
theorem w_runnable : about1.curStatus? = some .runnable := by decide +kernel
set_option maxRecDepth 65536 in
theorem w_alone : about1.alone = true := by decide +kernel
set_option maxRecDepth 65536 in
theorem w_named : about1.methodNamed? x = some theMethod := by decide +kernel
set_option maxRecDepth 65536 in
theorem w_hears : about1.hears theMethod below0 = true := by decide +kernel
set_option maxRecDepth 65536 in
theorem w_ripe : about1.ripe theMethod args0 below0 = true := by decide +kernel
theorem w_running : about1.status = .running := rfl
set_option maxRecDepth 65536 in
theorem w_room : about1.hasRoom e0.platform room_1 = true :=
  launch0.hasRoom_least _ room_1 (by decide +kernel) (by decide +kernel) (by decide +kernel) (by decide +kernel) (by decide +kernel) (by decide +kernel)
theorem allAtoms_all (ts : List Jvm.Cond) (a : Array Jvm.Value) (st : Jvm.State) : (allAtoms ts).before a st = ts.all (fun c => c.before a st) := by
  induction ts with
  | nil => rfl
  | cons c t ih =>
    show (Jvm.Cond.and c (allAtoms t)).before a st = _
    rw [Jvm.Cond.before_and, ih, List.all_cons]
def words1 : List Jvm.Cond := Jvm.Cond.code x code maxLocals ret :: tables_1
/-- a 'code' word, met by the world's own term for the bytes: nothing is compared byte by byte -/
theorem code_word {y : MethodName} {bytes : ByteArray} {mx : Nat} {rt : Option FieldType} {a : Array Value} {s : State} {m : MethodId} {meth : Method} {c : Code} (h1 : s.methodNamed? y = some m) (h2 : s.vm.method? m = some meth) (h3 : meth.code = some c) (h4 : c.code = bytes)
    (h5 : (c.maxLocals == mx && c.exceptionTable.isEmpty && decide (c.maxStack ≤ mostOperands) && decide (meth.sig.returnType = rt) && !meth.locks && decide (parseMethodDescriptor y.desc = some meth.sig)) = true) : (Jvm.Cond.code y bytes mx rt).before a s = true := by
  simp only [Bool.and_eq_true, beq_iff_eq, Bool.not_eq_true', decide_eq_true_eq] at h5
  obtain ⟨⟨⟨⟨⟨g1, g2⟩, g3⟩, g4⟩, g5⟩, g6⟩ := h5
  simp [Cond.before, Cond.holds, Cond.value, h1, h2, h3, h4, g1, g2, g3, g4, g5, g6]
def isCode : Jvm.Cond → Bool
  | .code _ _ _ _ => true
  | _ => false
theorem all_split {L : List Jvm.Cond} {P : Jvm.Cond → Bool} (h1 : L.all (fun c => isCode c || P c) = true) (h2 : ∀ c ∈ L.filter isCode, P c = true) : L.all P = true := by
  refine List.all_eq_true.mpr fun c hc => ?_
  have h := List.all_eq_true.mp h1 c hc
  rcases Bool.eq_false_or_eq_true (isCode c) with hi | hi
  · exact h2 c (List.mem_filter.mpr ⟨hc, hi⟩)
  · simpa [hi] using h
set_option maxRecDepth 65536 in
theorem w_c0 : (Jvm.Cond.code x code maxLocals ret).before args0 about1 = true := code_word (m := ⟨1, 1⟩) (meth := k1m1) (c := k1c1) (by decide +kernel) rfl rfl rfl (by decide +kernel)
set_option maxRecDepth 65536 in
theorem w_c1 : (Jvm.Cond.code ({ cls := "com/example/kallimachos/kallimachos/index/PostingsCollectionFrequencyPinLaw", name := "pos", desc := "(I)I" } : Jvm.MethodName) method_3_code (1 : Nat) (Option.some Jvm.ClassFile.FieldType.int)).before args0 about1 = true := code_word (m := ⟨1, 2⟩) (meth := k1m2) (c := k1c2) (by decide +kernel) rfl rfl rfl (by decide +kernel)
set_option maxRecDepth 65536 in
theorem w_c2 : (Jvm.Cond.code ({ cls := "java/lang/Math", name := "max", desc := "(II)I" } : Jvm.MethodName) jdk_29_method_65_code (2 : Nat) (Option.some Jvm.ClassFile.FieldType.int)).before args0 about1 = true := code_word (m := ⟨2, 1⟩) (meth := k2m1) (c := k2c1) (by decide +kernel) rfl rfl rfl (by decide +kernel)
set_option maxRecDepth 65536 in
theorem w_c3 : (Jvm.Cond.code ({ cls := "com/example/kallimachos/kallimachos/index/Postings", name := "<init>", desc := "([I[I)V" } : Jvm.MethodName) prog_13_method_1_code (3 : Nat) (Option.none : Option Jvm.ClassFile.FieldType)).before args0 about1 = true := code_word (m := ⟨3, 0⟩) (meth := k3m0) (c := k3c0) (by decide +kernel) rfl rfl rfl (by decide +kernel)
set_option maxRecDepth 65536 in
theorem w_c4 : (Jvm.Cond.code ({ cls := "java/lang/Object", name := "<init>", desc := "()V" } : Jvm.MethodName) object_method_1_code (1 : Nat) (Option.none : Option Jvm.ClassFile.FieldType)).before args0 about1 = true := code_word (m := ⟨0, 0⟩) (meth := k0m0) (c := k0c0) (by decide +kernel) rfl rfl rfl (by decide +kernel)
set_option maxRecDepth 65536 in
theorem w_c5 : (Jvm.Cond.code ({ cls := "com/example/kallimachos/kallimachos/index/Postings", name := "collectionFrequency", desc := "()J" } : Jvm.MethodName) prog_13_method_5_code (7 : Nat) (Option.some Jvm.ClassFile.FieldType.long)).before args0 about1 = true := code_word (m := ⟨3, 1⟩) (meth := k3m1) (c := k3c1) (by decide +kernel) rfl rfl rfl (by decide +kernel)
def codes1 : List Jvm.Cond := [Jvm.Cond.code x code maxLocals ret, Jvm.Cond.code ({ cls := "com/example/kallimachos/kallimachos/index/PostingsCollectionFrequencyPinLaw", name := "pos", desc := "(I)I" } : Jvm.MethodName) method_3_code (1 : Nat) (Option.some Jvm.ClassFile.FieldType.int), Jvm.Cond.code ({ cls := "java/lang/Math", name := "max", desc := "(II)I" } : Jvm.MethodName) jdk_29_method_65_code (2 : Nat) (Option.some Jvm.ClassFile.FieldType.int), Jvm.Cond.code ({ cls := "com/example/kallimachos/kallimachos/index/Postings", name := "<init>", desc := "([I[I)V" } : Jvm.MethodName) prog_13_method_1_code (3 : Nat) (Option.none : Option Jvm.ClassFile.FieldType), Jvm.Cond.code ({ cls := "java/lang/Object", name := "<init>", desc := "()V" } : Jvm.MethodName) object_method_1_code (1 : Nat) (Option.none : Option Jvm.ClassFile.FieldType), Jvm.Cond.code ({ cls := "com/example/kallimachos/kallimachos/index/Postings", name := "collectionFrequency", desc := "()J" } : Jvm.MethodName) prog_13_method_5_code (7 : Nat) (Option.some Jvm.ClassFile.FieldType.long)]
set_option maxRecDepth 65536 in
theorem codes_eq : words1.filter isCode = codes1 := rfl
theorem w_codes : ∀ c ∈ words1.filter isCode, c.before args0 about1 = true := by
  rw [codes_eq]
  intro c hc
  simp only [codes1, List.mem_cons, List.not_mem_nil, or_false] at hc
  rcases hc with rfl | rfl | rfl | rfl | rfl | rfl
  · exact w_c0
  · exact w_c1
  · exact w_c2
  · exact w_c3
  · exact w_c4
  · exact w_c5
set_option maxRecDepth 65536 in
theorem w_t1 : (words1.take 24).all (fun c => isCode c || c.before args0 about1) = true := by decide +kernel
set_option maxRecDepth 65536 in
theorem w_t2 : (words1.drop 24).all (fun c => isCode c || c.before args0 about1) = true := by decide +kernel
theorem w_tables : (allAtoms (Jvm.Cond.code x code maxLocals ret :: tables_1)).before args0 about1 = true := by
  rw [allAtoms_all]
  show words1.all (fun c => c.before args0 about1) = true
  refine all_split ?_ w_codes
  rw [← List.take_append_drop 24 words1, List.all_append, w_t1, w_t2]
  rfl
set_option maxRecDepth 65536 in
theorem w_case : (Jvm.Cond.and given_1 narrow_1).before args0 about1 = true := by decide +kernel
theorem w_applies : (headSpec (Jvm.Cond.code x code maxLocals ret :: tables_1) room_1).applies x e0.platform about1 = true :=
  (Spec.applies_iff w_frames).mpr ⟨w_running, w_runnable, w_alone, w_named, w_hears, w_ripe, w_room, w_tables⟩
theorem atStart : AtStart classFile x code maxLocals ret World_1 tables_1 room_1 Calls_1 rest_1 Pre_1 launch0 p0 e0 about1 theMethod args0 below0 :=
  ⟨lists_1, trivial, launch0.admits_env _ _ _, launch0.least_env, fairChoices_fair.cas, fairChoices_fair.clock, w_frames, w_args, w_heap, w_applies, trivial, trivial, w_case⟩
end start1
theorem witness_1 : WitnessClaimed_1 := ⟨start1.p0, start1.e0, start1.about1, start1.theMethod, start1.args0, start1.below0, start1.atStart⟩
end Jvm.Pilot.@@N@@
