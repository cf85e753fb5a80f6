import JvmDerived
import JvmDerived.Pilot.@@N@@Statement
import JvmDerived.Pilot.@@N@@Code
set_option linter.unusedVariables false
set_option linter.unusedSimpArgs false
namespace Jvm.OwnK
open Sem ClassFile Op Lib Jvm.Stand Jvm.Free Jvm.LawKit Jvm.RoadKit
section
variable {p : Program} {l : Launch} {e : Env} {R : Room} {s : State} {m : MethodId} {args : Array Value} {below : List Frame} {meth : Method} {c : Code} {T : State} {locs : List Loc} {cells slots : Nat} {Cn Sn : Nat} {Q : Option Value → Heap → List Loc → Prop}
/-- from the frame f the run comes to an end that Q takes -/
def KEnds (p : Program) (e : Env) (below : List Frame) (s : State) (Cn Sn : Nat) (Q : Option Value → Heap → List Loc → Prop) (T : State) (f : JFrame) : Prop :=
  ∃ s₂ o, Steps p.tables e below (T.setTop f) s₂ ∧ s₂.status = .running ∧ Ended s₂ below o ∧ ∃ v L, o = .returned v ∧ Q v s₂.heap L ∧ FrameEnd s o s₂ L Cn Sn
theorem k_via {T' : State} {f f' : JFrame} (st : ∀ t, Steps p.tables e below (T'.setTop f') t → Steps p.tables e below (T.setTop f) t) (k : KEnds p e below s Cn Sn Q T' f') : KEnds p e below s Cn Sn Q T f := by
  obtain ⟨s₂, o, h, r⟩ := k
  exact ⟨s₂, o, st _ h, r⟩
theorem k_iload (X : Stand p l e R s m args below meth c T locs cells slots) (hx : p.tables.exec = Jvm.exec) {pc pc' : Nat} {Ls : Array Slot} {St : List Value} {i : Nat} {v : Int32} (hd : decode c.code pc = .ok (.iload i, 2)) (hl : Ls[i]? = some (.val (.int v))) (hpc : pc + 2 = pc') (k : KEnds p e below s Cn Sn Q T (mkF m pc' Ls (.int v :: St))) : KEnds p e below s Cn Sn Q T (mkF m pc Ls (St)) := by
  subst hpc; exact k_via (fun t h => XS.iload X.here hx rfl hd hl h) k
theorem k_istore (X : Stand p l e R s m args below meth c T locs cells slots) (hx : p.tables.exec = Jvm.exec) {pc pc' : Nat} {Ls : Array Slot} {St : List Value} {i : Nat} {v : Int32} {Ls' : Array Slot} (hd : decode c.code pc = .ok (.istore i, 2)) (hl : storeLocals Ls i (.int v) = some Ls') (hpc : pc + 2 = pc') (k : KEnds p e below s Cn Sn Q T (mkF m pc' Ls' (St))) : KEnds p e below s Cn Sn Q T (mkF m pc Ls (.int v :: St)) := by
  subst hpc; exact k_via (fun t h => XS.istore X.here hx rfl hd rfl hl h) k
theorem k_lloadN (X : Stand p l e R s m args below meth c T locs cells slots) (hx : p.tables.exec = Jvm.exec) {pc pc' : Nat} {Ls : Array Slot} {St : List Value} {i : Fin 4} {v : Int64} (hd : decode c.code pc = .ok (.lload_n i, 1)) (hl : Ls[i.val]? = some (.val (.long v))) (hpc : pc + 1 = pc') (k : KEnds p e below s Cn Sn Q T (mkF m pc' Ls (.long v :: St))) : KEnds p e below s Cn Sn Q T (mkF m pc Ls (St)) := by
  subst hpc; exact k_via (fun t h => XS.lloadN X.here hx rfl hd hl h) k
theorem k_lload (X : Stand p l e R s m args below meth c T locs cells slots) (hx : p.tables.exec = Jvm.exec) {pc pc' : Nat} {Ls : Array Slot} {St : List Value} {i : Nat} {v : Int64} (hd : decode c.code pc = .ok (.lload i, 2)) (hl : Ls[i]? = some (.val (.long v))) (hpc : pc + 2 = pc') (k : KEnds p e below s Cn Sn Q T (mkF m pc' Ls (.long v :: St))) : KEnds p e below s Cn Sn Q T (mkF m pc Ls (St)) := by
  subst hpc; exact k_via (fun t h => XS.lload X.here hx rfl hd hl h) k
theorem k_lstore (X : Stand p l e R s m args below meth c T locs cells slots) (hx : p.tables.exec = Jvm.exec) {pc pc' : Nat} {Ls : Array Slot} {St : List Value} {i : Nat} {v : Int64} {Ls' : Array Slot} (hd : decode c.code pc = .ok (.lstore i, 2)) (hl : storeLocals Ls i (.long v) = some Ls') (hpc : pc + 2 = pc') (k : KEnds p e below s Cn Sn Q T (mkF m pc' Ls' (St))) : KEnds p e below s Cn Sn Q T (mkF m pc Ls (.long v :: St)) := by
  subst hpc; exact k_via (fun t h => XS.lstore X.here hx rfl hd rfl hl h) k
theorem k_aloadN (X : Stand p l e R s m args below meth c T locs cells slots) (hx : p.tables.exec = Jvm.exec) {pc pc' : Nat} {Ls : Array Slot} {St : List Value} {i : Fin 4} {v : Value} (hd : decode c.code pc = .ok (.aload_n i, 1)) (hl : Ls[i.val]? = some (.val v)) (hv : v.isRef = true) (hpc : pc + 1 = pc') (k : KEnds p e below s Cn Sn Q T (mkF m pc' Ls (v :: St))) : KEnds p e below s Cn Sn Q T (mkF m pc Ls (St)) := by
  subst hpc; exact k_via (fun t h => XS.aloadN X.here hx rfl hd hl hv h) k
theorem k_aload (X : Stand p l e R s m args below meth c T locs cells slots) (hx : p.tables.exec = Jvm.exec) {pc pc' : Nat} {Ls : Array Slot} {St : List Value} {i : Nat} {v : Value} (hd : decode c.code pc = .ok (.aload i, 2)) (hl : Ls[i]? = some (.val v)) (hv : v.isRef = true) (hpc : pc + 2 = pc') (k : KEnds p e below s Cn Sn Q T (mkF m pc' Ls (v :: St))) : KEnds p e below s Cn Sn Q T (mkF m pc Ls (St)) := by
  subst hpc; exact k_via (fun t h => XS.aload X.here hx rfl hd hl hv h) k
theorem k_astore (X : Stand p l e R s m args below meth c T locs cells slots) (hx : p.tables.exec = Jvm.exec) {pc pc' : Nat} {Ls : Array Slot} {St : List Value} {i : Nat} {v : Value} {Ls' : Array Slot} (hd : decode c.code pc = .ok (.astore i, 2)) (hv : v.isRef = true) (hl : storeLocals Ls i v = some Ls') (hpc : pc + 2 = pc') (k : KEnds p e below s Cn Sn Q T (mkF m pc' Ls' (St))) : KEnds p e below s Cn Sn Q T (mkF m pc Ls (v :: St)) := by
  subst hpc; exact k_via (fun t h => XS.astore X.here hx rfl hd rfl hv hl h) k
theorem k_iconst (X : Stand p l e R s m args below meth c T locs cells slots) (hx : p.tables.exec = Jvm.exec) {pc pc' : Nat} {Ls : Array Slot} {St : List Value} {i : Int} {z : Int32} (hd : decode c.code pc = .ok (.iconst i, 1)) (hpc : pc + 1 = pc') (hz : Int32.ofInt i = z) (k : KEnds p e below s Cn Sn Q T (mkF m pc' Ls (.int z :: St))) : KEnds p e below s Cn Sn Q T (mkF m pc Ls St) := by
  subst hpc hz; exact k_via (fun t h => XS.iconst X.here hx rfl hd h) k
theorem k_bipush (X : Stand p l e R s m args below meth c T locs cells slots) (hx : p.tables.exec = Jvm.exec) {pc pc' : Nat} {Ls : Array Slot} {St : List Value} {i : Int} {z : Int32} (hd : decode c.code pc = .ok (.bipush i, 2)) (hpc : pc + 2 = pc') (hz : (Int8.ofInt i).toInt32 = z) (k : KEnds p e below s Cn Sn Q T (mkF m pc' Ls (.int z :: St))) : KEnds p e below s Cn Sn Q T (mkF m pc Ls St) := by
  subst hpc hz; exact k_via (fun t h => XS.bipush X.here hx rfl hd h) k
theorem k_lconst (X : Stand p l e R s m args below meth c T locs cells slots) (hx : p.tables.exec = Jvm.exec) {pc pc' : Nat} {Ls : Array Slot} {St : List Value} {i : Fin 2} {z : Int64} (hd : decode c.code pc = .ok (.lconst i, 1)) (hpc : pc + 1 = pc') (hz : Int64.ofNat i = z) (k : KEnds p e below s Cn Sn Q T (mkF m pc' Ls (.long z :: St))) : KEnds p e below s Cn Sn Q T (mkF m pc Ls St) := by
  subst hpc hz; exact k_via (fun t h => XS.lconst X.here hx rfl hd h) k
theorem k_iand (X : Stand p l e R s m args below meth c T locs cells slots) (hx : p.tables.exec = Jvm.exec) {pc pc' : Nat} {Ls : Array Slot} {St : List Value} {x y : Int32} (hd : decode c.code pc = .ok (.iand, 1))  (hpc : pc + 1 = pc') (k : ∀ z : Int32, z = x &&& y → KEnds p e below s Cn Sn Q T (mkF m pc' Ls (.int z :: St))) : KEnds p e below s Cn Sn Q T (mkF m pc Ls (.int y :: .int x :: St)) := by
  subst hpc; exact k_via (fun t h => XS.iand X.here hx rfl hd rfl h) (k _ rfl)
theorem k_ladd (X : Stand p l e R s m args below meth c T locs cells slots) (hx : p.tables.exec = Jvm.exec) {pc pc' : Nat} {Ls : Array Slot} {St : List Value} {x y : Int64} (hd : decode c.code pc = .ok (.ladd, 1))  (hpc : pc + 1 = pc') (k : ∀ z : Int64, z = x + y → KEnds p e below s Cn Sn Q T (mkF m pc' Ls (.long z :: St))) : KEnds p e below s Cn Sn Q T (mkF m pc Ls (.long y :: .long x :: St)) := by
  subst hpc; exact k_via (fun t h => XS.ladd X.here hx rfl hd rfl h) (k _ rfl)
theorem k_lmul (X : Stand p l e R s m args below meth c T locs cells slots) (hx : p.tables.exec = Jvm.exec) {pc pc' : Nat} {Ls : Array Slot} {St : List Value} {x y : Int64} (hd : decode c.code pc = .ok (.lmul, 1))  (hpc : pc + 1 = pc') (k : ∀ z : Int64, z = x * y → KEnds p e below s Cn Sn Q T (mkF m pc' Ls (.long z :: St))) : KEnds p e below s Cn Sn Q T (mkF m pc Ls (.long y :: .long x :: St)) := by
  subst hpc; exact k_via (fun t h => XS.lmul X.here hx rfl hd rfl h) (k _ rfl)
theorem k_landL (X : Stand p l e R s m args below meth c T locs cells slots) (hx : p.tables.exec = Jvm.exec) {pc pc' : Nat} {Ls : Array Slot} {St : List Value} {x y : Int64} {z : Int64} (hd : decode c.code pc = .ok (.land, 1))  (hpc : pc + 1 = pc') (hz : x &&& y = z) (k : KEnds p e below s Cn Sn Q T (mkF m pc' Ls (.long z :: St))) : KEnds p e below s Cn Sn Q T (mkF m pc Ls (.long y :: .long x :: St)) := by
  subst hpc hz; exact k_via (fun t h => XS.land X.here hx rfl hd rfl h) k
theorem k_lxorL (X : Stand p l e R s m args below meth c T locs cells slots) (hx : p.tables.exec = Jvm.exec) {pc pc' : Nat} {Ls : Array Slot} {St : List Value} {x y : Int64} {z : Int64} (hd : decode c.code pc = .ok (.lxor, 1))  (hpc : pc + 1 = pc') (hz : x ^^^ y = z) (k : KEnds p e below s Cn Sn Q T (mkF m pc' Ls (.long z :: St))) : KEnds p e below s Cn Sn Q T (mkF m pc Ls (.long y :: .long x :: St)) := by
  subst hpc hz; exact k_via (fun t h => XS.lxor X.here hx rfl hd rfl h) k
theorem k_lxor (X : Stand p l e R s m args below meth c T locs cells slots) (hx : p.tables.exec = Jvm.exec) {pc pc' : Nat} {Ls : Array Slot} {St : List Value} {x y : Int64} (hd : decode c.code pc = .ok (.lxor, 1))  (hpc : pc + 1 = pc') (k : ∀ z : Int64, z = x ^^^ y → KEnds p e below s Cn Sn Q T (mkF m pc' Ls (.long z :: St))) : KEnds p e below s Cn Sn Q T (mkF m pc Ls (.long y :: .long x :: St)) := by
  subst hpc; exact k_via (fun t h => XS.lxor X.here hx rfl hd rfl h) (k _ rfl)
theorem k_irem (X : Stand p l e R s m args below meth c T locs cells slots) (hx : p.tables.exec = Jvm.exec) {pc pc' : Nat} {Ls : Array Slot} {St : List Value} {x y : Int32} (hd : decode c.code pc = .ok (.irem, 1)) (hy : y ≠ 0) (hpc : pc + 1 = pc') (k : ∀ z : Int32, z = x % y → KEnds p e below s Cn Sn Q T (mkF m pc' Ls (.int z :: St))) : KEnds p e below s Cn Sn Q T (mkF m pc Ls (.int y :: .int x :: St)) := by
  subst hpc; exact k_via (fun t h => iremM X hx rfl hd rfl hy h) (k _ rfl)
theorem k_i2lL (X : Stand p l e R s m args below meth c T locs cells slots) (hx : p.tables.exec = Jvm.exec) {pc pc' : Nat} {Ls : Array Slot} {St : List Value} {x : Int32} {z : Int64} (hd : decode c.code pc = .ok (.i2l, 1))  (hpc : pc + 1 = pc') (hz : x.toInt64 = z) (k : KEnds p e below s Cn Sn Q T (mkF m pc' Ls (.long z :: St))) : KEnds p e below s Cn Sn Q T (mkF m pc Ls (.int x :: St)) := by
  subst hpc hz; exact k_via (fun t h => XS.i2l X.here hx rfl hd rfl h) k
theorem k_lnegL (X : Stand p l e R s m args below meth c T locs cells slots) (hx : p.tables.exec = Jvm.exec) {pc pc' : Nat} {Ls : Array Slot} {St : List Value} {x : Int64} {z : Int64} (hd : decode c.code pc = .ok (.lneg, 1))  (hpc : pc + 1 = pc') (hz : -x = z) (k : KEnds p e below s Cn Sn Q T (mkF m pc' Ls (.long z :: St))) : KEnds p e below s Cn Sn Q T (mkF m pc Ls (.long x :: St)) := by
  subst hpc hz; exact k_via (fun t h => XS.lneg X.here hx rfl hd rfl h) k
theorem k_iinc (X : Stand p l e R s m args below meth c T locs cells slots) (hx : p.tables.exec = Jvm.exec) {pc pc' : Nat} {Ls : Array Slot} {St : List Value} {i : Nat} {cst : Int} {x z : Int32} {Ls' : Array Slot} (hd : decode c.code pc = .ok (.iinc i cst, 3)) (hl : Ls[i]? = some (.val (.int x))) (hpc : pc + 3 = pc') (hz : x + Int32.ofInt cst = z) (hl' : storeLocals Ls i (.int z) = some Ls') (k : KEnds p e below s Cn Sn Q T (mkF m pc' Ls' St)) : KEnds p e below s Cn Sn Q T (mkF m pc Ls St) := by
  subst hpc hz; exact k_via (fun t h => XS.iinc X.here hx rfl hd hl hl' h) k
theorem k_dup (X : Stand p l e R s m args below meth c T locs cells slots) (hx : p.tables.exec = Jvm.exec) {pc pc' : Nat} {Ls : Array Slot} {St : List Value} {v : Value} (hd : decode c.code pc = .ok (.dup, 1)) (hv : v.category = 1) (hpc : pc + 1 = pc') (k : KEnds p e below s Cn Sn Q T (mkF m pc' Ls (v :: v :: St))) : KEnds p e below s Cn Sn Q T (mkF m pc Ls (v :: St)) := by
  subst hpc; exact k_via (fun t h => XS.dup X.here hx rfl hd rfl hv h) k
theorem k_goto (X : Stand p l e R s m args below meth c T locs cells slots) (hx : p.tables.exec = Jvm.exec) {pc pc' : Nat} {Ls : Array Slot} {St : List Value} {o : Int} (hd : decode c.code pc = .ok (.goto o, 3)) (hp : (pc : Int) + o = (pc' : Int)) (k : KEnds p e below s Cn Sn Q T (mkF m pc' Ls St)) : KEnds p e below s Cn Sn Q T (mkF m pc Ls St) :=
  k_via (fun t h => XS.goto X.here hx rfl (pc0 := pc) rfl hd (by omega) (by omega) h) k
theorem k_icmp_ge (X : Stand p l e R s m args below meth c T locs cells slots) (hx : p.tables.exec = Jvm.exec) {pc pn py : Nat} {Ls : Array Slot} {St : List Value} {x y : Int32} {o : Int} (hd : decode c.code pc = .ok (.if_icmp .ge o, 3)) (hn : pc + 3 = pn) (hp : (pc : Int) + o = (py : Int)) (ky : ¬ x < y → KEnds p e below s Cn Sn Q T (mkF m py Ls St)) (kn : x < y → KEnds p e below s Cn Sn Q T (mkF m pn Ls St)) : KEnds p e below s Cn Sn Q T (mkF m pc Ls (.int y :: .int x :: St)) := by
  subst hn
  by_cases hc : x < y
  · exact k_via (fun t h => XS.icmpNo X.here hx rfl hd rfl (tlt hc).2.1 h) (kn hc)
  · exact k_via (fun t h => XS.icmpYes X.here hx rfl (pc0 := pc) rfl hd rfl (flt hc).2.1 (by omega) (by omega) h) (ky hc)
theorem k_if_eq (X : Stand p l e R s m args below meth c T locs cells slots) (hx : p.tables.exec = Jvm.exec) {pc pn py : Nat} {Ls : Array Slot} {St : List Value} {x : Int32} {o : Int} (hd : decode c.code pc = .ok (.ifCond .eq o, 3)) (hn : pc + 3 = pn) (hp : (pc : Int) + o = (py : Int)) (ky : x = (0 : Int32) → KEnds p e below s Cn Sn Q T (mkF m py Ls St)) (kn : ¬ x = (0 : Int32) → KEnds p e below s Cn Sn Q T (mkF m pn Ls St)) : KEnds p e below s Cn Sn Q T (mkF m pc Ls (.int x :: St)) := by
  subst hn
  by_cases hc : x = (0 : Int32)
  · exact k_via (fun t h => XS.ifYes X.here hx rfl (pc0 := pc) rfl hd rfl ((if0 _ _).trans (teq hc).1) (by omega) (by omega) h) (ky hc)
  · exact k_via (fun t h => XS.ifNo X.here hx rfl hd rfl ((if0 _ _).trans (feq hc).1) h) (kn hc)
theorem k_icmp_ne (X : Stand p l e R s m args below meth c T locs cells slots) (hx : p.tables.exec = Jvm.exec) {pc pn py : Nat} {Ls : Array Slot} {St : List Value} {x y : Int32} {o : Int} (hd : decode c.code pc = .ok (.if_icmp .ne o, 3)) (hn : pc + 3 = pn) (hp : (pc : Int) + o = (py : Int)) (ky : ¬ x = y → KEnds p e below s Cn Sn Q T (mkF m py Ls St)) (kn : x = y → KEnds p e below s Cn Sn Q T (mkF m pn Ls St)) : KEnds p e below s Cn Sn Q T (mkF m pc Ls (.int y :: .int x :: St)) := by
  subst hn
  by_cases hc : x = y
  · exact k_via (fun t h => XS.icmpNo X.here hx rfl hd rfl (teq hc).2 h) (kn hc)
  · exact k_via (fun t h => XS.icmpYes X.here hx rfl (pc0 := pc) rfl hd rfl (feq hc).2 (by omega) (by omega) h) (ky hc)
theorem k_if_ne (X : Stand p l e R s m args below meth c T locs cells slots) (hx : p.tables.exec = Jvm.exec) {pc pn py : Nat} {Ls : Array Slot} {St : List Value} {x : Int32} {o : Int} (hd : decode c.code pc = .ok (.ifCond .ne o, 3)) (hn : pc + 3 = pn) (hp : (pc : Int) + o = (py : Int)) (ky : ¬ x = (0 : Int32) → KEnds p e below s Cn Sn Q T (mkF m py Ls St)) (kn : x = (0 : Int32) → KEnds p e below s Cn Sn Q T (mkF m pn Ls St)) : KEnds p e below s Cn Sn Q T (mkF m pc Ls (.int x :: St)) := by
  subst hn
  by_cases hc : x = (0 : Int32)
  · exact k_via (fun t h => XS.ifNo X.here hx rfl hd rfl ((if0 _ _).trans (teq hc).2) h) (kn hc)
  · exact k_via (fun t h => XS.ifYes X.here hx rfl (pc0 := pc) rfl hd rfl ((if0 _ _).trans (feq hc).2) (by omega) (by omega) h) (ky hc)
theorem k_lcif_ne (X : Stand p l e R s m args below meth c T locs cells slots) (hx : p.tables.exec = Jvm.exec) {pc pn py : Nat} {Ls : Array Slot} {St : List Value} {x y : Int64} {o : Int} {pm : Nat} (hd0 : decode c.code pc = .ok (.lcmp, 1)) (hm : pc + 1 = pm) (hd : decode c.code pm = .ok (.ifCond .ne o, 3)) (hn : pm + 3 = pn) (hp : (pm : Int) + o = (py : Int)) (ky : ¬ x = y → KEnds p e below s Cn Sn Q T (mkF m py Ls St)) (kn : x = y → KEnds p e below s Cn Sn Q T (mkF m pn Ls St)) : KEnds p e below s Cn Sn Q T (mkF m pc Ls (.long y :: .long x :: St)) := by
  subst hm
  have F := k_if_ne (Q := Q) (Cn := Cn) (Sn := Sn) (Ls := Ls) (St := St) (x := lcmpW x y) X hx hd hn hp (fun hc => ky (fun q => hc ((lw_eq x y).mpr q))) (fun hc => kn ((lw_eq x y).mp hc))
  exact k_via (fun t h => XS.lcmp X.here hx rfl hd0 rfl h) F
theorem k_acmp_eq_same (X : Stand p l e R s m args below meth c T locs cells slots) (hx : p.tables.exec = Jvm.exec) {pc pc' : Nat} {Ls : Array Slot} {St : List Value} {o : Int} {a : Addr} (hd : decode c.code pc = .ok (.if_acmp .eq o, 3)) (ho : 0 ≤ (pc : Int) + o) (hp : pc' = if acV .eq true = true then ((pc : Int) + o).toNat else pc + 3) (k : KEnds p e below s Cn Sn Q T (mkF m pc' Ls St)) : KEnds p e below s Cn Sn Q T (mkF m pc Ls (.ref a :: .ref a :: St)) :=
  k_via (fun t h => Jvm.RoadKit.acmp (g := mkF m pc Ls (.ref a :: .ref a :: St)) X hx rfl (x := .ref a) (y := .ref a) rfl rfl (pc0 := pc) (pc' := pc') (same := true) rfl hd rfl (decide_eq_true rfl) ho hp h) k
theorem k_acmp_eq_diff (X : Stand p l e R s m args below meth c T locs cells slots) (hx : p.tables.exec = Jvm.exec) {pc pc' : Nat} {Ls : Array Slot} {St : List Value} {o : Int} {a b : Addr} (hab : ¬ a = b) (hd : decode c.code pc = .ok (.if_acmp .eq o, 3)) (ho : 0 ≤ (pc : Int) + o) (hp : pc' = if acV .eq false = true then ((pc : Int) + o).toNat else pc + 3) (k : KEnds p e below s Cn Sn Q T (mkF m pc' Ls St)) : KEnds p e below s Cn Sn Q T (mkF m pc Ls (.ref b :: .ref a :: St)) :=
  k_via (fun t h => Jvm.RoadKit.acmp (g := mkF m pc Ls (.ref b :: .ref a :: St)) X hx rfl (x := .ref a) (y := .ref b) rfl rfl (pc0 := pc) (pc' := pc') (same := false) rfl hd rfl (decide_eq_false fun q => hab (Value.ref.inj q)) ho hp h) k
theorem k_retN (X : Stand p l e R s m args below meth c T locs cells slots) (hx : p.tables.exec = Jvm.exec) {pc : Nat} {Ls : Array Slot} {St : List Value} {t : FieldType} {z z' : Int32} (hret : meth.sig.returnType = some t) (ht : t = .boolean ∨ t = .byte ∨ t = .char ∨ t = .short) (hd : decode c.code pc = .ok (.ireturn, 1)) (hlk : meth.locks = false) (hC : cells ≤ Cn) (hS : slots ≤ Sn) (hz : nar t z = z') (q : Q (some (.int z')) T.heap locs) : KEnds p e below s Cn Sn Q T (mkF m pc Ls (.int z :: St)) := by
  subst hz
  obtain ⟨fs, hr, hrun, hended, hW, hsame⟩ := X.leave (v := some (.int (nar t z))) (fun h => by rw [hret] at h; cases h) hlk
  exact ⟨_, _, retN X hx hret ht hd hr, hrun, hended, _, _, rfl, q, ⟨_, rfl⟩, hW, hsame.mono hC hS⟩
theorem k_retA (X : Stand p l e R s m args below meth c T locs cells slots) (hx : p.tables.exec = Jvm.exec) {pc : Nat} {Ls : Array Slot} {St : List Value} {t : FieldType} {a : Addr} (hret : meth.sig.returnType = some t) (ht : t.isReference = true) (hn : narrow t (.ref a) = .ref a) (hd : decode c.code pc = .ok (.areturn, 1)) (hlk : meth.locks = false) (hC : cells ≤ Cn) (hS : slots ≤ Sn) (q : Q (some (.ref a)) T.heap locs) : KEnds p e below s Cn Sn Q T (mkF m pc Ls (.ref a :: St)) := by
  obtain ⟨fs, hr, hrun, hended, hW, hsame⟩ := X.leave (v := some (.ref a)) (fun h => by rw [hret] at h; cases h) hlk
  exact ⟨_, _, retOut X hx hret hn (Or.inr (Or.inr (Or.inr (Or.inr ⟨rfl, ht, rfl⟩)))) hd hr, hrun, hended, _, _, rfl, q, ⟨_, rfl⟩, hW, hsame.mono hC hS⟩
theorem k_ret (X : Stand p l e R s m args below meth c T locs cells slots) (hx : p.tables.exec = Jvm.exec) {pc : Nat} {Ls : Array Slot} (hret : meth.sig.returnType = none) (hd : decode c.code pc = .ok (.return_, 1)) (hlk : meth.locks = false) (hC : cells ≤ Cn) (hS : slots ≤ Sn) (q : Q none T.heap locs) : KEnds p e below s Cn Sn Q T (mkF m pc Ls []) := by
  obtain ⟨fs, hr, hrun, hended, hW, hsame⟩ := X.leave (v := none) (fun _ => rfl) hlk
  exact ⟨_, _, X.returnOut hx hret hd hr, hrun, hended, _, _, rfl, q, ⟨_, rfl⟩, hW, hsame.mono hC hS⟩
variable {Z : State} {a0 : Array Value} {h : Heap} {own : String}
theorem k_ldc (X : Stand p l e R s m args below meth c T locs cells slots) (hx : p.tables.exec = Jvm.exec) (hZ : Z.Warmed39 s.vm) (hown : s.vm.findClass own = some m.cls) {pc pc' : Nat} {Ls : Array Slot} {St : List Value} {index : Nat} {v : Int32} (w : (Cond.constant own index v).before a0 Z = true) (hd : decode c.code pc = .ok (.ldc index, 2)) (hpc : pc + 2 = pc') (k : KEnds p e below s Cn Sn Q T (mkF m pc' Ls (.int v :: St))) : KEnds p e below s Cn Sn Q T (mkF m pc Ls St) := by
  subst hpc; exact k_via (X.ldcInt hx hown (mvT hZ w) (g := mkF m pc Ls St) rfl hd) k
theorem k_ldcL (X : Stand p l e R s m args below meth c T locs cells slots) (hx : p.tables.exec = Jvm.exec) (hZ : Z.Warmed39 s.vm) (hown : s.vm.findClass own = some m.cls) {pc pc' : Nat} {Ls : Array Slot} {St : List Value} {index : Nat} {v : Int64} (w : (Cond.constantLong own index v).before a0 Z = true) (hd : decode c.code pc = .ok (.ldc2_w index, 3)) (hpc : pc + 3 = pc') (k : KEnds p e below s Cn Sn Q T (mkF m pc' Ls (.long v :: St))) : KEnds p e below s Cn Sn Q T (mkF m pc Ls St) := by
  subst hpc; exact k_via (X.ldc2Long hx hown (mvT hZ w) (g := mkF m pc Ls St) rfl hd) k
theorem k_newA (X : Stand p l e R s m args below meth c T locs cells slots) (hx : p.tables.exec = Jvm.exec) (hZ : Z.Warmed39 s.vm) {pc pc' : Nat} {Ls : Array Slot} {St : List Value} {aty : ArrayType} (w : (Cond.arrayClass (newarray.typeOf aty)).before a0 Z = true) (eT : T.heap = h) (hd : decode c.code pc = .ok (.newarray aty, 2)) {n : Int32} (hn : ¬ n < 0) {cap : Nat} (hcap : n.toNatClampNeg ≤ cap) (hb : cap * 8 ≤ 536870912) (hc : cells + 1 ≤ R.cells) (hl : slots + cap ≤ R.slots) (hpc : pc + 2 = pc') (k : ∀ T' h' a cA, a = h.size → Stand p l e R s m args below meth c T' locs (cells + 1) (slots + cap) → T'.heap = h' → Ext h h' → Arv Z h' a cA (newarray.typeOf aty) n (List.replicate cap (defaultValue (newarray.typeOf aty))) (defaultValue (newarray.typeOf aty)) → KEnds p e below s Cn Sn Q T' (mkF m pc' Ls (.ref a :: St))) : KEnds p e below s Cn Sn Q T (mkF m pc Ls (.int n :: St)) := by
  subst hpc
  obtain ⟨T', h', cA, X', e', E', A', st⟩ := newP X hx hZ w eT (g := mkF m pc Ls (.int n :: St)) rfl hd rfl hn hcap hb hc hl
  exact k_via st (k T' h' _ cA rfl X' e' E' ((Arv.new A' hn).pad (pad_rep [] _ cap)))
theorem k_lastore (X : Stand p l e R s m args below meth c T locs cells slots) (hx : p.tables.exec = Jvm.exec) (hZ : Z.Warmed39 s.vm) {pc pc' : Nat} {Ls : Array Slot} {St : List Value} (eT : T.heap = h) {a : Addr} {kA : ClassId} {z j : Int32} {x : Int64} {vs : List Value} {dv : Value} (F : Arv Z h a kA .long z vs dv) (hj : ¬ j < 0 ∧ j < z) {i : Nat} (hi : j.toNatClampNeg = i) (hil : i < vs.length) (hd : decode c.code pc = .ok (.lastore, 1)) (hpc : pc + 1 = pc') (k : ∀ T' h', Stand p l e R s m args below meth c T' (locs ++ [⟨a, j.toNatClampNeg⟩]) cells slots → T'.heap = h' → Wr h h' a j.toNatClampNeg (.long (x)) → Arv Z h' a kA .long z (vs.set i (.long (x))) dv → KEnds p e below s Cn Sn Q T' (mkF m pc' Ls St)) : KEnds p e below s Cn Sn Q T (mkF m pc Ls (.long x :: .int j :: .ref a :: St)) := by
  subst hpc
  obtain ⟨cl, A, q1, S, N, H, G⟩ := F
  obtain ⟨T', h', X', e', W', st⟩ := stJ X hx hZ eT A (inb_of S hj) (g := mkF m pc Ls (.long x :: .int j :: .ref a :: St)) rfl rfl hd
  exact k_via st (k T' h' X' e' W' (Arv.set A q1 S N H G rfl W' i hi hil))
theorem k_laload (X : Stand p l e R s m args below meth c T locs cells slots) (hx : p.tables.exec = Jvm.exec) (hZ : Z.Warmed39 s.vm) {pc pc' : Nat} {Ls : Array Slot} {St : List Value} (eT : T.heap = h) {a : Addr} {kA : ClassId} {z j : Int32} {v : Value} {vs : List Value} {dv : Value} (F : Arv Z h a kA .long z vs dv) (hj : ¬ j < 0 ∧ j < z) (hv : vs.getD j.toNatClampNeg dv = v) (hd : decode c.code pc = .ok (.laload, 1)) (hpc : pc + 1 = pc') (k : KEnds p e below s Cn Sn Q T (mkF m pc' Ls (v :: St))) : KEnds p e below s Cn Sn Q T (mkF m pc Ls (.int j :: .ref a :: St)) := by
  subst hpc
  obtain ⟨cl, A, q1, S, N, H, G⟩ := F
  exact k_via (fun t hs => X.laload hx (by rw [eT]; exact A.1) (State.isArrayOf_alike hZ.alike A.2.1) A.2.2 (inb_of S hj) (H.at (inb_of S hj) hv) (g := mkF m pc Ls (.int j :: .ref a :: St)) rfl rfl hd t hs) k
theorem k_callS (X : Stand p l e R s m args below meth c T locs cells slots) (hx : p.tables.exec = Jvm.exec) (hZ : Z.Warmed39 s.vm) (hown : s.vm.findClass own = some m.cls) {pc pc' : Nat} {Ls : Array Slot} {St : List Value} {y : MethodName} {bytes : ByteArray} {maxL : Nat} {ret : Option FieldType} {rm : Room} {index W : Nat} {as' : Array Value} {Q' : Option Value → Heap → List Loc → Prop} (w1 : (Cond.methodLink own index y).before a0 Z = true) (w2 : (Cond.static y).before a0 Z = true) (w3 : (Cond.initialized y.cls).before a0 Z = true) (w4 : (Cond.code y bytes maxL ret).before a0 Z = true) (hy : y.cls ≠ "java/lang/invoke/MethodHandle" ∧ y.cls ≠ "java/lang/invoke/VarHandle") (hM : MetFree l y (head1 [Cond.code y bytes maxL ret] rm) (fun a U => a = as' ∧ Z.Warmed39 U.vm ∧ U.heap = h) (fun _ _ _ _ _ => True) (fun _ U o U' => ∃ v L, o = .returned v ∧ Q' v U'.heap L ∧ FrameEnd U o U' L rm.cells rm.slots)) (hf : rm.frames + 1 ≤ R.frames) (hl : W + (maxL + 11) + rm.locals ≤ R.locals) (eT : T.heap = h) (hsize : Ls.size = c.maxLocals) {argsL rest : List Value} (hlen : ∀ sig, parseMethodDescriptor y.desc = some sig → argsL.length = sig.parameters.length) (hst : St = argsL.reverse ++ rest) (hW : (rest.map fun v => v.category).sum ≤ W) (has : argsL.toArray = as') (hd : decode c.code pc = .ok (.invokestatic index, 3)) (hce : cells + rm.cells ≤ R.cells) (hsl : slots + rm.slots ≤ R.slots) (hpc : pc + 3 = pc') (k : ∀ T' L v, Stand p l e R s m args below meth c T' (locs ++ L) (cells + rm.cells) (slots + rm.slots) → Q' v T'.heap L → KEnds p e below s Cn Sn Q T' (mkF m pc' Ls (v.toList ++ rest))) : KEnds p e below s Cn Sn Q T (mkF m pc Ls St) := by
  subst hpc
  obtain ⟨v, _, ⟨T', L', k', n'⟩, -, X', ⟨Lc, hQ, l', y', z'⟩, st⟩ := Jvm.LawKit.callS X hx (y := y) hown (mvT hZ w1) (mvT hZ w2) (mvT hZ w3) (mvT hZ w4) hy (backOf (W := W) hM hZ w4 w3 hf hl) (g := mkF m pc Ls St) rfl hsize hlen hst (by show 2 * 0 + _ ≤ _; omega) hd (fun _ _ => ⟨has, eT, hce, hsl⟩)
  dsimp only [Pt.U, Pt.locs, Pt.cells, Pt.slots] at X' l' y' z' st hQ
  subst l' y' z'
  exact k_via st (k T' Lc v X' hQ)
end
end Jvm.OwnK
namespace Jvm.Pilot.@@N@@
open Jvm Jvm.ClassFile Sem Op Lib Jvm.Free Jvm.Stand Jvm.LawKit Jvm.RoadKit Jvm.OwnK Bundle Jvm.Pilot.@@N@@.Jvm.D
theorem d1_0 : decode method_3_code 0 = .ok (.bipush 9, 2) := by decide +kernel
theorem d1_2 : decode method_3_code 2 = .ok (.newarray .long, 2) := by decide +kernel
theorem d1_4 : decode method_3_code 4 = .ok (.dup, 1) := by decide +kernel
theorem d1_5 : decode method_3_code 5 = .ok (.iconst 0, 1) := by decide +kernel
theorem d1_6 : decode method_3_code 6 = .ok (.lload_n 0, 1) := by decide +kernel
theorem d1_7 : decode method_3_code 7 = .ok (.lastore, 1) := by decide +kernel
theorem d1_8 : decode method_3_code 8 = .ok (.dup, 1) := by decide +kernel
theorem d1_9 : decode method_3_code 9 = .ok (.iconst 1, 1) := by decide +kernel
theorem d1_10 : decode method_3_code 10 = .ok (.lload_n 0, 1) := by decide +kernel
theorem d1_11 : decode method_3_code 11 = .ok (.lload_n 2, 1) := by decide +kernel
theorem d1_12 : decode method_3_code 12 = .ok (.ladd, 1) := by decide +kernel
theorem d1_13 : decode method_3_code 13 = .ok (.lastore, 1) := by decide +kernel
theorem d1_14 : decode method_3_code 14 = .ok (.dup, 1) := by decide +kernel
theorem d1_15 : decode method_3_code 15 = .ok (.iconst 2, 1) := by decide +kernel
theorem d1_16 : decode method_3_code 16 = .ok (.lload_n 0, 1) := by decide +kernel
theorem d1_17 : decode method_3_code 17 = .ok (.ldc2_w 26, 3) := by decide +kernel
theorem d1_20 : decode method_3_code 20 = .ok (.lload_n 2, 1) := by decide +kernel
theorem d1_21 : decode method_3_code 21 = .ok (.lmul, 1) := by decide +kernel
theorem d1_22 : decode method_3_code 22 = .ok (.ladd, 1) := by decide +kernel
theorem d1_23 : decode method_3_code 23 = .ok (.lastore, 1) := by decide +kernel
theorem d1_24 : decode method_3_code 24 = .ok (.dup, 1) := by decide +kernel
theorem d1_25 : decode method_3_code 25 = .ok (.iconst 3, 1) := by decide +kernel
theorem d1_26 : decode method_3_code 26 = .ok (.lload_n 0, 1) := by decide +kernel
theorem d1_27 : decode method_3_code 27 = .ok (.ldc2_w 28, 3) := by decide +kernel
theorem d1_30 : decode method_3_code 30 = .ok (.lload_n 2, 1) := by decide +kernel
theorem d1_31 : decode method_3_code 31 = .ok (.lmul, 1) := by decide +kernel
theorem d1_32 : decode method_3_code 32 = .ok (.ladd, 1) := by decide +kernel
theorem d1_33 : decode method_3_code 33 = .ok (.lastore, 1) := by decide +kernel
theorem d1_34 : decode method_3_code 34 = .ok (.dup, 1) := by decide +kernel
theorem d1_35 : decode method_3_code 35 = .ok (.iconst 4, 1) := by decide +kernel
theorem d1_36 : decode method_3_code 36 = .ok (.lload_n 0, 1) := by decide +kernel
theorem d1_37 : decode method_3_code 37 = .ok (.ldc2_w 30, 3) := by decide +kernel
theorem d1_40 : decode method_3_code 40 = .ok (.lload_n 2, 1) := by decide +kernel
theorem d1_41 : decode method_3_code 41 = .ok (.lmul, 1) := by decide +kernel
theorem d1_42 : decode method_3_code 42 = .ok (.ladd, 1) := by decide +kernel
theorem d1_43 : decode method_3_code 43 = .ok (.lastore, 1) := by decide +kernel
theorem d1_44 : decode method_3_code 44 = .ok (.dup, 1) := by decide +kernel
theorem d1_45 : decode method_3_code 45 = .ok (.iconst 5, 1) := by decide +kernel
theorem d1_46 : decode method_3_code 46 = .ok (.lload_n 0, 1) := by decide +kernel
theorem d1_47 : decode method_3_code 47 = .ok (.ldc2_w 32, 3) := by decide +kernel
theorem d1_50 : decode method_3_code 50 = .ok (.lload_n 2, 1) := by decide +kernel
theorem d1_51 : decode method_3_code 51 = .ok (.lmul, 1) := by decide +kernel
theorem d1_52 : decode method_3_code 52 = .ok (.ladd, 1) := by decide +kernel
theorem d1_53 : decode method_3_code 53 = .ok (.lastore, 1) := by decide +kernel
theorem d1_54 : decode method_3_code 54 = .ok (.dup, 1) := by decide +kernel
theorem d1_55 : decode method_3_code 55 = .ok (.bipush 6, 2) := by decide +kernel
theorem d1_57 : decode method_3_code 57 = .ok (.lload_n 0, 1) := by decide +kernel
theorem d1_58 : decode method_3_code 58 = .ok (.ldc2_w 34, 3) := by decide +kernel
theorem d1_61 : decode method_3_code 61 = .ok (.lload_n 2, 1) := by decide +kernel
theorem d1_62 : decode method_3_code 62 = .ok (.lmul, 1) := by decide +kernel
theorem d1_63 : decode method_3_code 63 = .ok (.ladd, 1) := by decide +kernel
theorem d1_64 : decode method_3_code 64 = .ok (.lastore, 1) := by decide +kernel
theorem d1_65 : decode method_3_code 65 = .ok (.dup, 1) := by decide +kernel
theorem d1_66 : decode method_3_code 66 = .ok (.bipush 7, 2) := by decide +kernel
theorem d1_68 : decode method_3_code 68 = .ok (.lload_n 0, 1) := by decide +kernel
theorem d1_69 : decode method_3_code 69 = .ok (.ldc2_w 36, 3) := by decide +kernel
theorem d1_72 : decode method_3_code 72 = .ok (.lload_n 2, 1) := by decide +kernel
theorem d1_73 : decode method_3_code 73 = .ok (.lmul, 1) := by decide +kernel
theorem d1_74 : decode method_3_code 74 = .ok (.ladd, 1) := by decide +kernel
theorem d1_75 : decode method_3_code 75 = .ok (.lastore, 1) := by decide +kernel
theorem d1_76 : decode method_3_code 76 = .ok (.dup, 1) := by decide +kernel
theorem d1_77 : decode method_3_code 77 = .ok (.bipush 8, 2) := by decide +kernel
theorem d1_79 : decode method_3_code 79 = .ok (.lload_n 0, 1) := by decide +kernel
theorem d1_80 : decode method_3_code 80 = .ok (.ldc2_w 38, 3) := by decide +kernel
theorem d1_83 : decode method_3_code 83 = .ok (.lload_n 2, 1) := by decide +kernel
theorem d1_84 : decode method_3_code 84 = .ok (.lmul, 1) := by decide +kernel
theorem d1_85 : decode method_3_code 85 = .ok (.ladd, 1) := by decide +kernel
theorem d1_86 : decode method_3_code 86 = .ok (.lastore, 1) := by decide +kernel
theorem d1_87 : decode method_3_code 87 = .ok (.areturn, 1) := by decide +kernel
abbrev R1_5 : Room := { frames := 0, cells := 1, slots := 9, locals := 0 }
def Q1_5 (Z : State) (p1 : Int64) (p2 : Int64) (h0 : Heap) (n0 : Nat) (v : Option Value) (h : Heap) (L : List Loc) : Prop := Fr n0 L ∧ ((∃ (v8 : Int64) (v10 : Int64) (v11 : Int64) (v13 : Int64) (v14 : Int64) (v16 : Int64) (v17 : Int64) (v19 : Int64) (v20 : Int64) (v22 : Int64) (v23 : Int64) (v25 : Int64) (v26 : Int64) (v28 : Int64) (v29 : Int64) (b6 : Addr) (k6 : ClassId), v8 = p1 + p2 ∧ v10 = (2 : Int64) * p2 ∧ v11 = p1 + v10 ∧ v13 = (3 : Int64) * p2 ∧ v14 = p1 + v13 ∧ v16 = (4 : Int64) * p2 ∧ v17 = p1 + v16 ∧ v19 = (5 : Int64) * p2 ∧ v20 = p1 + v19 ∧ v22 = (6 : Int64) * p2 ∧ v23 = p1 + v22 ∧ v25 = (7 : Int64) * p2 ∧ v26 = p1 + v25 ∧ v28 = (8 : Int64) * p2 ∧ v29 = p1 + v28 ∧ v = some (.ref b6) ∧ Arv Z h b6 k6 .long (9 : Int32) [(.long p1), (.long v8), (.long v11), (.long v14), (.long v17), (.long v20), (.long v23), (.long v26), (.long v29)] (.long (0 : Int64)) ∧ n0 ≤ b6 ∧ n0 ≤ h.size))
theorem ef1_5 (m : MethodId) (x0 : Int64) (x1 : Int64) : entryFrame m #[(.long x0), (.long x1)] 4 = mkF m 0 #[.val (.long x0), .second, .val (.long x1), .second] [] := by first | (simp [entryFrame, mkF, argsToLocals, Value.category]; done) | rfl
theorem pn_0 : plainName "com/example/portcullis/portcullis/protocol/FieldSelectPinLaw" = true := by first | (simp [plainName, overriddenIn]; done) | decide +kernel
set_option maxRecDepth 65536 in
set_option maxHeartbeats 40000000 in
theorem rm1_5 (l : Launch) (Z : State) (a0 : Array Value) (hw : ∀ d ∈ tables_1, d.before a0 Z = true) (ws : List Jvm.Cond) (p1 : Int64) (p2 : Int64) (h0 : Heap) (n0 : Nat) (Z0 : n0 ≤ h0.size)  :
    MetFree l (⟨"com/example/portcullis/portcullis/protocol/FieldSelectPinLaw", "limbs", "(JJ)[J"⟩ : MethodName) (head1 (Jvm.Cond.code (⟨"com/example/portcullis/portcullis/protocol/FieldSelectPinLaw", "limbs", "(JJ)[J"⟩ : MethodName) method_3_code 4 (some (.array .long)) :: ws) R1_5) (fun a U => a = #[(.long p1), (.long p2)] ∧ Z.Warmed39 U.vm ∧ U.heap = h0) (fun _ _ _ _ _ => True) (fun _ U o U' => ∃ v L, o = .returned v ∧ Q1_5 Z p1 p2 h0 n0 v U'.heap L ∧ FrameEnd U o U' L R1_5.cells R1_5.slots) := by
 refine MetFree.of_bodySF (plainFor_of_name pn_0) hisR ?_
 intro p e s m args below meth c s₁ Bd hml0 hP hK
 obtain ⟨rfl, hZ, hh⟩ := hP
 have hx := Bd.exec
 have hby := Bd.bytes
 have hml : c.maxLocals = 4 := hml0
 have hlk : meth.locks = false := Bd.notSynchronized
 have hown : s.vm.findClass "com/example/portcullis/portcullis/protocol/FieldSelectPinLaw" = some m.cls := findClass_of_methodNamed Bd.named
 have hnm := (name_of_methodNamed Bd.named Bd.method).1
 have X0 : Stand p l e R1_5 s m #[(.long p1), (.long p2)] below meth c s₁ [] 0 0 := Stand.of_body Bd
 have e0 : s₁.heap = h0 := by rw [← hh, Bd.state]; rfl
 have N0 := Fr.nil n0
 rw [ef1_5 m p1 p2]
 show KEnds p e below s R1_5.cells R1_5.slots (Q1_5 Z p1 p2 h0 n0) s₁ (mkF m 0 #[.val (.long p1), .second, .val (.long p2), .second] [])
 refine k_bipush X0 hx (hb hby d1_0) (pc' := 2) rfl (z := (9 : Int32)) rfl ?_
 refine k_newA X0 hx hZ (hw _ (List.mem_of_getElem? (i := 4) rfl)) e0 (hb hby d1_2) (by decide) (cap := 9) (by decide) (by decide) (by decide) (by decide) (pc' := 4) rfl (fun T6 h6 b6 k6 g6 X6 e6 E6 V6 => ?_)
 have g_b6 : n0 ≤ b6 := Nat.le_trans Z0 (Nat.le_of_eq g6.symm)
 have Z6 : n0 ≤ h6.size := Nat.le_trans Z0 E6.1
 have Vw6 : Arv Z h6 b6 k6 .long (9 : Int32) [(.long (0 : Int64)), (.long (0 : Int64)), (.long (0 : Int64)), (.long (0 : Int64)), (.long (0 : Int64)), (.long (0 : Int64)), (.long (0 : Int64)), (.long (0 : Int64)), (.long (0 : Int64))] (.long (0 : Int64)) := V6
 refine k_dup X6 hx (hb hby d1_4) rfl (pc' := 5) rfl ?_
 refine k_iconst X6 hx (hb hby d1_5) (pc' := 6) rfl (z := (0 : Int32)) rfl ?_
 refine k_lloadN X6 hx (hb hby d1_6) rfl (pc' := 7) rfl ?_
 refine k_lastore X6 hx hZ e6 Vw6 ⟨by decide, by decide⟩ (i := 0) rfl (Nat.le_of_ble_eq_true rfl) (hb hby d1_7) (pc' := 8) rfl (fun T7 h7 X7 e7 W7 V7 => ?_)
 have Vw7 : Arv Z h7 b6 k6 .long (9 : Int32) [(.long p1), (.long (0 : Int64)), (.long (0 : Int64)), (.long (0 : Int64)), (.long (0 : Int64)), (.long (0 : Int64)), (.long (0 : Int64)), (.long (0 : Int64)), (.long (0 : Int64))] (.long (0 : Int64)) := V7
 have N7 := Fr.snoc X7 N0 g_b6
 have Z7 : n0 ≤ h7.size := Nat.le_trans Z6 (Nat.le_of_eq W7.size.symm)
 refine k_dup X7 hx (hb hby d1_8) rfl (pc' := 9) rfl ?_
 refine k_iconst X7 hx (hb hby d1_9) (pc' := 10) rfl (z := (1 : Int32)) rfl ?_
 refine k_lloadN X7 hx (hb hby d1_10) rfl (pc' := 11) rfl ?_
 refine k_lloadN X7 hx (hb hby d1_11) rfl (pc' := 12) rfl ?_
 refine k_ladd X7 hx (hb hby d1_12) (pc' := 13) rfl (fun v8 hv8 => ?_)
 refine k_lastore X7 hx hZ e7 Vw7 ⟨by decide, by decide⟩ (i := 1) rfl (Nat.le_of_ble_eq_true rfl) (hb hby d1_13) (pc' := 14) rfl (fun T9 h9 X9 e9 W9 V9 => ?_)
 have Vw9 : Arv Z h9 b6 k6 .long (9 : Int32) [(.long p1), (.long v8), (.long (0 : Int64)), (.long (0 : Int64)), (.long (0 : Int64)), (.long (0 : Int64)), (.long (0 : Int64)), (.long (0 : Int64)), (.long (0 : Int64))] (.long (0 : Int64)) := V9
 have N9 := Fr.snoc X9 N7 g_b6
 have Z9 : n0 ≤ h9.size := Nat.le_trans Z7 (Nat.le_of_eq W9.size.symm)
 refine k_dup X9 hx (hb hby d1_14) rfl (pc' := 15) rfl ?_
 refine k_iconst X9 hx (hb hby d1_15) (pc' := 16) rfl (z := (2 : Int32)) rfl ?_
 refine k_lloadN X9 hx (hb hby d1_16) rfl (pc' := 17) rfl ?_
 refine k_ldcL X9 hx hZ hown (hw _ (List.mem_of_getElem? (i := 5) rfl)) (hb hby d1_17) (pc' := 20) rfl ?_
 refine k_lloadN X9 hx (hb hby d1_20) rfl (pc' := 21) rfl ?_
 refine k_lmul X9 hx (hb hby d1_21) (pc' := 22) rfl (fun v10 hv10 => ?_)
 refine k_ladd X9 hx (hb hby d1_22) (pc' := 23) rfl (fun v11 hv11 => ?_)
 refine k_lastore X9 hx hZ e9 Vw9 ⟨by decide, by decide⟩ (i := 2) rfl (Nat.le_of_ble_eq_true rfl) (hb hby d1_23) (pc' := 24) rfl (fun T12 h12 X12 e12 W12 V12 => ?_)
 have Vw12 : Arv Z h12 b6 k6 .long (9 : Int32) [(.long p1), (.long v8), (.long v11), (.long (0 : Int64)), (.long (0 : Int64)), (.long (0 : Int64)), (.long (0 : Int64)), (.long (0 : Int64)), (.long (0 : Int64))] (.long (0 : Int64)) := V12
 have N12 := Fr.snoc X12 N9 g_b6
 have Z12 : n0 ≤ h12.size := Nat.le_trans Z9 (Nat.le_of_eq W12.size.symm)
 refine k_dup X12 hx (hb hby d1_24) rfl (pc' := 25) rfl ?_
 refine k_iconst X12 hx (hb hby d1_25) (pc' := 26) rfl (z := (3 : Int32)) rfl ?_
 refine k_lloadN X12 hx (hb hby d1_26) rfl (pc' := 27) rfl ?_
 refine k_ldcL X12 hx hZ hown (hw _ (List.mem_of_getElem? (i := 6) rfl)) (hb hby d1_27) (pc' := 30) rfl ?_
 refine k_lloadN X12 hx (hb hby d1_30) rfl (pc' := 31) rfl ?_
 refine k_lmul X12 hx (hb hby d1_31) (pc' := 32) rfl (fun v13 hv13 => ?_)
 refine k_ladd X12 hx (hb hby d1_32) (pc' := 33) rfl (fun v14 hv14 => ?_)
 refine k_lastore X12 hx hZ e12 Vw12 ⟨by decide, by decide⟩ (i := 3) rfl (Nat.le_of_ble_eq_true rfl) (hb hby d1_33) (pc' := 34) rfl (fun T15 h15 X15 e15 W15 V15 => ?_)
 have Vw15 : Arv Z h15 b6 k6 .long (9 : Int32) [(.long p1), (.long v8), (.long v11), (.long v14), (.long (0 : Int64)), (.long (0 : Int64)), (.long (0 : Int64)), (.long (0 : Int64)), (.long (0 : Int64))] (.long (0 : Int64)) := V15
 have N15 := Fr.snoc X15 N12 g_b6
 have Z15 : n0 ≤ h15.size := Nat.le_trans Z12 (Nat.le_of_eq W15.size.symm)
 refine k_dup X15 hx (hb hby d1_34) rfl (pc' := 35) rfl ?_
 refine k_iconst X15 hx (hb hby d1_35) (pc' := 36) rfl (z := (4 : Int32)) rfl ?_
 refine k_lloadN X15 hx (hb hby d1_36) rfl (pc' := 37) rfl ?_
 refine k_ldcL X15 hx hZ hown (hw _ (List.mem_of_getElem? (i := 7) rfl)) (hb hby d1_37) (pc' := 40) rfl ?_
 refine k_lloadN X15 hx (hb hby d1_40) rfl (pc' := 41) rfl ?_
 refine k_lmul X15 hx (hb hby d1_41) (pc' := 42) rfl (fun v16 hv16 => ?_)
 refine k_ladd X15 hx (hb hby d1_42) (pc' := 43) rfl (fun v17 hv17 => ?_)
 refine k_lastore X15 hx hZ e15 Vw15 ⟨by decide, by decide⟩ (i := 4) rfl (Nat.le_of_ble_eq_true rfl) (hb hby d1_43) (pc' := 44) rfl (fun T18 h18 X18 e18 W18 V18 => ?_)
 have Vw18 : Arv Z h18 b6 k6 .long (9 : Int32) [(.long p1), (.long v8), (.long v11), (.long v14), (.long v17), (.long (0 : Int64)), (.long (0 : Int64)), (.long (0 : Int64)), (.long (0 : Int64))] (.long (0 : Int64)) := V18
 have N18 := Fr.snoc X18 N15 g_b6
 have Z18 : n0 ≤ h18.size := Nat.le_trans Z15 (Nat.le_of_eq W18.size.symm)
 refine k_dup X18 hx (hb hby d1_44) rfl (pc' := 45) rfl ?_
 refine k_iconst X18 hx (hb hby d1_45) (pc' := 46) rfl (z := (5 : Int32)) rfl ?_
 refine k_lloadN X18 hx (hb hby d1_46) rfl (pc' := 47) rfl ?_
 refine k_ldcL X18 hx hZ hown (hw _ (List.mem_of_getElem? (i := 8) rfl)) (hb hby d1_47) (pc' := 50) rfl ?_
 refine k_lloadN X18 hx (hb hby d1_50) rfl (pc' := 51) rfl ?_
 refine k_lmul X18 hx (hb hby d1_51) (pc' := 52) rfl (fun v19 hv19 => ?_)
 refine k_ladd X18 hx (hb hby d1_52) (pc' := 53) rfl (fun v20 hv20 => ?_)
 refine k_lastore X18 hx hZ e18 Vw18 ⟨by decide, by decide⟩ (i := 5) rfl (Nat.le_of_ble_eq_true rfl) (hb hby d1_53) (pc' := 54) rfl (fun T21 h21 X21 e21 W21 V21 => ?_)
 have Vw21 : Arv Z h21 b6 k6 .long (9 : Int32) [(.long p1), (.long v8), (.long v11), (.long v14), (.long v17), (.long v20), (.long (0 : Int64)), (.long (0 : Int64)), (.long (0 : Int64))] (.long (0 : Int64)) := V21
 have N21 := Fr.snoc X21 N18 g_b6
 have Z21 : n0 ≤ h21.size := Nat.le_trans Z18 (Nat.le_of_eq W21.size.symm)
 refine k_dup X21 hx (hb hby d1_54) rfl (pc' := 55) rfl ?_
 refine k_bipush X21 hx (hb hby d1_55) (pc' := 57) rfl (z := (6 : Int32)) rfl ?_
 refine k_lloadN X21 hx (hb hby d1_57) rfl (pc' := 58) rfl ?_
 refine k_ldcL X21 hx hZ hown (hw _ (List.mem_of_getElem? (i := 9) rfl)) (hb hby d1_58) (pc' := 61) rfl ?_
 refine k_lloadN X21 hx (hb hby d1_61) rfl (pc' := 62) rfl ?_
 refine k_lmul X21 hx (hb hby d1_62) (pc' := 63) rfl (fun v22 hv22 => ?_)
 refine k_ladd X21 hx (hb hby d1_63) (pc' := 64) rfl (fun v23 hv23 => ?_)
 refine k_lastore X21 hx hZ e21 Vw21 ⟨by decide, by decide⟩ (i := 6) rfl (Nat.le_of_ble_eq_true rfl) (hb hby d1_64) (pc' := 65) rfl (fun T24 h24 X24 e24 W24 V24 => ?_)
 have Vw24 : Arv Z h24 b6 k6 .long (9 : Int32) [(.long p1), (.long v8), (.long v11), (.long v14), (.long v17), (.long v20), (.long v23), (.long (0 : Int64)), (.long (0 : Int64))] (.long (0 : Int64)) := V24
 have N24 := Fr.snoc X24 N21 g_b6
 have Z24 : n0 ≤ h24.size := Nat.le_trans Z21 (Nat.le_of_eq W24.size.symm)
 refine k_dup X24 hx (hb hby d1_65) rfl (pc' := 66) rfl ?_
 refine k_bipush X24 hx (hb hby d1_66) (pc' := 68) rfl (z := (7 : Int32)) rfl ?_
 refine k_lloadN X24 hx (hb hby d1_68) rfl (pc' := 69) rfl ?_
 refine k_ldcL X24 hx hZ hown (hw _ (List.mem_of_getElem? (i := 10) rfl)) (hb hby d1_69) (pc' := 72) rfl ?_
 refine k_lloadN X24 hx (hb hby d1_72) rfl (pc' := 73) rfl ?_
 refine k_lmul X24 hx (hb hby d1_73) (pc' := 74) rfl (fun v25 hv25 => ?_)
 refine k_ladd X24 hx (hb hby d1_74) (pc' := 75) rfl (fun v26 hv26 => ?_)
 refine k_lastore X24 hx hZ e24 Vw24 ⟨by decide, by decide⟩ (i := 7) rfl (Nat.le_of_ble_eq_true rfl) (hb hby d1_75) (pc' := 76) rfl (fun T27 h27 X27 e27 W27 V27 => ?_)
 have Vw27 : Arv Z h27 b6 k6 .long (9 : Int32) [(.long p1), (.long v8), (.long v11), (.long v14), (.long v17), (.long v20), (.long v23), (.long v26), (.long (0 : Int64))] (.long (0 : Int64)) := V27
 have N27 := Fr.snoc X27 N24 g_b6
 have Z27 : n0 ≤ h27.size := Nat.le_trans Z24 (Nat.le_of_eq W27.size.symm)
 refine k_dup X27 hx (hb hby d1_76) rfl (pc' := 77) rfl ?_
 refine k_bipush X27 hx (hb hby d1_77) (pc' := 79) rfl (z := (8 : Int32)) rfl ?_
 refine k_lloadN X27 hx (hb hby d1_79) rfl (pc' := 80) rfl ?_
 refine k_ldcL X27 hx hZ hown (hw _ (List.mem_of_getElem? (i := 11) rfl)) (hb hby d1_80) (pc' := 83) rfl ?_
 refine k_lloadN X27 hx (hb hby d1_83) rfl (pc' := 84) rfl ?_
 refine k_lmul X27 hx (hb hby d1_84) (pc' := 85) rfl (fun v28 hv28 => ?_)
 refine k_ladd X27 hx (hb hby d1_85) (pc' := 86) rfl (fun v29 hv29 => ?_)
 refine k_lastore X27 hx hZ e27 Vw27 ⟨by decide, by decide⟩ (i := 8) rfl (Nat.le_of_ble_eq_true rfl) (hb hby d1_86) (pc' := 87) rfl (fun T30 h30 X30 e30 W30 V30 => ?_)
 have Vw30 : Arv Z h30 b6 k6 .long (9 : Int32) [(.long p1), (.long v8), (.long v11), (.long v14), (.long v17), (.long v20), (.long v23), (.long v26), (.long v29)] (.long (0 : Int64)) := V30
 have N30 := Fr.snoc X30 N27 g_b6
 have Z30 : n0 ≤ h30.size := Nat.le_trans Z27 (Nat.le_of_eq W30.size.symm)
 exact k_retA X30 hx Bd.returns rfl rfl (hb hby d1_87) hlk (by decide) (by decide) (by rw [e30]; exact ⟨N30, ⟨v8, v10, v11, v13, v14, v16, v17, v19, v20, v22, v23, v25, v26, v28, v29, b6, k6, hv8, hv10, hv11, hv13, hv14, hv16, hv17, hv19, hv20, hv22, hv23, hv25, hv26, hv28, hv29, rfl, Vw30, g_b6, Z30⟩⟩)
theorem pd_0 : parseMethodDescriptor "(JJ)[J" = some ⟨[.long, .long], some (.array .long)⟩ := by decide +kernel
abbrev R1_67 : Room := { frames := 0, cells := 1, slots := 9, locals := 0 }
def Q1_67 (Z : State) (p1 : Int64) (p2 : Int64) (a3 : Addr) (k4 : ClassId) (p5 : Int64) (p6 : Int64) (p7 : Int64) (p8 : Int64) (p9 : Int64) (p10 : Int64) (p11 : Int64) (p12 : Int64) (p13 : Int64) (h0 : Heap) (n0 : Nat) (v : Option Value) (h : Heap) (L : List Loc) : Prop := Fr n0 L ∧ ((∃ (v70 : Int64) (v72 : Int64) (v73 : Int64) (v75 : Int64) (v76 : Int64) (v78 : Int64) (v79 : Int64) (v81 : Int64) (v82 : Int64) (v84 : Int64) (v85 : Int64) (v87 : Int64) (v88 : Int64) (v90 : Int64) (v91 : Int64) (b68 : Addr) (k68 : ClassId), v70 = p1 + p2 ∧ v72 = (2 : Int64) * p2 ∧ v73 = p1 + v72 ∧ v75 = (3 : Int64) * p2 ∧ v76 = p1 + v75 ∧ v78 = (4 : Int64) * p2 ∧ v79 = p1 + v78 ∧ v81 = (5 : Int64) * p2 ∧ v82 = p1 + v81 ∧ v84 = (6 : Int64) * p2 ∧ v85 = p1 + v84 ∧ v87 = (7 : Int64) * p2 ∧ v88 = p1 + v87 ∧ v90 = (8 : Int64) * p2 ∧ v91 = p1 + v90 ∧ v = some (.ref b68) ∧ Arv Z h a3 k4 .long (9 : Int32) [(.long p5), (.long p6), (.long p7), (.long p8), (.long p9), (.long p10), (.long p11), (.long p12), (.long p13)] (.long (0 : Int64)) ∧ Arv Z h b68 k68 .long (9 : Int32) [(.long p1), (.long v70), (.long v73), (.long v76), (.long v79), (.long v82), (.long v85), (.long v88), (.long v91)] (.long (0 : Int64)) ∧ n0 ≤ b68 ∧ a3 < b68 ∧ n0 ≤ h.size))
theorem ef1_67 (m : MethodId) (x0 : Int64) (x1 : Int64) : entryFrame m #[(.long x0), (.long x1)] 4 = mkF m 0 #[.val (.long x0), .second, .val (.long x1), .second] [] := by first | (simp [entryFrame, mkF, argsToLocals, Value.category]; done) | rfl
set_option maxRecDepth 65536 in
set_option maxHeartbeats 40000000 in
theorem rm1_67 (l : Launch) (Z : State) (a0 : Array Value) (hw : ∀ d ∈ tables_1, d.before a0 Z = true) (ws : List Jvm.Cond) (p1 : Int64) (p2 : Int64) (a3 : Addr) (k4 : ClassId) (p5 : Int64) (p6 : Int64) (p7 : Int64) (p8 : Int64) (p9 : Int64) (p10 : Int64) (p11 : Int64) (p12 : Int64) (p13 : Int64) (h0 : Heap) (n0 : Nat) (Z0 : n0 ≤ h0.size) (F0_0 : Arv Z h0 a3 k4 .long (9 : Int32) [(.long p5), (.long p6), (.long p7), (.long p8), (.long p9), (.long p10), (.long p11), (.long p12), (.long p13)] (.long (0 : Int64))) (g_a3 : n0 ≤ a3) :
    MetFree l (⟨"com/example/portcullis/portcullis/protocol/FieldSelectPinLaw", "limbs", "(JJ)[J"⟩ : MethodName) (head1 (Jvm.Cond.code (⟨"com/example/portcullis/portcullis/protocol/FieldSelectPinLaw", "limbs", "(JJ)[J"⟩ : MethodName) method_3_code 4 (some (.array .long)) :: ws) R1_67) (fun a U => a = #[(.long p1), (.long p2)] ∧ Z.Warmed39 U.vm ∧ U.heap = h0) (fun _ _ _ _ _ => True) (fun _ U o U' => ∃ v L, o = .returned v ∧ Q1_67 Z p1 p2 a3 k4 p5 p6 p7 p8 p9 p10 p11 p12 p13 h0 n0 v U'.heap L ∧ FrameEnd U o U' L R1_67.cells R1_67.slots) := by
 refine MetFree.of_bodySF (plainFor_of_name pn_0) hisR ?_
 intro p e s m args below meth c s₁ Bd hml0 hP hK
 obtain ⟨rfl, hZ, hh⟩ := hP
 have hx := Bd.exec
 have hby := Bd.bytes
 have hml : c.maxLocals = 4 := hml0
 have hlk : meth.locks = false := Bd.notSynchronized
 have hown : s.vm.findClass "com/example/portcullis/portcullis/protocol/FieldSelectPinLaw" = some m.cls := findClass_of_methodNamed Bd.named
 have hnm := (name_of_methodNamed Bd.named Bd.method).1
 have X0 : Stand p l e R1_67 s m #[(.long p1), (.long p2)] below meth c s₁ [] 0 0 := Stand.of_body Bd
 have e0 : s₁.heap = h0 := by rw [← hh, Bd.state]; rfl
 have N0 := Fr.nil n0
 rw [ef1_67 m p1 p2]
 show KEnds p e below s R1_67.cells R1_67.slots (Q1_67 Z p1 p2 a3 k4 p5 p6 p7 p8 p9 p10 p11 p12 p13 h0 n0) s₁ (mkF m 0 #[.val (.long p1), .second, .val (.long p2), .second] [])
 refine k_bipush X0 hx (hb hby d1_0) (pc' := 2) rfl (z := (9 : Int32)) rfl ?_
 refine k_newA X0 hx hZ (hw _ (List.mem_of_getElem? (i := 4) rfl)) e0 (hb hby d1_2) (by decide) (cap := 9) (by decide) (by decide) (by decide) (by decide) (pc' := 4) rfl (fun T68 h68 b68 k68 g68 X68 e68 E68 V68 => ?_)
 have g_b68 : n0 ≤ b68 := Nat.le_trans Z0 (Nat.le_of_eq g68.symm)
 have lt_b68 : a3 < b68 := Nat.lt_of_lt_of_le F0_0.lt (Nat.le_of_eq g68.symm)
 have Z68 : n0 ≤ h68.size := Nat.le_trans Z0 E68.1
 have Vw68 : Arv Z h68 b68 k68 .long (9 : Int32) [(.long (0 : Int64)), (.long (0 : Int64)), (.long (0 : Int64)), (.long (0 : Int64)), (.long (0 : Int64)), (.long (0 : Int64)), (.long (0 : Int64)), (.long (0 : Int64)), (.long (0 : Int64))] (.long (0 : Int64)) := V68
 refine k_dup X68 hx (hb hby d1_4) rfl (pc' := 5) rfl ?_
 refine k_iconst X68 hx (hb hby d1_5) (pc' := 6) rfl (z := (0 : Int32)) rfl ?_
 refine k_lloadN X68 hx (hb hby d1_6) rfl (pc' := 7) rfl ?_
 refine k_lastore X68 hx hZ e68 Vw68 ⟨by decide, by decide⟩ (i := 0) rfl (Nat.le_of_ble_eq_true rfl) (hb hby d1_7) (pc' := 8) rfl (fun T69 h69 X69 e69 W69 V69 => ?_)
 have Vw69 : Arv Z h69 b68 k68 .long (9 : Int32) [(.long p1), (.long (0 : Int64)), (.long (0 : Int64)), (.long (0 : Int64)), (.long (0 : Int64)), (.long (0 : Int64)), (.long (0 : Int64)), (.long (0 : Int64)), (.long (0 : Int64))] (.long (0 : Int64)) := V69
 have N69 := Fr.snoc X69 N0 g_b68
 have Z69 : n0 ≤ h69.size := Nat.le_trans Z68 (Nat.le_of_eq W69.size.symm)
 refine k_dup X69 hx (hb hby d1_8) rfl (pc' := 9) rfl ?_
 refine k_iconst X69 hx (hb hby d1_9) (pc' := 10) rfl (z := (1 : Int32)) rfl ?_
 refine k_lloadN X69 hx (hb hby d1_10) rfl (pc' := 11) rfl ?_
 refine k_lloadN X69 hx (hb hby d1_11) rfl (pc' := 12) rfl ?_
 refine k_ladd X69 hx (hb hby d1_12) (pc' := 13) rfl (fun v70 hv70 => ?_)
 refine k_lastore X69 hx hZ e69 Vw69 ⟨by decide, by decide⟩ (i := 1) rfl (Nat.le_of_ble_eq_true rfl) (hb hby d1_13) (pc' := 14) rfl (fun T71 h71 X71 e71 W71 V71 => ?_)
 have Vw71 : Arv Z h71 b68 k68 .long (9 : Int32) [(.long p1), (.long v70), (.long (0 : Int64)), (.long (0 : Int64)), (.long (0 : Int64)), (.long (0 : Int64)), (.long (0 : Int64)), (.long (0 : Int64)), (.long (0 : Int64))] (.long (0 : Int64)) := V71
 have N71 := Fr.snoc X71 N69 g_b68
 have Z71 : n0 ≤ h71.size := Nat.le_trans Z69 (Nat.le_of_eq W71.size.symm)
 refine k_dup X71 hx (hb hby d1_14) rfl (pc' := 15) rfl ?_
 refine k_iconst X71 hx (hb hby d1_15) (pc' := 16) rfl (z := (2 : Int32)) rfl ?_
 refine k_lloadN X71 hx (hb hby d1_16) rfl (pc' := 17) rfl ?_
 refine k_ldcL X71 hx hZ hown (hw _ (List.mem_of_getElem? (i := 5) rfl)) (hb hby d1_17) (pc' := 20) rfl ?_
 refine k_lloadN X71 hx (hb hby d1_20) rfl (pc' := 21) rfl ?_
 refine k_lmul X71 hx (hb hby d1_21) (pc' := 22) rfl (fun v72 hv72 => ?_)
 refine k_ladd X71 hx (hb hby d1_22) (pc' := 23) rfl (fun v73 hv73 => ?_)
 refine k_lastore X71 hx hZ e71 Vw71 ⟨by decide, by decide⟩ (i := 2) rfl (Nat.le_of_ble_eq_true rfl) (hb hby d1_23) (pc' := 24) rfl (fun T74 h74 X74 e74 W74 V74 => ?_)
 have Vw74 : Arv Z h74 b68 k68 .long (9 : Int32) [(.long p1), (.long v70), (.long v73), (.long (0 : Int64)), (.long (0 : Int64)), (.long (0 : Int64)), (.long (0 : Int64)), (.long (0 : Int64)), (.long (0 : Int64))] (.long (0 : Int64)) := V74
 have N74 := Fr.snoc X74 N71 g_b68
 have Z74 : n0 ≤ h74.size := Nat.le_trans Z71 (Nat.le_of_eq W74.size.symm)
 refine k_dup X74 hx (hb hby d1_24) rfl (pc' := 25) rfl ?_
 refine k_iconst X74 hx (hb hby d1_25) (pc' := 26) rfl (z := (3 : Int32)) rfl ?_
 refine k_lloadN X74 hx (hb hby d1_26) rfl (pc' := 27) rfl ?_
 refine k_ldcL X74 hx hZ hown (hw _ (List.mem_of_getElem? (i := 6) rfl)) (hb hby d1_27) (pc' := 30) rfl ?_
 refine k_lloadN X74 hx (hb hby d1_30) rfl (pc' := 31) rfl ?_
 refine k_lmul X74 hx (hb hby d1_31) (pc' := 32) rfl (fun v75 hv75 => ?_)
 refine k_ladd X74 hx (hb hby d1_32) (pc' := 33) rfl (fun v76 hv76 => ?_)
 refine k_lastore X74 hx hZ e74 Vw74 ⟨by decide, by decide⟩ (i := 3) rfl (Nat.le_of_ble_eq_true rfl) (hb hby d1_33) (pc' := 34) rfl (fun T77 h77 X77 e77 W77 V77 => ?_)
 have Vw77 : Arv Z h77 b68 k68 .long (9 : Int32) [(.long p1), (.long v70), (.long v73), (.long v76), (.long (0 : Int64)), (.long (0 : Int64)), (.long (0 : Int64)), (.long (0 : Int64)), (.long (0 : Int64))] (.long (0 : Int64)) := V77
 have N77 := Fr.snoc X77 N74 g_b68
 have Z77 : n0 ≤ h77.size := Nat.le_trans Z74 (Nat.le_of_eq W77.size.symm)
 refine k_dup X77 hx (hb hby d1_34) rfl (pc' := 35) rfl ?_
 refine k_iconst X77 hx (hb hby d1_35) (pc' := 36) rfl (z := (4 : Int32)) rfl ?_
 refine k_lloadN X77 hx (hb hby d1_36) rfl (pc' := 37) rfl ?_
 refine k_ldcL X77 hx hZ hown (hw _ (List.mem_of_getElem? (i := 7) rfl)) (hb hby d1_37) (pc' := 40) rfl ?_
 refine k_lloadN X77 hx (hb hby d1_40) rfl (pc' := 41) rfl ?_
 refine k_lmul X77 hx (hb hby d1_41) (pc' := 42) rfl (fun v78 hv78 => ?_)
 refine k_ladd X77 hx (hb hby d1_42) (pc' := 43) rfl (fun v79 hv79 => ?_)
 refine k_lastore X77 hx hZ e77 Vw77 ⟨by decide, by decide⟩ (i := 4) rfl (Nat.le_of_ble_eq_true rfl) (hb hby d1_43) (pc' := 44) rfl (fun T80 h80 X80 e80 W80 V80 => ?_)
 have Vw80 : Arv Z h80 b68 k68 .long (9 : Int32) [(.long p1), (.long v70), (.long v73), (.long v76), (.long v79), (.long (0 : Int64)), (.long (0 : Int64)), (.long (0 : Int64)), (.long (0 : Int64))] (.long (0 : Int64)) := V80
 have N80 := Fr.snoc X80 N77 g_b68
 have Z80 : n0 ≤ h80.size := Nat.le_trans Z77 (Nat.le_of_eq W80.size.symm)
 refine k_dup X80 hx (hb hby d1_44) rfl (pc' := 45) rfl ?_
 refine k_iconst X80 hx (hb hby d1_45) (pc' := 46) rfl (z := (5 : Int32)) rfl ?_
 refine k_lloadN X80 hx (hb hby d1_46) rfl (pc' := 47) rfl ?_
 refine k_ldcL X80 hx hZ hown (hw _ (List.mem_of_getElem? (i := 8) rfl)) (hb hby d1_47) (pc' := 50) rfl ?_
 refine k_lloadN X80 hx (hb hby d1_50) rfl (pc' := 51) rfl ?_
 refine k_lmul X80 hx (hb hby d1_51) (pc' := 52) rfl (fun v81 hv81 => ?_)
 refine k_ladd X80 hx (hb hby d1_52) (pc' := 53) rfl (fun v82 hv82 => ?_)
 refine k_lastore X80 hx hZ e80 Vw80 ⟨by decide, by decide⟩ (i := 5) rfl (Nat.le_of_ble_eq_true rfl) (hb hby d1_53) (pc' := 54) rfl (fun T83 h83 X83 e83 W83 V83 => ?_)
 have Vw83 : Arv Z h83 b68 k68 .long (9 : Int32) [(.long p1), (.long v70), (.long v73), (.long v76), (.long v79), (.long v82), (.long (0 : Int64)), (.long (0 : Int64)), (.long (0 : Int64))] (.long (0 : Int64)) := V83
 have N83 := Fr.snoc X83 N80 g_b68
 have Z83 : n0 ≤ h83.size := Nat.le_trans Z80 (Nat.le_of_eq W83.size.symm)
 refine k_dup X83 hx (hb hby d1_54) rfl (pc' := 55) rfl ?_
 refine k_bipush X83 hx (hb hby d1_55) (pc' := 57) rfl (z := (6 : Int32)) rfl ?_
 refine k_lloadN X83 hx (hb hby d1_57) rfl (pc' := 58) rfl ?_
 refine k_ldcL X83 hx hZ hown (hw _ (List.mem_of_getElem? (i := 9) rfl)) (hb hby d1_58) (pc' := 61) rfl ?_
 refine k_lloadN X83 hx (hb hby d1_61) rfl (pc' := 62) rfl ?_
 refine k_lmul X83 hx (hb hby d1_62) (pc' := 63) rfl (fun v84 hv84 => ?_)
 refine k_ladd X83 hx (hb hby d1_63) (pc' := 64) rfl (fun v85 hv85 => ?_)
 refine k_lastore X83 hx hZ e83 Vw83 ⟨by decide, by decide⟩ (i := 6) rfl (Nat.le_of_ble_eq_true rfl) (hb hby d1_64) (pc' := 65) rfl (fun T86 h86 X86 e86 W86 V86 => ?_)
 have Vw86 : Arv Z h86 b68 k68 .long (9 : Int32) [(.long p1), (.long v70), (.long v73), (.long v76), (.long v79), (.long v82), (.long v85), (.long (0 : Int64)), (.long (0 : Int64))] (.long (0 : Int64)) := V86
 have N86 := Fr.snoc X86 N83 g_b68
 have Z86 : n0 ≤ h86.size := Nat.le_trans Z83 (Nat.le_of_eq W86.size.symm)
 refine k_dup X86 hx (hb hby d1_65) rfl (pc' := 66) rfl ?_
 refine k_bipush X86 hx (hb hby d1_66) (pc' := 68) rfl (z := (7 : Int32)) rfl ?_
 refine k_lloadN X86 hx (hb hby d1_68) rfl (pc' := 69) rfl ?_
 refine k_ldcL X86 hx hZ hown (hw _ (List.mem_of_getElem? (i := 10) rfl)) (hb hby d1_69) (pc' := 72) rfl ?_
 refine k_lloadN X86 hx (hb hby d1_72) rfl (pc' := 73) rfl ?_
 refine k_lmul X86 hx (hb hby d1_73) (pc' := 74) rfl (fun v87 hv87 => ?_)
 refine k_ladd X86 hx (hb hby d1_74) (pc' := 75) rfl (fun v88 hv88 => ?_)
 refine k_lastore X86 hx hZ e86 Vw86 ⟨by decide, by decide⟩ (i := 7) rfl (Nat.le_of_ble_eq_true rfl) (hb hby d1_75) (pc' := 76) rfl (fun T89 h89 X89 e89 W89 V89 => ?_)
 have Vw89 : Arv Z h89 b68 k68 .long (9 : Int32) [(.long p1), (.long v70), (.long v73), (.long v76), (.long v79), (.long v82), (.long v85), (.long v88), (.long (0 : Int64))] (.long (0 : Int64)) := V89
 have N89 := Fr.snoc X89 N86 g_b68
 have Z89 : n0 ≤ h89.size := Nat.le_trans Z86 (Nat.le_of_eq W89.size.symm)
 refine k_dup X89 hx (hb hby d1_76) rfl (pc' := 77) rfl ?_
 refine k_bipush X89 hx (hb hby d1_77) (pc' := 79) rfl (z := (8 : Int32)) rfl ?_
 refine k_lloadN X89 hx (hb hby d1_79) rfl (pc' := 80) rfl ?_
 refine k_ldcL X89 hx hZ hown (hw _ (List.mem_of_getElem? (i := 11) rfl)) (hb hby d1_80) (pc' := 83) rfl ?_
 refine k_lloadN X89 hx (hb hby d1_83) rfl (pc' := 84) rfl ?_
 refine k_lmul X89 hx (hb hby d1_84) (pc' := 85) rfl (fun v90 hv90 => ?_)
 refine k_ladd X89 hx (hb hby d1_85) (pc' := 86) rfl (fun v91 hv91 => ?_)
 refine k_lastore X89 hx hZ e89 Vw89 ⟨by decide, by decide⟩ (i := 8) rfl (Nat.le_of_ble_eq_true rfl) (hb hby d1_86) (pc' := 87) rfl (fun T92 h92 X92 e92 W92 V92 => ?_)
 have Vw92 : Arv Z h92 b68 k68 .long (9 : Int32) [(.long p1), (.long v70), (.long v73), (.long v76), (.long v79), (.long v82), (.long v85), (.long v88), (.long v91)] (.long (0 : Int64)) := V92
 have N92 := Fr.snoc X92 N89 g_b68
 have Z92 : n0 ≤ h92.size := Nat.le_trans Z89 (Nat.le_of_eq W92.size.symm)
 have F93 := ((((((((((F0_0.ext E68).other W69 (Nat.ne_of_lt lt_b68)).other W71 (Nat.ne_of_lt lt_b68)).other W74 (Nat.ne_of_lt lt_b68)).other W77 (Nat.ne_of_lt lt_b68)).other W80 (Nat.ne_of_lt lt_b68)).other W83 (Nat.ne_of_lt lt_b68)).other W86 (Nat.ne_of_lt lt_b68)).other W89 (Nat.ne_of_lt lt_b68)).other W92 (Nat.ne_of_lt lt_b68))
 exact k_retA X92 hx Bd.returns rfl rfl (hb hby d1_87) hlk (by decide) (by decide) (by rw [e92]; exact ⟨N92, ⟨v70, v72, v73, v75, v76, v78, v79, v81, v82, v84, v85, v87, v88, v90, v91, b68, k68, hv70, hv72, hv73, hv75, hv76, hv78, hv79, hv81, hv82, hv84, hv85, hv87, hv88, hv90, hv91, rfl, F93, Vw92, g_b68, lt_b68, Z92⟩⟩)
abbrev R1_131 : Room := { frames := 0, cells := 1, slots := 9, locals := 0 }
def Q1_131 (Z : State) (p1 : Int64) (p2 : Int64) (a3 : Addr) (k4 : ClassId) (p5 : Int64) (p6 : Int64) (p7 : Int64) (p8 : Int64) (p9 : Int64) (p10 : Int64) (p11 : Int64) (p12 : Int64) (a13 : Addr) (k14 : ClassId) (p15 : Int64) (p16 : Int64) (p17 : Int64) (p18 : Int64) (p19 : Int64) (p20 : Int64) (p21 : Int64) (p22 : Int64) (h0 : Heap) (n0 : Nat) (v : Option Value) (h : Heap) (L : List Loc) : Prop := Fr n0 L ∧ ((∃ (v134 : Int64) (v136 : Int64) (v137 : Int64) (v139 : Int64) (v140 : Int64) (v142 : Int64) (v143 : Int64) (v145 : Int64) (v146 : Int64) (v148 : Int64) (v149 : Int64) (v151 : Int64) (v152 : Int64) (v154 : Int64) (v155 : Int64) (b132 : Addr) (k132 : ClassId), v134 = p1 + p2 ∧ v136 = (2 : Int64) * p2 ∧ v137 = p1 + v136 ∧ v139 = (3 : Int64) * p2 ∧ v140 = p1 + v139 ∧ v142 = (4 : Int64) * p2 ∧ v143 = p1 + v142 ∧ v145 = (5 : Int64) * p2 ∧ v146 = p1 + v145 ∧ v148 = (6 : Int64) * p2 ∧ v149 = p1 + v148 ∧ v151 = (7 : Int64) * p2 ∧ v152 = p1 + v151 ∧ v154 = (8 : Int64) * p2 ∧ v155 = p1 + v154 ∧ v = some (.ref b132) ∧ Arv Z h a3 k4 .long (9 : Int32) [(.long p1), (.long p5), (.long p6), (.long p7), (.long p8), (.long p9), (.long p10), (.long p11), (.long p12)] (.long (0 : Int64)) ∧ Arv Z h a13 k14 .long (9 : Int32) [(.long p2), (.long p15), (.long p16), (.long p17), (.long p18), (.long p19), (.long p20), (.long p21), (.long p22)] (.long (0 : Int64)) ∧ Arv Z h b132 k132 .long (9 : Int32) [(.long p1), (.long v134), (.long v137), (.long v140), (.long v143), (.long v146), (.long v149), (.long v152), (.long v155)] (.long (0 : Int64)) ∧ n0 ≤ b132 ∧ a13 < b132 ∧ n0 ≤ h.size))
theorem ef1_131 (m : MethodId) (x0 : Int64) (x1 : Int64) : entryFrame m #[(.long x0), (.long x1)] 4 = mkF m 0 #[.val (.long x0), .second, .val (.long x1), .second] [] := by first | (simp [entryFrame, mkF, argsToLocals, Value.category]; done) | rfl
set_option maxRecDepth 65536 in
set_option maxHeartbeats 40000000 in
theorem rm1_131 (l : Launch) (Z : State) (a0 : Array Value) (hw : ∀ d ∈ tables_1, d.before a0 Z = true) (ws : List Jvm.Cond) (p1 : Int64) (p2 : Int64) (a3 : Addr) (k4 : ClassId) (p5 : Int64) (p6 : Int64) (p7 : Int64) (p8 : Int64) (p9 : Int64) (p10 : Int64) (p11 : Int64) (p12 : Int64) (a13 : Addr) (k14 : ClassId) (p15 : Int64) (p16 : Int64) (p17 : Int64) (p18 : Int64) (p19 : Int64) (p20 : Int64) (p21 : Int64) (p22 : Int64) (h0 : Heap) (n0 : Nat) (Z0 : n0 ≤ h0.size) (F0_0 : Arv Z h0 a3 k4 .long (9 : Int32) [(.long p1), (.long p5), (.long p6), (.long p7), (.long p8), (.long p9), (.long p10), (.long p11), (.long p12)] (.long (0 : Int64))) (g_a3 : n0 ≤ a3) (F0_2 : Arv Z h0 a13 k14 .long (9 : Int32) [(.long p2), (.long p15), (.long p16), (.long p17), (.long p18), (.long p19), (.long p20), (.long p21), (.long p22)] (.long (0 : Int64))) (g_a13 : n0 ≤ a13) (lt0_0 : a3 < a13) :
    MetFree l (⟨"com/example/portcullis/portcullis/protocol/FieldSelectPinLaw", "limbs", "(JJ)[J"⟩ : MethodName) (head1 (Jvm.Cond.code (⟨"com/example/portcullis/portcullis/protocol/FieldSelectPinLaw", "limbs", "(JJ)[J"⟩ : MethodName) method_3_code 4 (some (.array .long)) :: ws) R1_131) (fun a U => a = #[(.long p1), (.long p2)] ∧ Z.Warmed39 U.vm ∧ U.heap = h0) (fun _ _ _ _ _ => True) (fun _ U o U' => ∃ v L, o = .returned v ∧ Q1_131 Z p1 p2 a3 k4 p5 p6 p7 p8 p9 p10 p11 p12 a13 k14 p15 p16 p17 p18 p19 p20 p21 p22 h0 n0 v U'.heap L ∧ FrameEnd U o U' L R1_131.cells R1_131.slots) := by
 refine MetFree.of_bodySF (plainFor_of_name pn_0) hisR ?_
 intro p e s m args below meth c s₁ Bd hml0 hP hK
 obtain ⟨rfl, hZ, hh⟩ := hP
 have hx := Bd.exec
 have hby := Bd.bytes
 have hml : c.maxLocals = 4 := hml0
 have hlk : meth.locks = false := Bd.notSynchronized
 have hown : s.vm.findClass "com/example/portcullis/portcullis/protocol/FieldSelectPinLaw" = some m.cls := findClass_of_methodNamed Bd.named
 have hnm := (name_of_methodNamed Bd.named Bd.method).1
 have X0 : Stand p l e R1_131 s m #[(.long p1), (.long p2)] below meth c s₁ [] 0 0 := Stand.of_body Bd
 have e0 : s₁.heap = h0 := by rw [← hh, Bd.state]; rfl
 have N0 := Fr.nil n0
 rw [ef1_131 m p1 p2]
 show KEnds p e below s R1_131.cells R1_131.slots (Q1_131 Z p1 p2 a3 k4 p5 p6 p7 p8 p9 p10 p11 p12 a13 k14 p15 p16 p17 p18 p19 p20 p21 p22 h0 n0) s₁ (mkF m 0 #[.val (.long p1), .second, .val (.long p2), .second] [])
 refine k_bipush X0 hx (hb hby d1_0) (pc' := 2) rfl (z := (9 : Int32)) rfl ?_
 refine k_newA X0 hx hZ (hw _ (List.mem_of_getElem? (i := 4) rfl)) e0 (hb hby d1_2) (by decide) (cap := 9) (by decide) (by decide) (by decide) (by decide) (pc' := 4) rfl (fun T132 h132 b132 k132 g132 X132 e132 E132 V132 => ?_)
 have g_b132 : n0 ≤ b132 := Nat.le_trans Z0 (Nat.le_of_eq g132.symm)
 have lt_b132 : a13 < b132 := Nat.lt_of_lt_of_le F0_2.lt (Nat.le_of_eq g132.symm)
 have Z132 : n0 ≤ h132.size := Nat.le_trans Z0 E132.1
 have Vw132 : Arv Z h132 b132 k132 .long (9 : Int32) [(.long (0 : Int64)), (.long (0 : Int64)), (.long (0 : Int64)), (.long (0 : Int64)), (.long (0 : Int64)), (.long (0 : Int64)), (.long (0 : Int64)), (.long (0 : Int64)), (.long (0 : Int64))] (.long (0 : Int64)) := V132
 refine k_dup X132 hx (hb hby d1_4) rfl (pc' := 5) rfl ?_
 refine k_iconst X132 hx (hb hby d1_5) (pc' := 6) rfl (z := (0 : Int32)) rfl ?_
 refine k_lloadN X132 hx (hb hby d1_6) rfl (pc' := 7) rfl ?_
 refine k_lastore X132 hx hZ e132 Vw132 ⟨by decide, by decide⟩ (i := 0) rfl (Nat.le_of_ble_eq_true rfl) (hb hby d1_7) (pc' := 8) rfl (fun T133 h133 X133 e133 W133 V133 => ?_)
 have Vw133 : Arv Z h133 b132 k132 .long (9 : Int32) [(.long p1), (.long (0 : Int64)), (.long (0 : Int64)), (.long (0 : Int64)), (.long (0 : Int64)), (.long (0 : Int64)), (.long (0 : Int64)), (.long (0 : Int64)), (.long (0 : Int64))] (.long (0 : Int64)) := V133
 have N133 := Fr.snoc X133 N0 g_b132
 have Z133 : n0 ≤ h133.size := Nat.le_trans Z132 (Nat.le_of_eq W133.size.symm)
 refine k_dup X133 hx (hb hby d1_8) rfl (pc' := 9) rfl ?_
 refine k_iconst X133 hx (hb hby d1_9) (pc' := 10) rfl (z := (1 : Int32)) rfl ?_
 refine k_lloadN X133 hx (hb hby d1_10) rfl (pc' := 11) rfl ?_
 refine k_lloadN X133 hx (hb hby d1_11) rfl (pc' := 12) rfl ?_
 refine k_ladd X133 hx (hb hby d1_12) (pc' := 13) rfl (fun v134 hv134 => ?_)
 refine k_lastore X133 hx hZ e133 Vw133 ⟨by decide, by decide⟩ (i := 1) rfl (Nat.le_of_ble_eq_true rfl) (hb hby d1_13) (pc' := 14) rfl (fun T135 h135 X135 e135 W135 V135 => ?_)
 have Vw135 : Arv Z h135 b132 k132 .long (9 : Int32) [(.long p1), (.long v134), (.long (0 : Int64)), (.long (0 : Int64)), (.long (0 : Int64)), (.long (0 : Int64)), (.long (0 : Int64)), (.long (0 : Int64)), (.long (0 : Int64))] (.long (0 : Int64)) := V135
 have N135 := Fr.snoc X135 N133 g_b132
 have Z135 : n0 ≤ h135.size := Nat.le_trans Z133 (Nat.le_of_eq W135.size.symm)
 refine k_dup X135 hx (hb hby d1_14) rfl (pc' := 15) rfl ?_
 refine k_iconst X135 hx (hb hby d1_15) (pc' := 16) rfl (z := (2 : Int32)) rfl ?_
 refine k_lloadN X135 hx (hb hby d1_16) rfl (pc' := 17) rfl ?_
 refine k_ldcL X135 hx hZ hown (hw _ (List.mem_of_getElem? (i := 5) rfl)) (hb hby d1_17) (pc' := 20) rfl ?_
 refine k_lloadN X135 hx (hb hby d1_20) rfl (pc' := 21) rfl ?_
 refine k_lmul X135 hx (hb hby d1_21) (pc' := 22) rfl (fun v136 hv136 => ?_)
 refine k_ladd X135 hx (hb hby d1_22) (pc' := 23) rfl (fun v137 hv137 => ?_)
 refine k_lastore X135 hx hZ e135 Vw135 ⟨by decide, by decide⟩ (i := 2) rfl (Nat.le_of_ble_eq_true rfl) (hb hby d1_23) (pc' := 24) rfl (fun T138 h138 X138 e138 W138 V138 => ?_)
 have Vw138 : Arv Z h138 b132 k132 .long (9 : Int32) [(.long p1), (.long v134), (.long v137), (.long (0 : Int64)), (.long (0 : Int64)), (.long (0 : Int64)), (.long (0 : Int64)), (.long (0 : Int64)), (.long (0 : Int64))] (.long (0 : Int64)) := V138
 have N138 := Fr.snoc X138 N135 g_b132
 have Z138 : n0 ≤ h138.size := Nat.le_trans Z135 (Nat.le_of_eq W138.size.symm)
 refine k_dup X138 hx (hb hby d1_24) rfl (pc' := 25) rfl ?_
 refine k_iconst X138 hx (hb hby d1_25) (pc' := 26) rfl (z := (3 : Int32)) rfl ?_
 refine k_lloadN X138 hx (hb hby d1_26) rfl (pc' := 27) rfl ?_
 refine k_ldcL X138 hx hZ hown (hw _ (List.mem_of_getElem? (i := 6) rfl)) (hb hby d1_27) (pc' := 30) rfl ?_
 refine k_lloadN X138 hx (hb hby d1_30) rfl (pc' := 31) rfl ?_
 refine k_lmul X138 hx (hb hby d1_31) (pc' := 32) rfl (fun v139 hv139 => ?_)
 refine k_ladd X138 hx (hb hby d1_32) (pc' := 33) rfl (fun v140 hv140 => ?_)
 refine k_lastore X138 hx hZ e138 Vw138 ⟨by decide, by decide⟩ (i := 3) rfl (Nat.le_of_ble_eq_true rfl) (hb hby d1_33) (pc' := 34) rfl (fun T141 h141 X141 e141 W141 V141 => ?_)
 have Vw141 : Arv Z h141 b132 k132 .long (9 : Int32) [(.long p1), (.long v134), (.long v137), (.long v140), (.long (0 : Int64)), (.long (0 : Int64)), (.long (0 : Int64)), (.long (0 : Int64)), (.long (0 : Int64))] (.long (0 : Int64)) := V141
 have N141 := Fr.snoc X141 N138 g_b132
 have Z141 : n0 ≤ h141.size := Nat.le_trans Z138 (Nat.le_of_eq W141.size.symm)
 refine k_dup X141 hx (hb hby d1_34) rfl (pc' := 35) rfl ?_
 refine k_iconst X141 hx (hb hby d1_35) (pc' := 36) rfl (z := (4 : Int32)) rfl ?_
 refine k_lloadN X141 hx (hb hby d1_36) rfl (pc' := 37) rfl ?_
 refine k_ldcL X141 hx hZ hown (hw _ (List.mem_of_getElem? (i := 7) rfl)) (hb hby d1_37) (pc' := 40) rfl ?_
 refine k_lloadN X141 hx (hb hby d1_40) rfl (pc' := 41) rfl ?_
 refine k_lmul X141 hx (hb hby d1_41) (pc' := 42) rfl (fun v142 hv142 => ?_)
 refine k_ladd X141 hx (hb hby d1_42) (pc' := 43) rfl (fun v143 hv143 => ?_)
 refine k_lastore X141 hx hZ e141 Vw141 ⟨by decide, by decide⟩ (i := 4) rfl (Nat.le_of_ble_eq_true rfl) (hb hby d1_43) (pc' := 44) rfl (fun T144 h144 X144 e144 W144 V144 => ?_)
 have Vw144 : Arv Z h144 b132 k132 .long (9 : Int32) [(.long p1), (.long v134), (.long v137), (.long v140), (.long v143), (.long (0 : Int64)), (.long (0 : Int64)), (.long (0 : Int64)), (.long (0 : Int64))] (.long (0 : Int64)) := V144
 have N144 := Fr.snoc X144 N141 g_b132
 have Z144 : n0 ≤ h144.size := Nat.le_trans Z141 (Nat.le_of_eq W144.size.symm)
 refine k_dup X144 hx (hb hby d1_44) rfl (pc' := 45) rfl ?_
 refine k_iconst X144 hx (hb hby d1_45) (pc' := 46) rfl (z := (5 : Int32)) rfl ?_
 refine k_lloadN X144 hx (hb hby d1_46) rfl (pc' := 47) rfl ?_
 refine k_ldcL X144 hx hZ hown (hw _ (List.mem_of_getElem? (i := 8) rfl)) (hb hby d1_47) (pc' := 50) rfl ?_
 refine k_lloadN X144 hx (hb hby d1_50) rfl (pc' := 51) rfl ?_
 refine k_lmul X144 hx (hb hby d1_51) (pc' := 52) rfl (fun v145 hv145 => ?_)
 refine k_ladd X144 hx (hb hby d1_52) (pc' := 53) rfl (fun v146 hv146 => ?_)
 refine k_lastore X144 hx hZ e144 Vw144 ⟨by decide, by decide⟩ (i := 5) rfl (Nat.le_of_ble_eq_true rfl) (hb hby d1_53) (pc' := 54) rfl (fun T147 h147 X147 e147 W147 V147 => ?_)
 have Vw147 : Arv Z h147 b132 k132 .long (9 : Int32) [(.long p1), (.long v134), (.long v137), (.long v140), (.long v143), (.long v146), (.long (0 : Int64)), (.long (0 : Int64)), (.long (0 : Int64))] (.long (0 : Int64)) := V147
 have N147 := Fr.snoc X147 N144 g_b132
 have Z147 : n0 ≤ h147.size := Nat.le_trans Z144 (Nat.le_of_eq W147.size.symm)
 refine k_dup X147 hx (hb hby d1_54) rfl (pc' := 55) rfl ?_
 refine k_bipush X147 hx (hb hby d1_55) (pc' := 57) rfl (z := (6 : Int32)) rfl ?_
 refine k_lloadN X147 hx (hb hby d1_57) rfl (pc' := 58) rfl ?_
 refine k_ldcL X147 hx hZ hown (hw _ (List.mem_of_getElem? (i := 9) rfl)) (hb hby d1_58) (pc' := 61) rfl ?_
 refine k_lloadN X147 hx (hb hby d1_61) rfl (pc' := 62) rfl ?_
 refine k_lmul X147 hx (hb hby d1_62) (pc' := 63) rfl (fun v148 hv148 => ?_)
 refine k_ladd X147 hx (hb hby d1_63) (pc' := 64) rfl (fun v149 hv149 => ?_)
 refine k_lastore X147 hx hZ e147 Vw147 ⟨by decide, by decide⟩ (i := 6) rfl (Nat.le_of_ble_eq_true rfl) (hb hby d1_64) (pc' := 65) rfl (fun T150 h150 X150 e150 W150 V150 => ?_)
 have Vw150 : Arv Z h150 b132 k132 .long (9 : Int32) [(.long p1), (.long v134), (.long v137), (.long v140), (.long v143), (.long v146), (.long v149), (.long (0 : Int64)), (.long (0 : Int64))] (.long (0 : Int64)) := V150
 have N150 := Fr.snoc X150 N147 g_b132
 have Z150 : n0 ≤ h150.size := Nat.le_trans Z147 (Nat.le_of_eq W150.size.symm)
 refine k_dup X150 hx (hb hby d1_65) rfl (pc' := 66) rfl ?_
 refine k_bipush X150 hx (hb hby d1_66) (pc' := 68) rfl (z := (7 : Int32)) rfl ?_
 refine k_lloadN X150 hx (hb hby d1_68) rfl (pc' := 69) rfl ?_
 refine k_ldcL X150 hx hZ hown (hw _ (List.mem_of_getElem? (i := 10) rfl)) (hb hby d1_69) (pc' := 72) rfl ?_
 refine k_lloadN X150 hx (hb hby d1_72) rfl (pc' := 73) rfl ?_
 refine k_lmul X150 hx (hb hby d1_73) (pc' := 74) rfl (fun v151 hv151 => ?_)
 refine k_ladd X150 hx (hb hby d1_74) (pc' := 75) rfl (fun v152 hv152 => ?_)
 refine k_lastore X150 hx hZ e150 Vw150 ⟨by decide, by decide⟩ (i := 7) rfl (Nat.le_of_ble_eq_true rfl) (hb hby d1_75) (pc' := 76) rfl (fun T153 h153 X153 e153 W153 V153 => ?_)
 have Vw153 : Arv Z h153 b132 k132 .long (9 : Int32) [(.long p1), (.long v134), (.long v137), (.long v140), (.long v143), (.long v146), (.long v149), (.long v152), (.long (0 : Int64))] (.long (0 : Int64)) := V153
 have N153 := Fr.snoc X153 N150 g_b132
 have Z153 : n0 ≤ h153.size := Nat.le_trans Z150 (Nat.le_of_eq W153.size.symm)
 refine k_dup X153 hx (hb hby d1_76) rfl (pc' := 77) rfl ?_
 refine k_bipush X153 hx (hb hby d1_77) (pc' := 79) rfl (z := (8 : Int32)) rfl ?_
 refine k_lloadN X153 hx (hb hby d1_79) rfl (pc' := 80) rfl ?_
 refine k_ldcL X153 hx hZ hown (hw _ (List.mem_of_getElem? (i := 11) rfl)) (hb hby d1_80) (pc' := 83) rfl ?_
 refine k_lloadN X153 hx (hb hby d1_83) rfl (pc' := 84) rfl ?_
 refine k_lmul X153 hx (hb hby d1_84) (pc' := 85) rfl (fun v154 hv154 => ?_)
 refine k_ladd X153 hx (hb hby d1_85) (pc' := 86) rfl (fun v155 hv155 => ?_)
 refine k_lastore X153 hx hZ e153 Vw153 ⟨by decide, by decide⟩ (i := 8) rfl (Nat.le_of_ble_eq_true rfl) (hb hby d1_86) (pc' := 87) rfl (fun T156 h156 X156 e156 W156 V156 => ?_)
 have Vw156 : Arv Z h156 b132 k132 .long (9 : Int32) [(.long p1), (.long v134), (.long v137), (.long v140), (.long v143), (.long v146), (.long v149), (.long v152), (.long v155)] (.long (0 : Int64)) := V156
 have N156 := Fr.snoc X156 N153 g_b132
 have Z156 : n0 ≤ h156.size := Nat.le_trans Z153 (Nat.le_of_eq W156.size.symm)
 have F157 := ((((((((((F0_0.ext E132).other W133 (Nat.ne_of_lt (Nat.lt_trans lt0_0 lt_b132))).other W135 (Nat.ne_of_lt (Nat.lt_trans lt0_0 lt_b132))).other W138 (Nat.ne_of_lt (Nat.lt_trans lt0_0 lt_b132))).other W141 (Nat.ne_of_lt (Nat.lt_trans lt0_0 lt_b132))).other W144 (Nat.ne_of_lt (Nat.lt_trans lt0_0 lt_b132))).other W147 (Nat.ne_of_lt (Nat.lt_trans lt0_0 lt_b132))).other W150 (Nat.ne_of_lt (Nat.lt_trans lt0_0 lt_b132))).other W153 (Nat.ne_of_lt (Nat.lt_trans lt0_0 lt_b132))).other W156 (Nat.ne_of_lt (Nat.lt_trans lt0_0 lt_b132)))
 have F158 := ((((((((((F0_2.ext E132).other W133 (Nat.ne_of_lt lt_b132)).other W135 (Nat.ne_of_lt lt_b132)).other W138 (Nat.ne_of_lt lt_b132)).other W141 (Nat.ne_of_lt lt_b132)).other W144 (Nat.ne_of_lt lt_b132)).other W147 (Nat.ne_of_lt lt_b132)).other W150 (Nat.ne_of_lt lt_b132)).other W153 (Nat.ne_of_lt lt_b132)).other W156 (Nat.ne_of_lt lt_b132))
 exact k_retA X156 hx Bd.returns rfl rfl (hb hby d1_87) hlk (by decide) (by decide) (by rw [e156]; exact ⟨N156, ⟨v134, v136, v137, v139, v140, v142, v143, v145, v146, v148, v149, v151, v152, v154, v155, b132, k132, hv134, hv136, hv137, hv139, hv140, hv142, hv143, hv145, hv146, hv148, hv149, hv151, hv152, hv154, hv155, rfl, F157, F158, Vw156, g_b132, lt_b132, Z156⟩⟩)
abbrev R1_212 : Room := { frames := 0, cells := 1, slots := 9, locals := 0 }
def Q1_212 (Z : State) (p1 : Int64) (p2 : Int64) (a3 : Addr) (k4 : ClassId) (p5 : Int64) (p6 : Int64) (p7 : Int64) (p8 : Int64) (p9 : Int64) (p10 : Int64) (p11 : Int64) (p12 : Int64) (p13 : Int64) (a14 : Addr) (k15 : ClassId) (p16 : Int64) (p17 : Int64) (p18 : Int64) (p19 : Int64) (p20 : Int64) (p21 : Int64) (p22 : Int64) (p23 : Int64) (a24 : Addr) (k25 : ClassId) (h0 : Heap) (n0 : Nat) (v : Option Value) (h : Heap) (L : List Loc) : Prop := Fr n0 L ∧ ((∃ (v215 : Int64) (v217 : Int64) (v218 : Int64) (v220 : Int64) (v221 : Int64) (v223 : Int64) (v224 : Int64) (v226 : Int64) (v227 : Int64) (v229 : Int64) (v230 : Int64) (v232 : Int64) (v233 : Int64) (v235 : Int64) (v236 : Int64) (b213 : Addr) (k213 : ClassId), v215 = p1 + p2 ∧ v217 = (2 : Int64) * p2 ∧ v218 = p1 + v217 ∧ v220 = (3 : Int64) * p2 ∧ v221 = p1 + v220 ∧ v223 = (4 : Int64) * p2 ∧ v224 = p1 + v223 ∧ v226 = (5 : Int64) * p2 ∧ v227 = p1 + v226 ∧ v229 = (6 : Int64) * p2 ∧ v230 = p1 + v229 ∧ v232 = (7 : Int64) * p2 ∧ v233 = p1 + v232 ∧ v235 = (8 : Int64) * p2 ∧ v236 = p1 + v235 ∧ v = some (.ref b213) ∧ Arv Z h a3 k4 .long (9 : Int32) [(.long p5), (.long p6), (.long p7), (.long p8), (.long p9), (.long p10), (.long p11), (.long p12), (.long p13)] (.long (0 : Int64)) ∧ Arv Z h a14 k15 .long (9 : Int32) [(.long p1), (.long p16), (.long p17), (.long p18), (.long p19), (.long p20), (.long p21), (.long p22), (.long p23)] (.long (0 : Int64)) ∧ Arv Z h a24 k25 .long (9 : Int32) [(.long p5), (.long p6), (.long p7), (.long p8), (.long p9), (.long p10), (.long p11), (.long p12), (.long p13)] (.long (0 : Int64)) ∧ Arv Z h b213 k213 .long (9 : Int32) [(.long p1), (.long v215), (.long v218), (.long v221), (.long v224), (.long v227), (.long v230), (.long v233), (.long v236)] (.long (0 : Int64)) ∧ n0 ≤ b213 ∧ a24 < b213 ∧ n0 ≤ h.size))
theorem ef1_212 (m : MethodId) (x0 : Int64) (x1 : Int64) : entryFrame m #[(.long x0), (.long x1)] 4 = mkF m 0 #[.val (.long x0), .second, .val (.long x1), .second] [] := by first | (simp [entryFrame, mkF, argsToLocals, Value.category]; done) | rfl
set_option maxRecDepth 65536 in
set_option maxHeartbeats 40000000 in
theorem rm1_212 (l : Launch) (Z : State) (a0 : Array Value) (hw : ∀ d ∈ tables_1, d.before a0 Z = true) (ws : List Jvm.Cond) (p1 : Int64) (p2 : Int64) (a3 : Addr) (k4 : ClassId) (p5 : Int64) (p6 : Int64) (p7 : Int64) (p8 : Int64) (p9 : Int64) (p10 : Int64) (p11 : Int64) (p12 : Int64) (p13 : Int64) (a14 : Addr) (k15 : ClassId) (p16 : Int64) (p17 : Int64) (p18 : Int64) (p19 : Int64) (p20 : Int64) (p21 : Int64) (p22 : Int64) (p23 : Int64) (a24 : Addr) (k25 : ClassId) (h0 : Heap) (n0 : Nat) (Z0 : n0 ≤ h0.size) (F0_0 : Arv Z h0 a3 k4 .long (9 : Int32) [(.long p5), (.long p6), (.long p7), (.long p8), (.long p9), (.long p10), (.long p11), (.long p12), (.long p13)] (.long (0 : Int64))) (g_a3 : n0 ≤ a3) (F0_2 : Arv Z h0 a14 k15 .long (9 : Int32) [(.long p1), (.long p16), (.long p17), (.long p18), (.long p19), (.long p20), (.long p21), (.long p22), (.long p23)] (.long (0 : Int64))) (g_a14 : n0 ≤ a14) (F0_4 : Arv Z h0 a24 k25 .long (9 : Int32) [(.long p5), (.long p6), (.long p7), (.long p8), (.long p9), (.long p10), (.long p11), (.long p12), (.long p13)] (.long (0 : Int64))) (g_a24 : n0 ≤ a24) (lt0_0 : a3 < a14) (lt0_1 : a14 < a24) :
    MetFree l (⟨"com/example/portcullis/portcullis/protocol/FieldSelectPinLaw", "limbs", "(JJ)[J"⟩ : MethodName) (head1 (Jvm.Cond.code (⟨"com/example/portcullis/portcullis/protocol/FieldSelectPinLaw", "limbs", "(JJ)[J"⟩ : MethodName) method_3_code 4 (some (.array .long)) :: ws) R1_212) (fun a U => a = #[(.long p1), (.long p2)] ∧ Z.Warmed39 U.vm ∧ U.heap = h0) (fun _ _ _ _ _ => True) (fun _ U o U' => ∃ v L, o = .returned v ∧ Q1_212 Z p1 p2 a3 k4 p5 p6 p7 p8 p9 p10 p11 p12 p13 a14 k15 p16 p17 p18 p19 p20 p21 p22 p23 a24 k25 h0 n0 v U'.heap L ∧ FrameEnd U o U' L R1_212.cells R1_212.slots) := by
 refine MetFree.of_bodySF (plainFor_of_name pn_0) hisR ?_
 intro p e s m args below meth c s₁ Bd hml0 hP hK
 obtain ⟨rfl, hZ, hh⟩ := hP
 have hx := Bd.exec
 have hby := Bd.bytes
 have hml : c.maxLocals = 4 := hml0
 have hlk : meth.locks = false := Bd.notSynchronized
 have hown : s.vm.findClass "com/example/portcullis/portcullis/protocol/FieldSelectPinLaw" = some m.cls := findClass_of_methodNamed Bd.named
 have hnm := (name_of_methodNamed Bd.named Bd.method).1
 have X0 : Stand p l e R1_212 s m #[(.long p1), (.long p2)] below meth c s₁ [] 0 0 := Stand.of_body Bd
 have e0 : s₁.heap = h0 := by rw [← hh, Bd.state]; rfl
 have N0 := Fr.nil n0
 rw [ef1_212 m p1 p2]
 show KEnds p e below s R1_212.cells R1_212.slots (Q1_212 Z p1 p2 a3 k4 p5 p6 p7 p8 p9 p10 p11 p12 p13 a14 k15 p16 p17 p18 p19 p20 p21 p22 p23 a24 k25 h0 n0) s₁ (mkF m 0 #[.val (.long p1), .second, .val (.long p2), .second] [])
 refine k_bipush X0 hx (hb hby d1_0) (pc' := 2) rfl (z := (9 : Int32)) rfl ?_
 refine k_newA X0 hx hZ (hw _ (List.mem_of_getElem? (i := 4) rfl)) e0 (hb hby d1_2) (by decide) (cap := 9) (by decide) (by decide) (by decide) (by decide) (pc' := 4) rfl (fun T213 h213 b213 k213 g213 X213 e213 E213 V213 => ?_)
 have g_b213 : n0 ≤ b213 := Nat.le_trans Z0 (Nat.le_of_eq g213.symm)
 have lt_b213 : a24 < b213 := Nat.lt_of_lt_of_le F0_4.lt (Nat.le_of_eq g213.symm)
 have Z213 : n0 ≤ h213.size := Nat.le_trans Z0 E213.1
 have Vw213 : Arv Z h213 b213 k213 .long (9 : Int32) [(.long (0 : Int64)), (.long (0 : Int64)), (.long (0 : Int64)), (.long (0 : Int64)), (.long (0 : Int64)), (.long (0 : Int64)), (.long (0 : Int64)), (.long (0 : Int64)), (.long (0 : Int64))] (.long (0 : Int64)) := V213
 refine k_dup X213 hx (hb hby d1_4) rfl (pc' := 5) rfl ?_
 refine k_iconst X213 hx (hb hby d1_5) (pc' := 6) rfl (z := (0 : Int32)) rfl ?_
 refine k_lloadN X213 hx (hb hby d1_6) rfl (pc' := 7) rfl ?_
 refine k_lastore X213 hx hZ e213 Vw213 ⟨by decide, by decide⟩ (i := 0) rfl (Nat.le_of_ble_eq_true rfl) (hb hby d1_7) (pc' := 8) rfl (fun T214 h214 X214 e214 W214 V214 => ?_)
 have Vw214 : Arv Z h214 b213 k213 .long (9 : Int32) [(.long p1), (.long (0 : Int64)), (.long (0 : Int64)), (.long (0 : Int64)), (.long (0 : Int64)), (.long (0 : Int64)), (.long (0 : Int64)), (.long (0 : Int64)), (.long (0 : Int64))] (.long (0 : Int64)) := V214
 have N214 := Fr.snoc X214 N0 g_b213
 have Z214 : n0 ≤ h214.size := Nat.le_trans Z213 (Nat.le_of_eq W214.size.symm)
 refine k_dup X214 hx (hb hby d1_8) rfl (pc' := 9) rfl ?_
 refine k_iconst X214 hx (hb hby d1_9) (pc' := 10) rfl (z := (1 : Int32)) rfl ?_
 refine k_lloadN X214 hx (hb hby d1_10) rfl (pc' := 11) rfl ?_
 refine k_lloadN X214 hx (hb hby d1_11) rfl (pc' := 12) rfl ?_
 refine k_ladd X214 hx (hb hby d1_12) (pc' := 13) rfl (fun v215 hv215 => ?_)
 refine k_lastore X214 hx hZ e214 Vw214 ⟨by decide, by decide⟩ (i := 1) rfl (Nat.le_of_ble_eq_true rfl) (hb hby d1_13) (pc' := 14) rfl (fun T216 h216 X216 e216 W216 V216 => ?_)
 have Vw216 : Arv Z h216 b213 k213 .long (9 : Int32) [(.long p1), (.long v215), (.long (0 : Int64)), (.long (0 : Int64)), (.long (0 : Int64)), (.long (0 : Int64)), (.long (0 : Int64)), (.long (0 : Int64)), (.long (0 : Int64))] (.long (0 : Int64)) := V216
 have N216 := Fr.snoc X216 N214 g_b213
 have Z216 : n0 ≤ h216.size := Nat.le_trans Z214 (Nat.le_of_eq W216.size.symm)
 refine k_dup X216 hx (hb hby d1_14) rfl (pc' := 15) rfl ?_
 refine k_iconst X216 hx (hb hby d1_15) (pc' := 16) rfl (z := (2 : Int32)) rfl ?_
 refine k_lloadN X216 hx (hb hby d1_16) rfl (pc' := 17) rfl ?_
 refine k_ldcL X216 hx hZ hown (hw _ (List.mem_of_getElem? (i := 5) rfl)) (hb hby d1_17) (pc' := 20) rfl ?_
 refine k_lloadN X216 hx (hb hby d1_20) rfl (pc' := 21) rfl ?_
 refine k_lmul X216 hx (hb hby d1_21) (pc' := 22) rfl (fun v217 hv217 => ?_)
 refine k_ladd X216 hx (hb hby d1_22) (pc' := 23) rfl (fun v218 hv218 => ?_)
 refine k_lastore X216 hx hZ e216 Vw216 ⟨by decide, by decide⟩ (i := 2) rfl (Nat.le_of_ble_eq_true rfl) (hb hby d1_23) (pc' := 24) rfl (fun T219 h219 X219 e219 W219 V219 => ?_)
 have Vw219 : Arv Z h219 b213 k213 .long (9 : Int32) [(.long p1), (.long v215), (.long v218), (.long (0 : Int64)), (.long (0 : Int64)), (.long (0 : Int64)), (.long (0 : Int64)), (.long (0 : Int64)), (.long (0 : Int64))] (.long (0 : Int64)) := V219
 have N219 := Fr.snoc X219 N216 g_b213
 have Z219 : n0 ≤ h219.size := Nat.le_trans Z216 (Nat.le_of_eq W219.size.symm)
 refine k_dup X219 hx (hb hby d1_24) rfl (pc' := 25) rfl ?_
 refine k_iconst X219 hx (hb hby d1_25) (pc' := 26) rfl (z := (3 : Int32)) rfl ?_
 refine k_lloadN X219 hx (hb hby d1_26) rfl (pc' := 27) rfl ?_
 refine k_ldcL X219 hx hZ hown (hw _ (List.mem_of_getElem? (i := 6) rfl)) (hb hby d1_27) (pc' := 30) rfl ?_
 refine k_lloadN X219 hx (hb hby d1_30) rfl (pc' := 31) rfl ?_
 refine k_lmul X219 hx (hb hby d1_31) (pc' := 32) rfl (fun v220 hv220 => ?_)
 refine k_ladd X219 hx (hb hby d1_32) (pc' := 33) rfl (fun v221 hv221 => ?_)
 refine k_lastore X219 hx hZ e219 Vw219 ⟨by decide, by decide⟩ (i := 3) rfl (Nat.le_of_ble_eq_true rfl) (hb hby d1_33) (pc' := 34) rfl (fun T222 h222 X222 e222 W222 V222 => ?_)
 have Vw222 : Arv Z h222 b213 k213 .long (9 : Int32) [(.long p1), (.long v215), (.long v218), (.long v221), (.long (0 : Int64)), (.long (0 : Int64)), (.long (0 : Int64)), (.long (0 : Int64)), (.long (0 : Int64))] (.long (0 : Int64)) := V222
 have N222 := Fr.snoc X222 N219 g_b213
 have Z222 : n0 ≤ h222.size := Nat.le_trans Z219 (Nat.le_of_eq W222.size.symm)
 refine k_dup X222 hx (hb hby d1_34) rfl (pc' := 35) rfl ?_
 refine k_iconst X222 hx (hb hby d1_35) (pc' := 36) rfl (z := (4 : Int32)) rfl ?_
 refine k_lloadN X222 hx (hb hby d1_36) rfl (pc' := 37) rfl ?_
 refine k_ldcL X222 hx hZ hown (hw _ (List.mem_of_getElem? (i := 7) rfl)) (hb hby d1_37) (pc' := 40) rfl ?_
 refine k_lloadN X222 hx (hb hby d1_40) rfl (pc' := 41) rfl ?_
 refine k_lmul X222 hx (hb hby d1_41) (pc' := 42) rfl (fun v223 hv223 => ?_)
 refine k_ladd X222 hx (hb hby d1_42) (pc' := 43) rfl (fun v224 hv224 => ?_)
 refine k_lastore X222 hx hZ e222 Vw222 ⟨by decide, by decide⟩ (i := 4) rfl (Nat.le_of_ble_eq_true rfl) (hb hby d1_43) (pc' := 44) rfl (fun T225 h225 X225 e225 W225 V225 => ?_)
 have Vw225 : Arv Z h225 b213 k213 .long (9 : Int32) [(.long p1), (.long v215), (.long v218), (.long v221), (.long v224), (.long (0 : Int64)), (.long (0 : Int64)), (.long (0 : Int64)), (.long (0 : Int64))] (.long (0 : Int64)) := V225
 have N225 := Fr.snoc X225 N222 g_b213
 have Z225 : n0 ≤ h225.size := Nat.le_trans Z222 (Nat.le_of_eq W225.size.symm)
 refine k_dup X225 hx (hb hby d1_44) rfl (pc' := 45) rfl ?_
 refine k_iconst X225 hx (hb hby d1_45) (pc' := 46) rfl (z := (5 : Int32)) rfl ?_
 refine k_lloadN X225 hx (hb hby d1_46) rfl (pc' := 47) rfl ?_
 refine k_ldcL X225 hx hZ hown (hw _ (List.mem_of_getElem? (i := 8) rfl)) (hb hby d1_47) (pc' := 50) rfl ?_
 refine k_lloadN X225 hx (hb hby d1_50) rfl (pc' := 51) rfl ?_
 refine k_lmul X225 hx (hb hby d1_51) (pc' := 52) rfl (fun v226 hv226 => ?_)
 refine k_ladd X225 hx (hb hby d1_52) (pc' := 53) rfl (fun v227 hv227 => ?_)
 refine k_lastore X225 hx hZ e225 Vw225 ⟨by decide, by decide⟩ (i := 5) rfl (Nat.le_of_ble_eq_true rfl) (hb hby d1_53) (pc' := 54) rfl (fun T228 h228 X228 e228 W228 V228 => ?_)
 have Vw228 : Arv Z h228 b213 k213 .long (9 : Int32) [(.long p1), (.long v215), (.long v218), (.long v221), (.long v224), (.long v227), (.long (0 : Int64)), (.long (0 : Int64)), (.long (0 : Int64))] (.long (0 : Int64)) := V228
 have N228 := Fr.snoc X228 N225 g_b213
 have Z228 : n0 ≤ h228.size := Nat.le_trans Z225 (Nat.le_of_eq W228.size.symm)
 refine k_dup X228 hx (hb hby d1_54) rfl (pc' := 55) rfl ?_
 refine k_bipush X228 hx (hb hby d1_55) (pc' := 57) rfl (z := (6 : Int32)) rfl ?_
 refine k_lloadN X228 hx (hb hby d1_57) rfl (pc' := 58) rfl ?_
 refine k_ldcL X228 hx hZ hown (hw _ (List.mem_of_getElem? (i := 9) rfl)) (hb hby d1_58) (pc' := 61) rfl ?_
 refine k_lloadN X228 hx (hb hby d1_61) rfl (pc' := 62) rfl ?_
 refine k_lmul X228 hx (hb hby d1_62) (pc' := 63) rfl (fun v229 hv229 => ?_)
 refine k_ladd X228 hx (hb hby d1_63) (pc' := 64) rfl (fun v230 hv230 => ?_)
 refine k_lastore X228 hx hZ e228 Vw228 ⟨by decide, by decide⟩ (i := 6) rfl (Nat.le_of_ble_eq_true rfl) (hb hby d1_64) (pc' := 65) rfl (fun T231 h231 X231 e231 W231 V231 => ?_)
 have Vw231 : Arv Z h231 b213 k213 .long (9 : Int32) [(.long p1), (.long v215), (.long v218), (.long v221), (.long v224), (.long v227), (.long v230), (.long (0 : Int64)), (.long (0 : Int64))] (.long (0 : Int64)) := V231
 have N231 := Fr.snoc X231 N228 g_b213
 have Z231 : n0 ≤ h231.size := Nat.le_trans Z228 (Nat.le_of_eq W231.size.symm)
 refine k_dup X231 hx (hb hby d1_65) rfl (pc' := 66) rfl ?_
 refine k_bipush X231 hx (hb hby d1_66) (pc' := 68) rfl (z := (7 : Int32)) rfl ?_
 refine k_lloadN X231 hx (hb hby d1_68) rfl (pc' := 69) rfl ?_
 refine k_ldcL X231 hx hZ hown (hw _ (List.mem_of_getElem? (i := 10) rfl)) (hb hby d1_69) (pc' := 72) rfl ?_
 refine k_lloadN X231 hx (hb hby d1_72) rfl (pc' := 73) rfl ?_
 refine k_lmul X231 hx (hb hby d1_73) (pc' := 74) rfl (fun v232 hv232 => ?_)
 refine k_ladd X231 hx (hb hby d1_74) (pc' := 75) rfl (fun v233 hv233 => ?_)
 refine k_lastore X231 hx hZ e231 Vw231 ⟨by decide, by decide⟩ (i := 7) rfl (Nat.le_of_ble_eq_true rfl) (hb hby d1_75) (pc' := 76) rfl (fun T234 h234 X234 e234 W234 V234 => ?_)
 have Vw234 : Arv Z h234 b213 k213 .long (9 : Int32) [(.long p1), (.long v215), (.long v218), (.long v221), (.long v224), (.long v227), (.long v230), (.long v233), (.long (0 : Int64))] (.long (0 : Int64)) := V234
 have N234 := Fr.snoc X234 N231 g_b213
 have Z234 : n0 ≤ h234.size := Nat.le_trans Z231 (Nat.le_of_eq W234.size.symm)
 refine k_dup X234 hx (hb hby d1_76) rfl (pc' := 77) rfl ?_
 refine k_bipush X234 hx (hb hby d1_77) (pc' := 79) rfl (z := (8 : Int32)) rfl ?_
 refine k_lloadN X234 hx (hb hby d1_79) rfl (pc' := 80) rfl ?_
 refine k_ldcL X234 hx hZ hown (hw _ (List.mem_of_getElem? (i := 11) rfl)) (hb hby d1_80) (pc' := 83) rfl ?_
 refine k_lloadN X234 hx (hb hby d1_83) rfl (pc' := 84) rfl ?_
 refine k_lmul X234 hx (hb hby d1_84) (pc' := 85) rfl (fun v235 hv235 => ?_)
 refine k_ladd X234 hx (hb hby d1_85) (pc' := 86) rfl (fun v236 hv236 => ?_)
 refine k_lastore X234 hx hZ e234 Vw234 ⟨by decide, by decide⟩ (i := 8) rfl (Nat.le_of_ble_eq_true rfl) (hb hby d1_86) (pc' := 87) rfl (fun T237 h237 X237 e237 W237 V237 => ?_)
 have Vw237 : Arv Z h237 b213 k213 .long (9 : Int32) [(.long p1), (.long v215), (.long v218), (.long v221), (.long v224), (.long v227), (.long v230), (.long v233), (.long v236)] (.long (0 : Int64)) := V237
 have N237 := Fr.snoc X237 N234 g_b213
 have Z237 : n0 ≤ h237.size := Nat.le_trans Z234 (Nat.le_of_eq W237.size.symm)
 have F238 := ((((((((((F0_0.ext E213).other W214 (Nat.ne_of_lt (Nat.lt_trans (Nat.lt_trans lt0_0 lt0_1) lt_b213))).other W216 (Nat.ne_of_lt (Nat.lt_trans (Nat.lt_trans lt0_0 lt0_1) lt_b213))).other W219 (Nat.ne_of_lt (Nat.lt_trans (Nat.lt_trans lt0_0 lt0_1) lt_b213))).other W222 (Nat.ne_of_lt (Nat.lt_trans (Nat.lt_trans lt0_0 lt0_1) lt_b213))).other W225 (Nat.ne_of_lt (Nat.lt_trans (Nat.lt_trans lt0_0 lt0_1) lt_b213))).other W228 (Nat.ne_of_lt (Nat.lt_trans (Nat.lt_trans lt0_0 lt0_1) lt_b213))).other W231 (Nat.ne_of_lt (Nat.lt_trans (Nat.lt_trans lt0_0 lt0_1) lt_b213))).other W234 (Nat.ne_of_lt (Nat.lt_trans (Nat.lt_trans lt0_0 lt0_1) lt_b213))).other W237 (Nat.ne_of_lt (Nat.lt_trans (Nat.lt_trans lt0_0 lt0_1) lt_b213)))
 have F239 := ((((((((((F0_2.ext E213).other W214 (Nat.ne_of_lt (Nat.lt_trans lt0_1 lt_b213))).other W216 (Nat.ne_of_lt (Nat.lt_trans lt0_1 lt_b213))).other W219 (Nat.ne_of_lt (Nat.lt_trans lt0_1 lt_b213))).other W222 (Nat.ne_of_lt (Nat.lt_trans lt0_1 lt_b213))).other W225 (Nat.ne_of_lt (Nat.lt_trans lt0_1 lt_b213))).other W228 (Nat.ne_of_lt (Nat.lt_trans lt0_1 lt_b213))).other W231 (Nat.ne_of_lt (Nat.lt_trans lt0_1 lt_b213))).other W234 (Nat.ne_of_lt (Nat.lt_trans lt0_1 lt_b213))).other W237 (Nat.ne_of_lt (Nat.lt_trans lt0_1 lt_b213)))
 have F240 := ((((((((((F0_4.ext E213).other W214 (Nat.ne_of_lt lt_b213)).other W216 (Nat.ne_of_lt lt_b213)).other W219 (Nat.ne_of_lt lt_b213)).other W222 (Nat.ne_of_lt lt_b213)).other W225 (Nat.ne_of_lt lt_b213)).other W228 (Nat.ne_of_lt lt_b213)).other W231 (Nat.ne_of_lt lt_b213)).other W234 (Nat.ne_of_lt lt_b213)).other W237 (Nat.ne_of_lt lt_b213))
 exact k_retA X237 hx Bd.returns rfl rfl (hb hby d1_87) hlk (by decide) (by decide) (by rw [e237]; exact ⟨N237, ⟨v215, v217, v218, v220, v221, v223, v224, v226, v227, v229, v230, v232, v233, v235, v236, b213, k213, hv215, hv217, hv218, hv220, hv221, hv223, hv224, hv226, hv227, hv229, hv230, hv232, hv233, hv235, hv236, rfl, F238, F239, F240, Vw237, g_b213, lt_b213, Z237⟩⟩)
abbrev R1_296 : Room := { frames := 0, cells := 1, slots := 9, locals := 0 }
def Q1_296 (Z : State) (p1 : Int64) (p2 : Int64) (a3 : Addr) (k4 : ClassId) (p5 : Int64) (p6 : Int64) (p7 : Int64) (p8 : Int64) (p9 : Int64) (p10 : Int64) (p11 : Int64) (p12 : Int64) (p13 : Int64) (a14 : Addr) (k15 : ClassId) (p16 : Int64) (p17 : Int64) (p18 : Int64) (p19 : Int64) (p20 : Int64) (p21 : Int64) (p22 : Int64) (p23 : Int64) (p24 : Int64) (a25 : Addr) (k26 : ClassId) (a27 : Addr) (k28 : ClassId) (h0 : Heap) (n0 : Nat) (v : Option Value) (h : Heap) (L : List Loc) : Prop := Fr n0 L ∧ ((∃ (v299 : Int64) (v301 : Int64) (v302 : Int64) (v304 : Int64) (v305 : Int64) (v307 : Int64) (v308 : Int64) (v310 : Int64) (v311 : Int64) (v313 : Int64) (v314 : Int64) (v316 : Int64) (v317 : Int64) (v319 : Int64) (v320 : Int64) (b297 : Addr) (k297 : ClassId), v299 = p1 + p2 ∧ v301 = (2 : Int64) * p2 ∧ v302 = p1 + v301 ∧ v304 = (3 : Int64) * p2 ∧ v305 = p1 + v304 ∧ v307 = (4 : Int64) * p2 ∧ v308 = p1 + v307 ∧ v310 = (5 : Int64) * p2 ∧ v311 = p1 + v310 ∧ v313 = (6 : Int64) * p2 ∧ v314 = p1 + v313 ∧ v316 = (7 : Int64) * p2 ∧ v317 = p1 + v316 ∧ v319 = (8 : Int64) * p2 ∧ v320 = p1 + v319 ∧ v = some (.ref b297) ∧ Arv Z h a3 k4 .long (9 : Int32) [(.long p5), (.long p6), (.long p7), (.long p8), (.long p9), (.long p10), (.long p11), (.long p12), (.long p13)] (.long (0 : Int64)) ∧ Arv Z h a14 k15 .long (9 : Int32) [(.long p16), (.long p17), (.long p18), (.long p19), (.long p20), (.long p21), (.long p22), (.long p23), (.long p24)] (.long (0 : Int64)) ∧ Arv Z h a25 k26 .long (9 : Int32) [(.long p5), (.long p6), (.long p7), (.long p8), (.long p9), (.long p10), (.long p11), (.long p12), (.long p13)] (.long (0 : Int64)) ∧ Arv Z h a27 k28 .long (9 : Int32) [(.long p16), (.long p17), (.long p18), (.long p19), (.long p20), (.long p21), (.long p22), (.long p23), (.long p24)] (.long (0 : Int64)) ∧ Arv Z h b297 k297 .long (9 : Int32) [(.long p1), (.long v299), (.long v302), (.long v305), (.long v308), (.long v311), (.long v314), (.long v317), (.long v320)] (.long (0 : Int64)) ∧ n0 ≤ b297 ∧ a27 < b297 ∧ n0 ≤ h.size))
theorem ef1_296 (m : MethodId) (x0 : Int64) (x1 : Int64) : entryFrame m #[(.long x0), (.long x1)] 4 = mkF m 0 #[.val (.long x0), .second, .val (.long x1), .second] [] := by first | (simp [entryFrame, mkF, argsToLocals, Value.category]; done) | rfl
set_option maxRecDepth 65536 in
set_option maxHeartbeats 40000000 in
theorem rm1_296 (l : Launch) (Z : State) (a0 : Array Value) (hw : ∀ d ∈ tables_1, d.before a0 Z = true) (ws : List Jvm.Cond) (p1 : Int64) (p2 : Int64) (a3 : Addr) (k4 : ClassId) (p5 : Int64) (p6 : Int64) (p7 : Int64) (p8 : Int64) (p9 : Int64) (p10 : Int64) (p11 : Int64) (p12 : Int64) (p13 : Int64) (a14 : Addr) (k15 : ClassId) (p16 : Int64) (p17 : Int64) (p18 : Int64) (p19 : Int64) (p20 : Int64) (p21 : Int64) (p22 : Int64) (p23 : Int64) (p24 : Int64) (a25 : Addr) (k26 : ClassId) (a27 : Addr) (k28 : ClassId) (h0 : Heap) (n0 : Nat) (Z0 : n0 ≤ h0.size) (F0_0 : Arv Z h0 a3 k4 .long (9 : Int32) [(.long p5), (.long p6), (.long p7), (.long p8), (.long p9), (.long p10), (.long p11), (.long p12), (.long p13)] (.long (0 : Int64))) (g_a3 : n0 ≤ a3) (F0_2 : Arv Z h0 a14 k15 .long (9 : Int32) [(.long p16), (.long p17), (.long p18), (.long p19), (.long p20), (.long p21), (.long p22), (.long p23), (.long p24)] (.long (0 : Int64))) (g_a14 : n0 ≤ a14) (F0_4 : Arv Z h0 a25 k26 .long (9 : Int32) [(.long p5), (.long p6), (.long p7), (.long p8), (.long p9), (.long p10), (.long p11), (.long p12), (.long p13)] (.long (0 : Int64))) (g_a25 : n0 ≤ a25) (F0_6 : Arv Z h0 a27 k28 .long (9 : Int32) [(.long p16), (.long p17), (.long p18), (.long p19), (.long p20), (.long p21), (.long p22), (.long p23), (.long p24)] (.long (0 : Int64))) (g_a27 : n0 ≤ a27) (lt0_0 : a3 < a14) (lt0_1 : a14 < a25) (lt0_2 : a25 < a27) :
    MetFree l (⟨"com/example/portcullis/portcullis/protocol/FieldSelectPinLaw", "limbs", "(JJ)[J"⟩ : MethodName) (head1 (Jvm.Cond.code (⟨"com/example/portcullis/portcullis/protocol/FieldSelectPinLaw", "limbs", "(JJ)[J"⟩ : MethodName) method_3_code 4 (some (.array .long)) :: ws) R1_296) (fun a U => a = #[(.long p1), (.long p2)] ∧ Z.Warmed39 U.vm ∧ U.heap = h0) (fun _ _ _ _ _ => True) (fun _ U o U' => ∃ v L, o = .returned v ∧ Q1_296 Z p1 p2 a3 k4 p5 p6 p7 p8 p9 p10 p11 p12 p13 a14 k15 p16 p17 p18 p19 p20 p21 p22 p23 p24 a25 k26 a27 k28 h0 n0 v U'.heap L ∧ FrameEnd U o U' L R1_296.cells R1_296.slots) := by
 refine MetFree.of_bodySF (plainFor_of_name pn_0) hisR ?_
 intro p e s m args below meth c s₁ Bd hml0 hP hK
 obtain ⟨rfl, hZ, hh⟩ := hP
 have hx := Bd.exec
 have hby := Bd.bytes
 have hml : c.maxLocals = 4 := hml0
 have hlk : meth.locks = false := Bd.notSynchronized
 have hown : s.vm.findClass "com/example/portcullis/portcullis/protocol/FieldSelectPinLaw" = some m.cls := findClass_of_methodNamed Bd.named
 have hnm := (name_of_methodNamed Bd.named Bd.method).1
 have X0 : Stand p l e R1_296 s m #[(.long p1), (.long p2)] below meth c s₁ [] 0 0 := Stand.of_body Bd
 have e0 : s₁.heap = h0 := by rw [← hh, Bd.state]; rfl
 have N0 := Fr.nil n0
 rw [ef1_296 m p1 p2]
 show KEnds p e below s R1_296.cells R1_296.slots (Q1_296 Z p1 p2 a3 k4 p5 p6 p7 p8 p9 p10 p11 p12 p13 a14 k15 p16 p17 p18 p19 p20 p21 p22 p23 p24 a25 k26 a27 k28 h0 n0) s₁ (mkF m 0 #[.val (.long p1), .second, .val (.long p2), .second] [])
 refine k_bipush X0 hx (hb hby d1_0) (pc' := 2) rfl (z := (9 : Int32)) rfl ?_
 refine k_newA X0 hx hZ (hw _ (List.mem_of_getElem? (i := 4) rfl)) e0 (hb hby d1_2) (by decide) (cap := 9) (by decide) (by decide) (by decide) (by decide) (pc' := 4) rfl (fun T297 h297 b297 k297 g297 X297 e297 E297 V297 => ?_)
 have g_b297 : n0 ≤ b297 := Nat.le_trans Z0 (Nat.le_of_eq g297.symm)
 have lt_b297 : a27 < b297 := Nat.lt_of_lt_of_le F0_6.lt (Nat.le_of_eq g297.symm)
 have Z297 : n0 ≤ h297.size := Nat.le_trans Z0 E297.1
 have Vw297 : Arv Z h297 b297 k297 .long (9 : Int32) [(.long (0 : Int64)), (.long (0 : Int64)), (.long (0 : Int64)), (.long (0 : Int64)), (.long (0 : Int64)), (.long (0 : Int64)), (.long (0 : Int64)), (.long (0 : Int64)), (.long (0 : Int64))] (.long (0 : Int64)) := V297
 refine k_dup X297 hx (hb hby d1_4) rfl (pc' := 5) rfl ?_
 refine k_iconst X297 hx (hb hby d1_5) (pc' := 6) rfl (z := (0 : Int32)) rfl ?_
 refine k_lloadN X297 hx (hb hby d1_6) rfl (pc' := 7) rfl ?_
 refine k_lastore X297 hx hZ e297 Vw297 ⟨by decide, by decide⟩ (i := 0) rfl (Nat.le_of_ble_eq_true rfl) (hb hby d1_7) (pc' := 8) rfl (fun T298 h298 X298 e298 W298 V298 => ?_)
 have Vw298 : Arv Z h298 b297 k297 .long (9 : Int32) [(.long p1), (.long (0 : Int64)), (.long (0 : Int64)), (.long (0 : Int64)), (.long (0 : Int64)), (.long (0 : Int64)), (.long (0 : Int64)), (.long (0 : Int64)), (.long (0 : Int64))] (.long (0 : Int64)) := V298
 have N298 := Fr.snoc X298 N0 g_b297
 have Z298 : n0 ≤ h298.size := Nat.le_trans Z297 (Nat.le_of_eq W298.size.symm)
 refine k_dup X298 hx (hb hby d1_8) rfl (pc' := 9) rfl ?_
 refine k_iconst X298 hx (hb hby d1_9) (pc' := 10) rfl (z := (1 : Int32)) rfl ?_
 refine k_lloadN X298 hx (hb hby d1_10) rfl (pc' := 11) rfl ?_
 refine k_lloadN X298 hx (hb hby d1_11) rfl (pc' := 12) rfl ?_
 refine k_ladd X298 hx (hb hby d1_12) (pc' := 13) rfl (fun v299 hv299 => ?_)
 refine k_lastore X298 hx hZ e298 Vw298 ⟨by decide, by decide⟩ (i := 1) rfl (Nat.le_of_ble_eq_true rfl) (hb hby d1_13) (pc' := 14) rfl (fun T300 h300 X300 e300 W300 V300 => ?_)
 have Vw300 : Arv Z h300 b297 k297 .long (9 : Int32) [(.long p1), (.long v299), (.long (0 : Int64)), (.long (0 : Int64)), (.long (0 : Int64)), (.long (0 : Int64)), (.long (0 : Int64)), (.long (0 : Int64)), (.long (0 : Int64))] (.long (0 : Int64)) := V300
 have N300 := Fr.snoc X300 N298 g_b297
 have Z300 : n0 ≤ h300.size := Nat.le_trans Z298 (Nat.le_of_eq W300.size.symm)
 refine k_dup X300 hx (hb hby d1_14) rfl (pc' := 15) rfl ?_
 refine k_iconst X300 hx (hb hby d1_15) (pc' := 16) rfl (z := (2 : Int32)) rfl ?_
 refine k_lloadN X300 hx (hb hby d1_16) rfl (pc' := 17) rfl ?_
 refine k_ldcL X300 hx hZ hown (hw _ (List.mem_of_getElem? (i := 5) rfl)) (hb hby d1_17) (pc' := 20) rfl ?_
 refine k_lloadN X300 hx (hb hby d1_20) rfl (pc' := 21) rfl ?_
 refine k_lmul X300 hx (hb hby d1_21) (pc' := 22) rfl (fun v301 hv301 => ?_)
 refine k_ladd X300 hx (hb hby d1_22) (pc' := 23) rfl (fun v302 hv302 => ?_)
 refine k_lastore X300 hx hZ e300 Vw300 ⟨by decide, by decide⟩ (i := 2) rfl (Nat.le_of_ble_eq_true rfl) (hb hby d1_23) (pc' := 24) rfl (fun T303 h303 X303 e303 W303 V303 => ?_)
 have Vw303 : Arv Z h303 b297 k297 .long (9 : Int32) [(.long p1), (.long v299), (.long v302), (.long (0 : Int64)), (.long (0 : Int64)), (.long (0 : Int64)), (.long (0 : Int64)), (.long (0 : Int64)), (.long (0 : Int64))] (.long (0 : Int64)) := V303
 have N303 := Fr.snoc X303 N300 g_b297
 have Z303 : n0 ≤ h303.size := Nat.le_trans Z300 (Nat.le_of_eq W303.size.symm)
 refine k_dup X303 hx (hb hby d1_24) rfl (pc' := 25) rfl ?_
 refine k_iconst X303 hx (hb hby d1_25) (pc' := 26) rfl (z := (3 : Int32)) rfl ?_
 refine k_lloadN X303 hx (hb hby d1_26) rfl (pc' := 27) rfl ?_
 refine k_ldcL X303 hx hZ hown (hw _ (List.mem_of_getElem? (i := 6) rfl)) (hb hby d1_27) (pc' := 30) rfl ?_
 refine k_lloadN X303 hx (hb hby d1_30) rfl (pc' := 31) rfl ?_
 refine k_lmul X303 hx (hb hby d1_31) (pc' := 32) rfl (fun v304 hv304 => ?_)
 refine k_ladd X303 hx (hb hby d1_32) (pc' := 33) rfl (fun v305 hv305 => ?_)
 refine k_lastore X303 hx hZ e303 Vw303 ⟨by decide, by decide⟩ (i := 3) rfl (Nat.le_of_ble_eq_true rfl) (hb hby d1_33) (pc' := 34) rfl (fun T306 h306 X306 e306 W306 V306 => ?_)
 have Vw306 : Arv Z h306 b297 k297 .long (9 : Int32) [(.long p1), (.long v299), (.long v302), (.long v305), (.long (0 : Int64)), (.long (0 : Int64)), (.long (0 : Int64)), (.long (0 : Int64)), (.long (0 : Int64))] (.long (0 : Int64)) := V306
 have N306 := Fr.snoc X306 N303 g_b297
 have Z306 : n0 ≤ h306.size := Nat.le_trans Z303 (Nat.le_of_eq W306.size.symm)
 refine k_dup X306 hx (hb hby d1_34) rfl (pc' := 35) rfl ?_
 refine k_iconst X306 hx (hb hby d1_35) (pc' := 36) rfl (z := (4 : Int32)) rfl ?_
 refine k_lloadN X306 hx (hb hby d1_36) rfl (pc' := 37) rfl ?_
 refine k_ldcL X306 hx hZ hown (hw _ (List.mem_of_getElem? (i := 7) rfl)) (hb hby d1_37) (pc' := 40) rfl ?_
 refine k_lloadN X306 hx (hb hby d1_40) rfl (pc' := 41) rfl ?_
 refine k_lmul X306 hx (hb hby d1_41) (pc' := 42) rfl (fun v307 hv307 => ?_)
 refine k_ladd X306 hx (hb hby d1_42) (pc' := 43) rfl (fun v308 hv308 => ?_)
 refine k_lastore X306 hx hZ e306 Vw306 ⟨by decide, by decide⟩ (i := 4) rfl (Nat.le_of_ble_eq_true rfl) (hb hby d1_43) (pc' := 44) rfl (fun T309 h309 X309 e309 W309 V309 => ?_)
 have Vw309 : Arv Z h309 b297 k297 .long (9 : Int32) [(.long p1), (.long v299), (.long v302), (.long v305), (.long v308), (.long (0 : Int64)), (.long (0 : Int64)), (.long (0 : Int64)), (.long (0 : Int64))] (.long (0 : Int64)) := V309
 have N309 := Fr.snoc X309 N306 g_b297
 have Z309 : n0 ≤ h309.size := Nat.le_trans Z306 (Nat.le_of_eq W309.size.symm)
 refine k_dup X309 hx (hb hby d1_44) rfl (pc' := 45) rfl ?_
 refine k_iconst X309 hx (hb hby d1_45) (pc' := 46) rfl (z := (5 : Int32)) rfl ?_
 refine k_lloadN X309 hx (hb hby d1_46) rfl (pc' := 47) rfl ?_
 refine k_ldcL X309 hx hZ hown (hw _ (List.mem_of_getElem? (i := 8) rfl)) (hb hby d1_47) (pc' := 50) rfl ?_
 refine k_lloadN X309 hx (hb hby d1_50) rfl (pc' := 51) rfl ?_
 refine k_lmul X309 hx (hb hby d1_51) (pc' := 52) rfl (fun v310 hv310 => ?_)
 refine k_ladd X309 hx (hb hby d1_52) (pc' := 53) rfl (fun v311 hv311 => ?_)
 refine k_lastore X309 hx hZ e309 Vw309 ⟨by decide, by decide⟩ (i := 5) rfl (Nat.le_of_ble_eq_true rfl) (hb hby d1_53) (pc' := 54) rfl (fun T312 h312 X312 e312 W312 V312 => ?_)
 have Vw312 : Arv Z h312 b297 k297 .long (9 : Int32) [(.long p1), (.long v299), (.long v302), (.long v305), (.long v308), (.long v311), (.long (0 : Int64)), (.long (0 : Int64)), (.long (0 : Int64))] (.long (0 : Int64)) := V312
 have N312 := Fr.snoc X312 N309 g_b297
 have Z312 : n0 ≤ h312.size := Nat.le_trans Z309 (Nat.le_of_eq W312.size.symm)
 refine k_dup X312 hx (hb hby d1_54) rfl (pc' := 55) rfl ?_
 refine k_bipush X312 hx (hb hby d1_55) (pc' := 57) rfl (z := (6 : Int32)) rfl ?_
 refine k_lloadN X312 hx (hb hby d1_57) rfl (pc' := 58) rfl ?_
 refine k_ldcL X312 hx hZ hown (hw _ (List.mem_of_getElem? (i := 9) rfl)) (hb hby d1_58) (pc' := 61) rfl ?_
 refine k_lloadN X312 hx (hb hby d1_61) rfl (pc' := 62) rfl ?_
 refine k_lmul X312 hx (hb hby d1_62) (pc' := 63) rfl (fun v313 hv313 => ?_)
 refine k_ladd X312 hx (hb hby d1_63) (pc' := 64) rfl (fun v314 hv314 => ?_)
 refine k_lastore X312 hx hZ e312 Vw312 ⟨by decide, by decide⟩ (i := 6) rfl (Nat.le_of_ble_eq_true rfl) (hb hby d1_64) (pc' := 65) rfl (fun T315 h315 X315 e315 W315 V315 => ?_)
 have Vw315 : Arv Z h315 b297 k297 .long (9 : Int32) [(.long p1), (.long v299), (.long v302), (.long v305), (.long v308), (.long v311), (.long v314), (.long (0 : Int64)), (.long (0 : Int64))] (.long (0 : Int64)) := V315
 have N315 := Fr.snoc X315 N312 g_b297
 have Z315 : n0 ≤ h315.size := Nat.le_trans Z312 (Nat.le_of_eq W315.size.symm)
 refine k_dup X315 hx (hb hby d1_65) rfl (pc' := 66) rfl ?_
 refine k_bipush X315 hx (hb hby d1_66) (pc' := 68) rfl (z := (7 : Int32)) rfl ?_
 refine k_lloadN X315 hx (hb hby d1_68) rfl (pc' := 69) rfl ?_
 refine k_ldcL X315 hx hZ hown (hw _ (List.mem_of_getElem? (i := 10) rfl)) (hb hby d1_69) (pc' := 72) rfl ?_
 refine k_lloadN X315 hx (hb hby d1_72) rfl (pc' := 73) rfl ?_
 refine k_lmul X315 hx (hb hby d1_73) (pc' := 74) rfl (fun v316 hv316 => ?_)
 refine k_ladd X315 hx (hb hby d1_74) (pc' := 75) rfl (fun v317 hv317 => ?_)
 refine k_lastore X315 hx hZ e315 Vw315 ⟨by decide, by decide⟩ (i := 7) rfl (Nat.le_of_ble_eq_true rfl) (hb hby d1_75) (pc' := 76) rfl (fun T318 h318 X318 e318 W318 V318 => ?_)
 have Vw318 : Arv Z h318 b297 k297 .long (9 : Int32) [(.long p1), (.long v299), (.long v302), (.long v305), (.long v308), (.long v311), (.long v314), (.long v317), (.long (0 : Int64))] (.long (0 : Int64)) := V318
 have N318 := Fr.snoc X318 N315 g_b297
 have Z318 : n0 ≤ h318.size := Nat.le_trans Z315 (Nat.le_of_eq W318.size.symm)
 refine k_dup X318 hx (hb hby d1_76) rfl (pc' := 77) rfl ?_
 refine k_bipush X318 hx (hb hby d1_77) (pc' := 79) rfl (z := (8 : Int32)) rfl ?_
 refine k_lloadN X318 hx (hb hby d1_79) rfl (pc' := 80) rfl ?_
 refine k_ldcL X318 hx hZ hown (hw _ (List.mem_of_getElem? (i := 11) rfl)) (hb hby d1_80) (pc' := 83) rfl ?_
 refine k_lloadN X318 hx (hb hby d1_83) rfl (pc' := 84) rfl ?_
 refine k_lmul X318 hx (hb hby d1_84) (pc' := 85) rfl (fun v319 hv319 => ?_)
 refine k_ladd X318 hx (hb hby d1_85) (pc' := 86) rfl (fun v320 hv320 => ?_)
 refine k_lastore X318 hx hZ e318 Vw318 ⟨by decide, by decide⟩ (i := 8) rfl (Nat.le_of_ble_eq_true rfl) (hb hby d1_86) (pc' := 87) rfl (fun T321 h321 X321 e321 W321 V321 => ?_)
 have Vw321 : Arv Z h321 b297 k297 .long (9 : Int32) [(.long p1), (.long v299), (.long v302), (.long v305), (.long v308), (.long v311), (.long v314), (.long v317), (.long v320)] (.long (0 : Int64)) := V321
 have N321 := Fr.snoc X321 N318 g_b297
 have Z321 : n0 ≤ h321.size := Nat.le_trans Z318 (Nat.le_of_eq W321.size.symm)
 have F322 := ((((((((((F0_0.ext E297).other W298 (Nat.ne_of_lt (Nat.lt_trans (Nat.lt_trans (Nat.lt_trans lt0_0 lt0_1) lt0_2) lt_b297))).other W300 (Nat.ne_of_lt (Nat.lt_trans (Nat.lt_trans (Nat.lt_trans lt0_0 lt0_1) lt0_2) lt_b297))).other W303 (Nat.ne_of_lt (Nat.lt_trans (Nat.lt_trans (Nat.lt_trans lt0_0 lt0_1) lt0_2) lt_b297))).other W306 (Nat.ne_of_lt (Nat.lt_trans (Nat.lt_trans (Nat.lt_trans lt0_0 lt0_1) lt0_2) lt_b297))).other W309 (Nat.ne_of_lt (Nat.lt_trans (Nat.lt_trans (Nat.lt_trans lt0_0 lt0_1) lt0_2) lt_b297))).other W312 (Nat.ne_of_lt (Nat.lt_trans (Nat.lt_trans (Nat.lt_trans lt0_0 lt0_1) lt0_2) lt_b297))).other W315 (Nat.ne_of_lt (Nat.lt_trans (Nat.lt_trans (Nat.lt_trans lt0_0 lt0_1) lt0_2) lt_b297))).other W318 (Nat.ne_of_lt (Nat.lt_trans (Nat.lt_trans (Nat.lt_trans lt0_0 lt0_1) lt0_2) lt_b297))).other W321 (Nat.ne_of_lt (Nat.lt_trans (Nat.lt_trans (Nat.lt_trans lt0_0 lt0_1) lt0_2) lt_b297)))
 have F323 := ((((((((((F0_2.ext E297).other W298 (Nat.ne_of_lt (Nat.lt_trans (Nat.lt_trans lt0_1 lt0_2) lt_b297))).other W300 (Nat.ne_of_lt (Nat.lt_trans (Nat.lt_trans lt0_1 lt0_2) lt_b297))).other W303 (Nat.ne_of_lt (Nat.lt_trans (Nat.lt_trans lt0_1 lt0_2) lt_b297))).other W306 (Nat.ne_of_lt (Nat.lt_trans (Nat.lt_trans lt0_1 lt0_2) lt_b297))).other W309 (Nat.ne_of_lt (Nat.lt_trans (Nat.lt_trans lt0_1 lt0_2) lt_b297))).other W312 (Nat.ne_of_lt (Nat.lt_trans (Nat.lt_trans lt0_1 lt0_2) lt_b297))).other W315 (Nat.ne_of_lt (Nat.lt_trans (Nat.lt_trans lt0_1 lt0_2) lt_b297))).other W318 (Nat.ne_of_lt (Nat.lt_trans (Nat.lt_trans lt0_1 lt0_2) lt_b297))).other W321 (Nat.ne_of_lt (Nat.lt_trans (Nat.lt_trans lt0_1 lt0_2) lt_b297)))
 have F324 := ((((((((((F0_4.ext E297).other W298 (Nat.ne_of_lt (Nat.lt_trans lt0_2 lt_b297))).other W300 (Nat.ne_of_lt (Nat.lt_trans lt0_2 lt_b297))).other W303 (Nat.ne_of_lt (Nat.lt_trans lt0_2 lt_b297))).other W306 (Nat.ne_of_lt (Nat.lt_trans lt0_2 lt_b297))).other W309 (Nat.ne_of_lt (Nat.lt_trans lt0_2 lt_b297))).other W312 (Nat.ne_of_lt (Nat.lt_trans lt0_2 lt_b297))).other W315 (Nat.ne_of_lt (Nat.lt_trans lt0_2 lt_b297))).other W318 (Nat.ne_of_lt (Nat.lt_trans lt0_2 lt_b297))).other W321 (Nat.ne_of_lt (Nat.lt_trans lt0_2 lt_b297)))
 have F325 := ((((((((((F0_6.ext E297).other W298 (Nat.ne_of_lt lt_b297)).other W300 (Nat.ne_of_lt lt_b297)).other W303 (Nat.ne_of_lt lt_b297)).other W306 (Nat.ne_of_lt lt_b297)).other W309 (Nat.ne_of_lt lt_b297)).other W312 (Nat.ne_of_lt lt_b297)).other W315 (Nat.ne_of_lt lt_b297)).other W318 (Nat.ne_of_lt lt_b297)).other W321 (Nat.ne_of_lt lt_b297))
 exact k_retA X321 hx Bd.returns rfl rfl (hb hby d1_87) hlk (by decide) (by decide) (by rw [e321]; exact ⟨N321, ⟨v299, v301, v302, v304, v305, v307, v308, v310, v311, v313, v314, v316, v317, v319, v320, b297, k297, hv299, hv301, hv302, hv304, hv305, hv307, hv308, hv310, hv311, hv313, hv314, hv316, hv317, hv319, hv320, rfl, F322, F323, F324, F325, Vw321, g_b297, lt_b297, Z321⟩⟩)
theorem d2_0 : decode prog_3_method_12_code 0 = .ok (.lload_n 3, 1) := by decide +kernel
theorem d2_1 : decode prog_3_method_12_code 1 = .ok (.lneg, 1) := by decide +kernel
theorem d2_2 : decode prog_3_method_12_code 2 = .ok (.lstore 5, 2) := by decide +kernel
theorem d2_4 : decode prog_3_method_12_code 4 = .ok (.iconst 0, 1) := by decide +kernel
theorem d2_5 : decode prog_3_method_12_code 5 = .ok (.istore 7, 2) := by decide +kernel
theorem d2_7 : decode prog_3_method_12_code 7 = .ok (.iload 7, 2) := by decide +kernel
theorem d2_9 : decode prog_3_method_12_code 9 = .ok (.bipush 9, 2) := by decide +kernel
theorem d2_11 : decode prog_3_method_12_code 11 = .ok (.if_icmp .ge 30, 3) := by decide +kernel
theorem d2_14 : decode prog_3_method_12_code 14 = .ok (.aload_n 0, 1) := by decide +kernel
theorem d2_15 : decode prog_3_method_12_code 15 = .ok (.iload 7, 2) := by decide +kernel
theorem d2_17 : decode prog_3_method_12_code 17 = .ok (.aload_n 1, 1) := by decide +kernel
theorem d2_18 : decode prog_3_method_12_code 18 = .ok (.iload 7, 2) := by decide +kernel
theorem d2_20 : decode prog_3_method_12_code 20 = .ok (.laload, 1) := by decide +kernel
theorem d2_21 : decode prog_3_method_12_code 21 = .ok (.aload_n 1, 1) := by decide +kernel
theorem d2_22 : decode prog_3_method_12_code 22 = .ok (.iload 7, 2) := by decide +kernel
theorem d2_24 : decode prog_3_method_12_code 24 = .ok (.laload, 1) := by decide +kernel
theorem d2_25 : decode prog_3_method_12_code 25 = .ok (.aload_n 2, 1) := by decide +kernel
theorem d2_26 : decode prog_3_method_12_code 26 = .ok (.iload 7, 2) := by decide +kernel
theorem d2_28 : decode prog_3_method_12_code 28 = .ok (.laload, 1) := by decide +kernel
theorem d2_29 : decode prog_3_method_12_code 29 = .ok (.lxor, 1) := by decide +kernel
theorem d2_30 : decode prog_3_method_12_code 30 = .ok (.lload 5, 2) := by decide +kernel
theorem d2_32 : decode prog_3_method_12_code 32 = .ok (.land, 1) := by decide +kernel
theorem d2_33 : decode prog_3_method_12_code 33 = .ok (.lxor, 1) := by decide +kernel
theorem d2_34 : decode prog_3_method_12_code 34 = .ok (.lastore, 1) := by decide +kernel
theorem d2_35 : decode prog_3_method_12_code 35 = .ok (.iinc 7 1, 3) := by decide +kernel
theorem d2_38 : decode prog_3_method_12_code 38 = .ok (.goto (-31), 3) := by decide +kernel
theorem d2_41 : decode prog_3_method_12_code 41 = .ok (.return_, 1) := by decide +kernel
abbrev R2_372 : Room := { frames := 0, cells := 0, slots := 0, locals := 0 }
def Q2_372 (Z : State) (a1 : Addr) (a2 : Addr) (a3 : Addr) (k4 : ClassId) (p5 : Int64) (p6 : Int64) (p7 : Int64) (p8 : Int64) (p9 : Int64) (p10 : Int64) (p11 : Int64) (p12 : Int64) (p13 : Int64) (k14 : ClassId) (p15 : Int64) (p16 : Int64) (p17 : Int64) (p18 : Int64) (p19 : Int64) (p20 : Int64) (p21 : Int64) (p22 : Int64) (p23 : Int64) (a24 : Addr) (k25 : ClassId) (a26 : Addr) (k27 : ClassId) (k28 : ClassId) (p29 : Int64) (p30 : Int64) (p31 : Int64) (p32 : Int64) (p33 : Int64) (p34 : Int64) (p35 : Int64) (p36 : Int64) (p37 : Int64) (h0 : Heap) (n0 : Nat) (v : Option Value) (h : Heap) (L : List Loc) : Prop := Fr n0 L ∧ ((v = none ∧ Arv Z h a2 k4 .long (9 : Int32) [(.long p5), (.long p6), (.long p7), (.long p8), (.long p9), (.long p10), (.long p11), (.long p12), (.long p13)] (.long (0 : Int64)) ∧ Arv Z h a3 k14 .long (9 : Int32) [(.long p15), (.long p16), (.long p17), (.long p18), (.long p19), (.long p20), (.long p21), (.long p22), (.long p23)] (.long (0 : Int64)) ∧ Arv Z h a24 k25 .long (9 : Int32) [(.long p5), (.long p6), (.long p7), (.long p8), (.long p9), (.long p10), (.long p11), (.long p12), (.long p13)] (.long (0 : Int64)) ∧ Arv Z h a26 k27 .long (9 : Int32) [(.long p15), (.long p16), (.long p17), (.long p18), (.long p19), (.long p20), (.long p21), (.long p22), (.long p23)] (.long (0 : Int64)) ∧ Arv Z h a1 k28 .long (9 : Int32) [(.long p5), (.long p6), (.long p7), (.long p8), (.long p9), (.long p10), (.long p11), (.long p12), (.long p13)] (.long (0 : Int64)) ∧ n0 ≤ h.size))
theorem ef2_372 (m : MethodId) (x0 : Addr) (x1 : Addr) (x2 : Addr) : entryFrame m #[(.ref x0), (.ref x1), (.ref x2), (.long (0 : Int64))] 8 = mkF m 0 #[.val (.ref x0), .val (.ref x1), .val (.ref x2), .val (.long (0 : Int64)), .second, .unset, .unset, .unset] [] := by first | (simp [entryFrame, mkF, argsToLocals, Value.category]; done) | rfl
theorem pn_1 : plainName "com/example/portcullis/portcullis/protocol/Field" = true := by first | (simp [plainName, overriddenIn]; done) | decide +kernel
set_option maxRecDepth 65536 in
set_option maxHeartbeats 40000000 in
theorem rm2_372 (l : Launch) (Z : State) (a0 : Array Value) (hw : ∀ d ∈ tables_1, d.before a0 Z = true) (ws : List Jvm.Cond) (a1 : Addr) (a2 : Addr) (a3 : Addr) (k4 : ClassId) (p5 : Int64) (p6 : Int64) (p7 : Int64) (p8 : Int64) (p9 : Int64) (p10 : Int64) (p11 : Int64) (p12 : Int64) (p13 : Int64) (k14 : ClassId) (p15 : Int64) (p16 : Int64) (p17 : Int64) (p18 : Int64) (p19 : Int64) (p20 : Int64) (p21 : Int64) (p22 : Int64) (p23 : Int64) (a24 : Addr) (k25 : ClassId) (a26 : Addr) (k27 : ClassId) (k28 : ClassId) (p29 : Int64) (p30 : Int64) (p31 : Int64) (p32 : Int64) (p33 : Int64) (p34 : Int64) (p35 : Int64) (p36 : Int64) (p37 : Int64) (h0 : Heap) (n0 : Nat) (Z0 : n0 ≤ h0.size) (F0_0 : Arv Z h0 a2 k4 .long (9 : Int32) [(.long p5), (.long p6), (.long p7), (.long p8), (.long p9), (.long p10), (.long p11), (.long p12), (.long p13)] (.long (0 : Int64))) (g_a2 : n0 ≤ a2) (F0_2 : Arv Z h0 a3 k14 .long (9 : Int32) [(.long p15), (.long p16), (.long p17), (.long p18), (.long p19), (.long p20), (.long p21), (.long p22), (.long p23)] (.long (0 : Int64))) (g_a3 : n0 ≤ a3) (F0_4 : Arv Z h0 a24 k25 .long (9 : Int32) [(.long p5), (.long p6), (.long p7), (.long p8), (.long p9), (.long p10), (.long p11), (.long p12), (.long p13)] (.long (0 : Int64))) (g_a24 : n0 ≤ a24) (F0_6 : Arv Z h0 a26 k27 .long (9 : Int32) [(.long p15), (.long p16), (.long p17), (.long p18), (.long p19), (.long p20), (.long p21), (.long p22), (.long p23)] (.long (0 : Int64))) (g_a26 : n0 ≤ a26) (F0_8 : Arv Z h0 a1 k28 .long (9 : Int32) [(.long p29), (.long p30), (.long p31), (.long p32), (.long p33), (.long p34), (.long p35), (.long p36), (.long p37)] (.long (0 : Int64))) (g_a1 : n0 ≤ a1) (lt0_0 : a2 < a3) (lt0_1 : a3 < a24) (lt0_2 : a24 < a26) (lt0_3 : a26 < a1) :
    MetFree l (⟨"com/example/portcullis/portcullis/protocol/Field", "select", "([J[J[JJ)V"⟩ : MethodName) (head1 (Jvm.Cond.code (⟨"com/example/portcullis/portcullis/protocol/Field", "select", "([J[J[JJ)V"⟩ : MethodName) prog_3_method_12_code 8 none :: ws) R2_372) (fun a U => a = #[(.ref a1), (.ref a2), (.ref a3), (.long (0 : Int64))] ∧ Z.Warmed39 U.vm ∧ U.heap = h0) (fun _ _ _ _ _ => True) (fun _ U o U' => ∃ v L, o = .returned v ∧ Q2_372 Z a1 a2 a3 k4 p5 p6 p7 p8 p9 p10 p11 p12 p13 k14 p15 p16 p17 p18 p19 p20 p21 p22 p23 a24 k25 a26 k27 k28 p29 p30 p31 p32 p33 p34 p35 p36 p37 h0 n0 v U'.heap L ∧ FrameEnd U o U' L R2_372.cells R2_372.slots) := by
 refine MetFree.of_bodySF (plainFor_of_name pn_1) hisR ?_
 intro p e s m args below meth c s₁ Bd hml0 hP hK
 obtain ⟨rfl, hZ, hh⟩ := hP
 have hx := Bd.exec
 have hby := Bd.bytes
 have hml : c.maxLocals = 8 := hml0
 have hlk : meth.locks = false := Bd.notSynchronized
 have hown : s.vm.findClass "com/example/portcullis/portcullis/protocol/Field" = some m.cls := findClass_of_methodNamed Bd.named
 have hnm := (name_of_methodNamed Bd.named Bd.method).1
 have X0 : Stand p l e R2_372 s m #[(.ref a1), (.ref a2), (.ref a3), (.long (0 : Int64))] below meth c s₁ [] 0 0 := Stand.of_body Bd
 have e0 : s₁.heap = h0 := by rw [← hh, Bd.state]; rfl
 have N0 := Fr.nil n0
 rw [ef2_372 m a1 a2 a3]
 show KEnds p e below s R2_372.cells R2_372.slots (Q2_372 Z a1 a2 a3 k4 p5 p6 p7 p8 p9 p10 p11 p12 p13 k14 p15 p16 p17 p18 p19 p20 p21 p22 p23 a24 k25 a26 k27 k28 p29 p30 p31 p32 p33 p34 p35 p36 p37 h0 n0) s₁ (mkF m 0 #[.val (.ref a1), .val (.ref a2), .val (.ref a3), .val (.long (0 : Int64)), .second, .unset, .unset, .unset] [])
 refine k_lloadN X0 hx (hb hby d2_0) rfl (pc' := 1) rfl ?_
 refine k_lnegL X0 hx (hb hby d2_1) (pc' := 2) rfl (z := (0 : Int64)) (by decide) ?_
 refine k_lstore X0 hx (hb hby d2_2) (Ls' := #[.val (.ref a1), .val (.ref a2), .val (.ref a3), .val (.long (0 : Int64)), .second, .val (.long (0 : Int64)), .second, .unset]) rfl (pc' := 4) rfl ?_
 refine k_iconst X0 hx (hb hby d2_4) (pc' := 5) rfl (z := (0 : Int32)) rfl ?_
 refine k_istore X0 hx (hb hby d2_5) (Ls' := #[.val (.ref a1), .val (.ref a2), .val (.ref a3), .val (.long (0 : Int64)), .second, .val (.long (0 : Int64)), .second, .val (.int (0 : Int32))]) rfl (pc' := 7) rfl ?_
 refine k_iload X0 hx (hb hby d2_7) rfl (pc' := 9) rfl ?_
 refine k_bipush X0 hx (hb hby d2_9) (pc' := 11) rfl (z := (9 : Int32)) rfl ?_
 refine k_icmp_ge X0 hx (hb hby d2_11) (pn := 14) rfl (py := 41) (by decide) (fun hc => absurd (by decide) hc) (fun _ => ?_)
 refine k_aloadN X0 hx (hb hby d2_14) rfl rfl (pc' := 15) rfl ?_
 refine k_iload X0 hx (hb hby d2_15) rfl (pc' := 17) rfl ?_
 refine k_aloadN X0 hx (hb hby d2_17) rfl rfl (pc' := 18) rfl ?_
 refine k_iload X0 hx (hb hby d2_18) rfl (pc' := 20) rfl ?_
 refine k_laload X0 hx hZ e0 F0_0 ⟨by decide, by decide⟩ (v := (.long p5)) rfl (hb hby d2_20) (pc' := 21) rfl ?_
 refine k_aloadN X0 hx (hb hby d2_21) rfl rfl (pc' := 22) rfl ?_
 refine k_iload X0 hx (hb hby d2_22) rfl (pc' := 24) rfl ?_
 refine k_laload X0 hx hZ e0 F0_0 ⟨by decide, by decide⟩ (v := (.long p5)) rfl (hb hby d2_24) (pc' := 25) rfl ?_
 refine k_aloadN X0 hx (hb hby d2_25) rfl rfl (pc' := 26) rfl ?_
 refine k_iload X0 hx (hb hby d2_26) rfl (pc' := 28) rfl ?_
 refine k_laload X0 hx hZ e0 F0_2 ⟨by decide, by decide⟩ (v := (.long p15)) rfl (hb hby d2_28) (pc' := 29) rfl ?_
 refine k_lxor X0 hx (hb hby d2_29) (pc' := 30) rfl (fun v373 hv373 => ?_)
 refine k_lload X0 hx (hb hby d2_30) rfl (pc' := 32) rfl ?_
 refine k_landL X0 hx (hb hby d2_32) (pc' := 33) rfl (z := (0 : Int64)) Int64.and_zero ?_
 refine k_lxorL X0 hx (hb hby d2_33) (pc' := 34) rfl (z := p5) Int64.xor_zero ?_
 refine k_lastore X0 hx hZ e0 F0_8 ⟨by decide, by decide⟩ (i := 0) rfl (Nat.le_of_ble_eq_true rfl) (hb hby d2_34) (pc' := 35) rfl (fun T374 h374 X374 e374 W374 V374 => ?_)
 have Vw374 : Arv Z h374 a1 k28 .long (9 : Int32) [(.long p5), (.long p30), (.long p31), (.long p32), (.long p33), (.long p34), (.long p35), (.long p36), (.long p37)] (.long (0 : Int64)) := V374
 have N374 := Fr.snoc X374 N0 g_a1
 have Z374 : n0 ≤ h374.size := Nat.le_trans Z0 (Nat.le_of_eq W374.size.symm)
 refine k_iinc X374 hx (hb hby d2_35) rfl (pc' := 38) rfl (z := (1 : Int32)) (by decide) (Ls' := #[.val (.ref a1), .val (.ref a2), .val (.ref a3), .val (.long (0 : Int64)), .second, .val (.long (0 : Int64)), .second, .val (.int (1 : Int32))]) rfl ?_
 refine k_goto X374 hx (hb hby d2_38) (pc' := 7) (by decide) ?_
 refine k_iload X374 hx (hb hby d2_7) rfl (pc' := 9) rfl ?_
 refine k_bipush X374 hx (hb hby d2_9) (pc' := 11) rfl (z := (9 : Int32)) rfl ?_
 refine k_icmp_ge X374 hx (hb hby d2_11) (pn := 14) rfl (py := 41) (by decide) (fun hc => absurd (by decide) hc) (fun _ => ?_)
 refine k_aloadN X374 hx (hb hby d2_14) rfl rfl (pc' := 15) rfl ?_
 refine k_iload X374 hx (hb hby d2_15) rfl (pc' := 17) rfl ?_
 refine k_aloadN X374 hx (hb hby d2_17) rfl rfl (pc' := 18) rfl ?_
 refine k_iload X374 hx (hb hby d2_18) rfl (pc' := 20) rfl ?_
 have F375 := (F0_0.other W374 (Nat.ne_of_lt (Nat.lt_trans (Nat.lt_trans (Nat.lt_trans lt0_0 lt0_1) lt0_2) lt0_3)))
 refine k_laload X374 hx hZ e374 F375 ⟨by decide, by decide⟩ (v := (.long p6)) rfl (hb hby d2_20) (pc' := 21) rfl ?_
 refine k_aloadN X374 hx (hb hby d2_21) rfl rfl (pc' := 22) rfl ?_
 refine k_iload X374 hx (hb hby d2_22) rfl (pc' := 24) rfl ?_
 refine k_laload X374 hx hZ e374 F375 ⟨by decide, by decide⟩ (v := (.long p6)) rfl (hb hby d2_24) (pc' := 25) rfl ?_
 refine k_aloadN X374 hx (hb hby d2_25) rfl rfl (pc' := 26) rfl ?_
 refine k_iload X374 hx (hb hby d2_26) rfl (pc' := 28) rfl ?_
 have F376 := (F0_2.other W374 (Nat.ne_of_lt (Nat.lt_trans (Nat.lt_trans lt0_1 lt0_2) lt0_3)))
 refine k_laload X374 hx hZ e374 F376 ⟨by decide, by decide⟩ (v := (.long p16)) rfl (hb hby d2_28) (pc' := 29) rfl ?_
 refine k_lxor X374 hx (hb hby d2_29) (pc' := 30) rfl (fun v377 hv377 => ?_)
 refine k_lload X374 hx (hb hby d2_30) rfl (pc' := 32) rfl ?_
 refine k_landL X374 hx (hb hby d2_32) (pc' := 33) rfl (z := (0 : Int64)) Int64.and_zero ?_
 refine k_lxorL X374 hx (hb hby d2_33) (pc' := 34) rfl (z := p6) Int64.xor_zero ?_
 refine k_lastore X374 hx hZ e374 Vw374 ⟨by decide, by decide⟩ (i := 1) rfl (Nat.le_of_ble_eq_true rfl) (hb hby d2_34) (pc' := 35) rfl (fun T378 h378 X378 e378 W378 V378 => ?_)
 have Vw378 : Arv Z h378 a1 k28 .long (9 : Int32) [(.long p5), (.long p6), (.long p31), (.long p32), (.long p33), (.long p34), (.long p35), (.long p36), (.long p37)] (.long (0 : Int64)) := V378
 have N378 := Fr.snoc X378 N374 g_a1
 have Z378 : n0 ≤ h378.size := Nat.le_trans Z374 (Nat.le_of_eq W378.size.symm)
 refine k_iinc X378 hx (hb hby d2_35) rfl (pc' := 38) rfl (z := (2 : Int32)) (by decide) (Ls' := #[.val (.ref a1), .val (.ref a2), .val (.ref a3), .val (.long (0 : Int64)), .second, .val (.long (0 : Int64)), .second, .val (.int (2 : Int32))]) rfl ?_
 refine k_goto X378 hx (hb hby d2_38) (pc' := 7) (by decide) ?_
 refine k_iload X378 hx (hb hby d2_7) rfl (pc' := 9) rfl ?_
 refine k_bipush X378 hx (hb hby d2_9) (pc' := 11) rfl (z := (9 : Int32)) rfl ?_
 refine k_icmp_ge X378 hx (hb hby d2_11) (pn := 14) rfl (py := 41) (by decide) (fun hc => absurd (by decide) hc) (fun _ => ?_)
 refine k_aloadN X378 hx (hb hby d2_14) rfl rfl (pc' := 15) rfl ?_
 refine k_iload X378 hx (hb hby d2_15) rfl (pc' := 17) rfl ?_
 refine k_aloadN X378 hx (hb hby d2_17) rfl rfl (pc' := 18) rfl ?_
 refine k_iload X378 hx (hb hby d2_18) rfl (pc' := 20) rfl ?_
 have F379 := (F375.other W378 (Nat.ne_of_lt (Nat.lt_trans (Nat.lt_trans (Nat.lt_trans lt0_0 lt0_1) lt0_2) lt0_3)))
 refine k_laload X378 hx hZ e378 F379 ⟨by decide, by decide⟩ (v := (.long p7)) rfl (hb hby d2_20) (pc' := 21) rfl ?_
 refine k_aloadN X378 hx (hb hby d2_21) rfl rfl (pc' := 22) rfl ?_
 refine k_iload X378 hx (hb hby d2_22) rfl (pc' := 24) rfl ?_
 refine k_laload X378 hx hZ e378 F379 ⟨by decide, by decide⟩ (v := (.long p7)) rfl (hb hby d2_24) (pc' := 25) rfl ?_
 refine k_aloadN X378 hx (hb hby d2_25) rfl rfl (pc' := 26) rfl ?_
 refine k_iload X378 hx (hb hby d2_26) rfl (pc' := 28) rfl ?_
 have F380 := (F376.other W378 (Nat.ne_of_lt (Nat.lt_trans (Nat.lt_trans lt0_1 lt0_2) lt0_3)))
 refine k_laload X378 hx hZ e378 F380 ⟨by decide, by decide⟩ (v := (.long p17)) rfl (hb hby d2_28) (pc' := 29) rfl ?_
 refine k_lxor X378 hx (hb hby d2_29) (pc' := 30) rfl (fun v381 hv381 => ?_)
 refine k_lload X378 hx (hb hby d2_30) rfl (pc' := 32) rfl ?_
 refine k_landL X378 hx (hb hby d2_32) (pc' := 33) rfl (z := (0 : Int64)) Int64.and_zero ?_
 refine k_lxorL X378 hx (hb hby d2_33) (pc' := 34) rfl (z := p7) Int64.xor_zero ?_
 refine k_lastore X378 hx hZ e378 Vw378 ⟨by decide, by decide⟩ (i := 2) rfl (Nat.le_of_ble_eq_true rfl) (hb hby d2_34) (pc' := 35) rfl (fun T382 h382 X382 e382 W382 V382 => ?_)
 have Vw382 : Arv Z h382 a1 k28 .long (9 : Int32) [(.long p5), (.long p6), (.long p7), (.long p32), (.long p33), (.long p34), (.long p35), (.long p36), (.long p37)] (.long (0 : Int64)) := V382
 have N382 := Fr.snoc X382 N378 g_a1
 have Z382 : n0 ≤ h382.size := Nat.le_trans Z378 (Nat.le_of_eq W382.size.symm)
 refine k_iinc X382 hx (hb hby d2_35) rfl (pc' := 38) rfl (z := (3 : Int32)) (by decide) (Ls' := #[.val (.ref a1), .val (.ref a2), .val (.ref a3), .val (.long (0 : Int64)), .second, .val (.long (0 : Int64)), .second, .val (.int (3 : Int32))]) rfl ?_
 refine k_goto X382 hx (hb hby d2_38) (pc' := 7) (by decide) ?_
 refine k_iload X382 hx (hb hby d2_7) rfl (pc' := 9) rfl ?_
 refine k_bipush X382 hx (hb hby d2_9) (pc' := 11) rfl (z := (9 : Int32)) rfl ?_
 refine k_icmp_ge X382 hx (hb hby d2_11) (pn := 14) rfl (py := 41) (by decide) (fun hc => absurd (by decide) hc) (fun _ => ?_)
 refine k_aloadN X382 hx (hb hby d2_14) rfl rfl (pc' := 15) rfl ?_
 refine k_iload X382 hx (hb hby d2_15) rfl (pc' := 17) rfl ?_
 refine k_aloadN X382 hx (hb hby d2_17) rfl rfl (pc' := 18) rfl ?_
 refine k_iload X382 hx (hb hby d2_18) rfl (pc' := 20) rfl ?_
 have F383 := (F379.other W382 (Nat.ne_of_lt (Nat.lt_trans (Nat.lt_trans (Nat.lt_trans lt0_0 lt0_1) lt0_2) lt0_3)))
 refine k_laload X382 hx hZ e382 F383 ⟨by decide, by decide⟩ (v := (.long p8)) rfl (hb hby d2_20) (pc' := 21) rfl ?_
 refine k_aloadN X382 hx (hb hby d2_21) rfl rfl (pc' := 22) rfl ?_
 refine k_iload X382 hx (hb hby d2_22) rfl (pc' := 24) rfl ?_
 refine k_laload X382 hx hZ e382 F383 ⟨by decide, by decide⟩ (v := (.long p8)) rfl (hb hby d2_24) (pc' := 25) rfl ?_
 refine k_aloadN X382 hx (hb hby d2_25) rfl rfl (pc' := 26) rfl ?_
 refine k_iload X382 hx (hb hby d2_26) rfl (pc' := 28) rfl ?_
 have F384 := (F380.other W382 (Nat.ne_of_lt (Nat.lt_trans (Nat.lt_trans lt0_1 lt0_2) lt0_3)))
 refine k_laload X382 hx hZ e382 F384 ⟨by decide, by decide⟩ (v := (.long p18)) rfl (hb hby d2_28) (pc' := 29) rfl ?_
 refine k_lxor X382 hx (hb hby d2_29) (pc' := 30) rfl (fun v385 hv385 => ?_)
 refine k_lload X382 hx (hb hby d2_30) rfl (pc' := 32) rfl ?_
 refine k_landL X382 hx (hb hby d2_32) (pc' := 33) rfl (z := (0 : Int64)) Int64.and_zero ?_
 refine k_lxorL X382 hx (hb hby d2_33) (pc' := 34) rfl (z := p8) Int64.xor_zero ?_
 refine k_lastore X382 hx hZ e382 Vw382 ⟨by decide, by decide⟩ (i := 3) rfl (Nat.le_of_ble_eq_true rfl) (hb hby d2_34) (pc' := 35) rfl (fun T386 h386 X386 e386 W386 V386 => ?_)
 have Vw386 : Arv Z h386 a1 k28 .long (9 : Int32) [(.long p5), (.long p6), (.long p7), (.long p8), (.long p33), (.long p34), (.long p35), (.long p36), (.long p37)] (.long (0 : Int64)) := V386
 have N386 := Fr.snoc X386 N382 g_a1
 have Z386 : n0 ≤ h386.size := Nat.le_trans Z382 (Nat.le_of_eq W386.size.symm)
 refine k_iinc X386 hx (hb hby d2_35) rfl (pc' := 38) rfl (z := (4 : Int32)) (by decide) (Ls' := #[.val (.ref a1), .val (.ref a2), .val (.ref a3), .val (.long (0 : Int64)), .second, .val (.long (0 : Int64)), .second, .val (.int (4 : Int32))]) rfl ?_
 refine k_goto X386 hx (hb hby d2_38) (pc' := 7) (by decide) ?_
 refine k_iload X386 hx (hb hby d2_7) rfl (pc' := 9) rfl ?_
 refine k_bipush X386 hx (hb hby d2_9) (pc' := 11) rfl (z := (9 : Int32)) rfl ?_
 refine k_icmp_ge X386 hx (hb hby d2_11) (pn := 14) rfl (py := 41) (by decide) (fun hc => absurd (by decide) hc) (fun _ => ?_)
 refine k_aloadN X386 hx (hb hby d2_14) rfl rfl (pc' := 15) rfl ?_
 refine k_iload X386 hx (hb hby d2_15) rfl (pc' := 17) rfl ?_
 refine k_aloadN X386 hx (hb hby d2_17) rfl rfl (pc' := 18) rfl ?_
 refine k_iload X386 hx (hb hby d2_18) rfl (pc' := 20) rfl ?_
 have F387 := (F383.other W386 (Nat.ne_of_lt (Nat.lt_trans (Nat.lt_trans (Nat.lt_trans lt0_0 lt0_1) lt0_2) lt0_3)))
 refine k_laload X386 hx hZ e386 F387 ⟨by decide, by decide⟩ (v := (.long p9)) rfl (hb hby d2_20) (pc' := 21) rfl ?_
 refine k_aloadN X386 hx (hb hby d2_21) rfl rfl (pc' := 22) rfl ?_
 refine k_iload X386 hx (hb hby d2_22) rfl (pc' := 24) rfl ?_
 refine k_laload X386 hx hZ e386 F387 ⟨by decide, by decide⟩ (v := (.long p9)) rfl (hb hby d2_24) (pc' := 25) rfl ?_
 refine k_aloadN X386 hx (hb hby d2_25) rfl rfl (pc' := 26) rfl ?_
 refine k_iload X386 hx (hb hby d2_26) rfl (pc' := 28) rfl ?_
 have F388 := (F384.other W386 (Nat.ne_of_lt (Nat.lt_trans (Nat.lt_trans lt0_1 lt0_2) lt0_3)))
 refine k_laload X386 hx hZ e386 F388 ⟨by decide, by decide⟩ (v := (.long p19)) rfl (hb hby d2_28) (pc' := 29) rfl ?_
 refine k_lxor X386 hx (hb hby d2_29) (pc' := 30) rfl (fun v389 hv389 => ?_)
 refine k_lload X386 hx (hb hby d2_30) rfl (pc' := 32) rfl ?_
 refine k_landL X386 hx (hb hby d2_32) (pc' := 33) rfl (z := (0 : Int64)) Int64.and_zero ?_
 refine k_lxorL X386 hx (hb hby d2_33) (pc' := 34) rfl (z := p9) Int64.xor_zero ?_
 refine k_lastore X386 hx hZ e386 Vw386 ⟨by decide, by decide⟩ (i := 4) rfl (Nat.le_of_ble_eq_true rfl) (hb hby d2_34) (pc' := 35) rfl (fun T390 h390 X390 e390 W390 V390 => ?_)
 have Vw390 : Arv Z h390 a1 k28 .long (9 : Int32) [(.long p5), (.long p6), (.long p7), (.long p8), (.long p9), (.long p34), (.long p35), (.long p36), (.long p37)] (.long (0 : Int64)) := V390
 have N390 := Fr.snoc X390 N386 g_a1
 have Z390 : n0 ≤ h390.size := Nat.le_trans Z386 (Nat.le_of_eq W390.size.symm)
 refine k_iinc X390 hx (hb hby d2_35) rfl (pc' := 38) rfl (z := (5 : Int32)) (by decide) (Ls' := #[.val (.ref a1), .val (.ref a2), .val (.ref a3), .val (.long (0 : Int64)), .second, .val (.long (0 : Int64)), .second, .val (.int (5 : Int32))]) rfl ?_
 refine k_goto X390 hx (hb hby d2_38) (pc' := 7) (by decide) ?_
 refine k_iload X390 hx (hb hby d2_7) rfl (pc' := 9) rfl ?_
 refine k_bipush X390 hx (hb hby d2_9) (pc' := 11) rfl (z := (9 : Int32)) rfl ?_
 refine k_icmp_ge X390 hx (hb hby d2_11) (pn := 14) rfl (py := 41) (by decide) (fun hc => absurd (by decide) hc) (fun _ => ?_)
 refine k_aloadN X390 hx (hb hby d2_14) rfl rfl (pc' := 15) rfl ?_
 refine k_iload X390 hx (hb hby d2_15) rfl (pc' := 17) rfl ?_
 refine k_aloadN X390 hx (hb hby d2_17) rfl rfl (pc' := 18) rfl ?_
 refine k_iload X390 hx (hb hby d2_18) rfl (pc' := 20) rfl ?_
 have F391 := (F387.other W390 (Nat.ne_of_lt (Nat.lt_trans (Nat.lt_trans (Nat.lt_trans lt0_0 lt0_1) lt0_2) lt0_3)))
 refine k_laload X390 hx hZ e390 F391 ⟨by decide, by decide⟩ (v := (.long p10)) rfl (hb hby d2_20) (pc' := 21) rfl ?_
 refine k_aloadN X390 hx (hb hby d2_21) rfl rfl (pc' := 22) rfl ?_
 refine k_iload X390 hx (hb hby d2_22) rfl (pc' := 24) rfl ?_
 refine k_laload X390 hx hZ e390 F391 ⟨by decide, by decide⟩ (v := (.long p10)) rfl (hb hby d2_24) (pc' := 25) rfl ?_
 refine k_aloadN X390 hx (hb hby d2_25) rfl rfl (pc' := 26) rfl ?_
 refine k_iload X390 hx (hb hby d2_26) rfl (pc' := 28) rfl ?_
 have F392 := (F388.other W390 (Nat.ne_of_lt (Nat.lt_trans (Nat.lt_trans lt0_1 lt0_2) lt0_3)))
 refine k_laload X390 hx hZ e390 F392 ⟨by decide, by decide⟩ (v := (.long p20)) rfl (hb hby d2_28) (pc' := 29) rfl ?_
 refine k_lxor X390 hx (hb hby d2_29) (pc' := 30) rfl (fun v393 hv393 => ?_)
 refine k_lload X390 hx (hb hby d2_30) rfl (pc' := 32) rfl ?_
 refine k_landL X390 hx (hb hby d2_32) (pc' := 33) rfl (z := (0 : Int64)) Int64.and_zero ?_
 refine k_lxorL X390 hx (hb hby d2_33) (pc' := 34) rfl (z := p10) Int64.xor_zero ?_
 refine k_lastore X390 hx hZ e390 Vw390 ⟨by decide, by decide⟩ (i := 5) rfl (Nat.le_of_ble_eq_true rfl) (hb hby d2_34) (pc' := 35) rfl (fun T394 h394 X394 e394 W394 V394 => ?_)
 have Vw394 : Arv Z h394 a1 k28 .long (9 : Int32) [(.long p5), (.long p6), (.long p7), (.long p8), (.long p9), (.long p10), (.long p35), (.long p36), (.long p37)] (.long (0 : Int64)) := V394
 have N394 := Fr.snoc X394 N390 g_a1
 have Z394 : n0 ≤ h394.size := Nat.le_trans Z390 (Nat.le_of_eq W394.size.symm)
 refine k_iinc X394 hx (hb hby d2_35) rfl (pc' := 38) rfl (z := (6 : Int32)) (by decide) (Ls' := #[.val (.ref a1), .val (.ref a2), .val (.ref a3), .val (.long (0 : Int64)), .second, .val (.long (0 : Int64)), .second, .val (.int (6 : Int32))]) rfl ?_
 refine k_goto X394 hx (hb hby d2_38) (pc' := 7) (by decide) ?_
 refine k_iload X394 hx (hb hby d2_7) rfl (pc' := 9) rfl ?_
 refine k_bipush X394 hx (hb hby d2_9) (pc' := 11) rfl (z := (9 : Int32)) rfl ?_
 refine k_icmp_ge X394 hx (hb hby d2_11) (pn := 14) rfl (py := 41) (by decide) (fun hc => absurd (by decide) hc) (fun _ => ?_)
 refine k_aloadN X394 hx (hb hby d2_14) rfl rfl (pc' := 15) rfl ?_
 refine k_iload X394 hx (hb hby d2_15) rfl (pc' := 17) rfl ?_
 refine k_aloadN X394 hx (hb hby d2_17) rfl rfl (pc' := 18) rfl ?_
 refine k_iload X394 hx (hb hby d2_18) rfl (pc' := 20) rfl ?_
 have F395 := (F391.other W394 (Nat.ne_of_lt (Nat.lt_trans (Nat.lt_trans (Nat.lt_trans lt0_0 lt0_1) lt0_2) lt0_3)))
 refine k_laload X394 hx hZ e394 F395 ⟨by decide, by decide⟩ (v := (.long p11)) rfl (hb hby d2_20) (pc' := 21) rfl ?_
 refine k_aloadN X394 hx (hb hby d2_21) rfl rfl (pc' := 22) rfl ?_
 refine k_iload X394 hx (hb hby d2_22) rfl (pc' := 24) rfl ?_
 refine k_laload X394 hx hZ e394 F395 ⟨by decide, by decide⟩ (v := (.long p11)) rfl (hb hby d2_24) (pc' := 25) rfl ?_
 refine k_aloadN X394 hx (hb hby d2_25) rfl rfl (pc' := 26) rfl ?_
 refine k_iload X394 hx (hb hby d2_26) rfl (pc' := 28) rfl ?_
 have F396 := (F392.other W394 (Nat.ne_of_lt (Nat.lt_trans (Nat.lt_trans lt0_1 lt0_2) lt0_3)))
 refine k_laload X394 hx hZ e394 F396 ⟨by decide, by decide⟩ (v := (.long p21)) rfl (hb hby d2_28) (pc' := 29) rfl ?_
 refine k_lxor X394 hx (hb hby d2_29) (pc' := 30) rfl (fun v397 hv397 => ?_)
 refine k_lload X394 hx (hb hby d2_30) rfl (pc' := 32) rfl ?_
 refine k_landL X394 hx (hb hby d2_32) (pc' := 33) rfl (z := (0 : Int64)) Int64.and_zero ?_
 refine k_lxorL X394 hx (hb hby d2_33) (pc' := 34) rfl (z := p11) Int64.xor_zero ?_
 refine k_lastore X394 hx hZ e394 Vw394 ⟨by decide, by decide⟩ (i := 6) rfl (Nat.le_of_ble_eq_true rfl) (hb hby d2_34) (pc' := 35) rfl (fun T398 h398 X398 e398 W398 V398 => ?_)
 have Vw398 : Arv Z h398 a1 k28 .long (9 : Int32) [(.long p5), (.long p6), (.long p7), (.long p8), (.long p9), (.long p10), (.long p11), (.long p36), (.long p37)] (.long (0 : Int64)) := V398
 have N398 := Fr.snoc X398 N394 g_a1
 have Z398 : n0 ≤ h398.size := Nat.le_trans Z394 (Nat.le_of_eq W398.size.symm)
 refine k_iinc X398 hx (hb hby d2_35) rfl (pc' := 38) rfl (z := (7 : Int32)) (by decide) (Ls' := #[.val (.ref a1), .val (.ref a2), .val (.ref a3), .val (.long (0 : Int64)), .second, .val (.long (0 : Int64)), .second, .val (.int (7 : Int32))]) rfl ?_
 refine k_goto X398 hx (hb hby d2_38) (pc' := 7) (by decide) ?_
 refine k_iload X398 hx (hb hby d2_7) rfl (pc' := 9) rfl ?_
 refine k_bipush X398 hx (hb hby d2_9) (pc' := 11) rfl (z := (9 : Int32)) rfl ?_
 refine k_icmp_ge X398 hx (hb hby d2_11) (pn := 14) rfl (py := 41) (by decide) (fun hc => absurd (by decide) hc) (fun _ => ?_)
 refine k_aloadN X398 hx (hb hby d2_14) rfl rfl (pc' := 15) rfl ?_
 refine k_iload X398 hx (hb hby d2_15) rfl (pc' := 17) rfl ?_
 refine k_aloadN X398 hx (hb hby d2_17) rfl rfl (pc' := 18) rfl ?_
 refine k_iload X398 hx (hb hby d2_18) rfl (pc' := 20) rfl ?_
 have F399 := (F395.other W398 (Nat.ne_of_lt (Nat.lt_trans (Nat.lt_trans (Nat.lt_trans lt0_0 lt0_1) lt0_2) lt0_3)))
 refine k_laload X398 hx hZ e398 F399 ⟨by decide, by decide⟩ (v := (.long p12)) rfl (hb hby d2_20) (pc' := 21) rfl ?_
 refine k_aloadN X398 hx (hb hby d2_21) rfl rfl (pc' := 22) rfl ?_
 refine k_iload X398 hx (hb hby d2_22) rfl (pc' := 24) rfl ?_
 refine k_laload X398 hx hZ e398 F399 ⟨by decide, by decide⟩ (v := (.long p12)) rfl (hb hby d2_24) (pc' := 25) rfl ?_
 refine k_aloadN X398 hx (hb hby d2_25) rfl rfl (pc' := 26) rfl ?_
 refine k_iload X398 hx (hb hby d2_26) rfl (pc' := 28) rfl ?_
 have F400 := (F396.other W398 (Nat.ne_of_lt (Nat.lt_trans (Nat.lt_trans lt0_1 lt0_2) lt0_3)))
 refine k_laload X398 hx hZ e398 F400 ⟨by decide, by decide⟩ (v := (.long p22)) rfl (hb hby d2_28) (pc' := 29) rfl ?_
 refine k_lxor X398 hx (hb hby d2_29) (pc' := 30) rfl (fun v401 hv401 => ?_)
 refine k_lload X398 hx (hb hby d2_30) rfl (pc' := 32) rfl ?_
 refine k_landL X398 hx (hb hby d2_32) (pc' := 33) rfl (z := (0 : Int64)) Int64.and_zero ?_
 refine k_lxorL X398 hx (hb hby d2_33) (pc' := 34) rfl (z := p12) Int64.xor_zero ?_
 refine k_lastore X398 hx hZ e398 Vw398 ⟨by decide, by decide⟩ (i := 7) rfl (Nat.le_of_ble_eq_true rfl) (hb hby d2_34) (pc' := 35) rfl (fun T402 h402 X402 e402 W402 V402 => ?_)
 have Vw402 : Arv Z h402 a1 k28 .long (9 : Int32) [(.long p5), (.long p6), (.long p7), (.long p8), (.long p9), (.long p10), (.long p11), (.long p12), (.long p37)] (.long (0 : Int64)) := V402
 have N402 := Fr.snoc X402 N398 g_a1
 have Z402 : n0 ≤ h402.size := Nat.le_trans Z398 (Nat.le_of_eq W402.size.symm)
 refine k_iinc X402 hx (hb hby d2_35) rfl (pc' := 38) rfl (z := (8 : Int32)) (by decide) (Ls' := #[.val (.ref a1), .val (.ref a2), .val (.ref a3), .val (.long (0 : Int64)), .second, .val (.long (0 : Int64)), .second, .val (.int (8 : Int32))]) rfl ?_
 refine k_goto X402 hx (hb hby d2_38) (pc' := 7) (by decide) ?_
 refine k_iload X402 hx (hb hby d2_7) rfl (pc' := 9) rfl ?_
 refine k_bipush X402 hx (hb hby d2_9) (pc' := 11) rfl (z := (9 : Int32)) rfl ?_
 refine k_icmp_ge X402 hx (hb hby d2_11) (pn := 14) rfl (py := 41) (by decide) (fun hc => absurd (by decide) hc) (fun _ => ?_)
 refine k_aloadN X402 hx (hb hby d2_14) rfl rfl (pc' := 15) rfl ?_
 refine k_iload X402 hx (hb hby d2_15) rfl (pc' := 17) rfl ?_
 refine k_aloadN X402 hx (hb hby d2_17) rfl rfl (pc' := 18) rfl ?_
 refine k_iload X402 hx (hb hby d2_18) rfl (pc' := 20) rfl ?_
 have F403 := (F399.other W402 (Nat.ne_of_lt (Nat.lt_trans (Nat.lt_trans (Nat.lt_trans lt0_0 lt0_1) lt0_2) lt0_3)))
 refine k_laload X402 hx hZ e402 F403 ⟨by decide, by decide⟩ (v := (.long p13)) rfl (hb hby d2_20) (pc' := 21) rfl ?_
 refine k_aloadN X402 hx (hb hby d2_21) rfl rfl (pc' := 22) rfl ?_
 refine k_iload X402 hx (hb hby d2_22) rfl (pc' := 24) rfl ?_
 refine k_laload X402 hx hZ e402 F403 ⟨by decide, by decide⟩ (v := (.long p13)) rfl (hb hby d2_24) (pc' := 25) rfl ?_
 refine k_aloadN X402 hx (hb hby d2_25) rfl rfl (pc' := 26) rfl ?_
 refine k_iload X402 hx (hb hby d2_26) rfl (pc' := 28) rfl ?_
 have F404 := (F400.other W402 (Nat.ne_of_lt (Nat.lt_trans (Nat.lt_trans lt0_1 lt0_2) lt0_3)))
 refine k_laload X402 hx hZ e402 F404 ⟨by decide, by decide⟩ (v := (.long p23)) rfl (hb hby d2_28) (pc' := 29) rfl ?_
 refine k_lxor X402 hx (hb hby d2_29) (pc' := 30) rfl (fun v405 hv405 => ?_)
 refine k_lload X402 hx (hb hby d2_30) rfl (pc' := 32) rfl ?_
 refine k_landL X402 hx (hb hby d2_32) (pc' := 33) rfl (z := (0 : Int64)) Int64.and_zero ?_
 refine k_lxorL X402 hx (hb hby d2_33) (pc' := 34) rfl (z := p13) Int64.xor_zero ?_
 refine k_lastore X402 hx hZ e402 Vw402 ⟨by decide, by decide⟩ (i := 8) rfl (Nat.le_of_ble_eq_true rfl) (hb hby d2_34) (pc' := 35) rfl (fun T406 h406 X406 e406 W406 V406 => ?_)
 have Vw406 : Arv Z h406 a1 k28 .long (9 : Int32) [(.long p5), (.long p6), (.long p7), (.long p8), (.long p9), (.long p10), (.long p11), (.long p12), (.long p13)] (.long (0 : Int64)) := V406
 have N406 := Fr.snoc X406 N402 g_a1
 have Z406 : n0 ≤ h406.size := Nat.le_trans Z402 (Nat.le_of_eq W406.size.symm)
 refine k_iinc X406 hx (hb hby d2_35) rfl (pc' := 38) rfl (z := (9 : Int32)) (by decide) (Ls' := #[.val (.ref a1), .val (.ref a2), .val (.ref a3), .val (.long (0 : Int64)), .second, .val (.long (0 : Int64)), .second, .val (.int (9 : Int32))]) rfl ?_
 refine k_goto X406 hx (hb hby d2_38) (pc' := 7) (by decide) ?_
 refine k_iload X406 hx (hb hby d2_7) rfl (pc' := 9) rfl ?_
 refine k_bipush X406 hx (hb hby d2_9) (pc' := 11) rfl (z := (9 : Int32)) rfl ?_
 refine k_icmp_ge X406 hx (hb hby d2_11) (pn := 14) rfl (py := 41) (by decide) (fun _ => ?_) (fun hc => absurd hc (by decide))
 have F407 := (F403.other W406 (Nat.ne_of_lt (Nat.lt_trans (Nat.lt_trans (Nat.lt_trans lt0_0 lt0_1) lt0_2) lt0_3)))
 have F408 := (F404.other W406 (Nat.ne_of_lt (Nat.lt_trans (Nat.lt_trans lt0_1 lt0_2) lt0_3)))
 have F409 := (((((((((F0_4.other W374 (Nat.ne_of_lt (Nat.lt_trans lt0_2 lt0_3))).other W378 (Nat.ne_of_lt (Nat.lt_trans lt0_2 lt0_3))).other W382 (Nat.ne_of_lt (Nat.lt_trans lt0_2 lt0_3))).other W386 (Nat.ne_of_lt (Nat.lt_trans lt0_2 lt0_3))).other W390 (Nat.ne_of_lt (Nat.lt_trans lt0_2 lt0_3))).other W394 (Nat.ne_of_lt (Nat.lt_trans lt0_2 lt0_3))).other W398 (Nat.ne_of_lt (Nat.lt_trans lt0_2 lt0_3))).other W402 (Nat.ne_of_lt (Nat.lt_trans lt0_2 lt0_3))).other W406 (Nat.ne_of_lt (Nat.lt_trans lt0_2 lt0_3)))
 have F410 := (((((((((F0_6.other W374 (Nat.ne_of_lt lt0_3)).other W378 (Nat.ne_of_lt lt0_3)).other W382 (Nat.ne_of_lt lt0_3)).other W386 (Nat.ne_of_lt lt0_3)).other W390 (Nat.ne_of_lt lt0_3)).other W394 (Nat.ne_of_lt lt0_3)).other W398 (Nat.ne_of_lt lt0_3)).other W402 (Nat.ne_of_lt lt0_3)).other W406 (Nat.ne_of_lt lt0_3))
 exact k_ret X406 hx Bd.returns (hb hby d2_41) hlk (by decide) (by decide) (by rw [e406]; exact ⟨N406, ⟨rfl, F407, F408, F409, F410, Vw406, Z406⟩⟩)
theorem pd_1 : parseMethodDescriptor "([J[J[JJ)V" = some ⟨[(.array .long), (.array .long), (.array .long), .long], none⟩ := by decide +kernel
theorem d3_0 : decode method_4_code 0 = .ok (.aload_n 0, 1) := by decide +kernel
theorem d3_1 : decode method_4_code 1 = .ok (.iconst 0, 1) := by decide +kernel
theorem d3_2 : decode method_4_code 2 = .ok (.laload, 1) := by decide +kernel
theorem d3_3 : decode method_4_code 3 = .ok (.aload_n 1, 1) := by decide +kernel
theorem d3_4 : decode method_4_code 4 = .ok (.iconst 0, 1) := by decide +kernel
theorem d3_5 : decode method_4_code 5 = .ok (.laload, 1) := by decide +kernel
theorem d3_6 : decode method_4_code 6 = .ok (.lcmp, 1) := by decide +kernel
theorem d3_7 : decode method_4_code 7 = .ok (.ifCond .ne 93, 3) := by decide +kernel
theorem d3_10 : decode method_4_code 10 = .ok (.aload_n 0, 1) := by decide +kernel
theorem d3_11 : decode method_4_code 11 = .ok (.iconst 1, 1) := by decide +kernel
theorem d3_12 : decode method_4_code 12 = .ok (.laload, 1) := by decide +kernel
theorem d3_13 : decode method_4_code 13 = .ok (.aload_n 1, 1) := by decide +kernel
theorem d3_14 : decode method_4_code 14 = .ok (.iconst 1, 1) := by decide +kernel
theorem d3_15 : decode method_4_code 15 = .ok (.laload, 1) := by decide +kernel
theorem d3_16 : decode method_4_code 16 = .ok (.lcmp, 1) := by decide +kernel
theorem d3_17 : decode method_4_code 17 = .ok (.ifCond .ne 83, 3) := by decide +kernel
theorem d3_20 : decode method_4_code 20 = .ok (.aload_n 0, 1) := by decide +kernel
theorem d3_21 : decode method_4_code 21 = .ok (.iconst 2, 1) := by decide +kernel
theorem d3_22 : decode method_4_code 22 = .ok (.laload, 1) := by decide +kernel
theorem d3_23 : decode method_4_code 23 = .ok (.aload_n 1, 1) := by decide +kernel
theorem d3_24 : decode method_4_code 24 = .ok (.iconst 2, 1) := by decide +kernel
theorem d3_25 : decode method_4_code 25 = .ok (.laload, 1) := by decide +kernel
theorem d3_26 : decode method_4_code 26 = .ok (.lcmp, 1) := by decide +kernel
theorem d3_27 : decode method_4_code 27 = .ok (.ifCond .ne 73, 3) := by decide +kernel
theorem d3_30 : decode method_4_code 30 = .ok (.aload_n 0, 1) := by decide +kernel
theorem d3_31 : decode method_4_code 31 = .ok (.iconst 3, 1) := by decide +kernel
theorem d3_32 : decode method_4_code 32 = .ok (.laload, 1) := by decide +kernel
theorem d3_33 : decode method_4_code 33 = .ok (.aload_n 1, 1) := by decide +kernel
theorem d3_34 : decode method_4_code 34 = .ok (.iconst 3, 1) := by decide +kernel
theorem d3_35 : decode method_4_code 35 = .ok (.laload, 1) := by decide +kernel
theorem d3_36 : decode method_4_code 36 = .ok (.lcmp, 1) := by decide +kernel
theorem d3_37 : decode method_4_code 37 = .ok (.ifCond .ne 63, 3) := by decide +kernel
theorem d3_40 : decode method_4_code 40 = .ok (.aload_n 0, 1) := by decide +kernel
theorem d3_41 : decode method_4_code 41 = .ok (.iconst 4, 1) := by decide +kernel
theorem d3_42 : decode method_4_code 42 = .ok (.laload, 1) := by decide +kernel
theorem d3_43 : decode method_4_code 43 = .ok (.aload_n 1, 1) := by decide +kernel
theorem d3_44 : decode method_4_code 44 = .ok (.iconst 4, 1) := by decide +kernel
theorem d3_45 : decode method_4_code 45 = .ok (.laload, 1) := by decide +kernel
theorem d3_46 : decode method_4_code 46 = .ok (.lcmp, 1) := by decide +kernel
theorem d3_47 : decode method_4_code 47 = .ok (.ifCond .ne 53, 3) := by decide +kernel
theorem d3_50 : decode method_4_code 50 = .ok (.aload_n 0, 1) := by decide +kernel
theorem d3_51 : decode method_4_code 51 = .ok (.iconst 5, 1) := by decide +kernel
theorem d3_52 : decode method_4_code 52 = .ok (.laload, 1) := by decide +kernel
theorem d3_53 : decode method_4_code 53 = .ok (.aload_n 1, 1) := by decide +kernel
theorem d3_54 : decode method_4_code 54 = .ok (.iconst 5, 1) := by decide +kernel
theorem d3_55 : decode method_4_code 55 = .ok (.laload, 1) := by decide +kernel
theorem d3_56 : decode method_4_code 56 = .ok (.lcmp, 1) := by decide +kernel
theorem d3_57 : decode method_4_code 57 = .ok (.ifCond .ne 43, 3) := by decide +kernel
theorem d3_60 : decode method_4_code 60 = .ok (.aload_n 0, 1) := by decide +kernel
theorem d3_61 : decode method_4_code 61 = .ok (.bipush 6, 2) := by decide +kernel
theorem d3_63 : decode method_4_code 63 = .ok (.laload, 1) := by decide +kernel
theorem d3_64 : decode method_4_code 64 = .ok (.aload_n 1, 1) := by decide +kernel
theorem d3_65 : decode method_4_code 65 = .ok (.bipush 6, 2) := by decide +kernel
theorem d3_67 : decode method_4_code 67 = .ok (.laload, 1) := by decide +kernel
theorem d3_68 : decode method_4_code 68 = .ok (.lcmp, 1) := by decide +kernel
theorem d3_69 : decode method_4_code 69 = .ok (.ifCond .ne 31, 3) := by decide +kernel
theorem d3_72 : decode method_4_code 72 = .ok (.aload_n 0, 1) := by decide +kernel
theorem d3_73 : decode method_4_code 73 = .ok (.bipush 7, 2) := by decide +kernel
theorem d3_75 : decode method_4_code 75 = .ok (.laload, 1) := by decide +kernel
theorem d3_76 : decode method_4_code 76 = .ok (.aload_n 1, 1) := by decide +kernel
theorem d3_77 : decode method_4_code 77 = .ok (.bipush 7, 2) := by decide +kernel
theorem d3_79 : decode method_4_code 79 = .ok (.laload, 1) := by decide +kernel
theorem d3_80 : decode method_4_code 80 = .ok (.lcmp, 1) := by decide +kernel
theorem d3_81 : decode method_4_code 81 = .ok (.ifCond .ne 19, 3) := by decide +kernel
theorem d3_84 : decode method_4_code 84 = .ok (.aload_n 0, 1) := by decide +kernel
theorem d3_85 : decode method_4_code 85 = .ok (.bipush 8, 2) := by decide +kernel
theorem d3_87 : decode method_4_code 87 = .ok (.laload, 1) := by decide +kernel
theorem d3_88 : decode method_4_code 88 = .ok (.aload_n 1, 1) := by decide +kernel
theorem d3_89 : decode method_4_code 89 = .ok (.bipush 8, 2) := by decide +kernel
theorem d3_91 : decode method_4_code 91 = .ok (.laload, 1) := by decide +kernel
theorem d3_92 : decode method_4_code 92 = .ok (.lcmp, 1) := by decide +kernel
theorem d3_93 : decode method_4_code 93 = .ok (.ifCond .ne 7, 3) := by decide +kernel
theorem d3_96 : decode method_4_code 96 = .ok (.iconst 1, 1) := by decide +kernel
theorem d3_97 : decode method_4_code 97 = .ok (.goto 4, 3) := by decide +kernel
theorem d3_101 : decode method_4_code 101 = .ok (.ireturn, 1) := by decide +kernel
abbrev R3_418 : Room := { frames := 0, cells := 0, slots := 0, locals := 0 }
def Q3_418 (Z : State) (a1 : Addr) (a2 : Addr) (k3 : ClassId) (p4 : Int64) (p5 : Int64) (p6 : Int64) (p7 : Int64) (p8 : Int64) (p9 : Int64) (p10 : Int64) (p11 : Int64) (p12 : Int64) (k13 : ClassId) (h0 : Heap) (n0 : Nat) (v : Option Value) (h : Heap) (L : List Loc) : Prop := Fr n0 L ∧ h = h0 ∧ ((v = some (.int (1 : Int32))))
theorem ef3_418 (m : MethodId) (x0 : Addr) (x1 : Addr) : entryFrame m #[(.ref x0), (.ref x1)] 2 = mkF m 0 #[.val (.ref x0), .val (.ref x1)] [] := by first | (simp [entryFrame, mkF, argsToLocals, Value.category]; done) | rfl
set_option maxRecDepth 65536 in
set_option maxHeartbeats 40000000 in
theorem rm3_418 (l : Launch) (Z : State) (a0 : Array Value) (hw : ∀ d ∈ tables_1, d.before a0 Z = true) (ws : List Jvm.Cond) (a1 : Addr) (a2 : Addr) (k3 : ClassId) (p4 : Int64) (p5 : Int64) (p6 : Int64) (p7 : Int64) (p8 : Int64) (p9 : Int64) (p10 : Int64) (p11 : Int64) (p12 : Int64) (k13 : ClassId) (h0 : Heap) (n0 : Nat) (Z0 : n0 ≤ h0.size) (F0_0 : Arv Z h0 a1 k3 .long (9 : Int32) [(.long p4), (.long p5), (.long p6), (.long p7), (.long p8), (.long p9), (.long p10), (.long p11), (.long p12)] (.long (0 : Int64))) (F0_1 : Arv Z h0 a2 k13 .long (9 : Int32) [(.long p4), (.long p5), (.long p6), (.long p7), (.long p8), (.long p9), (.long p10), (.long p11), (.long p12)] (.long (0 : Int64))) (lt0_0 : a1 < a2) :
    MetFree l (⟨"com/example/portcullis/portcullis/protocol/FieldSelectPinLaw", "same", "([J[J)Z"⟩ : MethodName) (head1 (Jvm.Cond.code (⟨"com/example/portcullis/portcullis/protocol/FieldSelectPinLaw", "same", "([J[J)Z"⟩ : MethodName) method_4_code 2 (some .boolean) :: ws) R3_418) (fun a U => a = #[(.ref a1), (.ref a2)] ∧ Z.Warmed39 U.vm ∧ U.heap = h0) (fun _ _ _ _ _ => True) (fun _ U o U' => ∃ v L, o = .returned v ∧ Q3_418 Z a1 a2 k3 p4 p5 p6 p7 p8 p9 p10 p11 p12 k13 h0 n0 v U'.heap L ∧ FrameEnd U o U' L R3_418.cells R3_418.slots) := by
 refine MetFree.of_bodySF (plainFor_of_name pn_0) hisR ?_
 intro p e s m args below meth c s₁ Bd hml0 hP hK
 obtain ⟨rfl, hZ, hh⟩ := hP
 have hx := Bd.exec
 have hby := Bd.bytes
 have hml : c.maxLocals = 2 := hml0
 have hlk : meth.locks = false := Bd.notSynchronized
 have hown : s.vm.findClass "com/example/portcullis/portcullis/protocol/FieldSelectPinLaw" = some m.cls := findClass_of_methodNamed Bd.named
 have hnm := (name_of_methodNamed Bd.named Bd.method).1
 have X0 : Stand p l e R3_418 s m #[(.ref a1), (.ref a2)] below meth c s₁ [] 0 0 := Stand.of_body Bd
 have e0 : s₁.heap = h0 := by rw [← hh, Bd.state]; rfl
 have N0 := Fr.nil n0
 rw [ef3_418 m a1 a2]
 show KEnds p e below s R3_418.cells R3_418.slots (Q3_418 Z a1 a2 k3 p4 p5 p6 p7 p8 p9 p10 p11 p12 k13 h0 n0) s₁ (mkF m 0 #[.val (.ref a1), .val (.ref a2)] [])
 refine k_aloadN X0 hx (hb hby d3_0) rfl rfl (pc' := 1) rfl ?_
 refine k_iconst X0 hx (hb hby d3_1) (pc' := 2) rfl (z := (0 : Int32)) rfl ?_
 refine k_laload X0 hx hZ e0 F0_0 ⟨by decide, by decide⟩ (v := (.long p4)) rfl (hb hby d3_2) (pc' := 3) rfl ?_
 refine k_aloadN X0 hx (hb hby d3_3) rfl rfl (pc' := 4) rfl ?_
 refine k_iconst X0 hx (hb hby d3_4) (pc' := 5) rfl (z := (0 : Int32)) rfl ?_
 refine k_laload X0 hx hZ e0 F0_1 ⟨by decide, by decide⟩ (v := (.long p4)) rfl (hb hby d3_5) (pc' := 6) rfl ?_
 refine k_lcif_ne X0 hx (hb hby d3_6) (pm := 7) rfl (hb hby d3_7) (pn := 10) rfl (py := 100) (by decide) (fun hc => absurd rfl hc) (fun _ => ?_)
 refine k_aloadN X0 hx (hb hby d3_10) rfl rfl (pc' := 11) rfl ?_
 refine k_iconst X0 hx (hb hby d3_11) (pc' := 12) rfl (z := (1 : Int32)) rfl ?_
 refine k_laload X0 hx hZ e0 F0_0 ⟨by decide, by decide⟩ (v := (.long p5)) rfl (hb hby d3_12) (pc' := 13) rfl ?_
 refine k_aloadN X0 hx (hb hby d3_13) rfl rfl (pc' := 14) rfl ?_
 refine k_iconst X0 hx (hb hby d3_14) (pc' := 15) rfl (z := (1 : Int32)) rfl ?_
 refine k_laload X0 hx hZ e0 F0_1 ⟨by decide, by decide⟩ (v := (.long p5)) rfl (hb hby d3_15) (pc' := 16) rfl ?_
 refine k_lcif_ne X0 hx (hb hby d3_16) (pm := 17) rfl (hb hby d3_17) (pn := 20) rfl (py := 100) (by decide) (fun hc => absurd rfl hc) (fun _ => ?_)
 refine k_aloadN X0 hx (hb hby d3_20) rfl rfl (pc' := 21) rfl ?_
 refine k_iconst X0 hx (hb hby d3_21) (pc' := 22) rfl (z := (2 : Int32)) rfl ?_
 refine k_laload X0 hx hZ e0 F0_0 ⟨by decide, by decide⟩ (v := (.long p6)) rfl (hb hby d3_22) (pc' := 23) rfl ?_
 refine k_aloadN X0 hx (hb hby d3_23) rfl rfl (pc' := 24) rfl ?_
 refine k_iconst X0 hx (hb hby d3_24) (pc' := 25) rfl (z := (2 : Int32)) rfl ?_
 refine k_laload X0 hx hZ e0 F0_1 ⟨by decide, by decide⟩ (v := (.long p6)) rfl (hb hby d3_25) (pc' := 26) rfl ?_
 refine k_lcif_ne X0 hx (hb hby d3_26) (pm := 27) rfl (hb hby d3_27) (pn := 30) rfl (py := 100) (by decide) (fun hc => absurd rfl hc) (fun _ => ?_)
 refine k_aloadN X0 hx (hb hby d3_30) rfl rfl (pc' := 31) rfl ?_
 refine k_iconst X0 hx (hb hby d3_31) (pc' := 32) rfl (z := (3 : Int32)) rfl ?_
 refine k_laload X0 hx hZ e0 F0_0 ⟨by decide, by decide⟩ (v := (.long p7)) rfl (hb hby d3_32) (pc' := 33) rfl ?_
 refine k_aloadN X0 hx (hb hby d3_33) rfl rfl (pc' := 34) rfl ?_
 refine k_iconst X0 hx (hb hby d3_34) (pc' := 35) rfl (z := (3 : Int32)) rfl ?_
 refine k_laload X0 hx hZ e0 F0_1 ⟨by decide, by decide⟩ (v := (.long p7)) rfl (hb hby d3_35) (pc' := 36) rfl ?_
 refine k_lcif_ne X0 hx (hb hby d3_36) (pm := 37) rfl (hb hby d3_37) (pn := 40) rfl (py := 100) (by decide) (fun hc => absurd rfl hc) (fun _ => ?_)
 refine k_aloadN X0 hx (hb hby d3_40) rfl rfl (pc' := 41) rfl ?_
 refine k_iconst X0 hx (hb hby d3_41) (pc' := 42) rfl (z := (4 : Int32)) rfl ?_
 refine k_laload X0 hx hZ e0 F0_0 ⟨by decide, by decide⟩ (v := (.long p8)) rfl (hb hby d3_42) (pc' := 43) rfl ?_
 refine k_aloadN X0 hx (hb hby d3_43) rfl rfl (pc' := 44) rfl ?_
 refine k_iconst X0 hx (hb hby d3_44) (pc' := 45) rfl (z := (4 : Int32)) rfl ?_
 refine k_laload X0 hx hZ e0 F0_1 ⟨by decide, by decide⟩ (v := (.long p8)) rfl (hb hby d3_45) (pc' := 46) rfl ?_
 refine k_lcif_ne X0 hx (hb hby d3_46) (pm := 47) rfl (hb hby d3_47) (pn := 50) rfl (py := 100) (by decide) (fun hc => absurd rfl hc) (fun _ => ?_)
 refine k_aloadN X0 hx (hb hby d3_50) rfl rfl (pc' := 51) rfl ?_
 refine k_iconst X0 hx (hb hby d3_51) (pc' := 52) rfl (z := (5 : Int32)) rfl ?_
 refine k_laload X0 hx hZ e0 F0_0 ⟨by decide, by decide⟩ (v := (.long p9)) rfl (hb hby d3_52) (pc' := 53) rfl ?_
 refine k_aloadN X0 hx (hb hby d3_53) rfl rfl (pc' := 54) rfl ?_
 refine k_iconst X0 hx (hb hby d3_54) (pc' := 55) rfl (z := (5 : Int32)) rfl ?_
 refine k_laload X0 hx hZ e0 F0_1 ⟨by decide, by decide⟩ (v := (.long p9)) rfl (hb hby d3_55) (pc' := 56) rfl ?_
 refine k_lcif_ne X0 hx (hb hby d3_56) (pm := 57) rfl (hb hby d3_57) (pn := 60) rfl (py := 100) (by decide) (fun hc => absurd rfl hc) (fun _ => ?_)
 refine k_aloadN X0 hx (hb hby d3_60) rfl rfl (pc' := 61) rfl ?_
 refine k_bipush X0 hx (hb hby d3_61) (pc' := 63) rfl (z := (6 : Int32)) rfl ?_
 refine k_laload X0 hx hZ e0 F0_0 ⟨by decide, by decide⟩ (v := (.long p10)) rfl (hb hby d3_63) (pc' := 64) rfl ?_
 refine k_aloadN X0 hx (hb hby d3_64) rfl rfl (pc' := 65) rfl ?_
 refine k_bipush X0 hx (hb hby d3_65) (pc' := 67) rfl (z := (6 : Int32)) rfl ?_
 refine k_laload X0 hx hZ e0 F0_1 ⟨by decide, by decide⟩ (v := (.long p10)) rfl (hb hby d3_67) (pc' := 68) rfl ?_
 refine k_lcif_ne X0 hx (hb hby d3_68) (pm := 69) rfl (hb hby d3_69) (pn := 72) rfl (py := 100) (by decide) (fun hc => absurd rfl hc) (fun _ => ?_)
 refine k_aloadN X0 hx (hb hby d3_72) rfl rfl (pc' := 73) rfl ?_
 refine k_bipush X0 hx (hb hby d3_73) (pc' := 75) rfl (z := (7 : Int32)) rfl ?_
 refine k_laload X0 hx hZ e0 F0_0 ⟨by decide, by decide⟩ (v := (.long p11)) rfl (hb hby d3_75) (pc' := 76) rfl ?_
 refine k_aloadN X0 hx (hb hby d3_76) rfl rfl (pc' := 77) rfl ?_
 refine k_bipush X0 hx (hb hby d3_77) (pc' := 79) rfl (z := (7 : Int32)) rfl ?_
 refine k_laload X0 hx hZ e0 F0_1 ⟨by decide, by decide⟩ (v := (.long p11)) rfl (hb hby d3_79) (pc' := 80) rfl ?_
 refine k_lcif_ne X0 hx (hb hby d3_80) (pm := 81) rfl (hb hby d3_81) (pn := 84) rfl (py := 100) (by decide) (fun hc => absurd rfl hc) (fun _ => ?_)
 refine k_aloadN X0 hx (hb hby d3_84) rfl rfl (pc' := 85) rfl ?_
 refine k_bipush X0 hx (hb hby d3_85) (pc' := 87) rfl (z := (8 : Int32)) rfl ?_
 refine k_laload X0 hx hZ e0 F0_0 ⟨by decide, by decide⟩ (v := (.long p12)) rfl (hb hby d3_87) (pc' := 88) rfl ?_
 refine k_aloadN X0 hx (hb hby d3_88) rfl rfl (pc' := 89) rfl ?_
 refine k_bipush X0 hx (hb hby d3_89) (pc' := 91) rfl (z := (8 : Int32)) rfl ?_
 refine k_laload X0 hx hZ e0 F0_1 ⟨by decide, by decide⟩ (v := (.long p12)) rfl (hb hby d3_91) (pc' := 92) rfl ?_
 refine k_lcif_ne X0 hx (hb hby d3_92) (pm := 93) rfl (hb hby d3_93) (pn := 96) rfl (py := 100) (by decide) (fun hc => absurd rfl hc) (fun _ => ?_)
 refine k_iconst X0 hx (hb hby d3_96) (pc' := 97) rfl (z := (1 : Int32)) rfl ?_
 refine k_goto X0 hx (hb hby d3_97) (pc' := 101) (by decide) ?_
 exact k_retN X0 hx (t := .boolean) Bd.returns (by simp) (hb hby d3_101) hlk (by decide) (by decide) (z' := (1 : Int32)) rfl ⟨N0, e0, rfl⟩
theorem pd_2 : parseMethodDescriptor "([J[J)Z" = some ⟨[(.array .long), (.array .long)], some .boolean⟩ := by decide +kernel
abbrev R3_421 : Room := { frames := 0, cells := 0, slots := 0, locals := 0 }
def Q3_421 (Z : State) (a1 : Addr) (a2 : Addr) (k3 : ClassId) (p4 : Int64) (p5 : Int64) (p6 : Int64) (p7 : Int64) (p8 : Int64) (p9 : Int64) (p10 : Int64) (p11 : Int64) (p12 : Int64) (k13 : ClassId) (h0 : Heap) (n0 : Nat) (v : Option Value) (h : Heap) (L : List Loc) : Prop := Fr n0 L ∧ h = h0 ∧ ((v = some (.int (1 : Int32))))
theorem ef3_421 (m : MethodId) (x0 : Addr) (x1 : Addr) : entryFrame m #[(.ref x0), (.ref x1)] 2 = mkF m 0 #[.val (.ref x0), .val (.ref x1)] [] := by first | (simp [entryFrame, mkF, argsToLocals, Value.category]; done) | rfl
set_option maxRecDepth 65536 in
set_option maxHeartbeats 40000000 in
theorem rm3_421 (l : Launch) (Z : State) (a0 : Array Value) (hw : ∀ d ∈ tables_1, d.before a0 Z = true) (ws : List Jvm.Cond) (a1 : Addr) (a2 : Addr) (k3 : ClassId) (p4 : Int64) (p5 : Int64) (p6 : Int64) (p7 : Int64) (p8 : Int64) (p9 : Int64) (p10 : Int64) (p11 : Int64) (p12 : Int64) (k13 : ClassId) (h0 : Heap) (n0 : Nat) (Z0 : n0 ≤ h0.size) (F0_0 : Arv Z h0 a2 k3 .long (9 : Int32) [(.long p4), (.long p5), (.long p6), (.long p7), (.long p8), (.long p9), (.long p10), (.long p11), (.long p12)] (.long (0 : Int64))) (F0_1 : Arv Z h0 a1 k13 .long (9 : Int32) [(.long p4), (.long p5), (.long p6), (.long p7), (.long p8), (.long p9), (.long p10), (.long p11), (.long p12)] (.long (0 : Int64))) (lt0_0 : a2 < a1) :
    MetFree l (⟨"com/example/portcullis/portcullis/protocol/FieldSelectPinLaw", "same", "([J[J)Z"⟩ : MethodName) (head1 (Jvm.Cond.code (⟨"com/example/portcullis/portcullis/protocol/FieldSelectPinLaw", "same", "([J[J)Z"⟩ : MethodName) method_4_code 2 (some .boolean) :: ws) R3_421) (fun a U => a = #[(.ref a1), (.ref a2)] ∧ Z.Warmed39 U.vm ∧ U.heap = h0) (fun _ _ _ _ _ => True) (fun _ U o U' => ∃ v L, o = .returned v ∧ Q3_421 Z a1 a2 k3 p4 p5 p6 p7 p8 p9 p10 p11 p12 k13 h0 n0 v U'.heap L ∧ FrameEnd U o U' L R3_421.cells R3_421.slots) := by
 refine MetFree.of_bodySF (plainFor_of_name pn_0) hisR ?_
 intro p e s m args below meth c s₁ Bd hml0 hP hK
 obtain ⟨rfl, hZ, hh⟩ := hP
 have hx := Bd.exec
 have hby := Bd.bytes
 have hml : c.maxLocals = 2 := hml0
 have hlk : meth.locks = false := Bd.notSynchronized
 have hown : s.vm.findClass "com/example/portcullis/portcullis/protocol/FieldSelectPinLaw" = some m.cls := findClass_of_methodNamed Bd.named
 have hnm := (name_of_methodNamed Bd.named Bd.method).1
 have X0 : Stand p l e R3_421 s m #[(.ref a1), (.ref a2)] below meth c s₁ [] 0 0 := Stand.of_body Bd
 have e0 : s₁.heap = h0 := by rw [← hh, Bd.state]; rfl
 have N0 := Fr.nil n0
 rw [ef3_421 m a1 a2]
 show KEnds p e below s R3_421.cells R3_421.slots (Q3_421 Z a1 a2 k3 p4 p5 p6 p7 p8 p9 p10 p11 p12 k13 h0 n0) s₁ (mkF m 0 #[.val (.ref a1), .val (.ref a2)] [])
 refine k_aloadN X0 hx (hb hby d3_0) rfl rfl (pc' := 1) rfl ?_
 refine k_iconst X0 hx (hb hby d3_1) (pc' := 2) rfl (z := (0 : Int32)) rfl ?_
 refine k_laload X0 hx hZ e0 F0_1 ⟨by decide, by decide⟩ (v := (.long p4)) rfl (hb hby d3_2) (pc' := 3) rfl ?_
 refine k_aloadN X0 hx (hb hby d3_3) rfl rfl (pc' := 4) rfl ?_
 refine k_iconst X0 hx (hb hby d3_4) (pc' := 5) rfl (z := (0 : Int32)) rfl ?_
 refine k_laload X0 hx hZ e0 F0_0 ⟨by decide, by decide⟩ (v := (.long p4)) rfl (hb hby d3_5) (pc' := 6) rfl ?_
 refine k_lcif_ne X0 hx (hb hby d3_6) (pm := 7) rfl (hb hby d3_7) (pn := 10) rfl (py := 100) (by decide) (fun hc => absurd rfl hc) (fun _ => ?_)
 refine k_aloadN X0 hx (hb hby d3_10) rfl rfl (pc' := 11) rfl ?_
 refine k_iconst X0 hx (hb hby d3_11) (pc' := 12) rfl (z := (1 : Int32)) rfl ?_
 refine k_laload X0 hx hZ e0 F0_1 ⟨by decide, by decide⟩ (v := (.long p5)) rfl (hb hby d3_12) (pc' := 13) rfl ?_
 refine k_aloadN X0 hx (hb hby d3_13) rfl rfl (pc' := 14) rfl ?_
 refine k_iconst X0 hx (hb hby d3_14) (pc' := 15) rfl (z := (1 : Int32)) rfl ?_
 refine k_laload X0 hx hZ e0 F0_0 ⟨by decide, by decide⟩ (v := (.long p5)) rfl (hb hby d3_15) (pc' := 16) rfl ?_
 refine k_lcif_ne X0 hx (hb hby d3_16) (pm := 17) rfl (hb hby d3_17) (pn := 20) rfl (py := 100) (by decide) (fun hc => absurd rfl hc) (fun _ => ?_)
 refine k_aloadN X0 hx (hb hby d3_20) rfl rfl (pc' := 21) rfl ?_
 refine k_iconst X0 hx (hb hby d3_21) (pc' := 22) rfl (z := (2 : Int32)) rfl ?_
 refine k_laload X0 hx hZ e0 F0_1 ⟨by decide, by decide⟩ (v := (.long p6)) rfl (hb hby d3_22) (pc' := 23) rfl ?_
 refine k_aloadN X0 hx (hb hby d3_23) rfl rfl (pc' := 24) rfl ?_
 refine k_iconst X0 hx (hb hby d3_24) (pc' := 25) rfl (z := (2 : Int32)) rfl ?_
 refine k_laload X0 hx hZ e0 F0_0 ⟨by decide, by decide⟩ (v := (.long p6)) rfl (hb hby d3_25) (pc' := 26) rfl ?_
 refine k_lcif_ne X0 hx (hb hby d3_26) (pm := 27) rfl (hb hby d3_27) (pn := 30) rfl (py := 100) (by decide) (fun hc => absurd rfl hc) (fun _ => ?_)
 refine k_aloadN X0 hx (hb hby d3_30) rfl rfl (pc' := 31) rfl ?_
 refine k_iconst X0 hx (hb hby d3_31) (pc' := 32) rfl (z := (3 : Int32)) rfl ?_
 refine k_laload X0 hx hZ e0 F0_1 ⟨by decide, by decide⟩ (v := (.long p7)) rfl (hb hby d3_32) (pc' := 33) rfl ?_
 refine k_aloadN X0 hx (hb hby d3_33) rfl rfl (pc' := 34) rfl ?_
 refine k_iconst X0 hx (hb hby d3_34) (pc' := 35) rfl (z := (3 : Int32)) rfl ?_
 refine k_laload X0 hx hZ e0 F0_0 ⟨by decide, by decide⟩ (v := (.long p7)) rfl (hb hby d3_35) (pc' := 36) rfl ?_
 refine k_lcif_ne X0 hx (hb hby d3_36) (pm := 37) rfl (hb hby d3_37) (pn := 40) rfl (py := 100) (by decide) (fun hc => absurd rfl hc) (fun _ => ?_)
 refine k_aloadN X0 hx (hb hby d3_40) rfl rfl (pc' := 41) rfl ?_
 refine k_iconst X0 hx (hb hby d3_41) (pc' := 42) rfl (z := (4 : Int32)) rfl ?_
 refine k_laload X0 hx hZ e0 F0_1 ⟨by decide, by decide⟩ (v := (.long p8)) rfl (hb hby d3_42) (pc' := 43) rfl ?_
 refine k_aloadN X0 hx (hb hby d3_43) rfl rfl (pc' := 44) rfl ?_
 refine k_iconst X0 hx (hb hby d3_44) (pc' := 45) rfl (z := (4 : Int32)) rfl ?_
 refine k_laload X0 hx hZ e0 F0_0 ⟨by decide, by decide⟩ (v := (.long p8)) rfl (hb hby d3_45) (pc' := 46) rfl ?_
 refine k_lcif_ne X0 hx (hb hby d3_46) (pm := 47) rfl (hb hby d3_47) (pn := 50) rfl (py := 100) (by decide) (fun hc => absurd rfl hc) (fun _ => ?_)
 refine k_aloadN X0 hx (hb hby d3_50) rfl rfl (pc' := 51) rfl ?_
 refine k_iconst X0 hx (hb hby d3_51) (pc' := 52) rfl (z := (5 : Int32)) rfl ?_
 refine k_laload X0 hx hZ e0 F0_1 ⟨by decide, by decide⟩ (v := (.long p9)) rfl (hb hby d3_52) (pc' := 53) rfl ?_
 refine k_aloadN X0 hx (hb hby d3_53) rfl rfl (pc' := 54) rfl ?_
 refine k_iconst X0 hx (hb hby d3_54) (pc' := 55) rfl (z := (5 : Int32)) rfl ?_
 refine k_laload X0 hx hZ e0 F0_0 ⟨by decide, by decide⟩ (v := (.long p9)) rfl (hb hby d3_55) (pc' := 56) rfl ?_
 refine k_lcif_ne X0 hx (hb hby d3_56) (pm := 57) rfl (hb hby d3_57) (pn := 60) rfl (py := 100) (by decide) (fun hc => absurd rfl hc) (fun _ => ?_)
 refine k_aloadN X0 hx (hb hby d3_60) rfl rfl (pc' := 61) rfl ?_
 refine k_bipush X0 hx (hb hby d3_61) (pc' := 63) rfl (z := (6 : Int32)) rfl ?_
 refine k_laload X0 hx hZ e0 F0_1 ⟨by decide, by decide⟩ (v := (.long p10)) rfl (hb hby d3_63) (pc' := 64) rfl ?_
 refine k_aloadN X0 hx (hb hby d3_64) rfl rfl (pc' := 65) rfl ?_
 refine k_bipush X0 hx (hb hby d3_65) (pc' := 67) rfl (z := (6 : Int32)) rfl ?_
 refine k_laload X0 hx hZ e0 F0_0 ⟨by decide, by decide⟩ (v := (.long p10)) rfl (hb hby d3_67) (pc' := 68) rfl ?_
 refine k_lcif_ne X0 hx (hb hby d3_68) (pm := 69) rfl (hb hby d3_69) (pn := 72) rfl (py := 100) (by decide) (fun hc => absurd rfl hc) (fun _ => ?_)
 refine k_aloadN X0 hx (hb hby d3_72) rfl rfl (pc' := 73) rfl ?_
 refine k_bipush X0 hx (hb hby d3_73) (pc' := 75) rfl (z := (7 : Int32)) rfl ?_
 refine k_laload X0 hx hZ e0 F0_1 ⟨by decide, by decide⟩ (v := (.long p11)) rfl (hb hby d3_75) (pc' := 76) rfl ?_
 refine k_aloadN X0 hx (hb hby d3_76) rfl rfl (pc' := 77) rfl ?_
 refine k_bipush X0 hx (hb hby d3_77) (pc' := 79) rfl (z := (7 : Int32)) rfl ?_
 refine k_laload X0 hx hZ e0 F0_0 ⟨by decide, by decide⟩ (v := (.long p11)) rfl (hb hby d3_79) (pc' := 80) rfl ?_
 refine k_lcif_ne X0 hx (hb hby d3_80) (pm := 81) rfl (hb hby d3_81) (pn := 84) rfl (py := 100) (by decide) (fun hc => absurd rfl hc) (fun _ => ?_)
 refine k_aloadN X0 hx (hb hby d3_84) rfl rfl (pc' := 85) rfl ?_
 refine k_bipush X0 hx (hb hby d3_85) (pc' := 87) rfl (z := (8 : Int32)) rfl ?_
 refine k_laload X0 hx hZ e0 F0_1 ⟨by decide, by decide⟩ (v := (.long p12)) rfl (hb hby d3_87) (pc' := 88) rfl ?_
 refine k_aloadN X0 hx (hb hby d3_88) rfl rfl (pc' := 89) rfl ?_
 refine k_bipush X0 hx (hb hby d3_89) (pc' := 91) rfl (z := (8 : Int32)) rfl ?_
 refine k_laload X0 hx hZ e0 F0_0 ⟨by decide, by decide⟩ (v := (.long p12)) rfl (hb hby d3_91) (pc' := 92) rfl ?_
 refine k_lcif_ne X0 hx (hb hby d3_92) (pm := 93) rfl (hb hby d3_93) (pn := 96) rfl (py := 100) (by decide) (fun hc => absurd rfl hc) (fun _ => ?_)
 refine k_iconst X0 hx (hb hby d3_96) (pc' := 97) rfl (z := (1 : Int32)) rfl ?_
 refine k_goto X0 hx (hb hby d3_97) (pc' := 101) (by decide) ?_
 exact k_retN X0 hx (t := .boolean) Bd.returns (by simp) (hb hby d3_101) hlk (by decide) (by decide) (z' := (1 : Int32)) rfl ⟨N0, e0, rfl⟩
abbrev R2_424 : Room := { frames := 0, cells := 0, slots := 0, locals := 0 }
def Q2_424 (Z : State) (a1 : Addr) (a2 : Addr) (k3 : ClassId) (p4 : Int64) (p5 : Int64) (p6 : Int64) (p7 : Int64) (p8 : Int64) (p9 : Int64) (p10 : Int64) (p11 : Int64) (p12 : Int64) (k13 : ClassId) (p14 : Int64) (p15 : Int64) (p16 : Int64) (p17 : Int64) (p18 : Int64) (p19 : Int64) (p20 : Int64) (p21 : Int64) (p22 : Int64) (a23 : Addr) (k24 : ClassId) (a25 : Addr) (k26 : ClassId) (a27 : Addr) (k28 : ClassId) (p29 : Int64) (p30 : Int64) (p31 : Int64) (p32 : Int64) (p33 : Int64) (p34 : Int64) (p35 : Int64) (p36 : Int64) (p37 : Int64) (h0 : Heap) (n0 : Nat) (v : Option Value) (h : Heap) (L : List Loc) : Prop := Fr n0 L ∧ ((v = none ∧ Arv Z h a1 k3 .long (9 : Int32) [(.long p4), (.long p5), (.long p6), (.long p7), (.long p8), (.long p9), (.long p10), (.long p11), (.long p12)] (.long (0 : Int64)) ∧ Arv Z h a2 k13 .long (9 : Int32) [(.long p14), (.long p15), (.long p16), (.long p17), (.long p18), (.long p19), (.long p20), (.long p21), (.long p22)] (.long (0 : Int64)) ∧ Arv Z h a23 k24 .long (9 : Int32) [(.long p4), (.long p5), (.long p6), (.long p7), (.long p8), (.long p9), (.long p10), (.long p11), (.long p12)] (.long (0 : Int64)) ∧ Arv Z h a25 k26 .long (9 : Int32) [(.long p14), (.long p15), (.long p16), (.long p17), (.long p18), (.long p19), (.long p20), (.long p21), (.long p22)] (.long (0 : Int64)) ∧ Arv Z h a27 k28 .long (9 : Int32) [(.long p29), (.long p30), (.long p31), (.long p32), (.long p33), (.long p34), (.long p35), (.long p36), (.long p37)] (.long (0 : Int64)) ∧ n0 ≤ h.size))
theorem ef2_424 (m : MethodId) (x0 : Addr) (x1 : Addr) (x2 : Addr) : entryFrame m #[(.ref x0), (.ref x1), (.ref x2), (.long (0 : Int64))] 8 = mkF m 0 #[.val (.ref x0), .val (.ref x1), .val (.ref x2), .val (.long (0 : Int64)), .second, .unset, .unset, .unset] [] := by first | (simp [entryFrame, mkF, argsToLocals, Value.category]; done) | rfl
set_option maxRecDepth 65536 in
set_option maxHeartbeats 40000000 in
theorem rm2_424 (l : Launch) (Z : State) (a0 : Array Value) (hw : ∀ d ∈ tables_1, d.before a0 Z = true) (ws : List Jvm.Cond) (a1 : Addr) (a2 : Addr) (k3 : ClassId) (p4 : Int64) (p5 : Int64) (p6 : Int64) (p7 : Int64) (p8 : Int64) (p9 : Int64) (p10 : Int64) (p11 : Int64) (p12 : Int64) (k13 : ClassId) (p14 : Int64) (p15 : Int64) (p16 : Int64) (p17 : Int64) (p18 : Int64) (p19 : Int64) (p20 : Int64) (p21 : Int64) (p22 : Int64) (a23 : Addr) (k24 : ClassId) (a25 : Addr) (k26 : ClassId) (a27 : Addr) (k28 : ClassId) (p29 : Int64) (p30 : Int64) (p31 : Int64) (p32 : Int64) (p33 : Int64) (p34 : Int64) (p35 : Int64) (p36 : Int64) (p37 : Int64) (h0 : Heap) (n0 : Nat) (Z0 : n0 ≤ h0.size) (F0_0 : Arv Z h0 a1 k3 .long (9 : Int32) [(.long p4), (.long p5), (.long p6), (.long p7), (.long p8), (.long p9), (.long p10), (.long p11), (.long p12)] (.long (0 : Int64))) (g_a1 : n0 ≤ a1) (F0_2 : Arv Z h0 a2 k13 .long (9 : Int32) [(.long p14), (.long p15), (.long p16), (.long p17), (.long p18), (.long p19), (.long p20), (.long p21), (.long p22)] (.long (0 : Int64))) (g_a2 : n0 ≤ a2) (F0_4 : Arv Z h0 a23 k24 .long (9 : Int32) [(.long p4), (.long p5), (.long p6), (.long p7), (.long p8), (.long p9), (.long p10), (.long p11), (.long p12)] (.long (0 : Int64))) (g_a23 : n0 ≤ a23) (F0_6 : Arv Z h0 a25 k26 .long (9 : Int32) [(.long p14), (.long p15), (.long p16), (.long p17), (.long p18), (.long p19), (.long p20), (.long p21), (.long p22)] (.long (0 : Int64))) (g_a25 : n0 ≤ a25) (F0_8 : Arv Z h0 a27 k28 .long (9 : Int32) [(.long p29), (.long p30), (.long p31), (.long p32), (.long p33), (.long p34), (.long p35), (.long p36), (.long p37)] (.long (0 : Int64))) (g_a27 : n0 ≤ a27) (lt0_0 : a1 < a2) (lt0_1 : a2 < a23) (lt0_2 : a23 < a25) (lt0_3 : a25 < a27) :
    MetFree l (⟨"com/example/portcullis/portcullis/protocol/Field", "select", "([J[J[JJ)V"⟩ : MethodName) (head1 (Jvm.Cond.code (⟨"com/example/portcullis/portcullis/protocol/Field", "select", "([J[J[JJ)V"⟩ : MethodName) prog_3_method_12_code 8 none :: ws) R2_424) (fun a U => a = #[(.ref a1), (.ref a1), (.ref a2), (.long (0 : Int64))] ∧ Z.Warmed39 U.vm ∧ U.heap = h0) (fun _ _ _ _ _ => True) (fun _ U o U' => ∃ v L, o = .returned v ∧ Q2_424 Z a1 a2 k3 p4 p5 p6 p7 p8 p9 p10 p11 p12 k13 p14 p15 p16 p17 p18 p19 p20 p21 p22 a23 k24 a25 k26 a27 k28 p29 p30 p31 p32 p33 p34 p35 p36 p37 h0 n0 v U'.heap L ∧ FrameEnd U o U' L R2_424.cells R2_424.slots) := by
 refine MetFree.of_bodySF (plainFor_of_name pn_1) hisR ?_
 intro p e s m args below meth c s₁ Bd hml0 hP hK
 obtain ⟨rfl, hZ, hh⟩ := hP
 have hx := Bd.exec
 have hby := Bd.bytes
 have hml : c.maxLocals = 8 := hml0
 have hlk : meth.locks = false := Bd.notSynchronized
 have hown : s.vm.findClass "com/example/portcullis/portcullis/protocol/Field" = some m.cls := findClass_of_methodNamed Bd.named
 have hnm := (name_of_methodNamed Bd.named Bd.method).1
 have X0 : Stand p l e R2_424 s m #[(.ref a1), (.ref a1), (.ref a2), (.long (0 : Int64))] below meth c s₁ [] 0 0 := Stand.of_body Bd
 have e0 : s₁.heap = h0 := by rw [← hh, Bd.state]; rfl
 have N0 := Fr.nil n0
 rw [ef2_424 m a1 a1 a2]
 show KEnds p e below s R2_424.cells R2_424.slots (Q2_424 Z a1 a2 k3 p4 p5 p6 p7 p8 p9 p10 p11 p12 k13 p14 p15 p16 p17 p18 p19 p20 p21 p22 a23 k24 a25 k26 a27 k28 p29 p30 p31 p32 p33 p34 p35 p36 p37 h0 n0) s₁ (mkF m 0 #[.val (.ref a1), .val (.ref a1), .val (.ref a2), .val (.long (0 : Int64)), .second, .unset, .unset, .unset] [])
 refine k_lloadN X0 hx (hb hby d2_0) rfl (pc' := 1) rfl ?_
 refine k_lnegL X0 hx (hb hby d2_1) (pc' := 2) rfl (z := (0 : Int64)) (by decide) ?_
 refine k_lstore X0 hx (hb hby d2_2) (Ls' := #[.val (.ref a1), .val (.ref a1), .val (.ref a2), .val (.long (0 : Int64)), .second, .val (.long (0 : Int64)), .second, .unset]) rfl (pc' := 4) rfl ?_
 refine k_iconst X0 hx (hb hby d2_4) (pc' := 5) rfl (z := (0 : Int32)) rfl ?_
 refine k_istore X0 hx (hb hby d2_5) (Ls' := #[.val (.ref a1), .val (.ref a1), .val (.ref a2), .val (.long (0 : Int64)), .second, .val (.long (0 : Int64)), .second, .val (.int (0 : Int32))]) rfl (pc' := 7) rfl ?_
 refine k_iload X0 hx (hb hby d2_7) rfl (pc' := 9) rfl ?_
 refine k_bipush X0 hx (hb hby d2_9) (pc' := 11) rfl (z := (9 : Int32)) rfl ?_
 refine k_icmp_ge X0 hx (hb hby d2_11) (pn := 14) rfl (py := 41) (by decide) (fun hc => absurd (by decide) hc) (fun _ => ?_)
 refine k_aloadN X0 hx (hb hby d2_14) rfl rfl (pc' := 15) rfl ?_
 refine k_iload X0 hx (hb hby d2_15) rfl (pc' := 17) rfl ?_
 refine k_aloadN X0 hx (hb hby d2_17) rfl rfl (pc' := 18) rfl ?_
 refine k_iload X0 hx (hb hby d2_18) rfl (pc' := 20) rfl ?_
 refine k_laload X0 hx hZ e0 F0_0 ⟨by decide, by decide⟩ (v := (.long p4)) rfl (hb hby d2_20) (pc' := 21) rfl ?_
 refine k_aloadN X0 hx (hb hby d2_21) rfl rfl (pc' := 22) rfl ?_
 refine k_iload X0 hx (hb hby d2_22) rfl (pc' := 24) rfl ?_
 refine k_laload X0 hx hZ e0 F0_0 ⟨by decide, by decide⟩ (v := (.long p4)) rfl (hb hby d2_24) (pc' := 25) rfl ?_
 refine k_aloadN X0 hx (hb hby d2_25) rfl rfl (pc' := 26) rfl ?_
 refine k_iload X0 hx (hb hby d2_26) rfl (pc' := 28) rfl ?_
 refine k_laload X0 hx hZ e0 F0_2 ⟨by decide, by decide⟩ (v := (.long p14)) rfl (hb hby d2_28) (pc' := 29) rfl ?_
 refine k_lxor X0 hx (hb hby d2_29) (pc' := 30) rfl (fun v425 hv425 => ?_)
 refine k_lload X0 hx (hb hby d2_30) rfl (pc' := 32) rfl ?_
 refine k_landL X0 hx (hb hby d2_32) (pc' := 33) rfl (z := (0 : Int64)) Int64.and_zero ?_
 refine k_lxorL X0 hx (hb hby d2_33) (pc' := 34) rfl (z := p4) Int64.xor_zero ?_
 refine k_lastore X0 hx hZ e0 F0_0 ⟨by decide, by decide⟩ (i := 0) rfl (Nat.le_of_ble_eq_true rfl) (hb hby d2_34) (pc' := 35) rfl (fun T426 h426 X426 e426 W426 V426 => ?_)
 have Vw426 : Arv Z h426 a1 k3 .long (9 : Int32) [(.long p4), (.long p5), (.long p6), (.long p7), (.long p8), (.long p9), (.long p10), (.long p11), (.long p12)] (.long (0 : Int64)) := V426
 have N426 := Fr.snoc X426 N0 g_a1
 have Z426 : n0 ≤ h426.size := Nat.le_trans Z0 (Nat.le_of_eq W426.size.symm)
 refine k_iinc X426 hx (hb hby d2_35) rfl (pc' := 38) rfl (z := (1 : Int32)) (by decide) (Ls' := #[.val (.ref a1), .val (.ref a1), .val (.ref a2), .val (.long (0 : Int64)), .second, .val (.long (0 : Int64)), .second, .val (.int (1 : Int32))]) rfl ?_
 refine k_goto X426 hx (hb hby d2_38) (pc' := 7) (by decide) ?_
 refine k_iload X426 hx (hb hby d2_7) rfl (pc' := 9) rfl ?_
 refine k_bipush X426 hx (hb hby d2_9) (pc' := 11) rfl (z := (9 : Int32)) rfl ?_
 refine k_icmp_ge X426 hx (hb hby d2_11) (pn := 14) rfl (py := 41) (by decide) (fun hc => absurd (by decide) hc) (fun _ => ?_)
 refine k_aloadN X426 hx (hb hby d2_14) rfl rfl (pc' := 15) rfl ?_
 refine k_iload X426 hx (hb hby d2_15) rfl (pc' := 17) rfl ?_
 refine k_aloadN X426 hx (hb hby d2_17) rfl rfl (pc' := 18) rfl ?_
 refine k_iload X426 hx (hb hby d2_18) rfl (pc' := 20) rfl ?_
 refine k_laload X426 hx hZ e426 Vw426 ⟨by decide, by decide⟩ (v := (.long p5)) rfl (hb hby d2_20) (pc' := 21) rfl ?_
 refine k_aloadN X426 hx (hb hby d2_21) rfl rfl (pc' := 22) rfl ?_
 refine k_iload X426 hx (hb hby d2_22) rfl (pc' := 24) rfl ?_
 refine k_laload X426 hx hZ e426 Vw426 ⟨by decide, by decide⟩ (v := (.long p5)) rfl (hb hby d2_24) (pc' := 25) rfl ?_
 refine k_aloadN X426 hx (hb hby d2_25) rfl rfl (pc' := 26) rfl ?_
 refine k_iload X426 hx (hb hby d2_26) rfl (pc' := 28) rfl ?_
 have F427 := (F0_2.other W426 (Ne.symm (Nat.ne_of_lt lt0_0)))
 refine k_laload X426 hx hZ e426 F427 ⟨by decide, by decide⟩ (v := (.long p15)) rfl (hb hby d2_28) (pc' := 29) rfl ?_
 refine k_lxor X426 hx (hb hby d2_29) (pc' := 30) rfl (fun v428 hv428 => ?_)
 refine k_lload X426 hx (hb hby d2_30) rfl (pc' := 32) rfl ?_
 refine k_landL X426 hx (hb hby d2_32) (pc' := 33) rfl (z := (0 : Int64)) Int64.and_zero ?_
 refine k_lxorL X426 hx (hb hby d2_33) (pc' := 34) rfl (z := p5) Int64.xor_zero ?_
 refine k_lastore X426 hx hZ e426 Vw426 ⟨by decide, by decide⟩ (i := 1) rfl (Nat.le_of_ble_eq_true rfl) (hb hby d2_34) (pc' := 35) rfl (fun T429 h429 X429 e429 W429 V429 => ?_)
 have Vw429 : Arv Z h429 a1 k3 .long (9 : Int32) [(.long p4), (.long p5), (.long p6), (.long p7), (.long p8), (.long p9), (.long p10), (.long p11), (.long p12)] (.long (0 : Int64)) := V429
 have N429 := Fr.snoc X429 N426 g_a1
 have Z429 : n0 ≤ h429.size := Nat.le_trans Z426 (Nat.le_of_eq W429.size.symm)
 refine k_iinc X429 hx (hb hby d2_35) rfl (pc' := 38) rfl (z := (2 : Int32)) (by decide) (Ls' := #[.val (.ref a1), .val (.ref a1), .val (.ref a2), .val (.long (0 : Int64)), .second, .val (.long (0 : Int64)), .second, .val (.int (2 : Int32))]) rfl ?_
 refine k_goto X429 hx (hb hby d2_38) (pc' := 7) (by decide) ?_
 refine k_iload X429 hx (hb hby d2_7) rfl (pc' := 9) rfl ?_
 refine k_bipush X429 hx (hb hby d2_9) (pc' := 11) rfl (z := (9 : Int32)) rfl ?_
 refine k_icmp_ge X429 hx (hb hby d2_11) (pn := 14) rfl (py := 41) (by decide) (fun hc => absurd (by decide) hc) (fun _ => ?_)
 refine k_aloadN X429 hx (hb hby d2_14) rfl rfl (pc' := 15) rfl ?_
 refine k_iload X429 hx (hb hby d2_15) rfl (pc' := 17) rfl ?_
 refine k_aloadN X429 hx (hb hby d2_17) rfl rfl (pc' := 18) rfl ?_
 refine k_iload X429 hx (hb hby d2_18) rfl (pc' := 20) rfl ?_
 refine k_laload X429 hx hZ e429 Vw429 ⟨by decide, by decide⟩ (v := (.long p6)) rfl (hb hby d2_20) (pc' := 21) rfl ?_
 refine k_aloadN X429 hx (hb hby d2_21) rfl rfl (pc' := 22) rfl ?_
 refine k_iload X429 hx (hb hby d2_22) rfl (pc' := 24) rfl ?_
 refine k_laload X429 hx hZ e429 Vw429 ⟨by decide, by decide⟩ (v := (.long p6)) rfl (hb hby d2_24) (pc' := 25) rfl ?_
 refine k_aloadN X429 hx (hb hby d2_25) rfl rfl (pc' := 26) rfl ?_
 refine k_iload X429 hx (hb hby d2_26) rfl (pc' := 28) rfl ?_
 have F430 := (F427.other W429 (Ne.symm (Nat.ne_of_lt lt0_0)))
 refine k_laload X429 hx hZ e429 F430 ⟨by decide, by decide⟩ (v := (.long p16)) rfl (hb hby d2_28) (pc' := 29) rfl ?_
 refine k_lxor X429 hx (hb hby d2_29) (pc' := 30) rfl (fun v431 hv431 => ?_)
 refine k_lload X429 hx (hb hby d2_30) rfl (pc' := 32) rfl ?_
 refine k_landL X429 hx (hb hby d2_32) (pc' := 33) rfl (z := (0 : Int64)) Int64.and_zero ?_
 refine k_lxorL X429 hx (hb hby d2_33) (pc' := 34) rfl (z := p6) Int64.xor_zero ?_
 refine k_lastore X429 hx hZ e429 Vw429 ⟨by decide, by decide⟩ (i := 2) rfl (Nat.le_of_ble_eq_true rfl) (hb hby d2_34) (pc' := 35) rfl (fun T432 h432 X432 e432 W432 V432 => ?_)
 have Vw432 : Arv Z h432 a1 k3 .long (9 : Int32) [(.long p4), (.long p5), (.long p6), (.long p7), (.long p8), (.long p9), (.long p10), (.long p11), (.long p12)] (.long (0 : Int64)) := V432
 have N432 := Fr.snoc X432 N429 g_a1
 have Z432 : n0 ≤ h432.size := Nat.le_trans Z429 (Nat.le_of_eq W432.size.symm)
 refine k_iinc X432 hx (hb hby d2_35) rfl (pc' := 38) rfl (z := (3 : Int32)) (by decide) (Ls' := #[.val (.ref a1), .val (.ref a1), .val (.ref a2), .val (.long (0 : Int64)), .second, .val (.long (0 : Int64)), .second, .val (.int (3 : Int32))]) rfl ?_
 refine k_goto X432 hx (hb hby d2_38) (pc' := 7) (by decide) ?_
 refine k_iload X432 hx (hb hby d2_7) rfl (pc' := 9) rfl ?_
 refine k_bipush X432 hx (hb hby d2_9) (pc' := 11) rfl (z := (9 : Int32)) rfl ?_
 refine k_icmp_ge X432 hx (hb hby d2_11) (pn := 14) rfl (py := 41) (by decide) (fun hc => absurd (by decide) hc) (fun _ => ?_)
 refine k_aloadN X432 hx (hb hby d2_14) rfl rfl (pc' := 15) rfl ?_
 refine k_iload X432 hx (hb hby d2_15) rfl (pc' := 17) rfl ?_
 refine k_aloadN X432 hx (hb hby d2_17) rfl rfl (pc' := 18) rfl ?_
 refine k_iload X432 hx (hb hby d2_18) rfl (pc' := 20) rfl ?_
 refine k_laload X432 hx hZ e432 Vw432 ⟨by decide, by decide⟩ (v := (.long p7)) rfl (hb hby d2_20) (pc' := 21) rfl ?_
 refine k_aloadN X432 hx (hb hby d2_21) rfl rfl (pc' := 22) rfl ?_
 refine k_iload X432 hx (hb hby d2_22) rfl (pc' := 24) rfl ?_
 refine k_laload X432 hx hZ e432 Vw432 ⟨by decide, by decide⟩ (v := (.long p7)) rfl (hb hby d2_24) (pc' := 25) rfl ?_
 refine k_aloadN X432 hx (hb hby d2_25) rfl rfl (pc' := 26) rfl ?_
 refine k_iload X432 hx (hb hby d2_26) rfl (pc' := 28) rfl ?_
 have F433 := (F430.other W432 (Ne.symm (Nat.ne_of_lt lt0_0)))
 refine k_laload X432 hx hZ e432 F433 ⟨by decide, by decide⟩ (v := (.long p17)) rfl (hb hby d2_28) (pc' := 29) rfl ?_
 refine k_lxor X432 hx (hb hby d2_29) (pc' := 30) rfl (fun v434 hv434 => ?_)
 refine k_lload X432 hx (hb hby d2_30) rfl (pc' := 32) rfl ?_
 refine k_landL X432 hx (hb hby d2_32) (pc' := 33) rfl (z := (0 : Int64)) Int64.and_zero ?_
 refine k_lxorL X432 hx (hb hby d2_33) (pc' := 34) rfl (z := p7) Int64.xor_zero ?_
 refine k_lastore X432 hx hZ e432 Vw432 ⟨by decide, by decide⟩ (i := 3) rfl (Nat.le_of_ble_eq_true rfl) (hb hby d2_34) (pc' := 35) rfl (fun T435 h435 X435 e435 W435 V435 => ?_)
 have Vw435 : Arv Z h435 a1 k3 .long (9 : Int32) [(.long p4), (.long p5), (.long p6), (.long p7), (.long p8), (.long p9), (.long p10), (.long p11), (.long p12)] (.long (0 : Int64)) := V435
 have N435 := Fr.snoc X435 N432 g_a1
 have Z435 : n0 ≤ h435.size := Nat.le_trans Z432 (Nat.le_of_eq W435.size.symm)
 refine k_iinc X435 hx (hb hby d2_35) rfl (pc' := 38) rfl (z := (4 : Int32)) (by decide) (Ls' := #[.val (.ref a1), .val (.ref a1), .val (.ref a2), .val (.long (0 : Int64)), .second, .val (.long (0 : Int64)), .second, .val (.int (4 : Int32))]) rfl ?_
 refine k_goto X435 hx (hb hby d2_38) (pc' := 7) (by decide) ?_
 refine k_iload X435 hx (hb hby d2_7) rfl (pc' := 9) rfl ?_
 refine k_bipush X435 hx (hb hby d2_9) (pc' := 11) rfl (z := (9 : Int32)) rfl ?_
 refine k_icmp_ge X435 hx (hb hby d2_11) (pn := 14) rfl (py := 41) (by decide) (fun hc => absurd (by decide) hc) (fun _ => ?_)
 refine k_aloadN X435 hx (hb hby d2_14) rfl rfl (pc' := 15) rfl ?_
 refine k_iload X435 hx (hb hby d2_15) rfl (pc' := 17) rfl ?_
 refine k_aloadN X435 hx (hb hby d2_17) rfl rfl (pc' := 18) rfl ?_
 refine k_iload X435 hx (hb hby d2_18) rfl (pc' := 20) rfl ?_
 refine k_laload X435 hx hZ e435 Vw435 ⟨by decide, by decide⟩ (v := (.long p8)) rfl (hb hby d2_20) (pc' := 21) rfl ?_
 refine k_aloadN X435 hx (hb hby d2_21) rfl rfl (pc' := 22) rfl ?_
 refine k_iload X435 hx (hb hby d2_22) rfl (pc' := 24) rfl ?_
 refine k_laload X435 hx hZ e435 Vw435 ⟨by decide, by decide⟩ (v := (.long p8)) rfl (hb hby d2_24) (pc' := 25) rfl ?_
 refine k_aloadN X435 hx (hb hby d2_25) rfl rfl (pc' := 26) rfl ?_
 refine k_iload X435 hx (hb hby d2_26) rfl (pc' := 28) rfl ?_
 have F436 := (F433.other W435 (Ne.symm (Nat.ne_of_lt lt0_0)))
 refine k_laload X435 hx hZ e435 F436 ⟨by decide, by decide⟩ (v := (.long p18)) rfl (hb hby d2_28) (pc' := 29) rfl ?_
 refine k_lxor X435 hx (hb hby d2_29) (pc' := 30) rfl (fun v437 hv437 => ?_)
 refine k_lload X435 hx (hb hby d2_30) rfl (pc' := 32) rfl ?_
 refine k_landL X435 hx (hb hby d2_32) (pc' := 33) rfl (z := (0 : Int64)) Int64.and_zero ?_
 refine k_lxorL X435 hx (hb hby d2_33) (pc' := 34) rfl (z := p8) Int64.xor_zero ?_
 refine k_lastore X435 hx hZ e435 Vw435 ⟨by decide, by decide⟩ (i := 4) rfl (Nat.le_of_ble_eq_true rfl) (hb hby d2_34) (pc' := 35) rfl (fun T438 h438 X438 e438 W438 V438 => ?_)
 have Vw438 : Arv Z h438 a1 k3 .long (9 : Int32) [(.long p4), (.long p5), (.long p6), (.long p7), (.long p8), (.long p9), (.long p10), (.long p11), (.long p12)] (.long (0 : Int64)) := V438
 have N438 := Fr.snoc X438 N435 g_a1
 have Z438 : n0 ≤ h438.size := Nat.le_trans Z435 (Nat.le_of_eq W438.size.symm)
 refine k_iinc X438 hx (hb hby d2_35) rfl (pc' := 38) rfl (z := (5 : Int32)) (by decide) (Ls' := #[.val (.ref a1), .val (.ref a1), .val (.ref a2), .val (.long (0 : Int64)), .second, .val (.long (0 : Int64)), .second, .val (.int (5 : Int32))]) rfl ?_
 refine k_goto X438 hx (hb hby d2_38) (pc' := 7) (by decide) ?_
 refine k_iload X438 hx (hb hby d2_7) rfl (pc' := 9) rfl ?_
 refine k_bipush X438 hx (hb hby d2_9) (pc' := 11) rfl (z := (9 : Int32)) rfl ?_
 refine k_icmp_ge X438 hx (hb hby d2_11) (pn := 14) rfl (py := 41) (by decide) (fun hc => absurd (by decide) hc) (fun _ => ?_)
 refine k_aloadN X438 hx (hb hby d2_14) rfl rfl (pc' := 15) rfl ?_
 refine k_iload X438 hx (hb hby d2_15) rfl (pc' := 17) rfl ?_
 refine k_aloadN X438 hx (hb hby d2_17) rfl rfl (pc' := 18) rfl ?_
 refine k_iload X438 hx (hb hby d2_18) rfl (pc' := 20) rfl ?_
 refine k_laload X438 hx hZ e438 Vw438 ⟨by decide, by decide⟩ (v := (.long p9)) rfl (hb hby d2_20) (pc' := 21) rfl ?_
 refine k_aloadN X438 hx (hb hby d2_21) rfl rfl (pc' := 22) rfl ?_
 refine k_iload X438 hx (hb hby d2_22) rfl (pc' := 24) rfl ?_
 refine k_laload X438 hx hZ e438 Vw438 ⟨by decide, by decide⟩ (v := (.long p9)) rfl (hb hby d2_24) (pc' := 25) rfl ?_
 refine k_aloadN X438 hx (hb hby d2_25) rfl rfl (pc' := 26) rfl ?_
 refine k_iload X438 hx (hb hby d2_26) rfl (pc' := 28) rfl ?_
 have F439 := (F436.other W438 (Ne.symm (Nat.ne_of_lt lt0_0)))
 refine k_laload X438 hx hZ e438 F439 ⟨by decide, by decide⟩ (v := (.long p19)) rfl (hb hby d2_28) (pc' := 29) rfl ?_
 refine k_lxor X438 hx (hb hby d2_29) (pc' := 30) rfl (fun v440 hv440 => ?_)
 refine k_lload X438 hx (hb hby d2_30) rfl (pc' := 32) rfl ?_
 refine k_landL X438 hx (hb hby d2_32) (pc' := 33) rfl (z := (0 : Int64)) Int64.and_zero ?_
 refine k_lxorL X438 hx (hb hby d2_33) (pc' := 34) rfl (z := p9) Int64.xor_zero ?_
 refine k_lastore X438 hx hZ e438 Vw438 ⟨by decide, by decide⟩ (i := 5) rfl (Nat.le_of_ble_eq_true rfl) (hb hby d2_34) (pc' := 35) rfl (fun T441 h441 X441 e441 W441 V441 => ?_)
 have Vw441 : Arv Z h441 a1 k3 .long (9 : Int32) [(.long p4), (.long p5), (.long p6), (.long p7), (.long p8), (.long p9), (.long p10), (.long p11), (.long p12)] (.long (0 : Int64)) := V441
 have N441 := Fr.snoc X441 N438 g_a1
 have Z441 : n0 ≤ h441.size := Nat.le_trans Z438 (Nat.le_of_eq W441.size.symm)
 refine k_iinc X441 hx (hb hby d2_35) rfl (pc' := 38) rfl (z := (6 : Int32)) (by decide) (Ls' := #[.val (.ref a1), .val (.ref a1), .val (.ref a2), .val (.long (0 : Int64)), .second, .val (.long (0 : Int64)), .second, .val (.int (6 : Int32))]) rfl ?_
 refine k_goto X441 hx (hb hby d2_38) (pc' := 7) (by decide) ?_
 refine k_iload X441 hx (hb hby d2_7) rfl (pc' := 9) rfl ?_
 refine k_bipush X441 hx (hb hby d2_9) (pc' := 11) rfl (z := (9 : Int32)) rfl ?_
 refine k_icmp_ge X441 hx (hb hby d2_11) (pn := 14) rfl (py := 41) (by decide) (fun hc => absurd (by decide) hc) (fun _ => ?_)
 refine k_aloadN X441 hx (hb hby d2_14) rfl rfl (pc' := 15) rfl ?_
 refine k_iload X441 hx (hb hby d2_15) rfl (pc' := 17) rfl ?_
 refine k_aloadN X441 hx (hb hby d2_17) rfl rfl (pc' := 18) rfl ?_
 refine k_iload X441 hx (hb hby d2_18) rfl (pc' := 20) rfl ?_
 refine k_laload X441 hx hZ e441 Vw441 ⟨by decide, by decide⟩ (v := (.long p10)) rfl (hb hby d2_20) (pc' := 21) rfl ?_
 refine k_aloadN X441 hx (hb hby d2_21) rfl rfl (pc' := 22) rfl ?_
 refine k_iload X441 hx (hb hby d2_22) rfl (pc' := 24) rfl ?_
 refine k_laload X441 hx hZ e441 Vw441 ⟨by decide, by decide⟩ (v := (.long p10)) rfl (hb hby d2_24) (pc' := 25) rfl ?_
 refine k_aloadN X441 hx (hb hby d2_25) rfl rfl (pc' := 26) rfl ?_
 refine k_iload X441 hx (hb hby d2_26) rfl (pc' := 28) rfl ?_
 have F442 := (F439.other W441 (Ne.symm (Nat.ne_of_lt lt0_0)))
 refine k_laload X441 hx hZ e441 F442 ⟨by decide, by decide⟩ (v := (.long p20)) rfl (hb hby d2_28) (pc' := 29) rfl ?_
 refine k_lxor X441 hx (hb hby d2_29) (pc' := 30) rfl (fun v443 hv443 => ?_)
 refine k_lload X441 hx (hb hby d2_30) rfl (pc' := 32) rfl ?_
 refine k_landL X441 hx (hb hby d2_32) (pc' := 33) rfl (z := (0 : Int64)) Int64.and_zero ?_
 refine k_lxorL X441 hx (hb hby d2_33) (pc' := 34) rfl (z := p10) Int64.xor_zero ?_
 refine k_lastore X441 hx hZ e441 Vw441 ⟨by decide, by decide⟩ (i := 6) rfl (Nat.le_of_ble_eq_true rfl) (hb hby d2_34) (pc' := 35) rfl (fun T444 h444 X444 e444 W444 V444 => ?_)
 have Vw444 : Arv Z h444 a1 k3 .long (9 : Int32) [(.long p4), (.long p5), (.long p6), (.long p7), (.long p8), (.long p9), (.long p10), (.long p11), (.long p12)] (.long (0 : Int64)) := V444
 have N444 := Fr.snoc X444 N441 g_a1
 have Z444 : n0 ≤ h444.size := Nat.le_trans Z441 (Nat.le_of_eq W444.size.symm)
 refine k_iinc X444 hx (hb hby d2_35) rfl (pc' := 38) rfl (z := (7 : Int32)) (by decide) (Ls' := #[.val (.ref a1), .val (.ref a1), .val (.ref a2), .val (.long (0 : Int64)), .second, .val (.long (0 : Int64)), .second, .val (.int (7 : Int32))]) rfl ?_
 refine k_goto X444 hx (hb hby d2_38) (pc' := 7) (by decide) ?_
 refine k_iload X444 hx (hb hby d2_7) rfl (pc' := 9) rfl ?_
 refine k_bipush X444 hx (hb hby d2_9) (pc' := 11) rfl (z := (9 : Int32)) rfl ?_
 refine k_icmp_ge X444 hx (hb hby d2_11) (pn := 14) rfl (py := 41) (by decide) (fun hc => absurd (by decide) hc) (fun _ => ?_)
 refine k_aloadN X444 hx (hb hby d2_14) rfl rfl (pc' := 15) rfl ?_
 refine k_iload X444 hx (hb hby d2_15) rfl (pc' := 17) rfl ?_
 refine k_aloadN X444 hx (hb hby d2_17) rfl rfl (pc' := 18) rfl ?_
 refine k_iload X444 hx (hb hby d2_18) rfl (pc' := 20) rfl ?_
 refine k_laload X444 hx hZ e444 Vw444 ⟨by decide, by decide⟩ (v := (.long p11)) rfl (hb hby d2_20) (pc' := 21) rfl ?_
 refine k_aloadN X444 hx (hb hby d2_21) rfl rfl (pc' := 22) rfl ?_
 refine k_iload X444 hx (hb hby d2_22) rfl (pc' := 24) rfl ?_
 refine k_laload X444 hx hZ e444 Vw444 ⟨by decide, by decide⟩ (v := (.long p11)) rfl (hb hby d2_24) (pc' := 25) rfl ?_
 refine k_aloadN X444 hx (hb hby d2_25) rfl rfl (pc' := 26) rfl ?_
 refine k_iload X444 hx (hb hby d2_26) rfl (pc' := 28) rfl ?_
 have F445 := (F442.other W444 (Ne.symm (Nat.ne_of_lt lt0_0)))
 refine k_laload X444 hx hZ e444 F445 ⟨by decide, by decide⟩ (v := (.long p21)) rfl (hb hby d2_28) (pc' := 29) rfl ?_
 refine k_lxor X444 hx (hb hby d2_29) (pc' := 30) rfl (fun v446 hv446 => ?_)
 refine k_lload X444 hx (hb hby d2_30) rfl (pc' := 32) rfl ?_
 refine k_landL X444 hx (hb hby d2_32) (pc' := 33) rfl (z := (0 : Int64)) Int64.and_zero ?_
 refine k_lxorL X444 hx (hb hby d2_33) (pc' := 34) rfl (z := p11) Int64.xor_zero ?_
 refine k_lastore X444 hx hZ e444 Vw444 ⟨by decide, by decide⟩ (i := 7) rfl (Nat.le_of_ble_eq_true rfl) (hb hby d2_34) (pc' := 35) rfl (fun T447 h447 X447 e447 W447 V447 => ?_)
 have Vw447 : Arv Z h447 a1 k3 .long (9 : Int32) [(.long p4), (.long p5), (.long p6), (.long p7), (.long p8), (.long p9), (.long p10), (.long p11), (.long p12)] (.long (0 : Int64)) := V447
 have N447 := Fr.snoc X447 N444 g_a1
 have Z447 : n0 ≤ h447.size := Nat.le_trans Z444 (Nat.le_of_eq W447.size.symm)
 refine k_iinc X447 hx (hb hby d2_35) rfl (pc' := 38) rfl (z := (8 : Int32)) (by decide) (Ls' := #[.val (.ref a1), .val (.ref a1), .val (.ref a2), .val (.long (0 : Int64)), .second, .val (.long (0 : Int64)), .second, .val (.int (8 : Int32))]) rfl ?_
 refine k_goto X447 hx (hb hby d2_38) (pc' := 7) (by decide) ?_
 refine k_iload X447 hx (hb hby d2_7) rfl (pc' := 9) rfl ?_
 refine k_bipush X447 hx (hb hby d2_9) (pc' := 11) rfl (z := (9 : Int32)) rfl ?_
 refine k_icmp_ge X447 hx (hb hby d2_11) (pn := 14) rfl (py := 41) (by decide) (fun hc => absurd (by decide) hc) (fun _ => ?_)
 refine k_aloadN X447 hx (hb hby d2_14) rfl rfl (pc' := 15) rfl ?_
 refine k_iload X447 hx (hb hby d2_15) rfl (pc' := 17) rfl ?_
 refine k_aloadN X447 hx (hb hby d2_17) rfl rfl (pc' := 18) rfl ?_
 refine k_iload X447 hx (hb hby d2_18) rfl (pc' := 20) rfl ?_
 refine k_laload X447 hx hZ e447 Vw447 ⟨by decide, by decide⟩ (v := (.long p12)) rfl (hb hby d2_20) (pc' := 21) rfl ?_
 refine k_aloadN X447 hx (hb hby d2_21) rfl rfl (pc' := 22) rfl ?_
 refine k_iload X447 hx (hb hby d2_22) rfl (pc' := 24) rfl ?_
 refine k_laload X447 hx hZ e447 Vw447 ⟨by decide, by decide⟩ (v := (.long p12)) rfl (hb hby d2_24) (pc' := 25) rfl ?_
 refine k_aloadN X447 hx (hb hby d2_25) rfl rfl (pc' := 26) rfl ?_
 refine k_iload X447 hx (hb hby d2_26) rfl (pc' := 28) rfl ?_
 have F448 := (F445.other W447 (Ne.symm (Nat.ne_of_lt lt0_0)))
 refine k_laload X447 hx hZ e447 F448 ⟨by decide, by decide⟩ (v := (.long p22)) rfl (hb hby d2_28) (pc' := 29) rfl ?_
 refine k_lxor X447 hx (hb hby d2_29) (pc' := 30) rfl (fun v449 hv449 => ?_)
 refine k_lload X447 hx (hb hby d2_30) rfl (pc' := 32) rfl ?_
 refine k_landL X447 hx (hb hby d2_32) (pc' := 33) rfl (z := (0 : Int64)) Int64.and_zero ?_
 refine k_lxorL X447 hx (hb hby d2_33) (pc' := 34) rfl (z := p12) Int64.xor_zero ?_
 refine k_lastore X447 hx hZ e447 Vw447 ⟨by decide, by decide⟩ (i := 8) rfl (Nat.le_of_ble_eq_true rfl) (hb hby d2_34) (pc' := 35) rfl (fun T450 h450 X450 e450 W450 V450 => ?_)
 have Vw450 : Arv Z h450 a1 k3 .long (9 : Int32) [(.long p4), (.long p5), (.long p6), (.long p7), (.long p8), (.long p9), (.long p10), (.long p11), (.long p12)] (.long (0 : Int64)) := V450
 have N450 := Fr.snoc X450 N447 g_a1
 have Z450 : n0 ≤ h450.size := Nat.le_trans Z447 (Nat.le_of_eq W450.size.symm)
 refine k_iinc X450 hx (hb hby d2_35) rfl (pc' := 38) rfl (z := (9 : Int32)) (by decide) (Ls' := #[.val (.ref a1), .val (.ref a1), .val (.ref a2), .val (.long (0 : Int64)), .second, .val (.long (0 : Int64)), .second, .val (.int (9 : Int32))]) rfl ?_
 refine k_goto X450 hx (hb hby d2_38) (pc' := 7) (by decide) ?_
 refine k_iload X450 hx (hb hby d2_7) rfl (pc' := 9) rfl ?_
 refine k_bipush X450 hx (hb hby d2_9) (pc' := 11) rfl (z := (9 : Int32)) rfl ?_
 refine k_icmp_ge X450 hx (hb hby d2_11) (pn := 14) rfl (py := 41) (by decide) (fun _ => ?_) (fun hc => absurd hc (by decide))
 have F451 := (F448.other W450 (Ne.symm (Nat.ne_of_lt lt0_0)))
 have F452 := (((((((((F0_4.other W426 (Ne.symm (Nat.ne_of_lt (Nat.lt_trans lt0_0 lt0_1)))).other W429 (Ne.symm (Nat.ne_of_lt (Nat.lt_trans lt0_0 lt0_1)))).other W432 (Ne.symm (Nat.ne_of_lt (Nat.lt_trans lt0_0 lt0_1)))).other W435 (Ne.symm (Nat.ne_of_lt (Nat.lt_trans lt0_0 lt0_1)))).other W438 (Ne.symm (Nat.ne_of_lt (Nat.lt_trans lt0_0 lt0_1)))).other W441 (Ne.symm (Nat.ne_of_lt (Nat.lt_trans lt0_0 lt0_1)))).other W444 (Ne.symm (Nat.ne_of_lt (Nat.lt_trans lt0_0 lt0_1)))).other W447 (Ne.symm (Nat.ne_of_lt (Nat.lt_trans lt0_0 lt0_1)))).other W450 (Ne.symm (Nat.ne_of_lt (Nat.lt_trans lt0_0 lt0_1))))
 have F453 := (((((((((F0_6.other W426 (Ne.symm (Nat.ne_of_lt (Nat.lt_trans (Nat.lt_trans lt0_0 lt0_1) lt0_2)))).other W429 (Ne.symm (Nat.ne_of_lt (Nat.lt_trans (Nat.lt_trans lt0_0 lt0_1) lt0_2)))).other W432 (Ne.symm (Nat.ne_of_lt (Nat.lt_trans (Nat.lt_trans lt0_0 lt0_1) lt0_2)))).other W435 (Ne.symm (Nat.ne_of_lt (Nat.lt_trans (Nat.lt_trans lt0_0 lt0_1) lt0_2)))).other W438 (Ne.symm (Nat.ne_of_lt (Nat.lt_trans (Nat.lt_trans lt0_0 lt0_1) lt0_2)))).other W441 (Ne.symm (Nat.ne_of_lt (Nat.lt_trans (Nat.lt_trans lt0_0 lt0_1) lt0_2)))).other W444 (Ne.symm (Nat.ne_of_lt (Nat.lt_trans (Nat.lt_trans lt0_0 lt0_1) lt0_2)))).other W447 (Ne.symm (Nat.ne_of_lt (Nat.lt_trans (Nat.lt_trans lt0_0 lt0_1) lt0_2)))).other W450 (Ne.symm (Nat.ne_of_lt (Nat.lt_trans (Nat.lt_trans lt0_0 lt0_1) lt0_2))))
 have F454 := (((((((((F0_8.other W426 (Ne.symm (Nat.ne_of_lt (Nat.lt_trans (Nat.lt_trans (Nat.lt_trans lt0_0 lt0_1) lt0_2) lt0_3)))).other W429 (Ne.symm (Nat.ne_of_lt (Nat.lt_trans (Nat.lt_trans (Nat.lt_trans lt0_0 lt0_1) lt0_2) lt0_3)))).other W432 (Ne.symm (Nat.ne_of_lt (Nat.lt_trans (Nat.lt_trans (Nat.lt_trans lt0_0 lt0_1) lt0_2) lt0_3)))).other W435 (Ne.symm (Nat.ne_of_lt (Nat.lt_trans (Nat.lt_trans (Nat.lt_trans lt0_0 lt0_1) lt0_2) lt0_3)))).other W438 (Ne.symm (Nat.ne_of_lt (Nat.lt_trans (Nat.lt_trans (Nat.lt_trans lt0_0 lt0_1) lt0_2) lt0_3)))).other W441 (Ne.symm (Nat.ne_of_lt (Nat.lt_trans (Nat.lt_trans (Nat.lt_trans lt0_0 lt0_1) lt0_2) lt0_3)))).other W444 (Ne.symm (Nat.ne_of_lt (Nat.lt_trans (Nat.lt_trans (Nat.lt_trans lt0_0 lt0_1) lt0_2) lt0_3)))).other W447 (Ne.symm (Nat.ne_of_lt (Nat.lt_trans (Nat.lt_trans (Nat.lt_trans lt0_0 lt0_1) lt0_2) lt0_3)))).other W450 (Ne.symm (Nat.ne_of_lt (Nat.lt_trans (Nat.lt_trans (Nat.lt_trans lt0_0 lt0_1) lt0_2) lt0_3))))
 exact k_ret X450 hx Bd.returns (hb hby d2_41) hlk (by decide) (by decide) (by rw [e450]; exact ⟨N450, ⟨rfl, Vw450, F451, F452, F453, F454, Z450⟩⟩)
abbrev R2_465 : Room := { frames := 0, cells := 0, slots := 0, locals := 0 }
def Q2_465 (Z : State) (a1 : Addr) (a2 : Addr) (k3 : ClassId) (p4 : Int64) (p5 : Int64) (p6 : Int64) (p7 : Int64) (p8 : Int64) (p9 : Int64) (p10 : Int64) (p11 : Int64) (p12 : Int64) (k13 : ClassId) (p14 : Int64) (p15 : Int64) (p16 : Int64) (p17 : Int64) (p18 : Int64) (p19 : Int64) (p20 : Int64) (p21 : Int64) (p22 : Int64) (a23 : Addr) (k24 : ClassId) (a25 : Addr) (k26 : ClassId) (a27 : Addr) (k28 : ClassId) (p29 : Int64) (p30 : Int64) (p31 : Int64) (p32 : Int64) (p33 : Int64) (p34 : Int64) (p35 : Int64) (p36 : Int64) (p37 : Int64) (h0 : Heap) (n0 : Nat) (v : Option Value) (h : Heap) (L : List Loc) : Prop := Fr n0 L ∧ ((v = none ∧ Arv Z h a2 k3 .long (9 : Int32) [(.long p4), (.long p5), (.long p6), (.long p7), (.long p8), (.long p9), (.long p10), (.long p11), (.long p12)] (.long (0 : Int64)) ∧ Arv Z h a1 k13 .long (9 : Int32) [(.long p4), (.long p5), (.long p6), (.long p7), (.long p8), (.long p9), (.long p10), (.long p11), (.long p12)] (.long (0 : Int64)) ∧ Arv Z h a23 k24 .long (9 : Int32) [(.long p4), (.long p5), (.long p6), (.long p7), (.long p8), (.long p9), (.long p10), (.long p11), (.long p12)] (.long (0 : Int64)) ∧ Arv Z h a25 k26 .long (9 : Int32) [(.long p14), (.long p15), (.long p16), (.long p17), (.long p18), (.long p19), (.long p20), (.long p21), (.long p22)] (.long (0 : Int64)) ∧ Arv Z h a27 k28 .long (9 : Int32) [(.long p29), (.long p30), (.long p31), (.long p32), (.long p33), (.long p34), (.long p35), (.long p36), (.long p37)] (.long (0 : Int64)) ∧ n0 ≤ h.size))
theorem ef2_465 (m : MethodId) (x0 : Addr) (x1 : Addr) (x2 : Addr) : entryFrame m #[(.ref x0), (.ref x1), (.ref x2), (.long (0 : Int64))] 8 = mkF m 0 #[.val (.ref x0), .val (.ref x1), .val (.ref x2), .val (.long (0 : Int64)), .second, .unset, .unset, .unset] [] := by first | (simp [entryFrame, mkF, argsToLocals, Value.category]; done) | rfl
set_option maxRecDepth 65536 in
set_option maxHeartbeats 40000000 in
theorem rm2_465 (l : Launch) (Z : State) (a0 : Array Value) (hw : ∀ d ∈ tables_1, d.before a0 Z = true) (ws : List Jvm.Cond) (a1 : Addr) (a2 : Addr) (k3 : ClassId) (p4 : Int64) (p5 : Int64) (p6 : Int64) (p7 : Int64) (p8 : Int64) (p9 : Int64) (p10 : Int64) (p11 : Int64) (p12 : Int64) (k13 : ClassId) (p14 : Int64) (p15 : Int64) (p16 : Int64) (p17 : Int64) (p18 : Int64) (p19 : Int64) (p20 : Int64) (p21 : Int64) (p22 : Int64) (a23 : Addr) (k24 : ClassId) (a25 : Addr) (k26 : ClassId) (a27 : Addr) (k28 : ClassId) (p29 : Int64) (p30 : Int64) (p31 : Int64) (p32 : Int64) (p33 : Int64) (p34 : Int64) (p35 : Int64) (p36 : Int64) (p37 : Int64) (h0 : Heap) (n0 : Nat) (Z0 : n0 ≤ h0.size) (F0_0 : Arv Z h0 a2 k3 .long (9 : Int32) [(.long p4), (.long p5), (.long p6), (.long p7), (.long p8), (.long p9), (.long p10), (.long p11), (.long p12)] (.long (0 : Int64))) (g_a2 : n0 ≤ a2) (F0_2 : Arv Z h0 a1 k13 .long (9 : Int32) [(.long p14), (.long p15), (.long p16), (.long p17), (.long p18), (.long p19), (.long p20), (.long p21), (.long p22)] (.long (0 : Int64))) (g_a1 : n0 ≤ a1) (F0_4 : Arv Z h0 a23 k24 .long (9 : Int32) [(.long p4), (.long p5), (.long p6), (.long p7), (.long p8), (.long p9), (.long p10), (.long p11), (.long p12)] (.long (0 : Int64))) (g_a23 : n0 ≤ a23) (F0_6 : Arv Z h0 a25 k26 .long (9 : Int32) [(.long p14), (.long p15), (.long p16), (.long p17), (.long p18), (.long p19), (.long p20), (.long p21), (.long p22)] (.long (0 : Int64))) (g_a25 : n0 ≤ a25) (F0_8 : Arv Z h0 a27 k28 .long (9 : Int32) [(.long p29), (.long p30), (.long p31), (.long p32), (.long p33), (.long p34), (.long p35), (.long p36), (.long p37)] (.long (0 : Int64))) (g_a27 : n0 ≤ a27) (lt0_0 : a2 < a1) (lt0_1 : a1 < a23) (lt0_2 : a23 < a25) (lt0_3 : a25 < a27) :
    MetFree l (⟨"com/example/portcullis/portcullis/protocol/Field", "select", "([J[J[JJ)V"⟩ : MethodName) (head1 (Jvm.Cond.code (⟨"com/example/portcullis/portcullis/protocol/Field", "select", "([J[J[JJ)V"⟩ : MethodName) prog_3_method_12_code 8 none :: ws) R2_465) (fun a U => a = #[(.ref a1), (.ref a2), (.ref a1), (.long (0 : Int64))] ∧ Z.Warmed39 U.vm ∧ U.heap = h0) (fun _ _ _ _ _ => True) (fun _ U o U' => ∃ v L, o = .returned v ∧ Q2_465 Z a1 a2 k3 p4 p5 p6 p7 p8 p9 p10 p11 p12 k13 p14 p15 p16 p17 p18 p19 p20 p21 p22 a23 k24 a25 k26 a27 k28 p29 p30 p31 p32 p33 p34 p35 p36 p37 h0 n0 v U'.heap L ∧ FrameEnd U o U' L R2_465.cells R2_465.slots) := by
 refine MetFree.of_bodySF (plainFor_of_name pn_1) hisR ?_
 intro p e s m args below meth c s₁ Bd hml0 hP hK
 obtain ⟨rfl, hZ, hh⟩ := hP
 have hx := Bd.exec
 have hby := Bd.bytes
 have hml : c.maxLocals = 8 := hml0
 have hlk : meth.locks = false := Bd.notSynchronized
 have hown : s.vm.findClass "com/example/portcullis/portcullis/protocol/Field" = some m.cls := findClass_of_methodNamed Bd.named
 have hnm := (name_of_methodNamed Bd.named Bd.method).1
 have X0 : Stand p l e R2_465 s m #[(.ref a1), (.ref a2), (.ref a1), (.long (0 : Int64))] below meth c s₁ [] 0 0 := Stand.of_body Bd
 have e0 : s₁.heap = h0 := by rw [← hh, Bd.state]; rfl
 have N0 := Fr.nil n0
 rw [ef2_465 m a1 a2 a1]
 show KEnds p e below s R2_465.cells R2_465.slots (Q2_465 Z a1 a2 k3 p4 p5 p6 p7 p8 p9 p10 p11 p12 k13 p14 p15 p16 p17 p18 p19 p20 p21 p22 a23 k24 a25 k26 a27 k28 p29 p30 p31 p32 p33 p34 p35 p36 p37 h0 n0) s₁ (mkF m 0 #[.val (.ref a1), .val (.ref a2), .val (.ref a1), .val (.long (0 : Int64)), .second, .unset, .unset, .unset] [])
 refine k_lloadN X0 hx (hb hby d2_0) rfl (pc' := 1) rfl ?_
 refine k_lnegL X0 hx (hb hby d2_1) (pc' := 2) rfl (z := (0 : Int64)) (by decide) ?_
 refine k_lstore X0 hx (hb hby d2_2) (Ls' := #[.val (.ref a1), .val (.ref a2), .val (.ref a1), .val (.long (0 : Int64)), .second, .val (.long (0 : Int64)), .second, .unset]) rfl (pc' := 4) rfl ?_
 refine k_iconst X0 hx (hb hby d2_4) (pc' := 5) rfl (z := (0 : Int32)) rfl ?_
 refine k_istore X0 hx (hb hby d2_5) (Ls' := #[.val (.ref a1), .val (.ref a2), .val (.ref a1), .val (.long (0 : Int64)), .second, .val (.long (0 : Int64)), .second, .val (.int (0 : Int32))]) rfl (pc' := 7) rfl ?_
 refine k_iload X0 hx (hb hby d2_7) rfl (pc' := 9) rfl ?_
 refine k_bipush X0 hx (hb hby d2_9) (pc' := 11) rfl (z := (9 : Int32)) rfl ?_
 refine k_icmp_ge X0 hx (hb hby d2_11) (pn := 14) rfl (py := 41) (by decide) (fun hc => absurd (by decide) hc) (fun _ => ?_)
 refine k_aloadN X0 hx (hb hby d2_14) rfl rfl (pc' := 15) rfl ?_
 refine k_iload X0 hx (hb hby d2_15) rfl (pc' := 17) rfl ?_
 refine k_aloadN X0 hx (hb hby d2_17) rfl rfl (pc' := 18) rfl ?_
 refine k_iload X0 hx (hb hby d2_18) rfl (pc' := 20) rfl ?_
 refine k_laload X0 hx hZ e0 F0_0 ⟨by decide, by decide⟩ (v := (.long p4)) rfl (hb hby d2_20) (pc' := 21) rfl ?_
 refine k_aloadN X0 hx (hb hby d2_21) rfl rfl (pc' := 22) rfl ?_
 refine k_iload X0 hx (hb hby d2_22) rfl (pc' := 24) rfl ?_
 refine k_laload X0 hx hZ e0 F0_0 ⟨by decide, by decide⟩ (v := (.long p4)) rfl (hb hby d2_24) (pc' := 25) rfl ?_
 refine k_aloadN X0 hx (hb hby d2_25) rfl rfl (pc' := 26) rfl ?_
 refine k_iload X0 hx (hb hby d2_26) rfl (pc' := 28) rfl ?_
 refine k_laload X0 hx hZ e0 F0_2 ⟨by decide, by decide⟩ (v := (.long p14)) rfl (hb hby d2_28) (pc' := 29) rfl ?_
 refine k_lxor X0 hx (hb hby d2_29) (pc' := 30) rfl (fun v466 hv466 => ?_)
 refine k_lload X0 hx (hb hby d2_30) rfl (pc' := 32) rfl ?_
 refine k_landL X0 hx (hb hby d2_32) (pc' := 33) rfl (z := (0 : Int64)) Int64.and_zero ?_
 refine k_lxorL X0 hx (hb hby d2_33) (pc' := 34) rfl (z := p4) Int64.xor_zero ?_
 refine k_lastore X0 hx hZ e0 F0_2 ⟨by decide, by decide⟩ (i := 0) rfl (Nat.le_of_ble_eq_true rfl) (hb hby d2_34) (pc' := 35) rfl (fun T467 h467 X467 e467 W467 V467 => ?_)
 have Vw467 : Arv Z h467 a1 k13 .long (9 : Int32) [(.long p4), (.long p15), (.long p16), (.long p17), (.long p18), (.long p19), (.long p20), (.long p21), (.long p22)] (.long (0 : Int64)) := V467
 have N467 := Fr.snoc X467 N0 g_a1
 have Z467 : n0 ≤ h467.size := Nat.le_trans Z0 (Nat.le_of_eq W467.size.symm)
 refine k_iinc X467 hx (hb hby d2_35) rfl (pc' := 38) rfl (z := (1 : Int32)) (by decide) (Ls' := #[.val (.ref a1), .val (.ref a2), .val (.ref a1), .val (.long (0 : Int64)), .second, .val (.long (0 : Int64)), .second, .val (.int (1 : Int32))]) rfl ?_
 refine k_goto X467 hx (hb hby d2_38) (pc' := 7) (by decide) ?_
 refine k_iload X467 hx (hb hby d2_7) rfl (pc' := 9) rfl ?_
 refine k_bipush X467 hx (hb hby d2_9) (pc' := 11) rfl (z := (9 : Int32)) rfl ?_
 refine k_icmp_ge X467 hx (hb hby d2_11) (pn := 14) rfl (py := 41) (by decide) (fun hc => absurd (by decide) hc) (fun _ => ?_)
 refine k_aloadN X467 hx (hb hby d2_14) rfl rfl (pc' := 15) rfl ?_
 refine k_iload X467 hx (hb hby d2_15) rfl (pc' := 17) rfl ?_
 refine k_aloadN X467 hx (hb hby d2_17) rfl rfl (pc' := 18) rfl ?_
 refine k_iload X467 hx (hb hby d2_18) rfl (pc' := 20) rfl ?_
 have F468 := (F0_0.other W467 (Nat.ne_of_lt lt0_0))
 refine k_laload X467 hx hZ e467 F468 ⟨by decide, by decide⟩ (v := (.long p5)) rfl (hb hby d2_20) (pc' := 21) rfl ?_
 refine k_aloadN X467 hx (hb hby d2_21) rfl rfl (pc' := 22) rfl ?_
 refine k_iload X467 hx (hb hby d2_22) rfl (pc' := 24) rfl ?_
 refine k_laload X467 hx hZ e467 F468 ⟨by decide, by decide⟩ (v := (.long p5)) rfl (hb hby d2_24) (pc' := 25) rfl ?_
 refine k_aloadN X467 hx (hb hby d2_25) rfl rfl (pc' := 26) rfl ?_
 refine k_iload X467 hx (hb hby d2_26) rfl (pc' := 28) rfl ?_
 refine k_laload X467 hx hZ e467 Vw467 ⟨by decide, by decide⟩ (v := (.long p15)) rfl (hb hby d2_28) (pc' := 29) rfl ?_
 refine k_lxor X467 hx (hb hby d2_29) (pc' := 30) rfl (fun v469 hv469 => ?_)
 refine k_lload X467 hx (hb hby d2_30) rfl (pc' := 32) rfl ?_
 refine k_landL X467 hx (hb hby d2_32) (pc' := 33) rfl (z := (0 : Int64)) Int64.and_zero ?_
 refine k_lxorL X467 hx (hb hby d2_33) (pc' := 34) rfl (z := p5) Int64.xor_zero ?_
 refine k_lastore X467 hx hZ e467 Vw467 ⟨by decide, by decide⟩ (i := 1) rfl (Nat.le_of_ble_eq_true rfl) (hb hby d2_34) (pc' := 35) rfl (fun T470 h470 X470 e470 W470 V470 => ?_)
 have Vw470 : Arv Z h470 a1 k13 .long (9 : Int32) [(.long p4), (.long p5), (.long p16), (.long p17), (.long p18), (.long p19), (.long p20), (.long p21), (.long p22)] (.long (0 : Int64)) := V470
 have N470 := Fr.snoc X470 N467 g_a1
 have Z470 : n0 ≤ h470.size := Nat.le_trans Z467 (Nat.le_of_eq W470.size.symm)
 refine k_iinc X470 hx (hb hby d2_35) rfl (pc' := 38) rfl (z := (2 : Int32)) (by decide) (Ls' := #[.val (.ref a1), .val (.ref a2), .val (.ref a1), .val (.long (0 : Int64)), .second, .val (.long (0 : Int64)), .second, .val (.int (2 : Int32))]) rfl ?_
 refine k_goto X470 hx (hb hby d2_38) (pc' := 7) (by decide) ?_
 refine k_iload X470 hx (hb hby d2_7) rfl (pc' := 9) rfl ?_
 refine k_bipush X470 hx (hb hby d2_9) (pc' := 11) rfl (z := (9 : Int32)) rfl ?_
 refine k_icmp_ge X470 hx (hb hby d2_11) (pn := 14) rfl (py := 41) (by decide) (fun hc => absurd (by decide) hc) (fun _ => ?_)
 refine k_aloadN X470 hx (hb hby d2_14) rfl rfl (pc' := 15) rfl ?_
 refine k_iload X470 hx (hb hby d2_15) rfl (pc' := 17) rfl ?_
 refine k_aloadN X470 hx (hb hby d2_17) rfl rfl (pc' := 18) rfl ?_
 refine k_iload X470 hx (hb hby d2_18) rfl (pc' := 20) rfl ?_
 have F471 := (F468.other W470 (Nat.ne_of_lt lt0_0))
 refine k_laload X470 hx hZ e470 F471 ⟨by decide, by decide⟩ (v := (.long p6)) rfl (hb hby d2_20) (pc' := 21) rfl ?_
 refine k_aloadN X470 hx (hb hby d2_21) rfl rfl (pc' := 22) rfl ?_
 refine k_iload X470 hx (hb hby d2_22) rfl (pc' := 24) rfl ?_
 refine k_laload X470 hx hZ e470 F471 ⟨by decide, by decide⟩ (v := (.long p6)) rfl (hb hby d2_24) (pc' := 25) rfl ?_
 refine k_aloadN X470 hx (hb hby d2_25) rfl rfl (pc' := 26) rfl ?_
 refine k_iload X470 hx (hb hby d2_26) rfl (pc' := 28) rfl ?_
 refine k_laload X470 hx hZ e470 Vw470 ⟨by decide, by decide⟩ (v := (.long p16)) rfl (hb hby d2_28) (pc' := 29) rfl ?_
 refine k_lxor X470 hx (hb hby d2_29) (pc' := 30) rfl (fun v472 hv472 => ?_)
 refine k_lload X470 hx (hb hby d2_30) rfl (pc' := 32) rfl ?_
 refine k_landL X470 hx (hb hby d2_32) (pc' := 33) rfl (z := (0 : Int64)) Int64.and_zero ?_
 refine k_lxorL X470 hx (hb hby d2_33) (pc' := 34) rfl (z := p6) Int64.xor_zero ?_
 refine k_lastore X470 hx hZ e470 Vw470 ⟨by decide, by decide⟩ (i := 2) rfl (Nat.le_of_ble_eq_true rfl) (hb hby d2_34) (pc' := 35) rfl (fun T473 h473 X473 e473 W473 V473 => ?_)
 have Vw473 : Arv Z h473 a1 k13 .long (9 : Int32) [(.long p4), (.long p5), (.long p6), (.long p17), (.long p18), (.long p19), (.long p20), (.long p21), (.long p22)] (.long (0 : Int64)) := V473
 have N473 := Fr.snoc X473 N470 g_a1
 have Z473 : n0 ≤ h473.size := Nat.le_trans Z470 (Nat.le_of_eq W473.size.symm)
 refine k_iinc X473 hx (hb hby d2_35) rfl (pc' := 38) rfl (z := (3 : Int32)) (by decide) (Ls' := #[.val (.ref a1), .val (.ref a2), .val (.ref a1), .val (.long (0 : Int64)), .second, .val (.long (0 : Int64)), .second, .val (.int (3 : Int32))]) rfl ?_
 refine k_goto X473 hx (hb hby d2_38) (pc' := 7) (by decide) ?_
 refine k_iload X473 hx (hb hby d2_7) rfl (pc' := 9) rfl ?_
 refine k_bipush X473 hx (hb hby d2_9) (pc' := 11) rfl (z := (9 : Int32)) rfl ?_
 refine k_icmp_ge X473 hx (hb hby d2_11) (pn := 14) rfl (py := 41) (by decide) (fun hc => absurd (by decide) hc) (fun _ => ?_)
 refine k_aloadN X473 hx (hb hby d2_14) rfl rfl (pc' := 15) rfl ?_
 refine k_iload X473 hx (hb hby d2_15) rfl (pc' := 17) rfl ?_
 refine k_aloadN X473 hx (hb hby d2_17) rfl rfl (pc' := 18) rfl ?_
 refine k_iload X473 hx (hb hby d2_18) rfl (pc' := 20) rfl ?_
 have F474 := (F471.other W473 (Nat.ne_of_lt lt0_0))
 refine k_laload X473 hx hZ e473 F474 ⟨by decide, by decide⟩ (v := (.long p7)) rfl (hb hby d2_20) (pc' := 21) rfl ?_
 refine k_aloadN X473 hx (hb hby d2_21) rfl rfl (pc' := 22) rfl ?_
 refine k_iload X473 hx (hb hby d2_22) rfl (pc' := 24) rfl ?_
 refine k_laload X473 hx hZ e473 F474 ⟨by decide, by decide⟩ (v := (.long p7)) rfl (hb hby d2_24) (pc' := 25) rfl ?_
 refine k_aloadN X473 hx (hb hby d2_25) rfl rfl (pc' := 26) rfl ?_
 refine k_iload X473 hx (hb hby d2_26) rfl (pc' := 28) rfl ?_
 refine k_laload X473 hx hZ e473 Vw473 ⟨by decide, by decide⟩ (v := (.long p17)) rfl (hb hby d2_28) (pc' := 29) rfl ?_
 refine k_lxor X473 hx (hb hby d2_29) (pc' := 30) rfl (fun v475 hv475 => ?_)
 refine k_lload X473 hx (hb hby d2_30) rfl (pc' := 32) rfl ?_
 refine k_landL X473 hx (hb hby d2_32) (pc' := 33) rfl (z := (0 : Int64)) Int64.and_zero ?_
 refine k_lxorL X473 hx (hb hby d2_33) (pc' := 34) rfl (z := p7) Int64.xor_zero ?_
 refine k_lastore X473 hx hZ e473 Vw473 ⟨by decide, by decide⟩ (i := 3) rfl (Nat.le_of_ble_eq_true rfl) (hb hby d2_34) (pc' := 35) rfl (fun T476 h476 X476 e476 W476 V476 => ?_)
 have Vw476 : Arv Z h476 a1 k13 .long (9 : Int32) [(.long p4), (.long p5), (.long p6), (.long p7), (.long p18), (.long p19), (.long p20), (.long p21), (.long p22)] (.long (0 : Int64)) := V476
 have N476 := Fr.snoc X476 N473 g_a1
 have Z476 : n0 ≤ h476.size := Nat.le_trans Z473 (Nat.le_of_eq W476.size.symm)
 refine k_iinc X476 hx (hb hby d2_35) rfl (pc' := 38) rfl (z := (4 : Int32)) (by decide) (Ls' := #[.val (.ref a1), .val (.ref a2), .val (.ref a1), .val (.long (0 : Int64)), .second, .val (.long (0 : Int64)), .second, .val (.int (4 : Int32))]) rfl ?_
 refine k_goto X476 hx (hb hby d2_38) (pc' := 7) (by decide) ?_
 refine k_iload X476 hx (hb hby d2_7) rfl (pc' := 9) rfl ?_
 refine k_bipush X476 hx (hb hby d2_9) (pc' := 11) rfl (z := (9 : Int32)) rfl ?_
 refine k_icmp_ge X476 hx (hb hby d2_11) (pn := 14) rfl (py := 41) (by decide) (fun hc => absurd (by decide) hc) (fun _ => ?_)
 refine k_aloadN X476 hx (hb hby d2_14) rfl rfl (pc' := 15) rfl ?_
 refine k_iload X476 hx (hb hby d2_15) rfl (pc' := 17) rfl ?_
 refine k_aloadN X476 hx (hb hby d2_17) rfl rfl (pc' := 18) rfl ?_
 refine k_iload X476 hx (hb hby d2_18) rfl (pc' := 20) rfl ?_
 have F477 := (F474.other W476 (Nat.ne_of_lt lt0_0))
 refine k_laload X476 hx hZ e476 F477 ⟨by decide, by decide⟩ (v := (.long p8)) rfl (hb hby d2_20) (pc' := 21) rfl ?_
 refine k_aloadN X476 hx (hb hby d2_21) rfl rfl (pc' := 22) rfl ?_
 refine k_iload X476 hx (hb hby d2_22) rfl (pc' := 24) rfl ?_
 refine k_laload X476 hx hZ e476 F477 ⟨by decide, by decide⟩ (v := (.long p8)) rfl (hb hby d2_24) (pc' := 25) rfl ?_
 refine k_aloadN X476 hx (hb hby d2_25) rfl rfl (pc' := 26) rfl ?_
 refine k_iload X476 hx (hb hby d2_26) rfl (pc' := 28) rfl ?_
 refine k_laload X476 hx hZ e476 Vw476 ⟨by decide, by decide⟩ (v := (.long p18)) rfl (hb hby d2_28) (pc' := 29) rfl ?_
 refine k_lxor X476 hx (hb hby d2_29) (pc' := 30) rfl (fun v478 hv478 => ?_)
 refine k_lload X476 hx (hb hby d2_30) rfl (pc' := 32) rfl ?_
 refine k_landL X476 hx (hb hby d2_32) (pc' := 33) rfl (z := (0 : Int64)) Int64.and_zero ?_
 refine k_lxorL X476 hx (hb hby d2_33) (pc' := 34) rfl (z := p8) Int64.xor_zero ?_
 refine k_lastore X476 hx hZ e476 Vw476 ⟨by decide, by decide⟩ (i := 4) rfl (Nat.le_of_ble_eq_true rfl) (hb hby d2_34) (pc' := 35) rfl (fun T479 h479 X479 e479 W479 V479 => ?_)
 have Vw479 : Arv Z h479 a1 k13 .long (9 : Int32) [(.long p4), (.long p5), (.long p6), (.long p7), (.long p8), (.long p19), (.long p20), (.long p21), (.long p22)] (.long (0 : Int64)) := V479
 have N479 := Fr.snoc X479 N476 g_a1
 have Z479 : n0 ≤ h479.size := Nat.le_trans Z476 (Nat.le_of_eq W479.size.symm)
 refine k_iinc X479 hx (hb hby d2_35) rfl (pc' := 38) rfl (z := (5 : Int32)) (by decide) (Ls' := #[.val (.ref a1), .val (.ref a2), .val (.ref a1), .val (.long (0 : Int64)), .second, .val (.long (0 : Int64)), .second, .val (.int (5 : Int32))]) rfl ?_
 refine k_goto X479 hx (hb hby d2_38) (pc' := 7) (by decide) ?_
 refine k_iload X479 hx (hb hby d2_7) rfl (pc' := 9) rfl ?_
 refine k_bipush X479 hx (hb hby d2_9) (pc' := 11) rfl (z := (9 : Int32)) rfl ?_
 refine k_icmp_ge X479 hx (hb hby d2_11) (pn := 14) rfl (py := 41) (by decide) (fun hc => absurd (by decide) hc) (fun _ => ?_)
 refine k_aloadN X479 hx (hb hby d2_14) rfl rfl (pc' := 15) rfl ?_
 refine k_iload X479 hx (hb hby d2_15) rfl (pc' := 17) rfl ?_
 refine k_aloadN X479 hx (hb hby d2_17) rfl rfl (pc' := 18) rfl ?_
 refine k_iload X479 hx (hb hby d2_18) rfl (pc' := 20) rfl ?_
 have F480 := (F477.other W479 (Nat.ne_of_lt lt0_0))
 refine k_laload X479 hx hZ e479 F480 ⟨by decide, by decide⟩ (v := (.long p9)) rfl (hb hby d2_20) (pc' := 21) rfl ?_
 refine k_aloadN X479 hx (hb hby d2_21) rfl rfl (pc' := 22) rfl ?_
 refine k_iload X479 hx (hb hby d2_22) rfl (pc' := 24) rfl ?_
 refine k_laload X479 hx hZ e479 F480 ⟨by decide, by decide⟩ (v := (.long p9)) rfl (hb hby d2_24) (pc' := 25) rfl ?_
 refine k_aloadN X479 hx (hb hby d2_25) rfl rfl (pc' := 26) rfl ?_
 refine k_iload X479 hx (hb hby d2_26) rfl (pc' := 28) rfl ?_
 refine k_laload X479 hx hZ e479 Vw479 ⟨by decide, by decide⟩ (v := (.long p19)) rfl (hb hby d2_28) (pc' := 29) rfl ?_
 refine k_lxor X479 hx (hb hby d2_29) (pc' := 30) rfl (fun v481 hv481 => ?_)
 refine k_lload X479 hx (hb hby d2_30) rfl (pc' := 32) rfl ?_
 refine k_landL X479 hx (hb hby d2_32) (pc' := 33) rfl (z := (0 : Int64)) Int64.and_zero ?_
 refine k_lxorL X479 hx (hb hby d2_33) (pc' := 34) rfl (z := p9) Int64.xor_zero ?_
 refine k_lastore X479 hx hZ e479 Vw479 ⟨by decide, by decide⟩ (i := 5) rfl (Nat.le_of_ble_eq_true rfl) (hb hby d2_34) (pc' := 35) rfl (fun T482 h482 X482 e482 W482 V482 => ?_)
 have Vw482 : Arv Z h482 a1 k13 .long (9 : Int32) [(.long p4), (.long p5), (.long p6), (.long p7), (.long p8), (.long p9), (.long p20), (.long p21), (.long p22)] (.long (0 : Int64)) := V482
 have N482 := Fr.snoc X482 N479 g_a1
 have Z482 : n0 ≤ h482.size := Nat.le_trans Z479 (Nat.le_of_eq W482.size.symm)
 refine k_iinc X482 hx (hb hby d2_35) rfl (pc' := 38) rfl (z := (6 : Int32)) (by decide) (Ls' := #[.val (.ref a1), .val (.ref a2), .val (.ref a1), .val (.long (0 : Int64)), .second, .val (.long (0 : Int64)), .second, .val (.int (6 : Int32))]) rfl ?_
 refine k_goto X482 hx (hb hby d2_38) (pc' := 7) (by decide) ?_
 refine k_iload X482 hx (hb hby d2_7) rfl (pc' := 9) rfl ?_
 refine k_bipush X482 hx (hb hby d2_9) (pc' := 11) rfl (z := (9 : Int32)) rfl ?_
 refine k_icmp_ge X482 hx (hb hby d2_11) (pn := 14) rfl (py := 41) (by decide) (fun hc => absurd (by decide) hc) (fun _ => ?_)
 refine k_aloadN X482 hx (hb hby d2_14) rfl rfl (pc' := 15) rfl ?_
 refine k_iload X482 hx (hb hby d2_15) rfl (pc' := 17) rfl ?_
 refine k_aloadN X482 hx (hb hby d2_17) rfl rfl (pc' := 18) rfl ?_
 refine k_iload X482 hx (hb hby d2_18) rfl (pc' := 20) rfl ?_
 have F483 := (F480.other W482 (Nat.ne_of_lt lt0_0))
 refine k_laload X482 hx hZ e482 F483 ⟨by decide, by decide⟩ (v := (.long p10)) rfl (hb hby d2_20) (pc' := 21) rfl ?_
 refine k_aloadN X482 hx (hb hby d2_21) rfl rfl (pc' := 22) rfl ?_
 refine k_iload X482 hx (hb hby d2_22) rfl (pc' := 24) rfl ?_
 refine k_laload X482 hx hZ e482 F483 ⟨by decide, by decide⟩ (v := (.long p10)) rfl (hb hby d2_24) (pc' := 25) rfl ?_
 refine k_aloadN X482 hx (hb hby d2_25) rfl rfl (pc' := 26) rfl ?_
 refine k_iload X482 hx (hb hby d2_26) rfl (pc' := 28) rfl ?_
 refine k_laload X482 hx hZ e482 Vw482 ⟨by decide, by decide⟩ (v := (.long p20)) rfl (hb hby d2_28) (pc' := 29) rfl ?_
 refine k_lxor X482 hx (hb hby d2_29) (pc' := 30) rfl (fun v484 hv484 => ?_)
 refine k_lload X482 hx (hb hby d2_30) rfl (pc' := 32) rfl ?_
 refine k_landL X482 hx (hb hby d2_32) (pc' := 33) rfl (z := (0 : Int64)) Int64.and_zero ?_
 refine k_lxorL X482 hx (hb hby d2_33) (pc' := 34) rfl (z := p10) Int64.xor_zero ?_
 refine k_lastore X482 hx hZ e482 Vw482 ⟨by decide, by decide⟩ (i := 6) rfl (Nat.le_of_ble_eq_true rfl) (hb hby d2_34) (pc' := 35) rfl (fun T485 h485 X485 e485 W485 V485 => ?_)
 have Vw485 : Arv Z h485 a1 k13 .long (9 : Int32) [(.long p4), (.long p5), (.long p6), (.long p7), (.long p8), (.long p9), (.long p10), (.long p21), (.long p22)] (.long (0 : Int64)) := V485
 have N485 := Fr.snoc X485 N482 g_a1
 have Z485 : n0 ≤ h485.size := Nat.le_trans Z482 (Nat.le_of_eq W485.size.symm)
 refine k_iinc X485 hx (hb hby d2_35) rfl (pc' := 38) rfl (z := (7 : Int32)) (by decide) (Ls' := #[.val (.ref a1), .val (.ref a2), .val (.ref a1), .val (.long (0 : Int64)), .second, .val (.long (0 : Int64)), .second, .val (.int (7 : Int32))]) rfl ?_
 refine k_goto X485 hx (hb hby d2_38) (pc' := 7) (by decide) ?_
 refine k_iload X485 hx (hb hby d2_7) rfl (pc' := 9) rfl ?_
 refine k_bipush X485 hx (hb hby d2_9) (pc' := 11) rfl (z := (9 : Int32)) rfl ?_
 refine k_icmp_ge X485 hx (hb hby d2_11) (pn := 14) rfl (py := 41) (by decide) (fun hc => absurd (by decide) hc) (fun _ => ?_)
 refine k_aloadN X485 hx (hb hby d2_14) rfl rfl (pc' := 15) rfl ?_
 refine k_iload X485 hx (hb hby d2_15) rfl (pc' := 17) rfl ?_
 refine k_aloadN X485 hx (hb hby d2_17) rfl rfl (pc' := 18) rfl ?_
 refine k_iload X485 hx (hb hby d2_18) rfl (pc' := 20) rfl ?_
 have F486 := (F483.other W485 (Nat.ne_of_lt lt0_0))
 refine k_laload X485 hx hZ e485 F486 ⟨by decide, by decide⟩ (v := (.long p11)) rfl (hb hby d2_20) (pc' := 21) rfl ?_
 refine k_aloadN X485 hx (hb hby d2_21) rfl rfl (pc' := 22) rfl ?_
 refine k_iload X485 hx (hb hby d2_22) rfl (pc' := 24) rfl ?_
 refine k_laload X485 hx hZ e485 F486 ⟨by decide, by decide⟩ (v := (.long p11)) rfl (hb hby d2_24) (pc' := 25) rfl ?_
 refine k_aloadN X485 hx (hb hby d2_25) rfl rfl (pc' := 26) rfl ?_
 refine k_iload X485 hx (hb hby d2_26) rfl (pc' := 28) rfl ?_
 refine k_laload X485 hx hZ e485 Vw485 ⟨by decide, by decide⟩ (v := (.long p21)) rfl (hb hby d2_28) (pc' := 29) rfl ?_
 refine k_lxor X485 hx (hb hby d2_29) (pc' := 30) rfl (fun v487 hv487 => ?_)
 refine k_lload X485 hx (hb hby d2_30) rfl (pc' := 32) rfl ?_
 refine k_landL X485 hx (hb hby d2_32) (pc' := 33) rfl (z := (0 : Int64)) Int64.and_zero ?_
 refine k_lxorL X485 hx (hb hby d2_33) (pc' := 34) rfl (z := p11) Int64.xor_zero ?_
 refine k_lastore X485 hx hZ e485 Vw485 ⟨by decide, by decide⟩ (i := 7) rfl (Nat.le_of_ble_eq_true rfl) (hb hby d2_34) (pc' := 35) rfl (fun T488 h488 X488 e488 W488 V488 => ?_)
 have Vw488 : Arv Z h488 a1 k13 .long (9 : Int32) [(.long p4), (.long p5), (.long p6), (.long p7), (.long p8), (.long p9), (.long p10), (.long p11), (.long p22)] (.long (0 : Int64)) := V488
 have N488 := Fr.snoc X488 N485 g_a1
 have Z488 : n0 ≤ h488.size := Nat.le_trans Z485 (Nat.le_of_eq W488.size.symm)
 refine k_iinc X488 hx (hb hby d2_35) rfl (pc' := 38) rfl (z := (8 : Int32)) (by decide) (Ls' := #[.val (.ref a1), .val (.ref a2), .val (.ref a1), .val (.long (0 : Int64)), .second, .val (.long (0 : Int64)), .second, .val (.int (8 : Int32))]) rfl ?_
 refine k_goto X488 hx (hb hby d2_38) (pc' := 7) (by decide) ?_
 refine k_iload X488 hx (hb hby d2_7) rfl (pc' := 9) rfl ?_
 refine k_bipush X488 hx (hb hby d2_9) (pc' := 11) rfl (z := (9 : Int32)) rfl ?_
 refine k_icmp_ge X488 hx (hb hby d2_11) (pn := 14) rfl (py := 41) (by decide) (fun hc => absurd (by decide) hc) (fun _ => ?_)
 refine k_aloadN X488 hx (hb hby d2_14) rfl rfl (pc' := 15) rfl ?_
 refine k_iload X488 hx (hb hby d2_15) rfl (pc' := 17) rfl ?_
 refine k_aloadN X488 hx (hb hby d2_17) rfl rfl (pc' := 18) rfl ?_
 refine k_iload X488 hx (hb hby d2_18) rfl (pc' := 20) rfl ?_
 have F489 := (F486.other W488 (Nat.ne_of_lt lt0_0))
 refine k_laload X488 hx hZ e488 F489 ⟨by decide, by decide⟩ (v := (.long p12)) rfl (hb hby d2_20) (pc' := 21) rfl ?_
 refine k_aloadN X488 hx (hb hby d2_21) rfl rfl (pc' := 22) rfl ?_
 refine k_iload X488 hx (hb hby d2_22) rfl (pc' := 24) rfl ?_
 refine k_laload X488 hx hZ e488 F489 ⟨by decide, by decide⟩ (v := (.long p12)) rfl (hb hby d2_24) (pc' := 25) rfl ?_
 refine k_aloadN X488 hx (hb hby d2_25) rfl rfl (pc' := 26) rfl ?_
 refine k_iload X488 hx (hb hby d2_26) rfl (pc' := 28) rfl ?_
 refine k_laload X488 hx hZ e488 Vw488 ⟨by decide, by decide⟩ (v := (.long p22)) rfl (hb hby d2_28) (pc' := 29) rfl ?_
 refine k_lxor X488 hx (hb hby d2_29) (pc' := 30) rfl (fun v490 hv490 => ?_)
 refine k_lload X488 hx (hb hby d2_30) rfl (pc' := 32) rfl ?_
 refine k_landL X488 hx (hb hby d2_32) (pc' := 33) rfl (z := (0 : Int64)) Int64.and_zero ?_
 refine k_lxorL X488 hx (hb hby d2_33) (pc' := 34) rfl (z := p12) Int64.xor_zero ?_
 refine k_lastore X488 hx hZ e488 Vw488 ⟨by decide, by decide⟩ (i := 8) rfl (Nat.le_of_ble_eq_true rfl) (hb hby d2_34) (pc' := 35) rfl (fun T491 h491 X491 e491 W491 V491 => ?_)
 have Vw491 : Arv Z h491 a1 k13 .long (9 : Int32) [(.long p4), (.long p5), (.long p6), (.long p7), (.long p8), (.long p9), (.long p10), (.long p11), (.long p12)] (.long (0 : Int64)) := V491
 have N491 := Fr.snoc X491 N488 g_a1
 have Z491 : n0 ≤ h491.size := Nat.le_trans Z488 (Nat.le_of_eq W491.size.symm)
 refine k_iinc X491 hx (hb hby d2_35) rfl (pc' := 38) rfl (z := (9 : Int32)) (by decide) (Ls' := #[.val (.ref a1), .val (.ref a2), .val (.ref a1), .val (.long (0 : Int64)), .second, .val (.long (0 : Int64)), .second, .val (.int (9 : Int32))]) rfl ?_
 refine k_goto X491 hx (hb hby d2_38) (pc' := 7) (by decide) ?_
 refine k_iload X491 hx (hb hby d2_7) rfl (pc' := 9) rfl ?_
 refine k_bipush X491 hx (hb hby d2_9) (pc' := 11) rfl (z := (9 : Int32)) rfl ?_
 refine k_icmp_ge X491 hx (hb hby d2_11) (pn := 14) rfl (py := 41) (by decide) (fun _ => ?_) (fun hc => absurd hc (by decide))
 have F492 := (F489.other W491 (Nat.ne_of_lt lt0_0))
 have F493 := (((((((((F0_4.other W467 (Ne.symm (Nat.ne_of_lt lt0_1))).other W470 (Ne.symm (Nat.ne_of_lt lt0_1))).other W473 (Ne.symm (Nat.ne_of_lt lt0_1))).other W476 (Ne.symm (Nat.ne_of_lt lt0_1))).other W479 (Ne.symm (Nat.ne_of_lt lt0_1))).other W482 (Ne.symm (Nat.ne_of_lt lt0_1))).other W485 (Ne.symm (Nat.ne_of_lt lt0_1))).other W488 (Ne.symm (Nat.ne_of_lt lt0_1))).other W491 (Ne.symm (Nat.ne_of_lt lt0_1)))
 have F494 := (((((((((F0_6.other W467 (Ne.symm (Nat.ne_of_lt (Nat.lt_trans lt0_1 lt0_2)))).other W470 (Ne.symm (Nat.ne_of_lt (Nat.lt_trans lt0_1 lt0_2)))).other W473 (Ne.symm (Nat.ne_of_lt (Nat.lt_trans lt0_1 lt0_2)))).other W476 (Ne.symm (Nat.ne_of_lt (Nat.lt_trans lt0_1 lt0_2)))).other W479 (Ne.symm (Nat.ne_of_lt (Nat.lt_trans lt0_1 lt0_2)))).other W482 (Ne.symm (Nat.ne_of_lt (Nat.lt_trans lt0_1 lt0_2)))).other W485 (Ne.symm (Nat.ne_of_lt (Nat.lt_trans lt0_1 lt0_2)))).other W488 (Ne.symm (Nat.ne_of_lt (Nat.lt_trans lt0_1 lt0_2)))).other W491 (Ne.symm (Nat.ne_of_lt (Nat.lt_trans lt0_1 lt0_2))))
 have F495 := (((((((((F0_8.other W467 (Ne.symm (Nat.ne_of_lt (Nat.lt_trans (Nat.lt_trans lt0_1 lt0_2) lt0_3)))).other W470 (Ne.symm (Nat.ne_of_lt (Nat.lt_trans (Nat.lt_trans lt0_1 lt0_2) lt0_3)))).other W473 (Ne.symm (Nat.ne_of_lt (Nat.lt_trans (Nat.lt_trans lt0_1 lt0_2) lt0_3)))).other W476 (Ne.symm (Nat.ne_of_lt (Nat.lt_trans (Nat.lt_trans lt0_1 lt0_2) lt0_3)))).other W479 (Ne.symm (Nat.ne_of_lt (Nat.lt_trans (Nat.lt_trans lt0_1 lt0_2) lt0_3)))).other W482 (Ne.symm (Nat.ne_of_lt (Nat.lt_trans (Nat.lt_trans lt0_1 lt0_2) lt0_3)))).other W485 (Ne.symm (Nat.ne_of_lt (Nat.lt_trans (Nat.lt_trans lt0_1 lt0_2) lt0_3)))).other W488 (Ne.symm (Nat.ne_of_lt (Nat.lt_trans (Nat.lt_trans lt0_1 lt0_2) lt0_3)))).other W491 (Ne.symm (Nat.ne_of_lt (Nat.lt_trans (Nat.lt_trans lt0_1 lt0_2) lt0_3))))
 exact k_ret X491 hx Bd.returns (hb hby d2_41) hlk (by decide) (by decide) (by rw [e491]; exact ⟨N491, ⟨rfl, F492, Vw491, F493, F494, F495, Z491⟩⟩)
abbrev R2_733 : Room := { frames := 0, cells := 0, slots := 0, locals := 0 }
def Q2_733 (Z : State) (a1 : Addr) (a2 : Addr) (a3 : Addr) (k4 : ClassId) (p5 : Int64) (p6 : Int64) (p7 : Int64) (p8 : Int64) (p9 : Int64) (p10 : Int64) (p11 : Int64) (p12 : Int64) (p13 : Int64) (k14 : ClassId) (p15 : Int64) (p16 : Int64) (p17 : Int64) (p18 : Int64) (p19 : Int64) (p20 : Int64) (p21 : Int64) (p22 : Int64) (p23 : Int64) (a24 : Addr) (k25 : ClassId) (a26 : Addr) (k27 : ClassId) (k28 : ClassId) (p29 : Int64) (p30 : Int64) (p31 : Int64) (p32 : Int64) (p33 : Int64) (p34 : Int64) (p35 : Int64) (p36 : Int64) (p37 : Int64) (h0 : Heap) (n0 : Nat) (v : Option Value) (h : Heap) (L : List Loc) : Prop := Fr n0 L ∧ ((v = none ∧ Arv Z h a2 k4 .long (9 : Int32) [(.long p5), (.long p6), (.long p7), (.long p8), (.long p9), (.long p10), (.long p11), (.long p12), (.long p13)] (.long (0 : Int64)) ∧ Arv Z h a3 k14 .long (9 : Int32) [(.long p15), (.long p16), (.long p17), (.long p18), (.long p19), (.long p20), (.long p21), (.long p22), (.long p23)] (.long (0 : Int64)) ∧ Arv Z h a24 k25 .long (9 : Int32) [(.long p5), (.long p6), (.long p7), (.long p8), (.long p9), (.long p10), (.long p11), (.long p12), (.long p13)] (.long (0 : Int64)) ∧ Arv Z h a26 k27 .long (9 : Int32) [(.long p15), (.long p16), (.long p17), (.long p18), (.long p19), (.long p20), (.long p21), (.long p22), (.long p23)] (.long (0 : Int64)) ∧ Arv Z h a1 k28 .long (9 : Int32) [(.long p15), (.long p16), (.long p17), (.long p18), (.long p19), (.long p20), (.long p21), (.long p22), (.long p23)] (.long (0 : Int64)) ∧ n0 ≤ h.size))
theorem ef2_733 (m : MethodId) (x0 : Addr) (x1 : Addr) (x2 : Addr) : entryFrame m #[(.ref x0), (.ref x1), (.ref x2), (.long (1 : Int64))] 8 = mkF m 0 #[.val (.ref x0), .val (.ref x1), .val (.ref x2), .val (.long (1 : Int64)), .second, .unset, .unset, .unset] [] := by first | (simp [entryFrame, mkF, argsToLocals, Value.category]; done) | rfl
set_option maxRecDepth 65536 in
set_option maxHeartbeats 40000000 in
theorem rm2_733 (l : Launch) (Z : State) (a0 : Array Value) (hw : ∀ d ∈ tables_1, d.before a0 Z = true) (ws : List Jvm.Cond) (a1 : Addr) (a2 : Addr) (a3 : Addr) (k4 : ClassId) (p5 : Int64) (p6 : Int64) (p7 : Int64) (p8 : Int64) (p9 : Int64) (p10 : Int64) (p11 : Int64) (p12 : Int64) (p13 : Int64) (k14 : ClassId) (p15 : Int64) (p16 : Int64) (p17 : Int64) (p18 : Int64) (p19 : Int64) (p20 : Int64) (p21 : Int64) (p22 : Int64) (p23 : Int64) (a24 : Addr) (k25 : ClassId) (a26 : Addr) (k27 : ClassId) (k28 : ClassId) (p29 : Int64) (p30 : Int64) (p31 : Int64) (p32 : Int64) (p33 : Int64) (p34 : Int64) (p35 : Int64) (p36 : Int64) (p37 : Int64) (h0 : Heap) (n0 : Nat) (Z0 : n0 ≤ h0.size) (F0_0 : Arv Z h0 a2 k4 .long (9 : Int32) [(.long p5), (.long p6), (.long p7), (.long p8), (.long p9), (.long p10), (.long p11), (.long p12), (.long p13)] (.long (0 : Int64))) (g_a2 : n0 ≤ a2) (F0_2 : Arv Z h0 a3 k14 .long (9 : Int32) [(.long p15), (.long p16), (.long p17), (.long p18), (.long p19), (.long p20), (.long p21), (.long p22), (.long p23)] (.long (0 : Int64))) (g_a3 : n0 ≤ a3) (F0_4 : Arv Z h0 a24 k25 .long (9 : Int32) [(.long p5), (.long p6), (.long p7), (.long p8), (.long p9), (.long p10), (.long p11), (.long p12), (.long p13)] (.long (0 : Int64))) (g_a24 : n0 ≤ a24) (F0_6 : Arv Z h0 a26 k27 .long (9 : Int32) [(.long p15), (.long p16), (.long p17), (.long p18), (.long p19), (.long p20), (.long p21), (.long p22), (.long p23)] (.long (0 : Int64))) (g_a26 : n0 ≤ a26) (F0_8 : Arv Z h0 a1 k28 .long (9 : Int32) [(.long p29), (.long p30), (.long p31), (.long p32), (.long p33), (.long p34), (.long p35), (.long p36), (.long p37)] (.long (0 : Int64))) (g_a1 : n0 ≤ a1) (lt0_0 : a2 < a3) (lt0_1 : a3 < a24) (lt0_2 : a24 < a26) (lt0_3 : a26 < a1) :
    MetFree l (⟨"com/example/portcullis/portcullis/protocol/Field", "select", "([J[J[JJ)V"⟩ : MethodName) (head1 (Jvm.Cond.code (⟨"com/example/portcullis/portcullis/protocol/Field", "select", "([J[J[JJ)V"⟩ : MethodName) prog_3_method_12_code 8 none :: ws) R2_733) (fun a U => a = #[(.ref a1), (.ref a2), (.ref a3), (.long (1 : Int64))] ∧ Z.Warmed39 U.vm ∧ U.heap = h0) (fun _ _ _ _ _ => True) (fun _ U o U' => ∃ v L, o = .returned v ∧ Q2_733 Z a1 a2 a3 k4 p5 p6 p7 p8 p9 p10 p11 p12 p13 k14 p15 p16 p17 p18 p19 p20 p21 p22 p23 a24 k25 a26 k27 k28 p29 p30 p31 p32 p33 p34 p35 p36 p37 h0 n0 v U'.heap L ∧ FrameEnd U o U' L R2_733.cells R2_733.slots) := by
 refine MetFree.of_bodySF (plainFor_of_name pn_1) hisR ?_
 intro p e s m args below meth c s₁ Bd hml0 hP hK
 obtain ⟨rfl, hZ, hh⟩ := hP
 have hx := Bd.exec
 have hby := Bd.bytes
 have hml : c.maxLocals = 8 := hml0
 have hlk : meth.locks = false := Bd.notSynchronized
 have hown : s.vm.findClass "com/example/portcullis/portcullis/protocol/Field" = some m.cls := findClass_of_methodNamed Bd.named
 have hnm := (name_of_methodNamed Bd.named Bd.method).1
 have X0 : Stand p l e R2_733 s m #[(.ref a1), (.ref a2), (.ref a3), (.long (1 : Int64))] below meth c s₁ [] 0 0 := Stand.of_body Bd
 have e0 : s₁.heap = h0 := by rw [← hh, Bd.state]; rfl
 have N0 := Fr.nil n0
 rw [ef2_733 m a1 a2 a3]
 show KEnds p e below s R2_733.cells R2_733.slots (Q2_733 Z a1 a2 a3 k4 p5 p6 p7 p8 p9 p10 p11 p12 p13 k14 p15 p16 p17 p18 p19 p20 p21 p22 p23 a24 k25 a26 k27 k28 p29 p30 p31 p32 p33 p34 p35 p36 p37 h0 n0) s₁ (mkF m 0 #[.val (.ref a1), .val (.ref a2), .val (.ref a3), .val (.long (1 : Int64)), .second, .unset, .unset, .unset] [])
 refine k_lloadN X0 hx (hb hby d2_0) rfl (pc' := 1) rfl ?_
 refine k_lnegL X0 hx (hb hby d2_1) (pc' := 2) rfl (z := (-1 : Int64)) (by decide) ?_
 refine k_lstore X0 hx (hb hby d2_2) (Ls' := #[.val (.ref a1), .val (.ref a2), .val (.ref a3), .val (.long (1 : Int64)), .second, .val (.long (-1 : Int64)), .second, .unset]) rfl (pc' := 4) rfl ?_
 refine k_iconst X0 hx (hb hby d2_4) (pc' := 5) rfl (z := (0 : Int32)) rfl ?_
 refine k_istore X0 hx (hb hby d2_5) (Ls' := #[.val (.ref a1), .val (.ref a2), .val (.ref a3), .val (.long (1 : Int64)), .second, .val (.long (-1 : Int64)), .second, .val (.int (0 : Int32))]) rfl (pc' := 7) rfl ?_
 refine k_iload X0 hx (hb hby d2_7) rfl (pc' := 9) rfl ?_
 refine k_bipush X0 hx (hb hby d2_9) (pc' := 11) rfl (z := (9 : Int32)) rfl ?_
 refine k_icmp_ge X0 hx (hb hby d2_11) (pn := 14) rfl (py := 41) (by decide) (fun hc => absurd (by decide) hc) (fun _ => ?_)
 refine k_aloadN X0 hx (hb hby d2_14) rfl rfl (pc' := 15) rfl ?_
 refine k_iload X0 hx (hb hby d2_15) rfl (pc' := 17) rfl ?_
 refine k_aloadN X0 hx (hb hby d2_17) rfl rfl (pc' := 18) rfl ?_
 refine k_iload X0 hx (hb hby d2_18) rfl (pc' := 20) rfl ?_
 refine k_laload X0 hx hZ e0 F0_0 ⟨by decide, by decide⟩ (v := (.long p5)) rfl (hb hby d2_20) (pc' := 21) rfl ?_
 refine k_aloadN X0 hx (hb hby d2_21) rfl rfl (pc' := 22) rfl ?_
 refine k_iload X0 hx (hb hby d2_22) rfl (pc' := 24) rfl ?_
 refine k_laload X0 hx hZ e0 F0_0 ⟨by decide, by decide⟩ (v := (.long p5)) rfl (hb hby d2_24) (pc' := 25) rfl ?_
 refine k_aloadN X0 hx (hb hby d2_25) rfl rfl (pc' := 26) rfl ?_
 refine k_iload X0 hx (hb hby d2_26) rfl (pc' := 28) rfl ?_
 refine k_laload X0 hx hZ e0 F0_2 ⟨by decide, by decide⟩ (v := (.long p15)) rfl (hb hby d2_28) (pc' := 29) rfl ?_
 refine k_lxor X0 hx (hb hby d2_29) (pc' := 30) rfl (fun v734 hv734 => ?_)
 refine k_lload X0 hx (hb hby d2_30) rfl (pc' := 32) rfl ?_
 refine k_landL X0 hx (hb hby d2_32) (pc' := 33) rfl (z := v734) Int64.and_neg_one ?_
 refine k_lxorL X0 hx (hb hby d2_33) (pc' := 34) rfl (z := p15) (by rw [hv734, ← Int64.xor_assoc, Int64.xor_self, Int64.zero_xor]) ?_
 refine k_lastore X0 hx hZ e0 F0_8 ⟨by decide, by decide⟩ (i := 0) rfl (Nat.le_of_ble_eq_true rfl) (hb hby d2_34) (pc' := 35) rfl (fun T735 h735 X735 e735 W735 V735 => ?_)
 have Vw735 : Arv Z h735 a1 k28 .long (9 : Int32) [(.long p15), (.long p30), (.long p31), (.long p32), (.long p33), (.long p34), (.long p35), (.long p36), (.long p37)] (.long (0 : Int64)) := V735
 have N735 := Fr.snoc X735 N0 g_a1
 have Z735 : n0 ≤ h735.size := Nat.le_trans Z0 (Nat.le_of_eq W735.size.symm)
 refine k_iinc X735 hx (hb hby d2_35) rfl (pc' := 38) rfl (z := (1 : Int32)) (by decide) (Ls' := #[.val (.ref a1), .val (.ref a2), .val (.ref a3), .val (.long (1 : Int64)), .second, .val (.long (-1 : Int64)), .second, .val (.int (1 : Int32))]) rfl ?_
 refine k_goto X735 hx (hb hby d2_38) (pc' := 7) (by decide) ?_
 refine k_iload X735 hx (hb hby d2_7) rfl (pc' := 9) rfl ?_
 refine k_bipush X735 hx (hb hby d2_9) (pc' := 11) rfl (z := (9 : Int32)) rfl ?_
 refine k_icmp_ge X735 hx (hb hby d2_11) (pn := 14) rfl (py := 41) (by decide) (fun hc => absurd (by decide) hc) (fun _ => ?_)
 refine k_aloadN X735 hx (hb hby d2_14) rfl rfl (pc' := 15) rfl ?_
 refine k_iload X735 hx (hb hby d2_15) rfl (pc' := 17) rfl ?_
 refine k_aloadN X735 hx (hb hby d2_17) rfl rfl (pc' := 18) rfl ?_
 refine k_iload X735 hx (hb hby d2_18) rfl (pc' := 20) rfl ?_
 have F736 := (F0_0.other W735 (Nat.ne_of_lt (Nat.lt_trans (Nat.lt_trans (Nat.lt_trans lt0_0 lt0_1) lt0_2) lt0_3)))
 refine k_laload X735 hx hZ e735 F736 ⟨by decide, by decide⟩ (v := (.long p6)) rfl (hb hby d2_20) (pc' := 21) rfl ?_
 refine k_aloadN X735 hx (hb hby d2_21) rfl rfl (pc' := 22) rfl ?_
 refine k_iload X735 hx (hb hby d2_22) rfl (pc' := 24) rfl ?_
 refine k_laload X735 hx hZ e735 F736 ⟨by decide, by decide⟩ (v := (.long p6)) rfl (hb hby d2_24) (pc' := 25) rfl ?_
 refine k_aloadN X735 hx (hb hby d2_25) rfl rfl (pc' := 26) rfl ?_
 refine k_iload X735 hx (hb hby d2_26) rfl (pc' := 28) rfl ?_
 have F737 := (F0_2.other W735 (Nat.ne_of_lt (Nat.lt_trans (Nat.lt_trans lt0_1 lt0_2) lt0_3)))
 refine k_laload X735 hx hZ e735 F737 ⟨by decide, by decide⟩ (v := (.long p16)) rfl (hb hby d2_28) (pc' := 29) rfl ?_
 refine k_lxor X735 hx (hb hby d2_29) (pc' := 30) rfl (fun v738 hv738 => ?_)
 refine k_lload X735 hx (hb hby d2_30) rfl (pc' := 32) rfl ?_
 refine k_landL X735 hx (hb hby d2_32) (pc' := 33) rfl (z := v738) Int64.and_neg_one ?_
 refine k_lxorL X735 hx (hb hby d2_33) (pc' := 34) rfl (z := p16) (by rw [hv738, ← Int64.xor_assoc, Int64.xor_self, Int64.zero_xor]) ?_
 refine k_lastore X735 hx hZ e735 Vw735 ⟨by decide, by decide⟩ (i := 1) rfl (Nat.le_of_ble_eq_true rfl) (hb hby d2_34) (pc' := 35) rfl (fun T739 h739 X739 e739 W739 V739 => ?_)
 have Vw739 : Arv Z h739 a1 k28 .long (9 : Int32) [(.long p15), (.long p16), (.long p31), (.long p32), (.long p33), (.long p34), (.long p35), (.long p36), (.long p37)] (.long (0 : Int64)) := V739
 have N739 := Fr.snoc X739 N735 g_a1
 have Z739 : n0 ≤ h739.size := Nat.le_trans Z735 (Nat.le_of_eq W739.size.symm)
 refine k_iinc X739 hx (hb hby d2_35) rfl (pc' := 38) rfl (z := (2 : Int32)) (by decide) (Ls' := #[.val (.ref a1), .val (.ref a2), .val (.ref a3), .val (.long (1 : Int64)), .second, .val (.long (-1 : Int64)), .second, .val (.int (2 : Int32))]) rfl ?_
 refine k_goto X739 hx (hb hby d2_38) (pc' := 7) (by decide) ?_
 refine k_iload X739 hx (hb hby d2_7) rfl (pc' := 9) rfl ?_
 refine k_bipush X739 hx (hb hby d2_9) (pc' := 11) rfl (z := (9 : Int32)) rfl ?_
 refine k_icmp_ge X739 hx (hb hby d2_11) (pn := 14) rfl (py := 41) (by decide) (fun hc => absurd (by decide) hc) (fun _ => ?_)
 refine k_aloadN X739 hx (hb hby d2_14) rfl rfl (pc' := 15) rfl ?_
 refine k_iload X739 hx (hb hby d2_15) rfl (pc' := 17) rfl ?_
 refine k_aloadN X739 hx (hb hby d2_17) rfl rfl (pc' := 18) rfl ?_
 refine k_iload X739 hx (hb hby d2_18) rfl (pc' := 20) rfl ?_
 have F740 := (F736.other W739 (Nat.ne_of_lt (Nat.lt_trans (Nat.lt_trans (Nat.lt_trans lt0_0 lt0_1) lt0_2) lt0_3)))
 refine k_laload X739 hx hZ e739 F740 ⟨by decide, by decide⟩ (v := (.long p7)) rfl (hb hby d2_20) (pc' := 21) rfl ?_
 refine k_aloadN X739 hx (hb hby d2_21) rfl rfl (pc' := 22) rfl ?_
 refine k_iload X739 hx (hb hby d2_22) rfl (pc' := 24) rfl ?_
 refine k_laload X739 hx hZ e739 F740 ⟨by decide, by decide⟩ (v := (.long p7)) rfl (hb hby d2_24) (pc' := 25) rfl ?_
 refine k_aloadN X739 hx (hb hby d2_25) rfl rfl (pc' := 26) rfl ?_
 refine k_iload X739 hx (hb hby d2_26) rfl (pc' := 28) rfl ?_
 have F741 := (F737.other W739 (Nat.ne_of_lt (Nat.lt_trans (Nat.lt_trans lt0_1 lt0_2) lt0_3)))
 refine k_laload X739 hx hZ e739 F741 ⟨by decide, by decide⟩ (v := (.long p17)) rfl (hb hby d2_28) (pc' := 29) rfl ?_
 refine k_lxor X739 hx (hb hby d2_29) (pc' := 30) rfl (fun v742 hv742 => ?_)
 refine k_lload X739 hx (hb hby d2_30) rfl (pc' := 32) rfl ?_
 refine k_landL X739 hx (hb hby d2_32) (pc' := 33) rfl (z := v742) Int64.and_neg_one ?_
 refine k_lxorL X739 hx (hb hby d2_33) (pc' := 34) rfl (z := p17) (by rw [hv742, ← Int64.xor_assoc, Int64.xor_self, Int64.zero_xor]) ?_
 refine k_lastore X739 hx hZ e739 Vw739 ⟨by decide, by decide⟩ (i := 2) rfl (Nat.le_of_ble_eq_true rfl) (hb hby d2_34) (pc' := 35) rfl (fun T743 h743 X743 e743 W743 V743 => ?_)
 have Vw743 : Arv Z h743 a1 k28 .long (9 : Int32) [(.long p15), (.long p16), (.long p17), (.long p32), (.long p33), (.long p34), (.long p35), (.long p36), (.long p37)] (.long (0 : Int64)) := V743
 have N743 := Fr.snoc X743 N739 g_a1
 have Z743 : n0 ≤ h743.size := Nat.le_trans Z739 (Nat.le_of_eq W743.size.symm)
 refine k_iinc X743 hx (hb hby d2_35) rfl (pc' := 38) rfl (z := (3 : Int32)) (by decide) (Ls' := #[.val (.ref a1), .val (.ref a2), .val (.ref a3), .val (.long (1 : Int64)), .second, .val (.long (-1 : Int64)), .second, .val (.int (3 : Int32))]) rfl ?_
 refine k_goto X743 hx (hb hby d2_38) (pc' := 7) (by decide) ?_
 refine k_iload X743 hx (hb hby d2_7) rfl (pc' := 9) rfl ?_
 refine k_bipush X743 hx (hb hby d2_9) (pc' := 11) rfl (z := (9 : Int32)) rfl ?_
 refine k_icmp_ge X743 hx (hb hby d2_11) (pn := 14) rfl (py := 41) (by decide) (fun hc => absurd (by decide) hc) (fun _ => ?_)
 refine k_aloadN X743 hx (hb hby d2_14) rfl rfl (pc' := 15) rfl ?_
 refine k_iload X743 hx (hb hby d2_15) rfl (pc' := 17) rfl ?_
 refine k_aloadN X743 hx (hb hby d2_17) rfl rfl (pc' := 18) rfl ?_
 refine k_iload X743 hx (hb hby d2_18) rfl (pc' := 20) rfl ?_
 have F744 := (F740.other W743 (Nat.ne_of_lt (Nat.lt_trans (Nat.lt_trans (Nat.lt_trans lt0_0 lt0_1) lt0_2) lt0_3)))
 refine k_laload X743 hx hZ e743 F744 ⟨by decide, by decide⟩ (v := (.long p8)) rfl (hb hby d2_20) (pc' := 21) rfl ?_
 refine k_aloadN X743 hx (hb hby d2_21) rfl rfl (pc' := 22) rfl ?_
 refine k_iload X743 hx (hb hby d2_22) rfl (pc' := 24) rfl ?_
 refine k_laload X743 hx hZ e743 F744 ⟨by decide, by decide⟩ (v := (.long p8)) rfl (hb hby d2_24) (pc' := 25) rfl ?_
 refine k_aloadN X743 hx (hb hby d2_25) rfl rfl (pc' := 26) rfl ?_
 refine k_iload X743 hx (hb hby d2_26) rfl (pc' := 28) rfl ?_
 have F745 := (F741.other W743 (Nat.ne_of_lt (Nat.lt_trans (Nat.lt_trans lt0_1 lt0_2) lt0_3)))
 refine k_laload X743 hx hZ e743 F745 ⟨by decide, by decide⟩ (v := (.long p18)) rfl (hb hby d2_28) (pc' := 29) rfl ?_
 refine k_lxor X743 hx (hb hby d2_29) (pc' := 30) rfl (fun v746 hv746 => ?_)
 refine k_lload X743 hx (hb hby d2_30) rfl (pc' := 32) rfl ?_
 refine k_landL X743 hx (hb hby d2_32) (pc' := 33) rfl (z := v746) Int64.and_neg_one ?_
 refine k_lxorL X743 hx (hb hby d2_33) (pc' := 34) rfl (z := p18) (by rw [hv746, ← Int64.xor_assoc, Int64.xor_self, Int64.zero_xor]) ?_
 refine k_lastore X743 hx hZ e743 Vw743 ⟨by decide, by decide⟩ (i := 3) rfl (Nat.le_of_ble_eq_true rfl) (hb hby d2_34) (pc' := 35) rfl (fun T747 h747 X747 e747 W747 V747 => ?_)
 have Vw747 : Arv Z h747 a1 k28 .long (9 : Int32) [(.long p15), (.long p16), (.long p17), (.long p18), (.long p33), (.long p34), (.long p35), (.long p36), (.long p37)] (.long (0 : Int64)) := V747
 have N747 := Fr.snoc X747 N743 g_a1
 have Z747 : n0 ≤ h747.size := Nat.le_trans Z743 (Nat.le_of_eq W747.size.symm)
 refine k_iinc X747 hx (hb hby d2_35) rfl (pc' := 38) rfl (z := (4 : Int32)) (by decide) (Ls' := #[.val (.ref a1), .val (.ref a2), .val (.ref a3), .val (.long (1 : Int64)), .second, .val (.long (-1 : Int64)), .second, .val (.int (4 : Int32))]) rfl ?_
 refine k_goto X747 hx (hb hby d2_38) (pc' := 7) (by decide) ?_
 refine k_iload X747 hx (hb hby d2_7) rfl (pc' := 9) rfl ?_
 refine k_bipush X747 hx (hb hby d2_9) (pc' := 11) rfl (z := (9 : Int32)) rfl ?_
 refine k_icmp_ge X747 hx (hb hby d2_11) (pn := 14) rfl (py := 41) (by decide) (fun hc => absurd (by decide) hc) (fun _ => ?_)
 refine k_aloadN X747 hx (hb hby d2_14) rfl rfl (pc' := 15) rfl ?_
 refine k_iload X747 hx (hb hby d2_15) rfl (pc' := 17) rfl ?_
 refine k_aloadN X747 hx (hb hby d2_17) rfl rfl (pc' := 18) rfl ?_
 refine k_iload X747 hx (hb hby d2_18) rfl (pc' := 20) rfl ?_
 have F748 := (F744.other W747 (Nat.ne_of_lt (Nat.lt_trans (Nat.lt_trans (Nat.lt_trans lt0_0 lt0_1) lt0_2) lt0_3)))
 refine k_laload X747 hx hZ e747 F748 ⟨by decide, by decide⟩ (v := (.long p9)) rfl (hb hby d2_20) (pc' := 21) rfl ?_
 refine k_aloadN X747 hx (hb hby d2_21) rfl rfl (pc' := 22) rfl ?_
 refine k_iload X747 hx (hb hby d2_22) rfl (pc' := 24) rfl ?_
 refine k_laload X747 hx hZ e747 F748 ⟨by decide, by decide⟩ (v := (.long p9)) rfl (hb hby d2_24) (pc' := 25) rfl ?_
 refine k_aloadN X747 hx (hb hby d2_25) rfl rfl (pc' := 26) rfl ?_
 refine k_iload X747 hx (hb hby d2_26) rfl (pc' := 28) rfl ?_
 have F749 := (F745.other W747 (Nat.ne_of_lt (Nat.lt_trans (Nat.lt_trans lt0_1 lt0_2) lt0_3)))
 refine k_laload X747 hx hZ e747 F749 ⟨by decide, by decide⟩ (v := (.long p19)) rfl (hb hby d2_28) (pc' := 29) rfl ?_
 refine k_lxor X747 hx (hb hby d2_29) (pc' := 30) rfl (fun v750 hv750 => ?_)
 refine k_lload X747 hx (hb hby d2_30) rfl (pc' := 32) rfl ?_
 refine k_landL X747 hx (hb hby d2_32) (pc' := 33) rfl (z := v750) Int64.and_neg_one ?_
 refine k_lxorL X747 hx (hb hby d2_33) (pc' := 34) rfl (z := p19) (by rw [hv750, ← Int64.xor_assoc, Int64.xor_self, Int64.zero_xor]) ?_
 refine k_lastore X747 hx hZ e747 Vw747 ⟨by decide, by decide⟩ (i := 4) rfl (Nat.le_of_ble_eq_true rfl) (hb hby d2_34) (pc' := 35) rfl (fun T751 h751 X751 e751 W751 V751 => ?_)
 have Vw751 : Arv Z h751 a1 k28 .long (9 : Int32) [(.long p15), (.long p16), (.long p17), (.long p18), (.long p19), (.long p34), (.long p35), (.long p36), (.long p37)] (.long (0 : Int64)) := V751
 have N751 := Fr.snoc X751 N747 g_a1
 have Z751 : n0 ≤ h751.size := Nat.le_trans Z747 (Nat.le_of_eq W751.size.symm)
 refine k_iinc X751 hx (hb hby d2_35) rfl (pc' := 38) rfl (z := (5 : Int32)) (by decide) (Ls' := #[.val (.ref a1), .val (.ref a2), .val (.ref a3), .val (.long (1 : Int64)), .second, .val (.long (-1 : Int64)), .second, .val (.int (5 : Int32))]) rfl ?_
 refine k_goto X751 hx (hb hby d2_38) (pc' := 7) (by decide) ?_
 refine k_iload X751 hx (hb hby d2_7) rfl (pc' := 9) rfl ?_
 refine k_bipush X751 hx (hb hby d2_9) (pc' := 11) rfl (z := (9 : Int32)) rfl ?_
 refine k_icmp_ge X751 hx (hb hby d2_11) (pn := 14) rfl (py := 41) (by decide) (fun hc => absurd (by decide) hc) (fun _ => ?_)
 refine k_aloadN X751 hx (hb hby d2_14) rfl rfl (pc' := 15) rfl ?_
 refine k_iload X751 hx (hb hby d2_15) rfl (pc' := 17) rfl ?_
 refine k_aloadN X751 hx (hb hby d2_17) rfl rfl (pc' := 18) rfl ?_
 refine k_iload X751 hx (hb hby d2_18) rfl (pc' := 20) rfl ?_
 have F752 := (F748.other W751 (Nat.ne_of_lt (Nat.lt_trans (Nat.lt_trans (Nat.lt_trans lt0_0 lt0_1) lt0_2) lt0_3)))
 refine k_laload X751 hx hZ e751 F752 ⟨by decide, by decide⟩ (v := (.long p10)) rfl (hb hby d2_20) (pc' := 21) rfl ?_
 refine k_aloadN X751 hx (hb hby d2_21) rfl rfl (pc' := 22) rfl ?_
 refine k_iload X751 hx (hb hby d2_22) rfl (pc' := 24) rfl ?_
 refine k_laload X751 hx hZ e751 F752 ⟨by decide, by decide⟩ (v := (.long p10)) rfl (hb hby d2_24) (pc' := 25) rfl ?_
 refine k_aloadN X751 hx (hb hby d2_25) rfl rfl (pc' := 26) rfl ?_
 refine k_iload X751 hx (hb hby d2_26) rfl (pc' := 28) rfl ?_
 have F753 := (F749.other W751 (Nat.ne_of_lt (Nat.lt_trans (Nat.lt_trans lt0_1 lt0_2) lt0_3)))
 refine k_laload X751 hx hZ e751 F753 ⟨by decide, by decide⟩ (v := (.long p20)) rfl (hb hby d2_28) (pc' := 29) rfl ?_
 refine k_lxor X751 hx (hb hby d2_29) (pc' := 30) rfl (fun v754 hv754 => ?_)
 refine k_lload X751 hx (hb hby d2_30) rfl (pc' := 32) rfl ?_
 refine k_landL X751 hx (hb hby d2_32) (pc' := 33) rfl (z := v754) Int64.and_neg_one ?_
 refine k_lxorL X751 hx (hb hby d2_33) (pc' := 34) rfl (z := p20) (by rw [hv754, ← Int64.xor_assoc, Int64.xor_self, Int64.zero_xor]) ?_
 refine k_lastore X751 hx hZ e751 Vw751 ⟨by decide, by decide⟩ (i := 5) rfl (Nat.le_of_ble_eq_true rfl) (hb hby d2_34) (pc' := 35) rfl (fun T755 h755 X755 e755 W755 V755 => ?_)
 have Vw755 : Arv Z h755 a1 k28 .long (9 : Int32) [(.long p15), (.long p16), (.long p17), (.long p18), (.long p19), (.long p20), (.long p35), (.long p36), (.long p37)] (.long (0 : Int64)) := V755
 have N755 := Fr.snoc X755 N751 g_a1
 have Z755 : n0 ≤ h755.size := Nat.le_trans Z751 (Nat.le_of_eq W755.size.symm)
 refine k_iinc X755 hx (hb hby d2_35) rfl (pc' := 38) rfl (z := (6 : Int32)) (by decide) (Ls' := #[.val (.ref a1), .val (.ref a2), .val (.ref a3), .val (.long (1 : Int64)), .second, .val (.long (-1 : Int64)), .second, .val (.int (6 : Int32))]) rfl ?_
 refine k_goto X755 hx (hb hby d2_38) (pc' := 7) (by decide) ?_
 refine k_iload X755 hx (hb hby d2_7) rfl (pc' := 9) rfl ?_
 refine k_bipush X755 hx (hb hby d2_9) (pc' := 11) rfl (z := (9 : Int32)) rfl ?_
 refine k_icmp_ge X755 hx (hb hby d2_11) (pn := 14) rfl (py := 41) (by decide) (fun hc => absurd (by decide) hc) (fun _ => ?_)
 refine k_aloadN X755 hx (hb hby d2_14) rfl rfl (pc' := 15) rfl ?_
 refine k_iload X755 hx (hb hby d2_15) rfl (pc' := 17) rfl ?_
 refine k_aloadN X755 hx (hb hby d2_17) rfl rfl (pc' := 18) rfl ?_
 refine k_iload X755 hx (hb hby d2_18) rfl (pc' := 20) rfl ?_
 have F756 := (F752.other W755 (Nat.ne_of_lt (Nat.lt_trans (Nat.lt_trans (Nat.lt_trans lt0_0 lt0_1) lt0_2) lt0_3)))
 refine k_laload X755 hx hZ e755 F756 ⟨by decide, by decide⟩ (v := (.long p11)) rfl (hb hby d2_20) (pc' := 21) rfl ?_
 refine k_aloadN X755 hx (hb hby d2_21) rfl rfl (pc' := 22) rfl ?_
 refine k_iload X755 hx (hb hby d2_22) rfl (pc' := 24) rfl ?_
 refine k_laload X755 hx hZ e755 F756 ⟨by decide, by decide⟩ (v := (.long p11)) rfl (hb hby d2_24) (pc' := 25) rfl ?_
 refine k_aloadN X755 hx (hb hby d2_25) rfl rfl (pc' := 26) rfl ?_
 refine k_iload X755 hx (hb hby d2_26) rfl (pc' := 28) rfl ?_
 have F757 := (F753.other W755 (Nat.ne_of_lt (Nat.lt_trans (Nat.lt_trans lt0_1 lt0_2) lt0_3)))
 refine k_laload X755 hx hZ e755 F757 ⟨by decide, by decide⟩ (v := (.long p21)) rfl (hb hby d2_28) (pc' := 29) rfl ?_
 refine k_lxor X755 hx (hb hby d2_29) (pc' := 30) rfl (fun v758 hv758 => ?_)
 refine k_lload X755 hx (hb hby d2_30) rfl (pc' := 32) rfl ?_
 refine k_landL X755 hx (hb hby d2_32) (pc' := 33) rfl (z := v758) Int64.and_neg_one ?_
 refine k_lxorL X755 hx (hb hby d2_33) (pc' := 34) rfl (z := p21) (by rw [hv758, ← Int64.xor_assoc, Int64.xor_self, Int64.zero_xor]) ?_
 refine k_lastore X755 hx hZ e755 Vw755 ⟨by decide, by decide⟩ (i := 6) rfl (Nat.le_of_ble_eq_true rfl) (hb hby d2_34) (pc' := 35) rfl (fun T759 h759 X759 e759 W759 V759 => ?_)
 have Vw759 : Arv Z h759 a1 k28 .long (9 : Int32) [(.long p15), (.long p16), (.long p17), (.long p18), (.long p19), (.long p20), (.long p21), (.long p36), (.long p37)] (.long (0 : Int64)) := V759
 have N759 := Fr.snoc X759 N755 g_a1
 have Z759 : n0 ≤ h759.size := Nat.le_trans Z755 (Nat.le_of_eq W759.size.symm)
 refine k_iinc X759 hx (hb hby d2_35) rfl (pc' := 38) rfl (z := (7 : Int32)) (by decide) (Ls' := #[.val (.ref a1), .val (.ref a2), .val (.ref a3), .val (.long (1 : Int64)), .second, .val (.long (-1 : Int64)), .second, .val (.int (7 : Int32))]) rfl ?_
 refine k_goto X759 hx (hb hby d2_38) (pc' := 7) (by decide) ?_
 refine k_iload X759 hx (hb hby d2_7) rfl (pc' := 9) rfl ?_
 refine k_bipush X759 hx (hb hby d2_9) (pc' := 11) rfl (z := (9 : Int32)) rfl ?_
 refine k_icmp_ge X759 hx (hb hby d2_11) (pn := 14) rfl (py := 41) (by decide) (fun hc => absurd (by decide) hc) (fun _ => ?_)
 refine k_aloadN X759 hx (hb hby d2_14) rfl rfl (pc' := 15) rfl ?_
 refine k_iload X759 hx (hb hby d2_15) rfl (pc' := 17) rfl ?_
 refine k_aloadN X759 hx (hb hby d2_17) rfl rfl (pc' := 18) rfl ?_
 refine k_iload X759 hx (hb hby d2_18) rfl (pc' := 20) rfl ?_
 have F760 := (F756.other W759 (Nat.ne_of_lt (Nat.lt_trans (Nat.lt_trans (Nat.lt_trans lt0_0 lt0_1) lt0_2) lt0_3)))
 refine k_laload X759 hx hZ e759 F760 ⟨by decide, by decide⟩ (v := (.long p12)) rfl (hb hby d2_20) (pc' := 21) rfl ?_
 refine k_aloadN X759 hx (hb hby d2_21) rfl rfl (pc' := 22) rfl ?_
 refine k_iload X759 hx (hb hby d2_22) rfl (pc' := 24) rfl ?_
 refine k_laload X759 hx hZ e759 F760 ⟨by decide, by decide⟩ (v := (.long p12)) rfl (hb hby d2_24) (pc' := 25) rfl ?_
 refine k_aloadN X759 hx (hb hby d2_25) rfl rfl (pc' := 26) rfl ?_
 refine k_iload X759 hx (hb hby d2_26) rfl (pc' := 28) rfl ?_
 have F761 := (F757.other W759 (Nat.ne_of_lt (Nat.lt_trans (Nat.lt_trans lt0_1 lt0_2) lt0_3)))
 refine k_laload X759 hx hZ e759 F761 ⟨by decide, by decide⟩ (v := (.long p22)) rfl (hb hby d2_28) (pc' := 29) rfl ?_
 refine k_lxor X759 hx (hb hby d2_29) (pc' := 30) rfl (fun v762 hv762 => ?_)
 refine k_lload X759 hx (hb hby d2_30) rfl (pc' := 32) rfl ?_
 refine k_landL X759 hx (hb hby d2_32) (pc' := 33) rfl (z := v762) Int64.and_neg_one ?_
 refine k_lxorL X759 hx (hb hby d2_33) (pc' := 34) rfl (z := p22) (by rw [hv762, ← Int64.xor_assoc, Int64.xor_self, Int64.zero_xor]) ?_
 refine k_lastore X759 hx hZ e759 Vw759 ⟨by decide, by decide⟩ (i := 7) rfl (Nat.le_of_ble_eq_true rfl) (hb hby d2_34) (pc' := 35) rfl (fun T763 h763 X763 e763 W763 V763 => ?_)
 have Vw763 : Arv Z h763 a1 k28 .long (9 : Int32) [(.long p15), (.long p16), (.long p17), (.long p18), (.long p19), (.long p20), (.long p21), (.long p22), (.long p37)] (.long (0 : Int64)) := V763
 have N763 := Fr.snoc X763 N759 g_a1
 have Z763 : n0 ≤ h763.size := Nat.le_trans Z759 (Nat.le_of_eq W763.size.symm)
 refine k_iinc X763 hx (hb hby d2_35) rfl (pc' := 38) rfl (z := (8 : Int32)) (by decide) (Ls' := #[.val (.ref a1), .val (.ref a2), .val (.ref a3), .val (.long (1 : Int64)), .second, .val (.long (-1 : Int64)), .second, .val (.int (8 : Int32))]) rfl ?_
 refine k_goto X763 hx (hb hby d2_38) (pc' := 7) (by decide) ?_
 refine k_iload X763 hx (hb hby d2_7) rfl (pc' := 9) rfl ?_
 refine k_bipush X763 hx (hb hby d2_9) (pc' := 11) rfl (z := (9 : Int32)) rfl ?_
 refine k_icmp_ge X763 hx (hb hby d2_11) (pn := 14) rfl (py := 41) (by decide) (fun hc => absurd (by decide) hc) (fun _ => ?_)
 refine k_aloadN X763 hx (hb hby d2_14) rfl rfl (pc' := 15) rfl ?_
 refine k_iload X763 hx (hb hby d2_15) rfl (pc' := 17) rfl ?_
 refine k_aloadN X763 hx (hb hby d2_17) rfl rfl (pc' := 18) rfl ?_
 refine k_iload X763 hx (hb hby d2_18) rfl (pc' := 20) rfl ?_
 have F764 := (F760.other W763 (Nat.ne_of_lt (Nat.lt_trans (Nat.lt_trans (Nat.lt_trans lt0_0 lt0_1) lt0_2) lt0_3)))
 refine k_laload X763 hx hZ e763 F764 ⟨by decide, by decide⟩ (v := (.long p13)) rfl (hb hby d2_20) (pc' := 21) rfl ?_
 refine k_aloadN X763 hx (hb hby d2_21) rfl rfl (pc' := 22) rfl ?_
 refine k_iload X763 hx (hb hby d2_22) rfl (pc' := 24) rfl ?_
 refine k_laload X763 hx hZ e763 F764 ⟨by decide, by decide⟩ (v := (.long p13)) rfl (hb hby d2_24) (pc' := 25) rfl ?_
 refine k_aloadN X763 hx (hb hby d2_25) rfl rfl (pc' := 26) rfl ?_
 refine k_iload X763 hx (hb hby d2_26) rfl (pc' := 28) rfl ?_
 have F765 := (F761.other W763 (Nat.ne_of_lt (Nat.lt_trans (Nat.lt_trans lt0_1 lt0_2) lt0_3)))
 refine k_laload X763 hx hZ e763 F765 ⟨by decide, by decide⟩ (v := (.long p23)) rfl (hb hby d2_28) (pc' := 29) rfl ?_
 refine k_lxor X763 hx (hb hby d2_29) (pc' := 30) rfl (fun v766 hv766 => ?_)
 refine k_lload X763 hx (hb hby d2_30) rfl (pc' := 32) rfl ?_
 refine k_landL X763 hx (hb hby d2_32) (pc' := 33) rfl (z := v766) Int64.and_neg_one ?_
 refine k_lxorL X763 hx (hb hby d2_33) (pc' := 34) rfl (z := p23) (by rw [hv766, ← Int64.xor_assoc, Int64.xor_self, Int64.zero_xor]) ?_
 refine k_lastore X763 hx hZ e763 Vw763 ⟨by decide, by decide⟩ (i := 8) rfl (Nat.le_of_ble_eq_true rfl) (hb hby d2_34) (pc' := 35) rfl (fun T767 h767 X767 e767 W767 V767 => ?_)
 have Vw767 : Arv Z h767 a1 k28 .long (9 : Int32) [(.long p15), (.long p16), (.long p17), (.long p18), (.long p19), (.long p20), (.long p21), (.long p22), (.long p23)] (.long (0 : Int64)) := V767
 have N767 := Fr.snoc X767 N763 g_a1
 have Z767 : n0 ≤ h767.size := Nat.le_trans Z763 (Nat.le_of_eq W767.size.symm)
 refine k_iinc X767 hx (hb hby d2_35) rfl (pc' := 38) rfl (z := (9 : Int32)) (by decide) (Ls' := #[.val (.ref a1), .val (.ref a2), .val (.ref a3), .val (.long (1 : Int64)), .second, .val (.long (-1 : Int64)), .second, .val (.int (9 : Int32))]) rfl ?_
 refine k_goto X767 hx (hb hby d2_38) (pc' := 7) (by decide) ?_
 refine k_iload X767 hx (hb hby d2_7) rfl (pc' := 9) rfl ?_
 refine k_bipush X767 hx (hb hby d2_9) (pc' := 11) rfl (z := (9 : Int32)) rfl ?_
 refine k_icmp_ge X767 hx (hb hby d2_11) (pn := 14) rfl (py := 41) (by decide) (fun _ => ?_) (fun hc => absurd hc (by decide))
 have F768 := (F764.other W767 (Nat.ne_of_lt (Nat.lt_trans (Nat.lt_trans (Nat.lt_trans lt0_0 lt0_1) lt0_2) lt0_3)))
 have F769 := (F765.other W767 (Nat.ne_of_lt (Nat.lt_trans (Nat.lt_trans lt0_1 lt0_2) lt0_3)))
 have F770 := (((((((((F0_4.other W735 (Nat.ne_of_lt (Nat.lt_trans lt0_2 lt0_3))).other W739 (Nat.ne_of_lt (Nat.lt_trans lt0_2 lt0_3))).other W743 (Nat.ne_of_lt (Nat.lt_trans lt0_2 lt0_3))).other W747 (Nat.ne_of_lt (Nat.lt_trans lt0_2 lt0_3))).other W751 (Nat.ne_of_lt (Nat.lt_trans lt0_2 lt0_3))).other W755 (Nat.ne_of_lt (Nat.lt_trans lt0_2 lt0_3))).other W759 (Nat.ne_of_lt (Nat.lt_trans lt0_2 lt0_3))).other W763 (Nat.ne_of_lt (Nat.lt_trans lt0_2 lt0_3))).other W767 (Nat.ne_of_lt (Nat.lt_trans lt0_2 lt0_3)))
 have F771 := (((((((((F0_6.other W735 (Nat.ne_of_lt lt0_3)).other W739 (Nat.ne_of_lt lt0_3)).other W743 (Nat.ne_of_lt lt0_3)).other W747 (Nat.ne_of_lt lt0_3)).other W751 (Nat.ne_of_lt lt0_3)).other W755 (Nat.ne_of_lt lt0_3)).other W759 (Nat.ne_of_lt lt0_3)).other W763 (Nat.ne_of_lt lt0_3)).other W767 (Nat.ne_of_lt lt0_3))
 exact k_ret X767 hx Bd.returns (hb hby d2_41) hlk (by decide) (by decide) (by rw [e767]; exact ⟨N767, ⟨rfl, F768, F769, F770, F771, Vw767, Z767⟩⟩)
abbrev R2_783 : Room := { frames := 0, cells := 0, slots := 0, locals := 0 }
def Q2_783 (Z : State) (a1 : Addr) (a2 : Addr) (k3 : ClassId) (p4 : Int64) (p5 : Int64) (p6 : Int64) (p7 : Int64) (p8 : Int64) (p9 : Int64) (p10 : Int64) (p11 : Int64) (p12 : Int64) (k13 : ClassId) (p14 : Int64) (p15 : Int64) (p16 : Int64) (p17 : Int64) (p18 : Int64) (p19 : Int64) (p20 : Int64) (p21 : Int64) (p22 : Int64) (a23 : Addr) (k24 : ClassId) (a25 : Addr) (k26 : ClassId) (a27 : Addr) (k28 : ClassId) (p29 : Int64) (p30 : Int64) (p31 : Int64) (p32 : Int64) (p33 : Int64) (p34 : Int64) (p35 : Int64) (p36 : Int64) (p37 : Int64) (h0 : Heap) (n0 : Nat) (v : Option Value) (h : Heap) (L : List Loc) : Prop := Fr n0 L ∧ ((v = none ∧ Arv Z h a1 k3 .long (9 : Int32) [(.long p14), (.long p15), (.long p16), (.long p17), (.long p18), (.long p19), (.long p20), (.long p21), (.long p22)] (.long (0 : Int64)) ∧ Arv Z h a2 k13 .long (9 : Int32) [(.long p14), (.long p15), (.long p16), (.long p17), (.long p18), (.long p19), (.long p20), (.long p21), (.long p22)] (.long (0 : Int64)) ∧ Arv Z h a23 k24 .long (9 : Int32) [(.long p4), (.long p5), (.long p6), (.long p7), (.long p8), (.long p9), (.long p10), (.long p11), (.long p12)] (.long (0 : Int64)) ∧ Arv Z h a25 k26 .long (9 : Int32) [(.long p14), (.long p15), (.long p16), (.long p17), (.long p18), (.long p19), (.long p20), (.long p21), (.long p22)] (.long (0 : Int64)) ∧ Arv Z h a27 k28 .long (9 : Int32) [(.long p29), (.long p30), (.long p31), (.long p32), (.long p33), (.long p34), (.long p35), (.long p36), (.long p37)] (.long (0 : Int64)) ∧ n0 ≤ h.size))
theorem ef2_783 (m : MethodId) (x0 : Addr) (x1 : Addr) (x2 : Addr) : entryFrame m #[(.ref x0), (.ref x1), (.ref x2), (.long (1 : Int64))] 8 = mkF m 0 #[.val (.ref x0), .val (.ref x1), .val (.ref x2), .val (.long (1 : Int64)), .second, .unset, .unset, .unset] [] := by first | (simp [entryFrame, mkF, argsToLocals, Value.category]; done) | rfl
set_option maxRecDepth 65536 in
set_option maxHeartbeats 40000000 in
theorem rm2_783 (l : Launch) (Z : State) (a0 : Array Value) (hw : ∀ d ∈ tables_1, d.before a0 Z = true) (ws : List Jvm.Cond) (a1 : Addr) (a2 : Addr) (k3 : ClassId) (p4 : Int64) (p5 : Int64) (p6 : Int64) (p7 : Int64) (p8 : Int64) (p9 : Int64) (p10 : Int64) (p11 : Int64) (p12 : Int64) (k13 : ClassId) (p14 : Int64) (p15 : Int64) (p16 : Int64) (p17 : Int64) (p18 : Int64) (p19 : Int64) (p20 : Int64) (p21 : Int64) (p22 : Int64) (a23 : Addr) (k24 : ClassId) (a25 : Addr) (k26 : ClassId) (a27 : Addr) (k28 : ClassId) (p29 : Int64) (p30 : Int64) (p31 : Int64) (p32 : Int64) (p33 : Int64) (p34 : Int64) (p35 : Int64) (p36 : Int64) (p37 : Int64) (h0 : Heap) (n0 : Nat) (Z0 : n0 ≤ h0.size) (F0_0 : Arv Z h0 a1 k3 .long (9 : Int32) [(.long p4), (.long p5), (.long p6), (.long p7), (.long p8), (.long p9), (.long p10), (.long p11), (.long p12)] (.long (0 : Int64))) (g_a1 : n0 ≤ a1) (F0_2 : Arv Z h0 a2 k13 .long (9 : Int32) [(.long p14), (.long p15), (.long p16), (.long p17), (.long p18), (.long p19), (.long p20), (.long p21), (.long p22)] (.long (0 : Int64))) (g_a2 : n0 ≤ a2) (F0_4 : Arv Z h0 a23 k24 .long (9 : Int32) [(.long p4), (.long p5), (.long p6), (.long p7), (.long p8), (.long p9), (.long p10), (.long p11), (.long p12)] (.long (0 : Int64))) (g_a23 : n0 ≤ a23) (F0_6 : Arv Z h0 a25 k26 .long (9 : Int32) [(.long p14), (.long p15), (.long p16), (.long p17), (.long p18), (.long p19), (.long p20), (.long p21), (.long p22)] (.long (0 : Int64))) (g_a25 : n0 ≤ a25) (F0_8 : Arv Z h0 a27 k28 .long (9 : Int32) [(.long p29), (.long p30), (.long p31), (.long p32), (.long p33), (.long p34), (.long p35), (.long p36), (.long p37)] (.long (0 : Int64))) (g_a27 : n0 ≤ a27) (lt0_0 : a1 < a2) (lt0_1 : a2 < a23) (lt0_2 : a23 < a25) (lt0_3 : a25 < a27) :
    MetFree l (⟨"com/example/portcullis/portcullis/protocol/Field", "select", "([J[J[JJ)V"⟩ : MethodName) (head1 (Jvm.Cond.code (⟨"com/example/portcullis/portcullis/protocol/Field", "select", "([J[J[JJ)V"⟩ : MethodName) prog_3_method_12_code 8 none :: ws) R2_783) (fun a U => a = #[(.ref a1), (.ref a1), (.ref a2), (.long (1 : Int64))] ∧ Z.Warmed39 U.vm ∧ U.heap = h0) (fun _ _ _ _ _ => True) (fun _ U o U' => ∃ v L, o = .returned v ∧ Q2_783 Z a1 a2 k3 p4 p5 p6 p7 p8 p9 p10 p11 p12 k13 p14 p15 p16 p17 p18 p19 p20 p21 p22 a23 k24 a25 k26 a27 k28 p29 p30 p31 p32 p33 p34 p35 p36 p37 h0 n0 v U'.heap L ∧ FrameEnd U o U' L R2_783.cells R2_783.slots) := by
 refine MetFree.of_bodySF (plainFor_of_name pn_1) hisR ?_
 intro p e s m args below meth c s₁ Bd hml0 hP hK
 obtain ⟨rfl, hZ, hh⟩ := hP
 have hx := Bd.exec
 have hby := Bd.bytes
 have hml : c.maxLocals = 8 := hml0
 have hlk : meth.locks = false := Bd.notSynchronized
 have hown : s.vm.findClass "com/example/portcullis/portcullis/protocol/Field" = some m.cls := findClass_of_methodNamed Bd.named
 have hnm := (name_of_methodNamed Bd.named Bd.method).1
 have X0 : Stand p l e R2_783 s m #[(.ref a1), (.ref a1), (.ref a2), (.long (1 : Int64))] below meth c s₁ [] 0 0 := Stand.of_body Bd
 have e0 : s₁.heap = h0 := by rw [← hh, Bd.state]; rfl
 have N0 := Fr.nil n0
 rw [ef2_783 m a1 a1 a2]
 show KEnds p e below s R2_783.cells R2_783.slots (Q2_783 Z a1 a2 k3 p4 p5 p6 p7 p8 p9 p10 p11 p12 k13 p14 p15 p16 p17 p18 p19 p20 p21 p22 a23 k24 a25 k26 a27 k28 p29 p30 p31 p32 p33 p34 p35 p36 p37 h0 n0) s₁ (mkF m 0 #[.val (.ref a1), .val (.ref a1), .val (.ref a2), .val (.long (1 : Int64)), .second, .unset, .unset, .unset] [])
 refine k_lloadN X0 hx (hb hby d2_0) rfl (pc' := 1) rfl ?_
 refine k_lnegL X0 hx (hb hby d2_1) (pc' := 2) rfl (z := (-1 : Int64)) (by decide) ?_
 refine k_lstore X0 hx (hb hby d2_2) (Ls' := #[.val (.ref a1), .val (.ref a1), .val (.ref a2), .val (.long (1 : Int64)), .second, .val (.long (-1 : Int64)), .second, .unset]) rfl (pc' := 4) rfl ?_
 refine k_iconst X0 hx (hb hby d2_4) (pc' := 5) rfl (z := (0 : Int32)) rfl ?_
 refine k_istore X0 hx (hb hby d2_5) (Ls' := #[.val (.ref a1), .val (.ref a1), .val (.ref a2), .val (.long (1 : Int64)), .second, .val (.long (-1 : Int64)), .second, .val (.int (0 : Int32))]) rfl (pc' := 7) rfl ?_
 refine k_iload X0 hx (hb hby d2_7) rfl (pc' := 9) rfl ?_
 refine k_bipush X0 hx (hb hby d2_9) (pc' := 11) rfl (z := (9 : Int32)) rfl ?_
 refine k_icmp_ge X0 hx (hb hby d2_11) (pn := 14) rfl (py := 41) (by decide) (fun hc => absurd (by decide) hc) (fun _ => ?_)
 refine k_aloadN X0 hx (hb hby d2_14) rfl rfl (pc' := 15) rfl ?_
 refine k_iload X0 hx (hb hby d2_15) rfl (pc' := 17) rfl ?_
 refine k_aloadN X0 hx (hb hby d2_17) rfl rfl (pc' := 18) rfl ?_
 refine k_iload X0 hx (hb hby d2_18) rfl (pc' := 20) rfl ?_
 refine k_laload X0 hx hZ e0 F0_0 ⟨by decide, by decide⟩ (v := (.long p4)) rfl (hb hby d2_20) (pc' := 21) rfl ?_
 refine k_aloadN X0 hx (hb hby d2_21) rfl rfl (pc' := 22) rfl ?_
 refine k_iload X0 hx (hb hby d2_22) rfl (pc' := 24) rfl ?_
 refine k_laload X0 hx hZ e0 F0_0 ⟨by decide, by decide⟩ (v := (.long p4)) rfl (hb hby d2_24) (pc' := 25) rfl ?_
 refine k_aloadN X0 hx (hb hby d2_25) rfl rfl (pc' := 26) rfl ?_
 refine k_iload X0 hx (hb hby d2_26) rfl (pc' := 28) rfl ?_
 refine k_laload X0 hx hZ e0 F0_2 ⟨by decide, by decide⟩ (v := (.long p14)) rfl (hb hby d2_28) (pc' := 29) rfl ?_
 refine k_lxor X0 hx (hb hby d2_29) (pc' := 30) rfl (fun v784 hv784 => ?_)
 refine k_lload X0 hx (hb hby d2_30) rfl (pc' := 32) rfl ?_
 refine k_landL X0 hx (hb hby d2_32) (pc' := 33) rfl (z := v784) Int64.and_neg_one ?_
 refine k_lxorL X0 hx (hb hby d2_33) (pc' := 34) rfl (z := p14) (by rw [hv784, ← Int64.xor_assoc, Int64.xor_self, Int64.zero_xor]) ?_
 refine k_lastore X0 hx hZ e0 F0_0 ⟨by decide, by decide⟩ (i := 0) rfl (Nat.le_of_ble_eq_true rfl) (hb hby d2_34) (pc' := 35) rfl (fun T785 h785 X785 e785 W785 V785 => ?_)
 have Vw785 : Arv Z h785 a1 k3 .long (9 : Int32) [(.long p14), (.long p5), (.long p6), (.long p7), (.long p8), (.long p9), (.long p10), (.long p11), (.long p12)] (.long (0 : Int64)) := V785
 have N785 := Fr.snoc X785 N0 g_a1
 have Z785 : n0 ≤ h785.size := Nat.le_trans Z0 (Nat.le_of_eq W785.size.symm)
 refine k_iinc X785 hx (hb hby d2_35) rfl (pc' := 38) rfl (z := (1 : Int32)) (by decide) (Ls' := #[.val (.ref a1), .val (.ref a1), .val (.ref a2), .val (.long (1 : Int64)), .second, .val (.long (-1 : Int64)), .second, .val (.int (1 : Int32))]) rfl ?_
 refine k_goto X785 hx (hb hby d2_38) (pc' := 7) (by decide) ?_
 refine k_iload X785 hx (hb hby d2_7) rfl (pc' := 9) rfl ?_
 refine k_bipush X785 hx (hb hby d2_9) (pc' := 11) rfl (z := (9 : Int32)) rfl ?_
 refine k_icmp_ge X785 hx (hb hby d2_11) (pn := 14) rfl (py := 41) (by decide) (fun hc => absurd (by decide) hc) (fun _ => ?_)
 refine k_aloadN X785 hx (hb hby d2_14) rfl rfl (pc' := 15) rfl ?_
 refine k_iload X785 hx (hb hby d2_15) rfl (pc' := 17) rfl ?_
 refine k_aloadN X785 hx (hb hby d2_17) rfl rfl (pc' := 18) rfl ?_
 refine k_iload X785 hx (hb hby d2_18) rfl (pc' := 20) rfl ?_
 refine k_laload X785 hx hZ e785 Vw785 ⟨by decide, by decide⟩ (v := (.long p5)) rfl (hb hby d2_20) (pc' := 21) rfl ?_
 refine k_aloadN X785 hx (hb hby d2_21) rfl rfl (pc' := 22) rfl ?_
 refine k_iload X785 hx (hb hby d2_22) rfl (pc' := 24) rfl ?_
 refine k_laload X785 hx hZ e785 Vw785 ⟨by decide, by decide⟩ (v := (.long p5)) rfl (hb hby d2_24) (pc' := 25) rfl ?_
 refine k_aloadN X785 hx (hb hby d2_25) rfl rfl (pc' := 26) rfl ?_
 refine k_iload X785 hx (hb hby d2_26) rfl (pc' := 28) rfl ?_
 have F786 := (F0_2.other W785 (Ne.symm (Nat.ne_of_lt lt0_0)))
 refine k_laload X785 hx hZ e785 F786 ⟨by decide, by decide⟩ (v := (.long p15)) rfl (hb hby d2_28) (pc' := 29) rfl ?_
 refine k_lxor X785 hx (hb hby d2_29) (pc' := 30) rfl (fun v787 hv787 => ?_)
 refine k_lload X785 hx (hb hby d2_30) rfl (pc' := 32) rfl ?_
 refine k_landL X785 hx (hb hby d2_32) (pc' := 33) rfl (z := v787) Int64.and_neg_one ?_
 refine k_lxorL X785 hx (hb hby d2_33) (pc' := 34) rfl (z := p15) (by rw [hv787, ← Int64.xor_assoc, Int64.xor_self, Int64.zero_xor]) ?_
 refine k_lastore X785 hx hZ e785 Vw785 ⟨by decide, by decide⟩ (i := 1) rfl (Nat.le_of_ble_eq_true rfl) (hb hby d2_34) (pc' := 35) rfl (fun T788 h788 X788 e788 W788 V788 => ?_)
 have Vw788 : Arv Z h788 a1 k3 .long (9 : Int32) [(.long p14), (.long p15), (.long p6), (.long p7), (.long p8), (.long p9), (.long p10), (.long p11), (.long p12)] (.long (0 : Int64)) := V788
 have N788 := Fr.snoc X788 N785 g_a1
 have Z788 : n0 ≤ h788.size := Nat.le_trans Z785 (Nat.le_of_eq W788.size.symm)
 refine k_iinc X788 hx (hb hby d2_35) rfl (pc' := 38) rfl (z := (2 : Int32)) (by decide) (Ls' := #[.val (.ref a1), .val (.ref a1), .val (.ref a2), .val (.long (1 : Int64)), .second, .val (.long (-1 : Int64)), .second, .val (.int (2 : Int32))]) rfl ?_
 refine k_goto X788 hx (hb hby d2_38) (pc' := 7) (by decide) ?_
 refine k_iload X788 hx (hb hby d2_7) rfl (pc' := 9) rfl ?_
 refine k_bipush X788 hx (hb hby d2_9) (pc' := 11) rfl (z := (9 : Int32)) rfl ?_
 refine k_icmp_ge X788 hx (hb hby d2_11) (pn := 14) rfl (py := 41) (by decide) (fun hc => absurd (by decide) hc) (fun _ => ?_)
 refine k_aloadN X788 hx (hb hby d2_14) rfl rfl (pc' := 15) rfl ?_
 refine k_iload X788 hx (hb hby d2_15) rfl (pc' := 17) rfl ?_
 refine k_aloadN X788 hx (hb hby d2_17) rfl rfl (pc' := 18) rfl ?_
 refine k_iload X788 hx (hb hby d2_18) rfl (pc' := 20) rfl ?_
 refine k_laload X788 hx hZ e788 Vw788 ⟨by decide, by decide⟩ (v := (.long p6)) rfl (hb hby d2_20) (pc' := 21) rfl ?_
 refine k_aloadN X788 hx (hb hby d2_21) rfl rfl (pc' := 22) rfl ?_
 refine k_iload X788 hx (hb hby d2_22) rfl (pc' := 24) rfl ?_
 refine k_laload X788 hx hZ e788 Vw788 ⟨by decide, by decide⟩ (v := (.long p6)) rfl (hb hby d2_24) (pc' := 25) rfl ?_
 refine k_aloadN X788 hx (hb hby d2_25) rfl rfl (pc' := 26) rfl ?_
 refine k_iload X788 hx (hb hby d2_26) rfl (pc' := 28) rfl ?_
 have F789 := (F786.other W788 (Ne.symm (Nat.ne_of_lt lt0_0)))
 refine k_laload X788 hx hZ e788 F789 ⟨by decide, by decide⟩ (v := (.long p16)) rfl (hb hby d2_28) (pc' := 29) rfl ?_
 refine k_lxor X788 hx (hb hby d2_29) (pc' := 30) rfl (fun v790 hv790 => ?_)
 refine k_lload X788 hx (hb hby d2_30) rfl (pc' := 32) rfl ?_
 refine k_landL X788 hx (hb hby d2_32) (pc' := 33) rfl (z := v790) Int64.and_neg_one ?_
 refine k_lxorL X788 hx (hb hby d2_33) (pc' := 34) rfl (z := p16) (by rw [hv790, ← Int64.xor_assoc, Int64.xor_self, Int64.zero_xor]) ?_
 refine k_lastore X788 hx hZ e788 Vw788 ⟨by decide, by decide⟩ (i := 2) rfl (Nat.le_of_ble_eq_true rfl) (hb hby d2_34) (pc' := 35) rfl (fun T791 h791 X791 e791 W791 V791 => ?_)
 have Vw791 : Arv Z h791 a1 k3 .long (9 : Int32) [(.long p14), (.long p15), (.long p16), (.long p7), (.long p8), (.long p9), (.long p10), (.long p11), (.long p12)] (.long (0 : Int64)) := V791
 have N791 := Fr.snoc X791 N788 g_a1
 have Z791 : n0 ≤ h791.size := Nat.le_trans Z788 (Nat.le_of_eq W791.size.symm)
 refine k_iinc X791 hx (hb hby d2_35) rfl (pc' := 38) rfl (z := (3 : Int32)) (by decide) (Ls' := #[.val (.ref a1), .val (.ref a1), .val (.ref a2), .val (.long (1 : Int64)), .second, .val (.long (-1 : Int64)), .second, .val (.int (3 : Int32))]) rfl ?_
 refine k_goto X791 hx (hb hby d2_38) (pc' := 7) (by decide) ?_
 refine k_iload X791 hx (hb hby d2_7) rfl (pc' := 9) rfl ?_
 refine k_bipush X791 hx (hb hby d2_9) (pc' := 11) rfl (z := (9 : Int32)) rfl ?_
 refine k_icmp_ge X791 hx (hb hby d2_11) (pn := 14) rfl (py := 41) (by decide) (fun hc => absurd (by decide) hc) (fun _ => ?_)
 refine k_aloadN X791 hx (hb hby d2_14) rfl rfl (pc' := 15) rfl ?_
 refine k_iload X791 hx (hb hby d2_15) rfl (pc' := 17) rfl ?_
 refine k_aloadN X791 hx (hb hby d2_17) rfl rfl (pc' := 18) rfl ?_
 refine k_iload X791 hx (hb hby d2_18) rfl (pc' := 20) rfl ?_
 refine k_laload X791 hx hZ e791 Vw791 ⟨by decide, by decide⟩ (v := (.long p7)) rfl (hb hby d2_20) (pc' := 21) rfl ?_
 refine k_aloadN X791 hx (hb hby d2_21) rfl rfl (pc' := 22) rfl ?_
 refine k_iload X791 hx (hb hby d2_22) rfl (pc' := 24) rfl ?_
 refine k_laload X791 hx hZ e791 Vw791 ⟨by decide, by decide⟩ (v := (.long p7)) rfl (hb hby d2_24) (pc' := 25) rfl ?_
 refine k_aloadN X791 hx (hb hby d2_25) rfl rfl (pc' := 26) rfl ?_
 refine k_iload X791 hx (hb hby d2_26) rfl (pc' := 28) rfl ?_
 have F792 := (F789.other W791 (Ne.symm (Nat.ne_of_lt lt0_0)))
 refine k_laload X791 hx hZ e791 F792 ⟨by decide, by decide⟩ (v := (.long p17)) rfl (hb hby d2_28) (pc' := 29) rfl ?_
 refine k_lxor X791 hx (hb hby d2_29) (pc' := 30) rfl (fun v793 hv793 => ?_)
 refine k_lload X791 hx (hb hby d2_30) rfl (pc' := 32) rfl ?_
 refine k_landL X791 hx (hb hby d2_32) (pc' := 33) rfl (z := v793) Int64.and_neg_one ?_
 refine k_lxorL X791 hx (hb hby d2_33) (pc' := 34) rfl (z := p17) (by rw [hv793, ← Int64.xor_assoc, Int64.xor_self, Int64.zero_xor]) ?_
 refine k_lastore X791 hx hZ e791 Vw791 ⟨by decide, by decide⟩ (i := 3) rfl (Nat.le_of_ble_eq_true rfl) (hb hby d2_34) (pc' := 35) rfl (fun T794 h794 X794 e794 W794 V794 => ?_)
 have Vw794 : Arv Z h794 a1 k3 .long (9 : Int32) [(.long p14), (.long p15), (.long p16), (.long p17), (.long p8), (.long p9), (.long p10), (.long p11), (.long p12)] (.long (0 : Int64)) := V794
 have N794 := Fr.snoc X794 N791 g_a1
 have Z794 : n0 ≤ h794.size := Nat.le_trans Z791 (Nat.le_of_eq W794.size.symm)
 refine k_iinc X794 hx (hb hby d2_35) rfl (pc' := 38) rfl (z := (4 : Int32)) (by decide) (Ls' := #[.val (.ref a1), .val (.ref a1), .val (.ref a2), .val (.long (1 : Int64)), .second, .val (.long (-1 : Int64)), .second, .val (.int (4 : Int32))]) rfl ?_
 refine k_goto X794 hx (hb hby d2_38) (pc' := 7) (by decide) ?_
 refine k_iload X794 hx (hb hby d2_7) rfl (pc' := 9) rfl ?_
 refine k_bipush X794 hx (hb hby d2_9) (pc' := 11) rfl (z := (9 : Int32)) rfl ?_
 refine k_icmp_ge X794 hx (hb hby d2_11) (pn := 14) rfl (py := 41) (by decide) (fun hc => absurd (by decide) hc) (fun _ => ?_)
 refine k_aloadN X794 hx (hb hby d2_14) rfl rfl (pc' := 15) rfl ?_
 refine k_iload X794 hx (hb hby d2_15) rfl (pc' := 17) rfl ?_
 refine k_aloadN X794 hx (hb hby d2_17) rfl rfl (pc' := 18) rfl ?_
 refine k_iload X794 hx (hb hby d2_18) rfl (pc' := 20) rfl ?_
 refine k_laload X794 hx hZ e794 Vw794 ⟨by decide, by decide⟩ (v := (.long p8)) rfl (hb hby d2_20) (pc' := 21) rfl ?_
 refine k_aloadN X794 hx (hb hby d2_21) rfl rfl (pc' := 22) rfl ?_
 refine k_iload X794 hx (hb hby d2_22) rfl (pc' := 24) rfl ?_
 refine k_laload X794 hx hZ e794 Vw794 ⟨by decide, by decide⟩ (v := (.long p8)) rfl (hb hby d2_24) (pc' := 25) rfl ?_
 refine k_aloadN X794 hx (hb hby d2_25) rfl rfl (pc' := 26) rfl ?_
 refine k_iload X794 hx (hb hby d2_26) rfl (pc' := 28) rfl ?_
 have F795 := (F792.other W794 (Ne.symm (Nat.ne_of_lt lt0_0)))
 refine k_laload X794 hx hZ e794 F795 ⟨by decide, by decide⟩ (v := (.long p18)) rfl (hb hby d2_28) (pc' := 29) rfl ?_
 refine k_lxor X794 hx (hb hby d2_29) (pc' := 30) rfl (fun v796 hv796 => ?_)
 refine k_lload X794 hx (hb hby d2_30) rfl (pc' := 32) rfl ?_
 refine k_landL X794 hx (hb hby d2_32) (pc' := 33) rfl (z := v796) Int64.and_neg_one ?_
 refine k_lxorL X794 hx (hb hby d2_33) (pc' := 34) rfl (z := p18) (by rw [hv796, ← Int64.xor_assoc, Int64.xor_self, Int64.zero_xor]) ?_
 refine k_lastore X794 hx hZ e794 Vw794 ⟨by decide, by decide⟩ (i := 4) rfl (Nat.le_of_ble_eq_true rfl) (hb hby d2_34) (pc' := 35) rfl (fun T797 h797 X797 e797 W797 V797 => ?_)
 have Vw797 : Arv Z h797 a1 k3 .long (9 : Int32) [(.long p14), (.long p15), (.long p16), (.long p17), (.long p18), (.long p9), (.long p10), (.long p11), (.long p12)] (.long (0 : Int64)) := V797
 have N797 := Fr.snoc X797 N794 g_a1
 have Z797 : n0 ≤ h797.size := Nat.le_trans Z794 (Nat.le_of_eq W797.size.symm)
 refine k_iinc X797 hx (hb hby d2_35) rfl (pc' := 38) rfl (z := (5 : Int32)) (by decide) (Ls' := #[.val (.ref a1), .val (.ref a1), .val (.ref a2), .val (.long (1 : Int64)), .second, .val (.long (-1 : Int64)), .second, .val (.int (5 : Int32))]) rfl ?_
 refine k_goto X797 hx (hb hby d2_38) (pc' := 7) (by decide) ?_
 refine k_iload X797 hx (hb hby d2_7) rfl (pc' := 9) rfl ?_
 refine k_bipush X797 hx (hb hby d2_9) (pc' := 11) rfl (z := (9 : Int32)) rfl ?_
 refine k_icmp_ge X797 hx (hb hby d2_11) (pn := 14) rfl (py := 41) (by decide) (fun hc => absurd (by decide) hc) (fun _ => ?_)
 refine k_aloadN X797 hx (hb hby d2_14) rfl rfl (pc' := 15) rfl ?_
 refine k_iload X797 hx (hb hby d2_15) rfl (pc' := 17) rfl ?_
 refine k_aloadN X797 hx (hb hby d2_17) rfl rfl (pc' := 18) rfl ?_
 refine k_iload X797 hx (hb hby d2_18) rfl (pc' := 20) rfl ?_
 refine k_laload X797 hx hZ e797 Vw797 ⟨by decide, by decide⟩ (v := (.long p9)) rfl (hb hby d2_20) (pc' := 21) rfl ?_
 refine k_aloadN X797 hx (hb hby d2_21) rfl rfl (pc' := 22) rfl ?_
 refine k_iload X797 hx (hb hby d2_22) rfl (pc' := 24) rfl ?_
 refine k_laload X797 hx hZ e797 Vw797 ⟨by decide, by decide⟩ (v := (.long p9)) rfl (hb hby d2_24) (pc' := 25) rfl ?_
 refine k_aloadN X797 hx (hb hby d2_25) rfl rfl (pc' := 26) rfl ?_
 refine k_iload X797 hx (hb hby d2_26) rfl (pc' := 28) rfl ?_
 have F798 := (F795.other W797 (Ne.symm (Nat.ne_of_lt lt0_0)))
 refine k_laload X797 hx hZ e797 F798 ⟨by decide, by decide⟩ (v := (.long p19)) rfl (hb hby d2_28) (pc' := 29) rfl ?_
 refine k_lxor X797 hx (hb hby d2_29) (pc' := 30) rfl (fun v799 hv799 => ?_)
 refine k_lload X797 hx (hb hby d2_30) rfl (pc' := 32) rfl ?_
 refine k_landL X797 hx (hb hby d2_32) (pc' := 33) rfl (z := v799) Int64.and_neg_one ?_
 refine k_lxorL X797 hx (hb hby d2_33) (pc' := 34) rfl (z := p19) (by rw [hv799, ← Int64.xor_assoc, Int64.xor_self, Int64.zero_xor]) ?_
 refine k_lastore X797 hx hZ e797 Vw797 ⟨by decide, by decide⟩ (i := 5) rfl (Nat.le_of_ble_eq_true rfl) (hb hby d2_34) (pc' := 35) rfl (fun T800 h800 X800 e800 W800 V800 => ?_)
 have Vw800 : Arv Z h800 a1 k3 .long (9 : Int32) [(.long p14), (.long p15), (.long p16), (.long p17), (.long p18), (.long p19), (.long p10), (.long p11), (.long p12)] (.long (0 : Int64)) := V800
 have N800 := Fr.snoc X800 N797 g_a1
 have Z800 : n0 ≤ h800.size := Nat.le_trans Z797 (Nat.le_of_eq W800.size.symm)
 refine k_iinc X800 hx (hb hby d2_35) rfl (pc' := 38) rfl (z := (6 : Int32)) (by decide) (Ls' := #[.val (.ref a1), .val (.ref a1), .val (.ref a2), .val (.long (1 : Int64)), .second, .val (.long (-1 : Int64)), .second, .val (.int (6 : Int32))]) rfl ?_
 refine k_goto X800 hx (hb hby d2_38) (pc' := 7) (by decide) ?_
 refine k_iload X800 hx (hb hby d2_7) rfl (pc' := 9) rfl ?_
 refine k_bipush X800 hx (hb hby d2_9) (pc' := 11) rfl (z := (9 : Int32)) rfl ?_
 refine k_icmp_ge X800 hx (hb hby d2_11) (pn := 14) rfl (py := 41) (by decide) (fun hc => absurd (by decide) hc) (fun _ => ?_)
 refine k_aloadN X800 hx (hb hby d2_14) rfl rfl (pc' := 15) rfl ?_
 refine k_iload X800 hx (hb hby d2_15) rfl (pc' := 17) rfl ?_
 refine k_aloadN X800 hx (hb hby d2_17) rfl rfl (pc' := 18) rfl ?_
 refine k_iload X800 hx (hb hby d2_18) rfl (pc' := 20) rfl ?_
 refine k_laload X800 hx hZ e800 Vw800 ⟨by decide, by decide⟩ (v := (.long p10)) rfl (hb hby d2_20) (pc' := 21) rfl ?_
 refine k_aloadN X800 hx (hb hby d2_21) rfl rfl (pc' := 22) rfl ?_
 refine k_iload X800 hx (hb hby d2_22) rfl (pc' := 24) rfl ?_
 refine k_laload X800 hx hZ e800 Vw800 ⟨by decide, by decide⟩ (v := (.long p10)) rfl (hb hby d2_24) (pc' := 25) rfl ?_
 refine k_aloadN X800 hx (hb hby d2_25) rfl rfl (pc' := 26) rfl ?_
 refine k_iload X800 hx (hb hby d2_26) rfl (pc' := 28) rfl ?_
 have F801 := (F798.other W800 (Ne.symm (Nat.ne_of_lt lt0_0)))
 refine k_laload X800 hx hZ e800 F801 ⟨by decide, by decide⟩ (v := (.long p20)) rfl (hb hby d2_28) (pc' := 29) rfl ?_
 refine k_lxor X800 hx (hb hby d2_29) (pc' := 30) rfl (fun v802 hv802 => ?_)
 refine k_lload X800 hx (hb hby d2_30) rfl (pc' := 32) rfl ?_
 refine k_landL X800 hx (hb hby d2_32) (pc' := 33) rfl (z := v802) Int64.and_neg_one ?_
 refine k_lxorL X800 hx (hb hby d2_33) (pc' := 34) rfl (z := p20) (by rw [hv802, ← Int64.xor_assoc, Int64.xor_self, Int64.zero_xor]) ?_
 refine k_lastore X800 hx hZ e800 Vw800 ⟨by decide, by decide⟩ (i := 6) rfl (Nat.le_of_ble_eq_true rfl) (hb hby d2_34) (pc' := 35) rfl (fun T803 h803 X803 e803 W803 V803 => ?_)
 have Vw803 : Arv Z h803 a1 k3 .long (9 : Int32) [(.long p14), (.long p15), (.long p16), (.long p17), (.long p18), (.long p19), (.long p20), (.long p11), (.long p12)] (.long (0 : Int64)) := V803
 have N803 := Fr.snoc X803 N800 g_a1
 have Z803 : n0 ≤ h803.size := Nat.le_trans Z800 (Nat.le_of_eq W803.size.symm)
 refine k_iinc X803 hx (hb hby d2_35) rfl (pc' := 38) rfl (z := (7 : Int32)) (by decide) (Ls' := #[.val (.ref a1), .val (.ref a1), .val (.ref a2), .val (.long (1 : Int64)), .second, .val (.long (-1 : Int64)), .second, .val (.int (7 : Int32))]) rfl ?_
 refine k_goto X803 hx (hb hby d2_38) (pc' := 7) (by decide) ?_
 refine k_iload X803 hx (hb hby d2_7) rfl (pc' := 9) rfl ?_
 refine k_bipush X803 hx (hb hby d2_9) (pc' := 11) rfl (z := (9 : Int32)) rfl ?_
 refine k_icmp_ge X803 hx (hb hby d2_11) (pn := 14) rfl (py := 41) (by decide) (fun hc => absurd (by decide) hc) (fun _ => ?_)
 refine k_aloadN X803 hx (hb hby d2_14) rfl rfl (pc' := 15) rfl ?_
 refine k_iload X803 hx (hb hby d2_15) rfl (pc' := 17) rfl ?_
 refine k_aloadN X803 hx (hb hby d2_17) rfl rfl (pc' := 18) rfl ?_
 refine k_iload X803 hx (hb hby d2_18) rfl (pc' := 20) rfl ?_
 refine k_laload X803 hx hZ e803 Vw803 ⟨by decide, by decide⟩ (v := (.long p11)) rfl (hb hby d2_20) (pc' := 21) rfl ?_
 refine k_aloadN X803 hx (hb hby d2_21) rfl rfl (pc' := 22) rfl ?_
 refine k_iload X803 hx (hb hby d2_22) rfl (pc' := 24) rfl ?_
 refine k_laload X803 hx hZ e803 Vw803 ⟨by decide, by decide⟩ (v := (.long p11)) rfl (hb hby d2_24) (pc' := 25) rfl ?_
 refine k_aloadN X803 hx (hb hby d2_25) rfl rfl (pc' := 26) rfl ?_
 refine k_iload X803 hx (hb hby d2_26) rfl (pc' := 28) rfl ?_
 have F804 := (F801.other W803 (Ne.symm (Nat.ne_of_lt lt0_0)))
 refine k_laload X803 hx hZ e803 F804 ⟨by decide, by decide⟩ (v := (.long p21)) rfl (hb hby d2_28) (pc' := 29) rfl ?_
 refine k_lxor X803 hx (hb hby d2_29) (pc' := 30) rfl (fun v805 hv805 => ?_)
 refine k_lload X803 hx (hb hby d2_30) rfl (pc' := 32) rfl ?_
 refine k_landL X803 hx (hb hby d2_32) (pc' := 33) rfl (z := v805) Int64.and_neg_one ?_
 refine k_lxorL X803 hx (hb hby d2_33) (pc' := 34) rfl (z := p21) (by rw [hv805, ← Int64.xor_assoc, Int64.xor_self, Int64.zero_xor]) ?_
 refine k_lastore X803 hx hZ e803 Vw803 ⟨by decide, by decide⟩ (i := 7) rfl (Nat.le_of_ble_eq_true rfl) (hb hby d2_34) (pc' := 35) rfl (fun T806 h806 X806 e806 W806 V806 => ?_)
 have Vw806 : Arv Z h806 a1 k3 .long (9 : Int32) [(.long p14), (.long p15), (.long p16), (.long p17), (.long p18), (.long p19), (.long p20), (.long p21), (.long p12)] (.long (0 : Int64)) := V806
 have N806 := Fr.snoc X806 N803 g_a1
 have Z806 : n0 ≤ h806.size := Nat.le_trans Z803 (Nat.le_of_eq W806.size.symm)
 refine k_iinc X806 hx (hb hby d2_35) rfl (pc' := 38) rfl (z := (8 : Int32)) (by decide) (Ls' := #[.val (.ref a1), .val (.ref a1), .val (.ref a2), .val (.long (1 : Int64)), .second, .val (.long (-1 : Int64)), .second, .val (.int (8 : Int32))]) rfl ?_
 refine k_goto X806 hx (hb hby d2_38) (pc' := 7) (by decide) ?_
 refine k_iload X806 hx (hb hby d2_7) rfl (pc' := 9) rfl ?_
 refine k_bipush X806 hx (hb hby d2_9) (pc' := 11) rfl (z := (9 : Int32)) rfl ?_
 refine k_icmp_ge X806 hx (hb hby d2_11) (pn := 14) rfl (py := 41) (by decide) (fun hc => absurd (by decide) hc) (fun _ => ?_)
 refine k_aloadN X806 hx (hb hby d2_14) rfl rfl (pc' := 15) rfl ?_
 refine k_iload X806 hx (hb hby d2_15) rfl (pc' := 17) rfl ?_
 refine k_aloadN X806 hx (hb hby d2_17) rfl rfl (pc' := 18) rfl ?_
 refine k_iload X806 hx (hb hby d2_18) rfl (pc' := 20) rfl ?_
 refine k_laload X806 hx hZ e806 Vw806 ⟨by decide, by decide⟩ (v := (.long p12)) rfl (hb hby d2_20) (pc' := 21) rfl ?_
 refine k_aloadN X806 hx (hb hby d2_21) rfl rfl (pc' := 22) rfl ?_
 refine k_iload X806 hx (hb hby d2_22) rfl (pc' := 24) rfl ?_
 refine k_laload X806 hx hZ e806 Vw806 ⟨by decide, by decide⟩ (v := (.long p12)) rfl (hb hby d2_24) (pc' := 25) rfl ?_
 refine k_aloadN X806 hx (hb hby d2_25) rfl rfl (pc' := 26) rfl ?_
 refine k_iload X806 hx (hb hby d2_26) rfl (pc' := 28) rfl ?_
 have F807 := (F804.other W806 (Ne.symm (Nat.ne_of_lt lt0_0)))
 refine k_laload X806 hx hZ e806 F807 ⟨by decide, by decide⟩ (v := (.long p22)) rfl (hb hby d2_28) (pc' := 29) rfl ?_
 refine k_lxor X806 hx (hb hby d2_29) (pc' := 30) rfl (fun v808 hv808 => ?_)
 refine k_lload X806 hx (hb hby d2_30) rfl (pc' := 32) rfl ?_
 refine k_landL X806 hx (hb hby d2_32) (pc' := 33) rfl (z := v808) Int64.and_neg_one ?_
 refine k_lxorL X806 hx (hb hby d2_33) (pc' := 34) rfl (z := p22) (by rw [hv808, ← Int64.xor_assoc, Int64.xor_self, Int64.zero_xor]) ?_
 refine k_lastore X806 hx hZ e806 Vw806 ⟨by decide, by decide⟩ (i := 8) rfl (Nat.le_of_ble_eq_true rfl) (hb hby d2_34) (pc' := 35) rfl (fun T809 h809 X809 e809 W809 V809 => ?_)
 have Vw809 : Arv Z h809 a1 k3 .long (9 : Int32) [(.long p14), (.long p15), (.long p16), (.long p17), (.long p18), (.long p19), (.long p20), (.long p21), (.long p22)] (.long (0 : Int64)) := V809
 have N809 := Fr.snoc X809 N806 g_a1
 have Z809 : n0 ≤ h809.size := Nat.le_trans Z806 (Nat.le_of_eq W809.size.symm)
 refine k_iinc X809 hx (hb hby d2_35) rfl (pc' := 38) rfl (z := (9 : Int32)) (by decide) (Ls' := #[.val (.ref a1), .val (.ref a1), .val (.ref a2), .val (.long (1 : Int64)), .second, .val (.long (-1 : Int64)), .second, .val (.int (9 : Int32))]) rfl ?_
 refine k_goto X809 hx (hb hby d2_38) (pc' := 7) (by decide) ?_
 refine k_iload X809 hx (hb hby d2_7) rfl (pc' := 9) rfl ?_
 refine k_bipush X809 hx (hb hby d2_9) (pc' := 11) rfl (z := (9 : Int32)) rfl ?_
 refine k_icmp_ge X809 hx (hb hby d2_11) (pn := 14) rfl (py := 41) (by decide) (fun _ => ?_) (fun hc => absurd hc (by decide))
 have F810 := (F807.other W809 (Ne.symm (Nat.ne_of_lt lt0_0)))
 have F811 := (((((((((F0_4.other W785 (Ne.symm (Nat.ne_of_lt (Nat.lt_trans lt0_0 lt0_1)))).other W788 (Ne.symm (Nat.ne_of_lt (Nat.lt_trans lt0_0 lt0_1)))).other W791 (Ne.symm (Nat.ne_of_lt (Nat.lt_trans lt0_0 lt0_1)))).other W794 (Ne.symm (Nat.ne_of_lt (Nat.lt_trans lt0_0 lt0_1)))).other W797 (Ne.symm (Nat.ne_of_lt (Nat.lt_trans lt0_0 lt0_1)))).other W800 (Ne.symm (Nat.ne_of_lt (Nat.lt_trans lt0_0 lt0_1)))).other W803 (Ne.symm (Nat.ne_of_lt (Nat.lt_trans lt0_0 lt0_1)))).other W806 (Ne.symm (Nat.ne_of_lt (Nat.lt_trans lt0_0 lt0_1)))).other W809 (Ne.symm (Nat.ne_of_lt (Nat.lt_trans lt0_0 lt0_1))))
 have F812 := (((((((((F0_6.other W785 (Ne.symm (Nat.ne_of_lt (Nat.lt_trans (Nat.lt_trans lt0_0 lt0_1) lt0_2)))).other W788 (Ne.symm (Nat.ne_of_lt (Nat.lt_trans (Nat.lt_trans lt0_0 lt0_1) lt0_2)))).other W791 (Ne.symm (Nat.ne_of_lt (Nat.lt_trans (Nat.lt_trans lt0_0 lt0_1) lt0_2)))).other W794 (Ne.symm (Nat.ne_of_lt (Nat.lt_trans (Nat.lt_trans lt0_0 lt0_1) lt0_2)))).other W797 (Ne.symm (Nat.ne_of_lt (Nat.lt_trans (Nat.lt_trans lt0_0 lt0_1) lt0_2)))).other W800 (Ne.symm (Nat.ne_of_lt (Nat.lt_trans (Nat.lt_trans lt0_0 lt0_1) lt0_2)))).other W803 (Ne.symm (Nat.ne_of_lt (Nat.lt_trans (Nat.lt_trans lt0_0 lt0_1) lt0_2)))).other W806 (Ne.symm (Nat.ne_of_lt (Nat.lt_trans (Nat.lt_trans lt0_0 lt0_1) lt0_2)))).other W809 (Ne.symm (Nat.ne_of_lt (Nat.lt_trans (Nat.lt_trans lt0_0 lt0_1) lt0_2))))
 have F813 := (((((((((F0_8.other W785 (Ne.symm (Nat.ne_of_lt (Nat.lt_trans (Nat.lt_trans (Nat.lt_trans lt0_0 lt0_1) lt0_2) lt0_3)))).other W788 (Ne.symm (Nat.ne_of_lt (Nat.lt_trans (Nat.lt_trans (Nat.lt_trans lt0_0 lt0_1) lt0_2) lt0_3)))).other W791 (Ne.symm (Nat.ne_of_lt (Nat.lt_trans (Nat.lt_trans (Nat.lt_trans lt0_0 lt0_1) lt0_2) lt0_3)))).other W794 (Ne.symm (Nat.ne_of_lt (Nat.lt_trans (Nat.lt_trans (Nat.lt_trans lt0_0 lt0_1) lt0_2) lt0_3)))).other W797 (Ne.symm (Nat.ne_of_lt (Nat.lt_trans (Nat.lt_trans (Nat.lt_trans lt0_0 lt0_1) lt0_2) lt0_3)))).other W800 (Ne.symm (Nat.ne_of_lt (Nat.lt_trans (Nat.lt_trans (Nat.lt_trans lt0_0 lt0_1) lt0_2) lt0_3)))).other W803 (Ne.symm (Nat.ne_of_lt (Nat.lt_trans (Nat.lt_trans (Nat.lt_trans lt0_0 lt0_1) lt0_2) lt0_3)))).other W806 (Ne.symm (Nat.ne_of_lt (Nat.lt_trans (Nat.lt_trans (Nat.lt_trans lt0_0 lt0_1) lt0_2) lt0_3)))).other W809 (Ne.symm (Nat.ne_of_lt (Nat.lt_trans (Nat.lt_trans (Nat.lt_trans lt0_0 lt0_1) lt0_2) lt0_3))))
 exact k_ret X809 hx Bd.returns (hb hby d2_41) hlk (by decide) (by decide) (by rw [e809]; exact ⟨N809, ⟨rfl, Vw809, F810, F811, F812, F813, Z809⟩⟩)
abbrev R2_824 : Room := { frames := 0, cells := 0, slots := 0, locals := 0 }
def Q2_824 (Z : State) (a1 : Addr) (a2 : Addr) (k3 : ClassId) (p4 : Int64) (p5 : Int64) (p6 : Int64) (p7 : Int64) (p8 : Int64) (p9 : Int64) (p10 : Int64) (p11 : Int64) (p12 : Int64) (k13 : ClassId) (p14 : Int64) (p15 : Int64) (p16 : Int64) (p17 : Int64) (p18 : Int64) (p19 : Int64) (p20 : Int64) (p21 : Int64) (p22 : Int64) (a23 : Addr) (k24 : ClassId) (a25 : Addr) (k26 : ClassId) (a27 : Addr) (k28 : ClassId) (p29 : Int64) (p30 : Int64) (p31 : Int64) (p32 : Int64) (p33 : Int64) (p34 : Int64) (p35 : Int64) (p36 : Int64) (p37 : Int64) (h0 : Heap) (n0 : Nat) (v : Option Value) (h : Heap) (L : List Loc) : Prop := Fr n0 L ∧ ((v = none ∧ Arv Z h a2 k3 .long (9 : Int32) [(.long p4), (.long p5), (.long p6), (.long p7), (.long p8), (.long p9), (.long p10), (.long p11), (.long p12)] (.long (0 : Int64)) ∧ Arv Z h a1 k13 .long (9 : Int32) [(.long p14), (.long p15), (.long p16), (.long p17), (.long p18), (.long p19), (.long p20), (.long p21), (.long p22)] (.long (0 : Int64)) ∧ Arv Z h a23 k24 .long (9 : Int32) [(.long p4), (.long p5), (.long p6), (.long p7), (.long p8), (.long p9), (.long p10), (.long p11), (.long p12)] (.long (0 : Int64)) ∧ Arv Z h a25 k26 .long (9 : Int32) [(.long p14), (.long p15), (.long p16), (.long p17), (.long p18), (.long p19), (.long p20), (.long p21), (.long p22)] (.long (0 : Int64)) ∧ Arv Z h a27 k28 .long (9 : Int32) [(.long p29), (.long p30), (.long p31), (.long p32), (.long p33), (.long p34), (.long p35), (.long p36), (.long p37)] (.long (0 : Int64)) ∧ n0 ≤ h.size))
theorem ef2_824 (m : MethodId) (x0 : Addr) (x1 : Addr) (x2 : Addr) : entryFrame m #[(.ref x0), (.ref x1), (.ref x2), (.long (1 : Int64))] 8 = mkF m 0 #[.val (.ref x0), .val (.ref x1), .val (.ref x2), .val (.long (1 : Int64)), .second, .unset, .unset, .unset] [] := by first | (simp [entryFrame, mkF, argsToLocals, Value.category]; done) | rfl
set_option maxRecDepth 65536 in
set_option maxHeartbeats 40000000 in
theorem rm2_824 (l : Launch) (Z : State) (a0 : Array Value) (hw : ∀ d ∈ tables_1, d.before a0 Z = true) (ws : List Jvm.Cond) (a1 : Addr) (a2 : Addr) (k3 : ClassId) (p4 : Int64) (p5 : Int64) (p6 : Int64) (p7 : Int64) (p8 : Int64) (p9 : Int64) (p10 : Int64) (p11 : Int64) (p12 : Int64) (k13 : ClassId) (p14 : Int64) (p15 : Int64) (p16 : Int64) (p17 : Int64) (p18 : Int64) (p19 : Int64) (p20 : Int64) (p21 : Int64) (p22 : Int64) (a23 : Addr) (k24 : ClassId) (a25 : Addr) (k26 : ClassId) (a27 : Addr) (k28 : ClassId) (p29 : Int64) (p30 : Int64) (p31 : Int64) (p32 : Int64) (p33 : Int64) (p34 : Int64) (p35 : Int64) (p36 : Int64) (p37 : Int64) (h0 : Heap) (n0 : Nat) (Z0 : n0 ≤ h0.size) (F0_0 : Arv Z h0 a2 k3 .long (9 : Int32) [(.long p4), (.long p5), (.long p6), (.long p7), (.long p8), (.long p9), (.long p10), (.long p11), (.long p12)] (.long (0 : Int64))) (g_a2 : n0 ≤ a2) (F0_2 : Arv Z h0 a1 k13 .long (9 : Int32) [(.long p14), (.long p15), (.long p16), (.long p17), (.long p18), (.long p19), (.long p20), (.long p21), (.long p22)] (.long (0 : Int64))) (g_a1 : n0 ≤ a1) (F0_4 : Arv Z h0 a23 k24 .long (9 : Int32) [(.long p4), (.long p5), (.long p6), (.long p7), (.long p8), (.long p9), (.long p10), (.long p11), (.long p12)] (.long (0 : Int64))) (g_a23 : n0 ≤ a23) (F0_6 : Arv Z h0 a25 k26 .long (9 : Int32) [(.long p14), (.long p15), (.long p16), (.long p17), (.long p18), (.long p19), (.long p20), (.long p21), (.long p22)] (.long (0 : Int64))) (g_a25 : n0 ≤ a25) (F0_8 : Arv Z h0 a27 k28 .long (9 : Int32) [(.long p29), (.long p30), (.long p31), (.long p32), (.long p33), (.long p34), (.long p35), (.long p36), (.long p37)] (.long (0 : Int64))) (g_a27 : n0 ≤ a27) (lt0_0 : a2 < a1) (lt0_1 : a1 < a23) (lt0_2 : a23 < a25) (lt0_3 : a25 < a27) :
    MetFree l (⟨"com/example/portcullis/portcullis/protocol/Field", "select", "([J[J[JJ)V"⟩ : MethodName) (head1 (Jvm.Cond.code (⟨"com/example/portcullis/portcullis/protocol/Field", "select", "([J[J[JJ)V"⟩ : MethodName) prog_3_method_12_code 8 none :: ws) R2_824) (fun a U => a = #[(.ref a1), (.ref a2), (.ref a1), (.long (1 : Int64))] ∧ Z.Warmed39 U.vm ∧ U.heap = h0) (fun _ _ _ _ _ => True) (fun _ U o U' => ∃ v L, o = .returned v ∧ Q2_824 Z a1 a2 k3 p4 p5 p6 p7 p8 p9 p10 p11 p12 k13 p14 p15 p16 p17 p18 p19 p20 p21 p22 a23 k24 a25 k26 a27 k28 p29 p30 p31 p32 p33 p34 p35 p36 p37 h0 n0 v U'.heap L ∧ FrameEnd U o U' L R2_824.cells R2_824.slots) := by
 refine MetFree.of_bodySF (plainFor_of_name pn_1) hisR ?_
 intro p e s m args below meth c s₁ Bd hml0 hP hK
 obtain ⟨rfl, hZ, hh⟩ := hP
 have hx := Bd.exec
 have hby := Bd.bytes
 have hml : c.maxLocals = 8 := hml0
 have hlk : meth.locks = false := Bd.notSynchronized
 have hown : s.vm.findClass "com/example/portcullis/portcullis/protocol/Field" = some m.cls := findClass_of_methodNamed Bd.named
 have hnm := (name_of_methodNamed Bd.named Bd.method).1
 have X0 : Stand p l e R2_824 s m #[(.ref a1), (.ref a2), (.ref a1), (.long (1 : Int64))] below meth c s₁ [] 0 0 := Stand.of_body Bd
 have e0 : s₁.heap = h0 := by rw [← hh, Bd.state]; rfl
 have N0 := Fr.nil n0
 rw [ef2_824 m a1 a2 a1]
 show KEnds p e below s R2_824.cells R2_824.slots (Q2_824 Z a1 a2 k3 p4 p5 p6 p7 p8 p9 p10 p11 p12 k13 p14 p15 p16 p17 p18 p19 p20 p21 p22 a23 k24 a25 k26 a27 k28 p29 p30 p31 p32 p33 p34 p35 p36 p37 h0 n0) s₁ (mkF m 0 #[.val (.ref a1), .val (.ref a2), .val (.ref a1), .val (.long (1 : Int64)), .second, .unset, .unset, .unset] [])
 refine k_lloadN X0 hx (hb hby d2_0) rfl (pc' := 1) rfl ?_
 refine k_lnegL X0 hx (hb hby d2_1) (pc' := 2) rfl (z := (-1 : Int64)) (by decide) ?_
 refine k_lstore X0 hx (hb hby d2_2) (Ls' := #[.val (.ref a1), .val (.ref a2), .val (.ref a1), .val (.long (1 : Int64)), .second, .val (.long (-1 : Int64)), .second, .unset]) rfl (pc' := 4) rfl ?_
 refine k_iconst X0 hx (hb hby d2_4) (pc' := 5) rfl (z := (0 : Int32)) rfl ?_
 refine k_istore X0 hx (hb hby d2_5) (Ls' := #[.val (.ref a1), .val (.ref a2), .val (.ref a1), .val (.long (1 : Int64)), .second, .val (.long (-1 : Int64)), .second, .val (.int (0 : Int32))]) rfl (pc' := 7) rfl ?_
 refine k_iload X0 hx (hb hby d2_7) rfl (pc' := 9) rfl ?_
 refine k_bipush X0 hx (hb hby d2_9) (pc' := 11) rfl (z := (9 : Int32)) rfl ?_
 refine k_icmp_ge X0 hx (hb hby d2_11) (pn := 14) rfl (py := 41) (by decide) (fun hc => absurd (by decide) hc) (fun _ => ?_)
 refine k_aloadN X0 hx (hb hby d2_14) rfl rfl (pc' := 15) rfl ?_
 refine k_iload X0 hx (hb hby d2_15) rfl (pc' := 17) rfl ?_
 refine k_aloadN X0 hx (hb hby d2_17) rfl rfl (pc' := 18) rfl ?_
 refine k_iload X0 hx (hb hby d2_18) rfl (pc' := 20) rfl ?_
 refine k_laload X0 hx hZ e0 F0_0 ⟨by decide, by decide⟩ (v := (.long p4)) rfl (hb hby d2_20) (pc' := 21) rfl ?_
 refine k_aloadN X0 hx (hb hby d2_21) rfl rfl (pc' := 22) rfl ?_
 refine k_iload X0 hx (hb hby d2_22) rfl (pc' := 24) rfl ?_
 refine k_laload X0 hx hZ e0 F0_0 ⟨by decide, by decide⟩ (v := (.long p4)) rfl (hb hby d2_24) (pc' := 25) rfl ?_
 refine k_aloadN X0 hx (hb hby d2_25) rfl rfl (pc' := 26) rfl ?_
 refine k_iload X0 hx (hb hby d2_26) rfl (pc' := 28) rfl ?_
 refine k_laload X0 hx hZ e0 F0_2 ⟨by decide, by decide⟩ (v := (.long p14)) rfl (hb hby d2_28) (pc' := 29) rfl ?_
 refine k_lxor X0 hx (hb hby d2_29) (pc' := 30) rfl (fun v825 hv825 => ?_)
 refine k_lload X0 hx (hb hby d2_30) rfl (pc' := 32) rfl ?_
 refine k_landL X0 hx (hb hby d2_32) (pc' := 33) rfl (z := v825) Int64.and_neg_one ?_
 refine k_lxorL X0 hx (hb hby d2_33) (pc' := 34) rfl (z := p14) (by rw [hv825, ← Int64.xor_assoc, Int64.xor_self, Int64.zero_xor]) ?_
 refine k_lastore X0 hx hZ e0 F0_2 ⟨by decide, by decide⟩ (i := 0) rfl (Nat.le_of_ble_eq_true rfl) (hb hby d2_34) (pc' := 35) rfl (fun T826 h826 X826 e826 W826 V826 => ?_)
 have Vw826 : Arv Z h826 a1 k13 .long (9 : Int32) [(.long p14), (.long p15), (.long p16), (.long p17), (.long p18), (.long p19), (.long p20), (.long p21), (.long p22)] (.long (0 : Int64)) := V826
 have N826 := Fr.snoc X826 N0 g_a1
 have Z826 : n0 ≤ h826.size := Nat.le_trans Z0 (Nat.le_of_eq W826.size.symm)
 refine k_iinc X826 hx (hb hby d2_35) rfl (pc' := 38) rfl (z := (1 : Int32)) (by decide) (Ls' := #[.val (.ref a1), .val (.ref a2), .val (.ref a1), .val (.long (1 : Int64)), .second, .val (.long (-1 : Int64)), .second, .val (.int (1 : Int32))]) rfl ?_
 refine k_goto X826 hx (hb hby d2_38) (pc' := 7) (by decide) ?_
 refine k_iload X826 hx (hb hby d2_7) rfl (pc' := 9) rfl ?_
 refine k_bipush X826 hx (hb hby d2_9) (pc' := 11) rfl (z := (9 : Int32)) rfl ?_
 refine k_icmp_ge X826 hx (hb hby d2_11) (pn := 14) rfl (py := 41) (by decide) (fun hc => absurd (by decide) hc) (fun _ => ?_)
 refine k_aloadN X826 hx (hb hby d2_14) rfl rfl (pc' := 15) rfl ?_
 refine k_iload X826 hx (hb hby d2_15) rfl (pc' := 17) rfl ?_
 refine k_aloadN X826 hx (hb hby d2_17) rfl rfl (pc' := 18) rfl ?_
 refine k_iload X826 hx (hb hby d2_18) rfl (pc' := 20) rfl ?_
 have F827 := (F0_0.other W826 (Nat.ne_of_lt lt0_0))
 refine k_laload X826 hx hZ e826 F827 ⟨by decide, by decide⟩ (v := (.long p5)) rfl (hb hby d2_20) (pc' := 21) rfl ?_
 refine k_aloadN X826 hx (hb hby d2_21) rfl rfl (pc' := 22) rfl ?_
 refine k_iload X826 hx (hb hby d2_22) rfl (pc' := 24) rfl ?_
 refine k_laload X826 hx hZ e826 F827 ⟨by decide, by decide⟩ (v := (.long p5)) rfl (hb hby d2_24) (pc' := 25) rfl ?_
 refine k_aloadN X826 hx (hb hby d2_25) rfl rfl (pc' := 26) rfl ?_
 refine k_iload X826 hx (hb hby d2_26) rfl (pc' := 28) rfl ?_
 refine k_laload X826 hx hZ e826 Vw826 ⟨by decide, by decide⟩ (v := (.long p15)) rfl (hb hby d2_28) (pc' := 29) rfl ?_
 refine k_lxor X826 hx (hb hby d2_29) (pc' := 30) rfl (fun v828 hv828 => ?_)
 refine k_lload X826 hx (hb hby d2_30) rfl (pc' := 32) rfl ?_
 refine k_landL X826 hx (hb hby d2_32) (pc' := 33) rfl (z := v828) Int64.and_neg_one ?_
 refine k_lxorL X826 hx (hb hby d2_33) (pc' := 34) rfl (z := p15) (by rw [hv828, ← Int64.xor_assoc, Int64.xor_self, Int64.zero_xor]) ?_
 refine k_lastore X826 hx hZ e826 Vw826 ⟨by decide, by decide⟩ (i := 1) rfl (Nat.le_of_ble_eq_true rfl) (hb hby d2_34) (pc' := 35) rfl (fun T829 h829 X829 e829 W829 V829 => ?_)
 have Vw829 : Arv Z h829 a1 k13 .long (9 : Int32) [(.long p14), (.long p15), (.long p16), (.long p17), (.long p18), (.long p19), (.long p20), (.long p21), (.long p22)] (.long (0 : Int64)) := V829
 have N829 := Fr.snoc X829 N826 g_a1
 have Z829 : n0 ≤ h829.size := Nat.le_trans Z826 (Nat.le_of_eq W829.size.symm)
 refine k_iinc X829 hx (hb hby d2_35) rfl (pc' := 38) rfl (z := (2 : Int32)) (by decide) (Ls' := #[.val (.ref a1), .val (.ref a2), .val (.ref a1), .val (.long (1 : Int64)), .second, .val (.long (-1 : Int64)), .second, .val (.int (2 : Int32))]) rfl ?_
 refine k_goto X829 hx (hb hby d2_38) (pc' := 7) (by decide) ?_
 refine k_iload X829 hx (hb hby d2_7) rfl (pc' := 9) rfl ?_
 refine k_bipush X829 hx (hb hby d2_9) (pc' := 11) rfl (z := (9 : Int32)) rfl ?_
 refine k_icmp_ge X829 hx (hb hby d2_11) (pn := 14) rfl (py := 41) (by decide) (fun hc => absurd (by decide) hc) (fun _ => ?_)
 refine k_aloadN X829 hx (hb hby d2_14) rfl rfl (pc' := 15) rfl ?_
 refine k_iload X829 hx (hb hby d2_15) rfl (pc' := 17) rfl ?_
 refine k_aloadN X829 hx (hb hby d2_17) rfl rfl (pc' := 18) rfl ?_
 refine k_iload X829 hx (hb hby d2_18) rfl (pc' := 20) rfl ?_
 have F830 := (F827.other W829 (Nat.ne_of_lt lt0_0))
 refine k_laload X829 hx hZ e829 F830 ⟨by decide, by decide⟩ (v := (.long p6)) rfl (hb hby d2_20) (pc' := 21) rfl ?_
 refine k_aloadN X829 hx (hb hby d2_21) rfl rfl (pc' := 22) rfl ?_
 refine k_iload X829 hx (hb hby d2_22) rfl (pc' := 24) rfl ?_
 refine k_laload X829 hx hZ e829 F830 ⟨by decide, by decide⟩ (v := (.long p6)) rfl (hb hby d2_24) (pc' := 25) rfl ?_
 refine k_aloadN X829 hx (hb hby d2_25) rfl rfl (pc' := 26) rfl ?_
 refine k_iload X829 hx (hb hby d2_26) rfl (pc' := 28) rfl ?_
 refine k_laload X829 hx hZ e829 Vw829 ⟨by decide, by decide⟩ (v := (.long p16)) rfl (hb hby d2_28) (pc' := 29) rfl ?_
 refine k_lxor X829 hx (hb hby d2_29) (pc' := 30) rfl (fun v831 hv831 => ?_)
 refine k_lload X829 hx (hb hby d2_30) rfl (pc' := 32) rfl ?_
 refine k_landL X829 hx (hb hby d2_32) (pc' := 33) rfl (z := v831) Int64.and_neg_one ?_
 refine k_lxorL X829 hx (hb hby d2_33) (pc' := 34) rfl (z := p16) (by rw [hv831, ← Int64.xor_assoc, Int64.xor_self, Int64.zero_xor]) ?_
 refine k_lastore X829 hx hZ e829 Vw829 ⟨by decide, by decide⟩ (i := 2) rfl (Nat.le_of_ble_eq_true rfl) (hb hby d2_34) (pc' := 35) rfl (fun T832 h832 X832 e832 W832 V832 => ?_)
 have Vw832 : Arv Z h832 a1 k13 .long (9 : Int32) [(.long p14), (.long p15), (.long p16), (.long p17), (.long p18), (.long p19), (.long p20), (.long p21), (.long p22)] (.long (0 : Int64)) := V832
 have N832 := Fr.snoc X832 N829 g_a1
 have Z832 : n0 ≤ h832.size := Nat.le_trans Z829 (Nat.le_of_eq W832.size.symm)
 refine k_iinc X832 hx (hb hby d2_35) rfl (pc' := 38) rfl (z := (3 : Int32)) (by decide) (Ls' := #[.val (.ref a1), .val (.ref a2), .val (.ref a1), .val (.long (1 : Int64)), .second, .val (.long (-1 : Int64)), .second, .val (.int (3 : Int32))]) rfl ?_
 refine k_goto X832 hx (hb hby d2_38) (pc' := 7) (by decide) ?_
 refine k_iload X832 hx (hb hby d2_7) rfl (pc' := 9) rfl ?_
 refine k_bipush X832 hx (hb hby d2_9) (pc' := 11) rfl (z := (9 : Int32)) rfl ?_
 refine k_icmp_ge X832 hx (hb hby d2_11) (pn := 14) rfl (py := 41) (by decide) (fun hc => absurd (by decide) hc) (fun _ => ?_)
 refine k_aloadN X832 hx (hb hby d2_14) rfl rfl (pc' := 15) rfl ?_
 refine k_iload X832 hx (hb hby d2_15) rfl (pc' := 17) rfl ?_
 refine k_aloadN X832 hx (hb hby d2_17) rfl rfl (pc' := 18) rfl ?_
 refine k_iload X832 hx (hb hby d2_18) rfl (pc' := 20) rfl ?_
 have F833 := (F830.other W832 (Nat.ne_of_lt lt0_0))
 refine k_laload X832 hx hZ e832 F833 ⟨by decide, by decide⟩ (v := (.long p7)) rfl (hb hby d2_20) (pc' := 21) rfl ?_
 refine k_aloadN X832 hx (hb hby d2_21) rfl rfl (pc' := 22) rfl ?_
 refine k_iload X832 hx (hb hby d2_22) rfl (pc' := 24) rfl ?_
 refine k_laload X832 hx hZ e832 F833 ⟨by decide, by decide⟩ (v := (.long p7)) rfl (hb hby d2_24) (pc' := 25) rfl ?_
 refine k_aloadN X832 hx (hb hby d2_25) rfl rfl (pc' := 26) rfl ?_
 refine k_iload X832 hx (hb hby d2_26) rfl (pc' := 28) rfl ?_
 refine k_laload X832 hx hZ e832 Vw832 ⟨by decide, by decide⟩ (v := (.long p17)) rfl (hb hby d2_28) (pc' := 29) rfl ?_
 refine k_lxor X832 hx (hb hby d2_29) (pc' := 30) rfl (fun v834 hv834 => ?_)
 refine k_lload X832 hx (hb hby d2_30) rfl (pc' := 32) rfl ?_
 refine k_landL X832 hx (hb hby d2_32) (pc' := 33) rfl (z := v834) Int64.and_neg_one ?_
 refine k_lxorL X832 hx (hb hby d2_33) (pc' := 34) rfl (z := p17) (by rw [hv834, ← Int64.xor_assoc, Int64.xor_self, Int64.zero_xor]) ?_
 refine k_lastore X832 hx hZ e832 Vw832 ⟨by decide, by decide⟩ (i := 3) rfl (Nat.le_of_ble_eq_true rfl) (hb hby d2_34) (pc' := 35) rfl (fun T835 h835 X835 e835 W835 V835 => ?_)
 have Vw835 : Arv Z h835 a1 k13 .long (9 : Int32) [(.long p14), (.long p15), (.long p16), (.long p17), (.long p18), (.long p19), (.long p20), (.long p21), (.long p22)] (.long (0 : Int64)) := V835
 have N835 := Fr.snoc X835 N832 g_a1
 have Z835 : n0 ≤ h835.size := Nat.le_trans Z832 (Nat.le_of_eq W835.size.symm)
 refine k_iinc X835 hx (hb hby d2_35) rfl (pc' := 38) rfl (z := (4 : Int32)) (by decide) (Ls' := #[.val (.ref a1), .val (.ref a2), .val (.ref a1), .val (.long (1 : Int64)), .second, .val (.long (-1 : Int64)), .second, .val (.int (4 : Int32))]) rfl ?_
 refine k_goto X835 hx (hb hby d2_38) (pc' := 7) (by decide) ?_
 refine k_iload X835 hx (hb hby d2_7) rfl (pc' := 9) rfl ?_
 refine k_bipush X835 hx (hb hby d2_9) (pc' := 11) rfl (z := (9 : Int32)) rfl ?_
 refine k_icmp_ge X835 hx (hb hby d2_11) (pn := 14) rfl (py := 41) (by decide) (fun hc => absurd (by decide) hc) (fun _ => ?_)
 refine k_aloadN X835 hx (hb hby d2_14) rfl rfl (pc' := 15) rfl ?_
 refine k_iload X835 hx (hb hby d2_15) rfl (pc' := 17) rfl ?_
 refine k_aloadN X835 hx (hb hby d2_17) rfl rfl (pc' := 18) rfl ?_
 refine k_iload X835 hx (hb hby d2_18) rfl (pc' := 20) rfl ?_
 have F836 := (F833.other W835 (Nat.ne_of_lt lt0_0))
 refine k_laload X835 hx hZ e835 F836 ⟨by decide, by decide⟩ (v := (.long p8)) rfl (hb hby d2_20) (pc' := 21) rfl ?_
 refine k_aloadN X835 hx (hb hby d2_21) rfl rfl (pc' := 22) rfl ?_
 refine k_iload X835 hx (hb hby d2_22) rfl (pc' := 24) rfl ?_
 refine k_laload X835 hx hZ e835 F836 ⟨by decide, by decide⟩ (v := (.long p8)) rfl (hb hby d2_24) (pc' := 25) rfl ?_
 refine k_aloadN X835 hx (hb hby d2_25) rfl rfl (pc' := 26) rfl ?_
 refine k_iload X835 hx (hb hby d2_26) rfl (pc' := 28) rfl ?_
 refine k_laload X835 hx hZ e835 Vw835 ⟨by decide, by decide⟩ (v := (.long p18)) rfl (hb hby d2_28) (pc' := 29) rfl ?_
 refine k_lxor X835 hx (hb hby d2_29) (pc' := 30) rfl (fun v837 hv837 => ?_)
 refine k_lload X835 hx (hb hby d2_30) rfl (pc' := 32) rfl ?_
 refine k_landL X835 hx (hb hby d2_32) (pc' := 33) rfl (z := v837) Int64.and_neg_one ?_
 refine k_lxorL X835 hx (hb hby d2_33) (pc' := 34) rfl (z := p18) (by rw [hv837, ← Int64.xor_assoc, Int64.xor_self, Int64.zero_xor]) ?_
 refine k_lastore X835 hx hZ e835 Vw835 ⟨by decide, by decide⟩ (i := 4) rfl (Nat.le_of_ble_eq_true rfl) (hb hby d2_34) (pc' := 35) rfl (fun T838 h838 X838 e838 W838 V838 => ?_)
 have Vw838 : Arv Z h838 a1 k13 .long (9 : Int32) [(.long p14), (.long p15), (.long p16), (.long p17), (.long p18), (.long p19), (.long p20), (.long p21), (.long p22)] (.long (0 : Int64)) := V838
 have N838 := Fr.snoc X838 N835 g_a1
 have Z838 : n0 ≤ h838.size := Nat.le_trans Z835 (Nat.le_of_eq W838.size.symm)
 refine k_iinc X838 hx (hb hby d2_35) rfl (pc' := 38) rfl (z := (5 : Int32)) (by decide) (Ls' := #[.val (.ref a1), .val (.ref a2), .val (.ref a1), .val (.long (1 : Int64)), .second, .val (.long (-1 : Int64)), .second, .val (.int (5 : Int32))]) rfl ?_
 refine k_goto X838 hx (hb hby d2_38) (pc' := 7) (by decide) ?_
 refine k_iload X838 hx (hb hby d2_7) rfl (pc' := 9) rfl ?_
 refine k_bipush X838 hx (hb hby d2_9) (pc' := 11) rfl (z := (9 : Int32)) rfl ?_
 refine k_icmp_ge X838 hx (hb hby d2_11) (pn := 14) rfl (py := 41) (by decide) (fun hc => absurd (by decide) hc) (fun _ => ?_)
 refine k_aloadN X838 hx (hb hby d2_14) rfl rfl (pc' := 15) rfl ?_
 refine k_iload X838 hx (hb hby d2_15) rfl (pc' := 17) rfl ?_
 refine k_aloadN X838 hx (hb hby d2_17) rfl rfl (pc' := 18) rfl ?_
 refine k_iload X838 hx (hb hby d2_18) rfl (pc' := 20) rfl ?_
 have F839 := (F836.other W838 (Nat.ne_of_lt lt0_0))
 refine k_laload X838 hx hZ e838 F839 ⟨by decide, by decide⟩ (v := (.long p9)) rfl (hb hby d2_20) (pc' := 21) rfl ?_
 refine k_aloadN X838 hx (hb hby d2_21) rfl rfl (pc' := 22) rfl ?_
 refine k_iload X838 hx (hb hby d2_22) rfl (pc' := 24) rfl ?_
 refine k_laload X838 hx hZ e838 F839 ⟨by decide, by decide⟩ (v := (.long p9)) rfl (hb hby d2_24) (pc' := 25) rfl ?_
 refine k_aloadN X838 hx (hb hby d2_25) rfl rfl (pc' := 26) rfl ?_
 refine k_iload X838 hx (hb hby d2_26) rfl (pc' := 28) rfl ?_
 refine k_laload X838 hx hZ e838 Vw838 ⟨by decide, by decide⟩ (v := (.long p19)) rfl (hb hby d2_28) (pc' := 29) rfl ?_
 refine k_lxor X838 hx (hb hby d2_29) (pc' := 30) rfl (fun v840 hv840 => ?_)
 refine k_lload X838 hx (hb hby d2_30) rfl (pc' := 32) rfl ?_
 refine k_landL X838 hx (hb hby d2_32) (pc' := 33) rfl (z := v840) Int64.and_neg_one ?_
 refine k_lxorL X838 hx (hb hby d2_33) (pc' := 34) rfl (z := p19) (by rw [hv840, ← Int64.xor_assoc, Int64.xor_self, Int64.zero_xor]) ?_
 refine k_lastore X838 hx hZ e838 Vw838 ⟨by decide, by decide⟩ (i := 5) rfl (Nat.le_of_ble_eq_true rfl) (hb hby d2_34) (pc' := 35) rfl (fun T841 h841 X841 e841 W841 V841 => ?_)
 have Vw841 : Arv Z h841 a1 k13 .long (9 : Int32) [(.long p14), (.long p15), (.long p16), (.long p17), (.long p18), (.long p19), (.long p20), (.long p21), (.long p22)] (.long (0 : Int64)) := V841
 have N841 := Fr.snoc X841 N838 g_a1
 have Z841 : n0 ≤ h841.size := Nat.le_trans Z838 (Nat.le_of_eq W841.size.symm)
 refine k_iinc X841 hx (hb hby d2_35) rfl (pc' := 38) rfl (z := (6 : Int32)) (by decide) (Ls' := #[.val (.ref a1), .val (.ref a2), .val (.ref a1), .val (.long (1 : Int64)), .second, .val (.long (-1 : Int64)), .second, .val (.int (6 : Int32))]) rfl ?_
 refine k_goto X841 hx (hb hby d2_38) (pc' := 7) (by decide) ?_
 refine k_iload X841 hx (hb hby d2_7) rfl (pc' := 9) rfl ?_
 refine k_bipush X841 hx (hb hby d2_9) (pc' := 11) rfl (z := (9 : Int32)) rfl ?_
 refine k_icmp_ge X841 hx (hb hby d2_11) (pn := 14) rfl (py := 41) (by decide) (fun hc => absurd (by decide) hc) (fun _ => ?_)
 refine k_aloadN X841 hx (hb hby d2_14) rfl rfl (pc' := 15) rfl ?_
 refine k_iload X841 hx (hb hby d2_15) rfl (pc' := 17) rfl ?_
 refine k_aloadN X841 hx (hb hby d2_17) rfl rfl (pc' := 18) rfl ?_
 refine k_iload X841 hx (hb hby d2_18) rfl (pc' := 20) rfl ?_
 have F842 := (F839.other W841 (Nat.ne_of_lt lt0_0))
 refine k_laload X841 hx hZ e841 F842 ⟨by decide, by decide⟩ (v := (.long p10)) rfl (hb hby d2_20) (pc' := 21) rfl ?_
 refine k_aloadN X841 hx (hb hby d2_21) rfl rfl (pc' := 22) rfl ?_
 refine k_iload X841 hx (hb hby d2_22) rfl (pc' := 24) rfl ?_
 refine k_laload X841 hx hZ e841 F842 ⟨by decide, by decide⟩ (v := (.long p10)) rfl (hb hby d2_24) (pc' := 25) rfl ?_
 refine k_aloadN X841 hx (hb hby d2_25) rfl rfl (pc' := 26) rfl ?_
 refine k_iload X841 hx (hb hby d2_26) rfl (pc' := 28) rfl ?_
 refine k_laload X841 hx hZ e841 Vw841 ⟨by decide, by decide⟩ (v := (.long p20)) rfl (hb hby d2_28) (pc' := 29) rfl ?_
 refine k_lxor X841 hx (hb hby d2_29) (pc' := 30) rfl (fun v843 hv843 => ?_)
 refine k_lload X841 hx (hb hby d2_30) rfl (pc' := 32) rfl ?_
 refine k_landL X841 hx (hb hby d2_32) (pc' := 33) rfl (z := v843) Int64.and_neg_one ?_
 refine k_lxorL X841 hx (hb hby d2_33) (pc' := 34) rfl (z := p20) (by rw [hv843, ← Int64.xor_assoc, Int64.xor_self, Int64.zero_xor]) ?_
 refine k_lastore X841 hx hZ e841 Vw841 ⟨by decide, by decide⟩ (i := 6) rfl (Nat.le_of_ble_eq_true rfl) (hb hby d2_34) (pc' := 35) rfl (fun T844 h844 X844 e844 W844 V844 => ?_)
 have Vw844 : Arv Z h844 a1 k13 .long (9 : Int32) [(.long p14), (.long p15), (.long p16), (.long p17), (.long p18), (.long p19), (.long p20), (.long p21), (.long p22)] (.long (0 : Int64)) := V844
 have N844 := Fr.snoc X844 N841 g_a1
 have Z844 : n0 ≤ h844.size := Nat.le_trans Z841 (Nat.le_of_eq W844.size.symm)
 refine k_iinc X844 hx (hb hby d2_35) rfl (pc' := 38) rfl (z := (7 : Int32)) (by decide) (Ls' := #[.val (.ref a1), .val (.ref a2), .val (.ref a1), .val (.long (1 : Int64)), .second, .val (.long (-1 : Int64)), .second, .val (.int (7 : Int32))]) rfl ?_
 refine k_goto X844 hx (hb hby d2_38) (pc' := 7) (by decide) ?_
 refine k_iload X844 hx (hb hby d2_7) rfl (pc' := 9) rfl ?_
 refine k_bipush X844 hx (hb hby d2_9) (pc' := 11) rfl (z := (9 : Int32)) rfl ?_
 refine k_icmp_ge X844 hx (hb hby d2_11) (pn := 14) rfl (py := 41) (by decide) (fun hc => absurd (by decide) hc) (fun _ => ?_)
 refine k_aloadN X844 hx (hb hby d2_14) rfl rfl (pc' := 15) rfl ?_
 refine k_iload X844 hx (hb hby d2_15) rfl (pc' := 17) rfl ?_
 refine k_aloadN X844 hx (hb hby d2_17) rfl rfl (pc' := 18) rfl ?_
 refine k_iload X844 hx (hb hby d2_18) rfl (pc' := 20) rfl ?_
 have F845 := (F842.other W844 (Nat.ne_of_lt lt0_0))
 refine k_laload X844 hx hZ e844 F845 ⟨by decide, by decide⟩ (v := (.long p11)) rfl (hb hby d2_20) (pc' := 21) rfl ?_
 refine k_aloadN X844 hx (hb hby d2_21) rfl rfl (pc' := 22) rfl ?_
 refine k_iload X844 hx (hb hby d2_22) rfl (pc' := 24) rfl ?_
 refine k_laload X844 hx hZ e844 F845 ⟨by decide, by decide⟩ (v := (.long p11)) rfl (hb hby d2_24) (pc' := 25) rfl ?_
 refine k_aloadN X844 hx (hb hby d2_25) rfl rfl (pc' := 26) rfl ?_
 refine k_iload X844 hx (hb hby d2_26) rfl (pc' := 28) rfl ?_
 refine k_laload X844 hx hZ e844 Vw844 ⟨by decide, by decide⟩ (v := (.long p21)) rfl (hb hby d2_28) (pc' := 29) rfl ?_
 refine k_lxor X844 hx (hb hby d2_29) (pc' := 30) rfl (fun v846 hv846 => ?_)
 refine k_lload X844 hx (hb hby d2_30) rfl (pc' := 32) rfl ?_
 refine k_landL X844 hx (hb hby d2_32) (pc' := 33) rfl (z := v846) Int64.and_neg_one ?_
 refine k_lxorL X844 hx (hb hby d2_33) (pc' := 34) rfl (z := p21) (by rw [hv846, ← Int64.xor_assoc, Int64.xor_self, Int64.zero_xor]) ?_
 refine k_lastore X844 hx hZ e844 Vw844 ⟨by decide, by decide⟩ (i := 7) rfl (Nat.le_of_ble_eq_true rfl) (hb hby d2_34) (pc' := 35) rfl (fun T847 h847 X847 e847 W847 V847 => ?_)
 have Vw847 : Arv Z h847 a1 k13 .long (9 : Int32) [(.long p14), (.long p15), (.long p16), (.long p17), (.long p18), (.long p19), (.long p20), (.long p21), (.long p22)] (.long (0 : Int64)) := V847
 have N847 := Fr.snoc X847 N844 g_a1
 have Z847 : n0 ≤ h847.size := Nat.le_trans Z844 (Nat.le_of_eq W847.size.symm)
 refine k_iinc X847 hx (hb hby d2_35) rfl (pc' := 38) rfl (z := (8 : Int32)) (by decide) (Ls' := #[.val (.ref a1), .val (.ref a2), .val (.ref a1), .val (.long (1 : Int64)), .second, .val (.long (-1 : Int64)), .second, .val (.int (8 : Int32))]) rfl ?_
 refine k_goto X847 hx (hb hby d2_38) (pc' := 7) (by decide) ?_
 refine k_iload X847 hx (hb hby d2_7) rfl (pc' := 9) rfl ?_
 refine k_bipush X847 hx (hb hby d2_9) (pc' := 11) rfl (z := (9 : Int32)) rfl ?_
 refine k_icmp_ge X847 hx (hb hby d2_11) (pn := 14) rfl (py := 41) (by decide) (fun hc => absurd (by decide) hc) (fun _ => ?_)
 refine k_aloadN X847 hx (hb hby d2_14) rfl rfl (pc' := 15) rfl ?_
 refine k_iload X847 hx (hb hby d2_15) rfl (pc' := 17) rfl ?_
 refine k_aloadN X847 hx (hb hby d2_17) rfl rfl (pc' := 18) rfl ?_
 refine k_iload X847 hx (hb hby d2_18) rfl (pc' := 20) rfl ?_
 have F848 := (F845.other W847 (Nat.ne_of_lt lt0_0))
 refine k_laload X847 hx hZ e847 F848 ⟨by decide, by decide⟩ (v := (.long p12)) rfl (hb hby d2_20) (pc' := 21) rfl ?_
 refine k_aloadN X847 hx (hb hby d2_21) rfl rfl (pc' := 22) rfl ?_
 refine k_iload X847 hx (hb hby d2_22) rfl (pc' := 24) rfl ?_
 refine k_laload X847 hx hZ e847 F848 ⟨by decide, by decide⟩ (v := (.long p12)) rfl (hb hby d2_24) (pc' := 25) rfl ?_
 refine k_aloadN X847 hx (hb hby d2_25) rfl rfl (pc' := 26) rfl ?_
 refine k_iload X847 hx (hb hby d2_26) rfl (pc' := 28) rfl ?_
 refine k_laload X847 hx hZ e847 Vw847 ⟨by decide, by decide⟩ (v := (.long p22)) rfl (hb hby d2_28) (pc' := 29) rfl ?_
 refine k_lxor X847 hx (hb hby d2_29) (pc' := 30) rfl (fun v849 hv849 => ?_)
 refine k_lload X847 hx (hb hby d2_30) rfl (pc' := 32) rfl ?_
 refine k_landL X847 hx (hb hby d2_32) (pc' := 33) rfl (z := v849) Int64.and_neg_one ?_
 refine k_lxorL X847 hx (hb hby d2_33) (pc' := 34) rfl (z := p22) (by rw [hv849, ← Int64.xor_assoc, Int64.xor_self, Int64.zero_xor]) ?_
 refine k_lastore X847 hx hZ e847 Vw847 ⟨by decide, by decide⟩ (i := 8) rfl (Nat.le_of_ble_eq_true rfl) (hb hby d2_34) (pc' := 35) rfl (fun T850 h850 X850 e850 W850 V850 => ?_)
 have Vw850 : Arv Z h850 a1 k13 .long (9 : Int32) [(.long p14), (.long p15), (.long p16), (.long p17), (.long p18), (.long p19), (.long p20), (.long p21), (.long p22)] (.long (0 : Int64)) := V850
 have N850 := Fr.snoc X850 N847 g_a1
 have Z850 : n0 ≤ h850.size := Nat.le_trans Z847 (Nat.le_of_eq W850.size.symm)
 refine k_iinc X850 hx (hb hby d2_35) rfl (pc' := 38) rfl (z := (9 : Int32)) (by decide) (Ls' := #[.val (.ref a1), .val (.ref a2), .val (.ref a1), .val (.long (1 : Int64)), .second, .val (.long (-1 : Int64)), .second, .val (.int (9 : Int32))]) rfl ?_
 refine k_goto X850 hx (hb hby d2_38) (pc' := 7) (by decide) ?_
 refine k_iload X850 hx (hb hby d2_7) rfl (pc' := 9) rfl ?_
 refine k_bipush X850 hx (hb hby d2_9) (pc' := 11) rfl (z := (9 : Int32)) rfl ?_
 refine k_icmp_ge X850 hx (hb hby d2_11) (pn := 14) rfl (py := 41) (by decide) (fun _ => ?_) (fun hc => absurd hc (by decide))
 have F851 := (F848.other W850 (Nat.ne_of_lt lt0_0))
 have F852 := (((((((((F0_4.other W826 (Ne.symm (Nat.ne_of_lt lt0_1))).other W829 (Ne.symm (Nat.ne_of_lt lt0_1))).other W832 (Ne.symm (Nat.ne_of_lt lt0_1))).other W835 (Ne.symm (Nat.ne_of_lt lt0_1))).other W838 (Ne.symm (Nat.ne_of_lt lt0_1))).other W841 (Ne.symm (Nat.ne_of_lt lt0_1))).other W844 (Ne.symm (Nat.ne_of_lt lt0_1))).other W847 (Ne.symm (Nat.ne_of_lt lt0_1))).other W850 (Ne.symm (Nat.ne_of_lt lt0_1)))
 have F853 := (((((((((F0_6.other W826 (Ne.symm (Nat.ne_of_lt (Nat.lt_trans lt0_1 lt0_2)))).other W829 (Ne.symm (Nat.ne_of_lt (Nat.lt_trans lt0_1 lt0_2)))).other W832 (Ne.symm (Nat.ne_of_lt (Nat.lt_trans lt0_1 lt0_2)))).other W835 (Ne.symm (Nat.ne_of_lt (Nat.lt_trans lt0_1 lt0_2)))).other W838 (Ne.symm (Nat.ne_of_lt (Nat.lt_trans lt0_1 lt0_2)))).other W841 (Ne.symm (Nat.ne_of_lt (Nat.lt_trans lt0_1 lt0_2)))).other W844 (Ne.symm (Nat.ne_of_lt (Nat.lt_trans lt0_1 lt0_2)))).other W847 (Ne.symm (Nat.ne_of_lt (Nat.lt_trans lt0_1 lt0_2)))).other W850 (Ne.symm (Nat.ne_of_lt (Nat.lt_trans lt0_1 lt0_2))))
 have F854 := (((((((((F0_8.other W826 (Ne.symm (Nat.ne_of_lt (Nat.lt_trans (Nat.lt_trans lt0_1 lt0_2) lt0_3)))).other W829 (Ne.symm (Nat.ne_of_lt (Nat.lt_trans (Nat.lt_trans lt0_1 lt0_2) lt0_3)))).other W832 (Ne.symm (Nat.ne_of_lt (Nat.lt_trans (Nat.lt_trans lt0_1 lt0_2) lt0_3)))).other W835 (Ne.symm (Nat.ne_of_lt (Nat.lt_trans (Nat.lt_trans lt0_1 lt0_2) lt0_3)))).other W838 (Ne.symm (Nat.ne_of_lt (Nat.lt_trans (Nat.lt_trans lt0_1 lt0_2) lt0_3)))).other W841 (Ne.symm (Nat.ne_of_lt (Nat.lt_trans (Nat.lt_trans lt0_1 lt0_2) lt0_3)))).other W844 (Ne.symm (Nat.ne_of_lt (Nat.lt_trans (Nat.lt_trans lt0_1 lt0_2) lt0_3)))).other W847 (Ne.symm (Nat.ne_of_lt (Nat.lt_trans (Nat.lt_trans lt0_1 lt0_2) lt0_3)))).other W850 (Ne.symm (Nat.ne_of_lt (Nat.lt_trans (Nat.lt_trans lt0_1 lt0_2) lt0_3))))
 exact k_ret X850 hx Bd.returns (hb hby d2_41) hlk (by decide) (by decide) (by rw [e850]; exact ⟨N850, ⟨rfl, F851, Vw850, F852, F853, F854, Z850⟩⟩)
theorem ef0 (m : MethodId) (x0 : Int64) (x1 : Int64) (x2 : Int64) (x3 : Int32) (x4 : Int32) : entryFrame m #[(.long x0), (.long x1), (.long x2), (.int x3), (.int x4)] maxLocals = mkF m 0 #[.val (.long x0), .second, .val (.long x1), .second, .val (.long x2), .second, .val (.int x3), .val (.int x4), .unset, .unset, .unset, .unset, .unset, .unset, .unset, .unset, .unset, .unset, .unset, .unset] [] := by first | (simp [entryFrame, mkF, argsToLocals, Value.category, maxLocals]; done) | rfl
def Q0 (n0 : Nat) (v : Option Value) (h : Heap) (L : List Loc) : Prop := v = some (.int 1) ∧ Fr n0 L
set_option maxRecDepth 65536 in
set_option maxHeartbeats 40000000 in
theorem rm0 (l : Launch) (Z : State) (a0 : Array Value) (hw : ∀ d ∈ tables_1, d.before a0 Z = true) (ws : List Jvm.Cond) (i0 : Int64) (i1 : Int64) (i2 : Int64) (i3 : Int32) (i4 : Int32) (h0 : Heap) (n0 : Nat) (Z0 : n0 ≤ h0.size) :
    MetFree l x (head1 (Jvm.Cond.code x code maxLocals ret :: ws) room_1) (fun a U => a = #[(.long i0), (.long i1), (.long i2), (.int i3), (.int i4)] ∧ Z.Warmed39 U.vm ∧ U.heap = h0) (fun _ _ _ _ _ => True) (fun _ U o U' => ∃ v L, o = .returned v ∧ Q0 n0 v U'.heap L ∧ FrameEnd U o U' L 24 192) := by
 refine MetFree.of_bodySF (plainFor_of_name pn_0) hisR ?_
 intro p e s m args below meth c s₁ Bd hml0 hP hK
 obtain ⟨rfl, hZ, hh⟩ := hP
 have hx := Bd.exec
 have hby := Bd.bytes
 have hml : c.maxLocals = 20 := hml0
 have hlk : meth.locks = false := Bd.notSynchronized
 have hown : s.vm.findClass "com/example/portcullis/portcullis/protocol/FieldSelectPinLaw" = some m.cls := findClass_of_methodNamed Bd.named
 have hnm := (name_of_methodNamed Bd.named Bd.method).1
 have X0 : Stand p l e room_1 s m #[(.long i0), (.long i1), (.long i2), (.int i3), (.int i4)] below meth c s₁ [] 0 0 := Stand.of_body Bd
 have e0 : s₁.heap = h0 := by rw [← hh, Bd.state]; rfl
 have N0 := Fr.nil n0
 rw [show entryFrame m #[(.long i0), (.long i1), (.long i2), (.int i3), (.int i4)] maxLocals = _ from ef0 m i0 i1 i2 i3 i4]
 show KEnds p e below s 24 192 (Q0 n0) s₁ (mkF m 0 #[.val (.long i0), .second, .val (.long i1), .second, .val (.long i2), .second, .val (.int i3), .val (.int i4), .unset, .unset, .unset, .unset, .unset, .unset, .unset, .unset, .unset, .unset, .unset, .unset] [])
 refine k_iload X0 hx (hb hby at_0) rfl (pc' := 2) rfl ?_
 refine k_iconst X0 hx (hb hby at_2) (pc' := 3) rfl (z := (1 : Int32)) rfl ?_
 refine k_iand X0 hx (hb hby at_3) (pc' := 4) rfl (fun v1 hv1 => ?_)
 have hs2 : v1 = (0 : Int32) ∨ v1 = (1 : Int32) := by
  have := rng32 v1
  have := rng32 i3
  have : (1 : Int32).toInt = 1 := (by decide)
  have q3 : v1.toInt = i3.toInt % 2 := (by rw [hv1]; exact c_mask _ _ 1 (by decide) (by decide))
  rcases (by omega : v1.toInt = 0 ∨ v1.toInt = 1) with hq | hq
  · exact Or.inl (Int32.toInt_inj.mp hq)
  · exact Or.inr ((Int32.toInt_inj.mp hq))
 rcases hs2 with rfl | rfl
 ·
  show KEnds p e below s _ _ _ s₁ (mkF m 4 #[.val (.long i0), .second, .val (.long i1), .second, .val (.long i2), .second, .val (.int i3), .val (.int i4), .unset, .unset, .unset, .unset, .unset, .unset, .unset, .unset, .unset, .unset, .unset, .unset] [(.int (0 : Int32))])
  refine k_i2lL X0 hx (hb hby at_4) (pc' := 5) rfl (z := (0 : Int64)) (by decide) ?_
  refine k_lstore X0 hx (hb hby at_5) (Ls' := #[.val (.long i0), .second, .val (.long i1), .second, .val (.long i2), .second, .val (.int i3), .val (.int i4), .val (.long (0 : Int64)), .second, .unset, .unset, .unset, .unset, .unset, .unset, .unset, .unset, .unset, .unset]) rfl (pc' := 7) rfl ?_
  refine k_lloadN X0 hx (hb hby at_7) rfl (pc' := 8) rfl ?_
  refine k_lloadN X0 hx (hb hby at_8) rfl (pc' := 9) rfl ?_
  refine k_callS X0 hx hZ hown (hw _ (List.mem_of_getElem? (i := 0) rfl)) (hw _ (List.mem_of_getElem? (i := 1) rfl)) (hw _ (List.mem_of_getElem? (i := 2) rfl)) (hw _ (List.mem_of_getElem? (i := 3) rfl)) (by decide) (rm1_5 l Z a0 hw [] i0 i1 h0 n0 Z0 ) (by decide) (by decide) e0 (by rw [hml]; rfl) (argsL := [(.long i0), (.long i1)]) (rest := []) (lenOf pd_0 rfl) rfl (W := 0) (Nat.le_refl _) rfl (hb hby at_9) (by decide) (by decide) (pc' := 12) rfl (fun T31 L31 r31 X31 q31 => ?_)
  obtain ⟨N31, q31⟩ := q31
  have N31' := Fr.app N0 N31
  obtain ⟨v32, v33, v34, v35, v36, v37, v38, v39, v40, v41, v42, v43, v44, v45, v46, b47, k48, h49, h50, h51, h52, h53, h54, h55, h56, h57, h58, h59, h60, h61, h62, h63, rfl, F64, g_b47, Z65⟩ := q31
  show KEnds p e below s _ _ _ T31 (mkF m 12 #[.val (.long i0), .second, .val (.long i1), .second, .val (.long i2), .second, .val (.int i3), .val (.int i4), .val (.long (0 : Int64)), .second, .unset, .unset, .unset, .unset, .unset, .unset, .unset, .unset, .unset, .unset] [(.ref b47)])
  refine k_astore X31 hx (hb hby at_12) rfl (Ls' := #[.val (.long i0), .second, .val (.long i1), .second, .val (.long i2), .second, .val (.int i3), .val (.int i4), .val (.long (0 : Int64)), .second, .val (.ref b47), .unset, .unset, .unset, .unset, .unset, .unset, .unset, .unset, .unset]) rfl (pc' := 14) rfl ?_
  refine k_lloadN X31 hx (hb hby at_14) rfl (pc' := 15) rfl ?_
  refine k_lloadN X31 hx (hb hby at_15) rfl (pc' := 16) rfl ?_
  refine k_lload X31 hx (hb hby at_16) rfl (pc' := 18) rfl ?_
  refine k_lxor X31 hx (hb hby at_18) (pc' := 19) rfl (fun v66 hv66 => ?_)
  refine k_callS X31 hx hZ hown (hw _ (List.mem_of_getElem? (i := 0) rfl)) (hw _ (List.mem_of_getElem? (i := 1) rfl)) (hw _ (List.mem_of_getElem? (i := 2) rfl)) (hw _ (List.mem_of_getElem? (i := 3) rfl)) (by decide) (rm1_67 l Z a0 hw [] i1 v66 b47 k48 i0 v32 v34 v36 v38 v40 v42 v44 v46 T31.heap n0 Z65 F64 g_b47) (by decide) (by decide) rfl (by rw [hml]; rfl) (argsL := [(.long i1), (.long v66)]) (rest := []) (lenOf pd_0 rfl) rfl (W := 0) (Nat.le_refl _) rfl (hb hby at_19) (by decide) (by decide) (pc' := 22) rfl (fun T94 L94 r94 X94 q94 => ?_)
  obtain ⟨N94, q94⟩ := q94
  have N94' := Fr.app N31' N94
  obtain ⟨v95, v96, v97, v98, v99, v100, v101, v102, v103, v104, v105, v106, v107, v108, v109, b110, k111, h112, h113, h114, h115, h116, h117, h118, h119, h120, h121, h122, h123, h124, h125, h126, rfl, F127, F128, g_b110, lt129, Z130⟩ := q94
  show KEnds p e below s _ _ _ T94 (mkF m 22 #[.val (.long i0), .second, .val (.long i1), .second, .val (.long i2), .second, .val (.int i3), .val (.int i4), .val (.long (0 : Int64)), .second, .val (.ref b47), .unset, .unset, .unset, .unset, .unset, .unset, .unset, .unset, .unset] [(.ref b110)])
  refine k_astore X94 hx (hb hby at_22) rfl (Ls' := #[.val (.long i0), .second, .val (.long i1), .second, .val (.long i2), .second, .val (.int i3), .val (.int i4), .val (.long (0 : Int64)), .second, .val (.ref b47), .val (.ref b110), .unset, .unset, .unset, .unset, .unset, .unset, .unset, .unset]) rfl (pc' := 24) rfl ?_
  refine k_lloadN X94 hx (hb hby at_24) rfl (pc' := 25) rfl ?_
  refine k_lloadN X94 hx (hb hby at_25) rfl (pc' := 26) rfl ?_
  refine k_callS X94 hx hZ hown (hw _ (List.mem_of_getElem? (i := 0) rfl)) (hw _ (List.mem_of_getElem? (i := 1) rfl)) (hw _ (List.mem_of_getElem? (i := 2) rfl)) (hw _ (List.mem_of_getElem? (i := 3) rfl)) (by decide) (rm1_131 l Z a0 hw [] i0 i1 b47 k48 v32 v34 v36 v38 v40 v42 v44 v46 b110 k111 v95 v97 v99 v101 v103 v105 v107 v109 T94.heap n0 Z130 F127 g_b47 F128 g_b110 lt129) (by decide) (by decide) rfl (by rw [hml]; rfl) (argsL := [(.long i0), (.long i1)]) (rest := []) (lenOf pd_0 rfl) rfl (W := 0) (Nat.le_refl _) rfl (hb hby at_26) (by decide) (by decide) (pc' := 29) rfl (fun T159 L159 r159 X159 q159 => ?_)
  obtain ⟨N159, q159⟩ := q159
  have N159' := Fr.app N94' N159
  obtain ⟨v160, v161, v162, v163, v164, v165, v166, v167, v168, v169, v170, v171, v172, v173, v174, b175, k176, h177, h178, h179, h180, h181, h182, h183, h184, h185, h186, h187, h188, h189, h190, h191, rfl, F192, F193, F194, g_b175, lt195, Z196⟩ := q159
  have hh197 : v32 = v160 := h49.trans h177.symm
  subst hh197
  have hh198 : v33 = v161 := h50.trans h178.symm
  subst hh198
  have hh199 : v34 = v162 := h51.trans h179.symm
  subst hh199
  have hh200 : v35 = v163 := h52.trans h180.symm
  subst hh200
  have hh201 : v36 = v164 := h53.trans h181.symm
  subst hh201
  have hh202 : v37 = v165 := h54.trans h182.symm
  subst hh202
  have hh203 : v38 = v166 := h55.trans h183.symm
  subst hh203
  have hh204 : v39 = v167 := h56.trans h184.symm
  subst hh204
  have hh205 : v40 = v168 := h57.trans h185.symm
  subst hh205
  have hh206 : v41 = v169 := h58.trans h186.symm
  subst hh206
  have hh207 : v42 = v170 := h59.trans h187.symm
  subst hh207
  have hh208 : v43 = v171 := h60.trans h188.symm
  subst hh208
  have hh209 : v44 = v172 := h61.trans h189.symm
  subst hh209
  have hh210 : v45 = v173 := h62.trans h190.symm
  subst hh210
  have hh211 : v46 = v174 := h63.trans h191.symm
  subst hh211
  show KEnds p e below s _ _ _ T159 (mkF m 29 #[.val (.long i0), .second, .val (.long i1), .second, .val (.long i2), .second, .val (.int i3), .val (.int i4), .val (.long (0 : Int64)), .second, .val (.ref b47), .val (.ref b110), .unset, .unset, .unset, .unset, .unset, .unset, .unset, .unset] [(.ref b175)])
  refine k_astore X159 hx (hb hby at_29) rfl (Ls' := #[.val (.long i0), .second, .val (.long i1), .second, .val (.long i2), .second, .val (.int i3), .val (.int i4), .val (.long (0 : Int64)), .second, .val (.ref b47), .val (.ref b110), .val (.ref b175), .unset, .unset, .unset, .unset, .unset, .unset, .unset]) rfl (pc' := 31) rfl ?_
  refine k_lloadN X159 hx (hb hby at_31) rfl (pc' := 32) rfl ?_
  refine k_lloadN X159 hx (hb hby at_32) rfl (pc' := 33) rfl ?_
  refine k_lload X159 hx (hb hby at_33) rfl (pc' := 35) rfl ?_
  refine k_lxorL X159 hx (hb hby at_35) (pc' := 36) rfl (z := v66) hv66.symm ?_
  refine k_callS X159 hx hZ hown (hw _ (List.mem_of_getElem? (i := 0) rfl)) (hw _ (List.mem_of_getElem? (i := 1) rfl)) (hw _ (List.mem_of_getElem? (i := 2) rfl)) (hw _ (List.mem_of_getElem? (i := 3) rfl)) (by decide) (rm1_212 l Z a0 hw [] i1 v66 b47 k48 i0 v32 v34 v36 v38 v40 v42 v44 v46 b110 k111 v95 v97 v99 v101 v103 v105 v107 v109 b175 k176 T159.heap n0 Z196 F192 g_b47 F193 g_b110 F194 g_b175 lt129 lt195) (by decide) (by decide) rfl (by rw [hml]; rfl) (argsL := [(.long i1), (.long v66)]) (rest := []) (lenOf pd_0 rfl) rfl (W := 0) (Nat.le_refl _) rfl (hb hby at_36) (by decide) (by decide) (pc' := 39) rfl (fun T241 L241 r241 X241 q241 => ?_)
  obtain ⟨N241, q241⟩ := q241
  have N241' := Fr.app N159' N241
  obtain ⟨v242, v243, v244, v245, v246, v247, v248, v249, v250, v251, v252, v253, v254, v255, v256, b257, k258, h259, h260, h261, h262, h263, h264, h265, h266, h267, h268, h269, h270, h271, h272, h273, rfl, F274, F275, F276, F277, g_b257, lt278, Z279⟩ := q241
  have hh280 : v95 = v242 := h112.trans h259.symm
  subst hh280
  have hh281 : v96 = v243 := h113.trans h260.symm
  subst hh281
  have hh282 : v97 = v244 := h114.trans h261.symm
  subst hh282
  have hh283 : v98 = v245 := h115.trans h262.symm
  subst hh283
  have hh284 : v99 = v246 := h116.trans h263.symm
  subst hh284
  have hh285 : v100 = v247 := h117.trans h264.symm
  subst hh285
  have hh286 : v101 = v248 := h118.trans h265.symm
  subst hh286
  have hh287 : v102 = v249 := h119.trans h266.symm
  subst hh287
  have hh288 : v103 = v250 := h120.trans h267.symm
  subst hh288
  have hh289 : v104 = v251 := h121.trans h268.symm
  subst hh289
  have hh290 : v105 = v252 := h122.trans h269.symm
  subst hh290
  have hh291 : v106 = v253 := h123.trans h270.symm
  subst hh291
  have hh292 : v107 = v254 := h124.trans h271.symm
  subst hh292
  have hh293 : v108 = v255 := h125.trans h272.symm
  subst hh293
  have hh294 : v109 = v256 := h126.trans h273.symm
  subst hh294
  show KEnds p e below s _ _ _ T241 (mkF m 39 #[.val (.long i0), .second, .val (.long i1), .second, .val (.long i2), .second, .val (.int i3), .val (.int i4), .val (.long (0 : Int64)), .second, .val (.ref b47), .val (.ref b110), .val (.ref b175), .unset, .unset, .unset, .unset, .unset, .unset, .unset] [(.ref b257)])
  refine k_astore X241 hx (hb hby at_39) rfl (Ls' := #[.val (.long i0), .second, .val (.long i1), .second, .val (.long i2), .second, .val (.int i3), .val (.int i4), .val (.long (0 : Int64)), .second, .val (.ref b47), .val (.ref b110), .val (.ref b175), .val (.ref b257), .unset, .unset, .unset, .unset, .unset, .unset]) rfl (pc' := 41) rfl ?_
  refine k_lload X241 hx (hb hby at_41) rfl (pc' := 43) rfl ?_
  refine k_lloadN X241 hx (hb hby at_43) rfl (pc' := 44) rfl ?_
  refine k_ldcL X241 hx hZ hown (hw _ (List.mem_of_getElem? (i := 12) rfl)) (hb hby at_44) (pc' := 47) rfl ?_
  refine k_lxor X241 hx (hb hby at_47) (pc' := 48) rfl (fun v295 hv295 => ?_)
  refine k_callS X241 hx hZ hown (hw _ (List.mem_of_getElem? (i := 0) rfl)) (hw _ (List.mem_of_getElem? (i := 1) rfl)) (hw _ (List.mem_of_getElem? (i := 2) rfl)) (hw _ (List.mem_of_getElem? (i := 3) rfl)) (by decide) (rm1_296 l Z a0 hw [] i2 v295 b47 k48 i0 v32 v34 v36 v38 v40 v42 v44 v46 b110 k111 i1 v95 v97 v99 v101 v103 v105 v107 v109 b175 k176 b257 k258 T241.heap n0 Z279 F274 g_b47 F275 g_b110 F276 g_b175 F277 g_b257 lt129 lt195 lt278) (by decide) (by decide) rfl (by rw [hml]; rfl) (argsL := [(.long i2), (.long v295)]) (rest := []) (lenOf pd_0 rfl) rfl (W := 0) (Nat.le_refl _) rfl (hb hby at_48) (by decide) (by decide) (pc' := 51) rfl (fun T326 L326 r326 X326 q326 => ?_)
  obtain ⟨N326, q326⟩ := q326
  have N326' := Fr.app N241' N326
  obtain ⟨v327, v328, v329, v330, v331, v332, v333, v334, v335, v336, v337, v338, v339, v340, v341, b342, k343, h344, h345, h346, h347, h348, h349, h350, h351, h352, h353, h354, h355, h356, h357, h358, rfl, F359, F360, F361, F362, F363, g_b342, lt364, Z365⟩ := q326
  show KEnds p e below s _ _ _ T326 (mkF m 51 #[.val (.long i0), .second, .val (.long i1), .second, .val (.long i2), .second, .val (.int i3), .val (.int i4), .val (.long (0 : Int64)), .second, .val (.ref b47), .val (.ref b110), .val (.ref b175), .val (.ref b257), .unset, .unset, .unset, .unset, .unset, .unset] [(.ref b342)])
  refine k_astore X326 hx (hb hby at_51) rfl (Ls' := #[.val (.long i0), .second, .val (.long i1), .second, .val (.long i2), .second, .val (.int i3), .val (.int i4), .val (.long (0 : Int64)), .second, .val (.ref b47), .val (.ref b110), .val (.ref b175), .val (.ref b257), .val (.ref b342), .unset, .unset, .unset, .unset, .unset]) rfl (pc' := 53) rfl ?_
  refine k_iload X326 hx (hb hby at_53) rfl (pc' := 55) rfl ?_
  refine k_ldc X326 hx hZ hown (hw _ (List.mem_of_getElem? (i := 13) rfl)) (hb hby at_55) (pc' := 57) rfl ?_
  refine k_iand X326 hx (hb hby at_57) (pc' := 58) rfl (fun v366 hv366 => ?_)
  refine k_iconst X326 hx (hb hby at_58) (pc' := 59) rfl (z := (3 : Int32)) rfl ?_
  refine k_irem X326 hx (hb hby at_59) (by decide) (pc' := 60) rfl (fun v367 hv367 => ?_)
  have hs368 : v367 = (0 : Int32) ∨ v367 = (1 : Int32) ∨ v367 = (2 : Int32) := by
   have := rng32 v367
   have := rng32 v366
   have := rng32 i4
   have : (2147483647 : Int32).toInt = 2147483647 := (by decide)
   have q369 : v366.toInt = i4.toInt % 2147483648 := (by rw [hv366]; exact c_mask _ _ 31 (by decide) (by decide))
   have : (3 : Int32).toInt = 3 := (by decide)
   have q370 : (0 ≤ v366.toInt → v367.toInt = v366.toInt % 3) ∧ (v366.toInt < 0 → v367.toInt = -((-v366.toInt) % 3)) := (by rw [hv367]; exact c_irem _ _ 3 (by decide))
   rcases (by omega : v367.toInt = 0 ∨ v367.toInt = 1 ∨ v367.toInt = 2) with hq | hq | hq
   · exact Or.inl (Int32.toInt_inj.mp hq)
   · exact Or.inr (Or.inl (Int32.toInt_inj.mp hq))
   · exact Or.inr (Or.inr ((Int32.toInt_inj.mp hq)))
  rcases hs368 with rfl | rfl | rfl
  ·
   show KEnds p e below s _ _ _ T326 (mkF m 60 #[.val (.long i0), .second, .val (.long i1), .second, .val (.long i2), .second, .val (.int i3), .val (.int i4), .val (.long (0 : Int64)), .second, .val (.ref b47), .val (.ref b110), .val (.ref b175), .val (.ref b257), .val (.ref b342), .unset, .unset, .unset, .unset, .unset] [(.int (0 : Int32))])
   refine k_istore X326 hx (hb hby at_60) (Ls' := #[.val (.long i0), .second, .val (.long i1), .second, .val (.long i2), .second, .val (.int i3), .val (.int i4), .val (.long (0 : Int64)), .second, .val (.ref b47), .val (.ref b110), .val (.ref b175), .val (.ref b257), .val (.ref b342), .val (.int (0 : Int32)), .unset, .unset, .unset, .unset]) rfl (pc' := 62) rfl ?_
   refine k_iload X326 hx (hb hby at_62) rfl (pc' := 64) rfl ?_
   refine k_iconst X326 hx (hb hby at_64) (pc' := 65) rfl (z := (1 : Int32)) rfl ?_
   refine k_icmp_ne X326 hx (hb hby at_65) (pn := 68) rfl (py := 73) (by decide) (fun _ => ?_) (fun hc => absurd hc (by decide))
   refine k_iload X326 hx (hb hby at_73) rfl (pc' := 75) rfl ?_
   refine k_iconst X326 hx (hb hby at_75) (pc' := 76) rfl (z := (2 : Int32)) rfl ?_
   refine k_icmp_ne X326 hx (hb hby at_76) (pn := 79) rfl (py := 84) (by decide) (fun _ => ?_) (fun hc => absurd hc (by decide))
   refine k_aload X326 hx (hb hby at_84) rfl rfl (pc' := 86) rfl ?_
   refine k_astore X326 hx (hb hby at_86) rfl (Ls' := #[.val (.long i0), .second, .val (.long i1), .second, .val (.long i2), .second, .val (.int i3), .val (.int i4), .val (.long (0 : Int64)), .second, .val (.ref b47), .val (.ref b110), .val (.ref b175), .val (.ref b257), .val (.ref b342), .val (.int (0 : Int32)), .val (.ref b342), .unset, .unset, .unset]) rfl (pc' := 88) rfl ?_
   refine k_aload X326 hx (hb hby at_88) rfl rfl (pc' := 90) rfl ?_
   refine k_aload X326 hx (hb hby at_90) rfl rfl (pc' := 92) rfl ?_
   refine k_aload X326 hx (hb hby at_92) rfl rfl (pc' := 94) rfl ?_
   refine k_lload X326 hx (hb hby at_94) rfl (pc' := 96) rfl ?_
   refine k_callS X326 hx hZ hown (hw _ (List.mem_of_getElem? (i := 14) rfl)) (hw _ (List.mem_of_getElem? (i := 15) rfl)) (hw _ (List.mem_of_getElem? (i := 16) rfl)) (hw _ (List.mem_of_getElem? (i := 17) rfl)) (by decide) (rm2_372 l Z a0 hw [] b342 b47 b110 k48 i0 v32 v34 v36 v38 v40 v42 v44 v46 k111 i1 v95 v97 v99 v101 v103 v105 v107 v109 b175 k176 b257 k258 k343 i2 v327 v329 v331 v333 v335 v337 v339 v341 T326.heap n0 Z365 F359 g_b47 F360 g_b110 F361 g_b175 F362 g_b257 F363 g_b342 lt129 lt195 lt278 lt364) (by decide) (by decide) rfl (by rw [hml]; rfl) (argsL := [(.ref b342), (.ref b47), (.ref b110), (.long (0 : Int64))]) (rest := []) (lenOf pd_1 rfl) rfl (W := 0) (Nat.le_refl _) rfl (hb hby at_96) (by decide) (by decide) (pc' := 99) rfl (fun T411 L411 r411 X411 q411 => ?_)
   obtain ⟨N411, q411⟩ := q411
   have N411' := Fr.app N326' N411
   obtain ⟨rfl, F412, F413, F414, F415, F416, Z417⟩ := q411
   show KEnds p e below s _ _ _ T411 (mkF m 99 #[.val (.long i0), .second, .val (.long i1), .second, .val (.long i2), .second, .val (.int i3), .val (.int i4), .val (.long (0 : Int64)), .second, .val (.ref b47), .val (.ref b110), .val (.ref b175), .val (.ref b257), .val (.ref b342), .val (.int (0 : Int32)), .val (.ref b342), .unset, .unset, .unset] [])
   refine k_lload X411 hx (hb hby at_99) rfl (pc' := 101) rfl ?_
   refine k_lconst X411 hx (hb hby at_101) (pc' := 102) rfl (z := (1 : Int64)) rfl ?_
   refine k_lcif_ne X411 hx (hb hby at_102) (pm := 103) rfl (hb hby at_103) (pn := 106) rfl (py := 111) (by decide) (fun _ => ?_) (fun hc => absurd hc (by decide))
   refine k_aload X411 hx (hb hby at_111) rfl rfl (pc' := 113) rfl ?_
   refine k_astore X411 hx (hb hby at_113) rfl (Ls' := #[.val (.long i0), .second, .val (.long i1), .second, .val (.long i2), .second, .val (.int i3), .val (.int i4), .val (.long (0 : Int64)), .second, .val (.ref b47), .val (.ref b110), .val (.ref b175), .val (.ref b257), .val (.ref b342), .val (.int (0 : Int32)), .val (.ref b342), .val (.ref b175), .unset, .unset]) rfl (pc' := 115) rfl ?_
   refine k_aload X411 hx (hb hby at_115) rfl rfl (pc' := 117) rfl ?_
   refine k_aload X411 hx (hb hby at_117) rfl rfl (pc' := 119) rfl ?_
   refine k_acmp_eq_diff X411 hx (Ne.symm (Nat.ne_of_lt (Nat.lt_trans (Nat.lt_trans (Nat.lt_trans lt129 lt195) lt278) lt364))) (hb hby at_119) (by decide) (pc' := 122) (by decide) ?_
   refine k_aload X411 hx (hb hby at_122) rfl rfl (pc' := 124) rfl ?_
   refine k_aload X411 hx (hb hby at_124) rfl rfl (pc' := 126) rfl ?_
   refine k_callS X411 hx hZ hown (hw _ (List.mem_of_getElem? (i := 18) rfl)) (hw _ (List.mem_of_getElem? (i := 19) rfl)) (hw _ (List.mem_of_getElem? (i := 2) rfl)) (hw _ (List.mem_of_getElem? (i := 20) rfl)) (by decide) (rm3_418 l Z a0 hw [] b47 b175 k48 i0 v32 v34 v36 v38 v40 v42 v44 v46 k176 T411.heap n0 Z417 F412 F414 (Nat.lt_trans lt129 lt195)) (by decide) (by decide) rfl (by rw [hml]; rfl) (argsL := [(.ref b47), (.ref b175)]) (rest := []) (lenOf pd_2 rfl) rfl (W := 0) (Nat.le_refl _) rfl (hb hby at_126) (by decide) (by decide) (pc' := 129) rfl (fun T419 L419 r419 X419 q419 => ?_)
   obtain ⟨N419, e419, q419⟩ := q419
   have N419' := Fr.app N411' N419
   obtain rfl := q419
   show KEnds p e below s _ _ _ T419 (mkF m 129 #[.val (.long i0), .second, .val (.long i1), .second, .val (.long i2), .second, .val (.int i3), .val (.int i4), .val (.long (0 : Int64)), .second, .val (.ref b47), .val (.ref b110), .val (.ref b175), .val (.ref b257), .val (.ref b342), .val (.int (0 : Int32)), .val (.ref b342), .val (.ref b175), .unset, .unset] [(.int (1 : Int32))])
   refine k_if_eq X419 hx (hb hby at_129) (pn := 132) rfl (py := 136) (by decide) (fun hc => absurd hc (by decide)) (fun _ => ?_)
   refine k_iconst X419 hx (hb hby at_132) (pc' := 133) rfl (z := (1 : Int32)) rfl ?_
   refine k_goto X419 hx (hb hby at_133) (pc' := 137) (by decide) ?_
   refine k_istore X419 hx (hb hby at_137) (Ls' := #[.val (.long i0), .second, .val (.long i1), .second, .val (.long i2), .second, .val (.int i3), .val (.int i4), .val (.long (0 : Int64)), .second, .val (.ref b47), .val (.ref b110), .val (.ref b175), .val (.ref b257), .val (.ref b342), .val (.int (0 : Int32)), .val (.ref b342), .val (.ref b175), .val (.int (1 : Int32)), .unset]) rfl (pc' := 139) rfl ?_
   refine k_aload X419 hx (hb hby at_139) rfl rfl (pc' := 141) rfl ?_
   refine k_aload X419 hx (hb hby at_141) rfl rfl (pc' := 143) rfl ?_
   refine k_acmp_eq_diff X419 hx (Ne.symm (Nat.ne_of_lt (Nat.lt_trans (Nat.lt_trans lt195 lt278) lt364))) (hb hby at_143) (by decide) (pc' := 146) (by decide) ?_
   refine k_aload X419 hx (hb hby at_146) rfl rfl (pc' := 148) rfl ?_
   refine k_aload X419 hx (hb hby at_148) rfl rfl (pc' := 150) rfl ?_
   refine k_callS X419 hx hZ hown (hw _ (List.mem_of_getElem? (i := 18) rfl)) (hw _ (List.mem_of_getElem? (i := 19) rfl)) (hw _ (List.mem_of_getElem? (i := 2) rfl)) (hw _ (List.mem_of_getElem? (i := 20) rfl)) (by decide) (rm3_418 l Z a0 hw [] b110 b257 k111 i1 v95 v97 v99 v101 v103 v105 v107 v109 k258 T411.heap n0 Z417 F413 F415 (Nat.lt_trans lt195 lt278)) (by decide) (by decide) e419 (by rw [hml]; rfl) (argsL := [(.ref b110), (.ref b257)]) (rest := []) (lenOf pd_2 rfl) rfl (W := 0) (Nat.le_refl _) rfl (hb hby at_150) (by decide) (by decide) (pc' := 153) rfl (fun T420 L420 r420 X420 q420 => ?_)
   obtain ⟨N420, e420, q420⟩ := q420
   have N420' := Fr.app N419' N420
   obtain rfl := q420
   show KEnds p e below s _ _ _ T420 (mkF m 153 #[.val (.long i0), .second, .val (.long i1), .second, .val (.long i2), .second, .val (.int i3), .val (.int i4), .val (.long (0 : Int64)), .second, .val (.ref b47), .val (.ref b110), .val (.ref b175), .val (.ref b257), .val (.ref b342), .val (.int (0 : Int32)), .val (.ref b342), .val (.ref b175), .val (.int (1 : Int32)), .unset] [(.int (1 : Int32))])
   refine k_if_eq X420 hx (hb hby at_153) (pn := 156) rfl (py := 160) (by decide) (fun hc => absurd hc (by decide)) (fun _ => ?_)
   refine k_iconst X420 hx (hb hby at_156) (pc' := 157) rfl (z := (1 : Int32)) rfl ?_
   refine k_goto X420 hx (hb hby at_157) (pc' := 161) (by decide) ?_
   refine k_istore X420 hx (hb hby at_161) (Ls' := #[.val (.long i0), .second, .val (.long i1), .second, .val (.long i2), .second, .val (.int i3), .val (.int i4), .val (.long (0 : Int64)), .second, .val (.ref b47), .val (.ref b110), .val (.ref b175), .val (.ref b257), .val (.ref b342), .val (.int (0 : Int32)), .val (.ref b342), .val (.ref b175), .val (.int (1 : Int32)), .val (.int (1 : Int32))]) rfl (pc' := 163) rfl ?_
   refine k_aload X420 hx (hb hby at_163) rfl rfl (pc' := 165) rfl ?_
   refine k_aload X420 hx (hb hby at_165) rfl rfl (pc' := 167) rfl ?_
   refine k_callS X420 hx hZ hown (hw _ (List.mem_of_getElem? (i := 18) rfl)) (hw _ (List.mem_of_getElem? (i := 19) rfl)) (hw _ (List.mem_of_getElem? (i := 2) rfl)) (hw _ (List.mem_of_getElem? (i := 20) rfl)) (by decide) (rm3_421 l Z a0 hw [] b342 b175 k176 i0 v32 v34 v36 v38 v40 v42 v44 v46 k343 T411.heap n0 Z417 F414 F416 (Nat.lt_trans lt278 lt364)) (by decide) (by decide) e420 (by rw [hml]; rfl) (argsL := [(.ref b342), (.ref b175)]) (rest := []) (lenOf pd_2 rfl) rfl (W := 0) (Nat.le_refl _) rfl (hb hby at_167) (by decide) (by decide) (pc' := 170) rfl (fun T422 L422 r422 X422 q422 => ?_)
   obtain ⟨N422, e422, q422⟩ := q422
   have N422' := Fr.app N420' N422
   obtain rfl := q422
   show KEnds p e below s _ _ _ T422 (mkF m 170 #[.val (.long i0), .second, .val (.long i1), .second, .val (.long i2), .second, .val (.int i3), .val (.int i4), .val (.long (0 : Int64)), .second, .val (.ref b47), .val (.ref b110), .val (.ref b175), .val (.ref b257), .val (.ref b342), .val (.int (0 : Int32)), .val (.ref b342), .val (.ref b175), .val (.int (1 : Int32)), .val (.int (1 : Int32))] [(.int (1 : Int32))])
   refine k_if_eq X422 hx (hb hby at_170) (pn := 173) rfl (py := 187) (by decide) (fun hc => absurd hc (by decide)) (fun _ => ?_)
   refine k_iload X422 hx (hb hby at_173) rfl (pc' := 175) rfl ?_
   refine k_if_eq X422 hx (hb hby at_175) (pn := 178) rfl (py := 187) (by decide) (fun hc => absurd hc (by decide)) (fun _ => ?_)
   refine k_iload X422 hx (hb hby at_178) rfl (pc' := 180) rfl ?_
   refine k_if_eq X422 hx (hb hby at_180) (pn := 183) rfl (py := 187) (by decide) (fun hc => absurd hc (by decide)) (fun _ => ?_)
   refine k_iconst X422 hx (hb hby at_183) (pc' := 184) rfl (z := (1 : Int32)) rfl ?_
   refine k_goto X422 hx (hb hby at_184) (pc' := 188) (by decide) ?_
   exact k_retN X422 hx (t := .boolean) Bd.returns (by simp) (hb hby at_188) hlk (by decide) (by decide) (z' := (1 : Int32)) rfl ⟨rfl, N422'⟩
  ·
   show KEnds p e below s _ _ _ T326 (mkF m 60 #[.val (.long i0), .second, .val (.long i1), .second, .val (.long i2), .second, .val (.int i3), .val (.int i4), .val (.long (0 : Int64)), .second, .val (.ref b47), .val (.ref b110), .val (.ref b175), .val (.ref b257), .val (.ref b342), .unset, .unset, .unset, .unset, .unset] [(.int (1 : Int32))])
   refine k_istore X326 hx (hb hby at_60) (Ls' := #[.val (.long i0), .second, .val (.long i1), .second, .val (.long i2), .second, .val (.int i3), .val (.int i4), .val (.long (0 : Int64)), .second, .val (.ref b47), .val (.ref b110), .val (.ref b175), .val (.ref b257), .val (.ref b342), .val (.int (1 : Int32)), .unset, .unset, .unset, .unset]) rfl (pc' := 62) rfl ?_
   refine k_iload X326 hx (hb hby at_62) rfl (pc' := 64) rfl ?_
   refine k_iconst X326 hx (hb hby at_64) (pc' := 65) rfl (z := (1 : Int32)) rfl ?_
   refine k_icmp_ne X326 hx (hb hby at_65) (pn := 68) rfl (py := 73) (by decide) (fun hc => absurd (by decide) hc) (fun _ => ?_)
   refine k_aload X326 hx (hb hby at_68) rfl rfl (pc' := 70) rfl ?_
   refine k_goto X326 hx (hb hby at_70) (pc' := 86) (by decide) ?_
   refine k_astore X326 hx (hb hby at_86) rfl (Ls' := #[.val (.long i0), .second, .val (.long i1), .second, .val (.long i2), .second, .val (.int i3), .val (.int i4), .val (.long (0 : Int64)), .second, .val (.ref b47), .val (.ref b110), .val (.ref b175), .val (.ref b257), .val (.ref b342), .val (.int (1 : Int32)), .val (.ref b47), .unset, .unset, .unset]) rfl (pc' := 88) rfl ?_
   refine k_aload X326 hx (hb hby at_88) rfl rfl (pc' := 90) rfl ?_
   refine k_aload X326 hx (hb hby at_90) rfl rfl (pc' := 92) rfl ?_
   refine k_aload X326 hx (hb hby at_92) rfl rfl (pc' := 94) rfl ?_
   refine k_lload X326 hx (hb hby at_94) rfl (pc' := 96) rfl ?_
   refine k_callS X326 hx hZ hown (hw _ (List.mem_of_getElem? (i := 14) rfl)) (hw _ (List.mem_of_getElem? (i := 15) rfl)) (hw _ (List.mem_of_getElem? (i := 16) rfl)) (hw _ (List.mem_of_getElem? (i := 17) rfl)) (by decide) (rm2_424 l Z a0 hw [] b47 b110 k48 i0 v32 v34 v36 v38 v40 v42 v44 v46 k111 i1 v95 v97 v99 v101 v103 v105 v107 v109 b175 k176 b257 k258 b342 k343 i2 v327 v329 v331 v333 v335 v337 v339 v341 T326.heap n0 Z365 F359 g_b47 F360 g_b110 F361 g_b175 F362 g_b257 F363 g_b342 lt129 lt195 lt278 lt364) (by decide) (by decide) rfl (by rw [hml]; rfl) (argsL := [(.ref b47), (.ref b47), (.ref b110), (.long (0 : Int64))]) (rest := []) (lenOf pd_1 rfl) rfl (W := 0) (Nat.le_refl _) rfl (hb hby at_96) (by decide) (by decide) (pc' := 99) rfl (fun T455 L455 r455 X455 q455 => ?_)
   obtain ⟨N455, q455⟩ := q455
   have N455' := Fr.app N326' N455
   obtain ⟨rfl, F456, F457, F458, F459, F460, Z461⟩ := q455
   show KEnds p e below s _ _ _ T455 (mkF m 99 #[.val (.long i0), .second, .val (.long i1), .second, .val (.long i2), .second, .val (.int i3), .val (.int i4), .val (.long (0 : Int64)), .second, .val (.ref b47), .val (.ref b110), .val (.ref b175), .val (.ref b257), .val (.ref b342), .val (.int (1 : Int32)), .val (.ref b47), .unset, .unset, .unset] [])
   refine k_lload X455 hx (hb hby at_99) rfl (pc' := 101) rfl ?_
   refine k_lconst X455 hx (hb hby at_101) (pc' := 102) rfl (z := (1 : Int64)) rfl ?_
   refine k_lcif_ne X455 hx (hb hby at_102) (pm := 103) rfl (hb hby at_103) (pn := 106) rfl (py := 111) (by decide) (fun _ => ?_) (fun hc => absurd hc (by decide))
   refine k_aload X455 hx (hb hby at_111) rfl rfl (pc' := 113) rfl ?_
   refine k_astore X455 hx (hb hby at_113) rfl (Ls' := #[.val (.long i0), .second, .val (.long i1), .second, .val (.long i2), .second, .val (.int i3), .val (.int i4), .val (.long (0 : Int64)), .second, .val (.ref b47), .val (.ref b110), .val (.ref b175), .val (.ref b257), .val (.ref b342), .val (.int (1 : Int32)), .val (.ref b47), .val (.ref b175), .unset, .unset]) rfl (pc' := 115) rfl ?_
   refine k_aload X455 hx (hb hby at_115) rfl rfl (pc' := 117) rfl ?_
   refine k_aload X455 hx (hb hby at_117) rfl rfl (pc' := 119) rfl ?_
   refine k_acmp_eq_same X455 hx (hb hby at_119) (by decide) (pc' := 132) (by decide) ?_
   refine k_iconst X455 hx (hb hby at_132) (pc' := 133) rfl (z := (1 : Int32)) rfl ?_
   refine k_goto X455 hx (hb hby at_133) (pc' := 137) (by decide) ?_
   refine k_istore X455 hx (hb hby at_137) (Ls' := #[.val (.long i0), .second, .val (.long i1), .second, .val (.long i2), .second, .val (.int i3), .val (.int i4), .val (.long (0 : Int64)), .second, .val (.ref b47), .val (.ref b110), .val (.ref b175), .val (.ref b257), .val (.ref b342), .val (.int (1 : Int32)), .val (.ref b47), .val (.ref b175), .val (.int (1 : Int32)), .unset]) rfl (pc' := 139) rfl ?_
   refine k_aload X455 hx (hb hby at_139) rfl rfl (pc' := 141) rfl ?_
   refine k_aload X455 hx (hb hby at_141) rfl rfl (pc' := 143) rfl ?_
   refine k_acmp_eq_diff X455 hx (Nat.ne_of_lt lt129) (hb hby at_143) (by decide) (pc' := 146) (by decide) ?_
   refine k_aload X455 hx (hb hby at_146) rfl rfl (pc' := 148) rfl ?_
   refine k_aload X455 hx (hb hby at_148) rfl rfl (pc' := 150) rfl ?_
   refine k_callS X455 hx hZ hown (hw _ (List.mem_of_getElem? (i := 18) rfl)) (hw _ (List.mem_of_getElem? (i := 19) rfl)) (hw _ (List.mem_of_getElem? (i := 2) rfl)) (hw _ (List.mem_of_getElem? (i := 20) rfl)) (by decide) (rm3_418 l Z a0 hw [] b110 b257 k111 i1 v95 v97 v99 v101 v103 v105 v107 v109 k258 T455.heap n0 Z461 F457 F459 (Nat.lt_trans lt195 lt278)) (by decide) (by decide) rfl (by rw [hml]; rfl) (argsL := [(.ref b110), (.ref b257)]) (rest := []) (lenOf pd_2 rfl) rfl (W := 0) (Nat.le_refl _) rfl (hb hby at_150) (by decide) (by decide) (pc' := 153) rfl (fun T462 L462 r462 X462 q462 => ?_)
   obtain ⟨N462, e462, q462⟩ := q462
   have N462' := Fr.app N455' N462
   obtain rfl := q462
   show KEnds p e below s _ _ _ T462 (mkF m 153 #[.val (.long i0), .second, .val (.long i1), .second, .val (.long i2), .second, .val (.int i3), .val (.int i4), .val (.long (0 : Int64)), .second, .val (.ref b47), .val (.ref b110), .val (.ref b175), .val (.ref b257), .val (.ref b342), .val (.int (1 : Int32)), .val (.ref b47), .val (.ref b175), .val (.int (1 : Int32)), .unset] [(.int (1 : Int32))])
   refine k_if_eq X462 hx (hb hby at_153) (pn := 156) rfl (py := 160) (by decide) (fun hc => absurd hc (by decide)) (fun _ => ?_)
   refine k_iconst X462 hx (hb hby at_156) (pc' := 157) rfl (z := (1 : Int32)) rfl ?_
   refine k_goto X462 hx (hb hby at_157) (pc' := 161) (by decide) ?_
   refine k_istore X462 hx (hb hby at_161) (Ls' := #[.val (.long i0), .second, .val (.long i1), .second, .val (.long i2), .second, .val (.int i3), .val (.int i4), .val (.long (0 : Int64)), .second, .val (.ref b47), .val (.ref b110), .val (.ref b175), .val (.ref b257), .val (.ref b342), .val (.int (1 : Int32)), .val (.ref b47), .val (.ref b175), .val (.int (1 : Int32)), .val (.int (1 : Int32))]) rfl (pc' := 163) rfl ?_
   refine k_aload X462 hx (hb hby at_163) rfl rfl (pc' := 165) rfl ?_
   refine k_aload X462 hx (hb hby at_165) rfl rfl (pc' := 167) rfl ?_
   refine k_callS X462 hx hZ hown (hw _ (List.mem_of_getElem? (i := 18) rfl)) (hw _ (List.mem_of_getElem? (i := 19) rfl)) (hw _ (List.mem_of_getElem? (i := 2) rfl)) (hw _ (List.mem_of_getElem? (i := 20) rfl)) (by decide) (rm3_418 l Z a0 hw [] b47 b175 k48 i0 v32 v34 v36 v38 v40 v42 v44 v46 k176 T455.heap n0 Z461 F456 F458 (Nat.lt_trans lt129 lt195)) (by decide) (by decide) e462 (by rw [hml]; rfl) (argsL := [(.ref b47), (.ref b175)]) (rest := []) (lenOf pd_2 rfl) rfl (W := 0) (Nat.le_refl _) rfl (hb hby at_167) (by decide) (by decide) (pc' := 170) rfl (fun T463 L463 r463 X463 q463 => ?_)
   obtain ⟨N463, e463, q463⟩ := q463
   have N463' := Fr.app N462' N463
   obtain rfl := q463
   show KEnds p e below s _ _ _ T463 (mkF m 170 #[.val (.long i0), .second, .val (.long i1), .second, .val (.long i2), .second, .val (.int i3), .val (.int i4), .val (.long (0 : Int64)), .second, .val (.ref b47), .val (.ref b110), .val (.ref b175), .val (.ref b257), .val (.ref b342), .val (.int (1 : Int32)), .val (.ref b47), .val (.ref b175), .val (.int (1 : Int32)), .val (.int (1 : Int32))] [(.int (1 : Int32))])
   refine k_if_eq X463 hx (hb hby at_170) (pn := 173) rfl (py := 187) (by decide) (fun hc => absurd hc (by decide)) (fun _ => ?_)
   refine k_iload X463 hx (hb hby at_173) rfl (pc' := 175) rfl ?_
   refine k_if_eq X463 hx (hb hby at_175) (pn := 178) rfl (py := 187) (by decide) (fun hc => absurd hc (by decide)) (fun _ => ?_)
   refine k_iload X463 hx (hb hby at_178) rfl (pc' := 180) rfl ?_
   refine k_if_eq X463 hx (hb hby at_180) (pn := 183) rfl (py := 187) (by decide) (fun hc => absurd hc (by decide)) (fun _ => ?_)
   refine k_iconst X463 hx (hb hby at_183) (pc' := 184) rfl (z := (1 : Int32)) rfl ?_
   refine k_goto X463 hx (hb hby at_184) (pc' := 188) (by decide) ?_
   exact k_retN X463 hx (t := .boolean) Bd.returns (by simp) (hb hby at_188) hlk (by decide) (by decide) (z' := (1 : Int32)) rfl ⟨rfl, N463'⟩
  ·
   show KEnds p e below s _ _ _ T326 (mkF m 60 #[.val (.long i0), .second, .val (.long i1), .second, .val (.long i2), .second, .val (.int i3), .val (.int i4), .val (.long (0 : Int64)), .second, .val (.ref b47), .val (.ref b110), .val (.ref b175), .val (.ref b257), .val (.ref b342), .unset, .unset, .unset, .unset, .unset] [(.int (2 : Int32))])
   refine k_istore X326 hx (hb hby at_60) (Ls' := #[.val (.long i0), .second, .val (.long i1), .second, .val (.long i2), .second, .val (.int i3), .val (.int i4), .val (.long (0 : Int64)), .second, .val (.ref b47), .val (.ref b110), .val (.ref b175), .val (.ref b257), .val (.ref b342), .val (.int (2 : Int32)), .unset, .unset, .unset, .unset]) rfl (pc' := 62) rfl ?_
   refine k_iload X326 hx (hb hby at_62) rfl (pc' := 64) rfl ?_
   refine k_iconst X326 hx (hb hby at_64) (pc' := 65) rfl (z := (1 : Int32)) rfl ?_
   refine k_icmp_ne X326 hx (hb hby at_65) (pn := 68) rfl (py := 73) (by decide) (fun _ => ?_) (fun hc => absurd hc (by decide))
   refine k_iload X326 hx (hb hby at_73) rfl (pc' := 75) rfl ?_
   refine k_iconst X326 hx (hb hby at_75) (pc' := 76) rfl (z := (2 : Int32)) rfl ?_
   refine k_icmp_ne X326 hx (hb hby at_76) (pn := 79) rfl (py := 84) (by decide) (fun hc => absurd (by decide) hc) (fun _ => ?_)
   refine k_aload X326 hx (hb hby at_79) rfl rfl (pc' := 81) rfl ?_
   refine k_goto X326 hx (hb hby at_81) (pc' := 86) (by decide) ?_
   refine k_astore X326 hx (hb hby at_86) rfl (Ls' := #[.val (.long i0), .second, .val (.long i1), .second, .val (.long i2), .second, .val (.int i3), .val (.int i4), .val (.long (0 : Int64)), .second, .val (.ref b47), .val (.ref b110), .val (.ref b175), .val (.ref b257), .val (.ref b342), .val (.int (2 : Int32)), .val (.ref b110), .unset, .unset, .unset]) rfl (pc' := 88) rfl ?_
   refine k_aload X326 hx (hb hby at_88) rfl rfl (pc' := 90) rfl ?_
   refine k_aload X326 hx (hb hby at_90) rfl rfl (pc' := 92) rfl ?_
   refine k_aload X326 hx (hb hby at_92) rfl rfl (pc' := 94) rfl ?_
   refine k_lload X326 hx (hb hby at_94) rfl (pc' := 96) rfl ?_
   refine k_callS X326 hx hZ hown (hw _ (List.mem_of_getElem? (i := 14) rfl)) (hw _ (List.mem_of_getElem? (i := 15) rfl)) (hw _ (List.mem_of_getElem? (i := 16) rfl)) (hw _ (List.mem_of_getElem? (i := 17) rfl)) (by decide) (rm2_465 l Z a0 hw [] b110 b47 k48 i0 v32 v34 v36 v38 v40 v42 v44 v46 k111 i1 v95 v97 v99 v101 v103 v105 v107 v109 b175 k176 b257 k258 b342 k343 i2 v327 v329 v331 v333 v335 v337 v339 v341 T326.heap n0 Z365 F359 g_b47 F360 g_b110 F361 g_b175 F362 g_b257 F363 g_b342 lt129 lt195 lt278 lt364) (by decide) (by decide) rfl (by rw [hml]; rfl) (argsL := [(.ref b110), (.ref b47), (.ref b110), (.long (0 : Int64))]) (rest := []) (lenOf pd_1 rfl) rfl (W := 0) (Nat.le_refl _) rfl (hb hby at_96) (by decide) (by decide) (pc' := 99) rfl (fun T496 L496 r496 X496 q496 => ?_)
   obtain ⟨N496, q496⟩ := q496
   have N496' := Fr.app N326' N496
   obtain ⟨rfl, F497, F498, F499, F500, F501, Z502⟩ := q496
   show KEnds p e below s _ _ _ T496 (mkF m 99 #[.val (.long i0), .second, .val (.long i1), .second, .val (.long i2), .second, .val (.int i3), .val (.int i4), .val (.long (0 : Int64)), .second, .val (.ref b47), .val (.ref b110), .val (.ref b175), .val (.ref b257), .val (.ref b342), .val (.int (2 : Int32)), .val (.ref b110), .unset, .unset, .unset] [])
   refine k_lload X496 hx (hb hby at_99) rfl (pc' := 101) rfl ?_
   refine k_lconst X496 hx (hb hby at_101) (pc' := 102) rfl (z := (1 : Int64)) rfl ?_
   refine k_lcif_ne X496 hx (hb hby at_102) (pm := 103) rfl (hb hby at_103) (pn := 106) rfl (py := 111) (by decide) (fun _ => ?_) (fun hc => absurd hc (by decide))
   refine k_aload X496 hx (hb hby at_111) rfl rfl (pc' := 113) rfl ?_
   refine k_astore X496 hx (hb hby at_113) rfl (Ls' := #[.val (.long i0), .second, .val (.long i1), .second, .val (.long i2), .second, .val (.int i3), .val (.int i4), .val (.long (0 : Int64)), .second, .val (.ref b47), .val (.ref b110), .val (.ref b175), .val (.ref b257), .val (.ref b342), .val (.int (2 : Int32)), .val (.ref b110), .val (.ref b175), .unset, .unset]) rfl (pc' := 115) rfl ?_
   refine k_aload X496 hx (hb hby at_115) rfl rfl (pc' := 117) rfl ?_
   refine k_aload X496 hx (hb hby at_117) rfl rfl (pc' := 119) rfl ?_
   refine k_acmp_eq_diff X496 hx (Ne.symm (Nat.ne_of_lt lt129)) (hb hby at_119) (by decide) (pc' := 122) (by decide) ?_
   refine k_aload X496 hx (hb hby at_122) rfl rfl (pc' := 124) rfl ?_
   refine k_aload X496 hx (hb hby at_124) rfl rfl (pc' := 126) rfl ?_
   refine k_callS X496 hx hZ hown (hw _ (List.mem_of_getElem? (i := 18) rfl)) (hw _ (List.mem_of_getElem? (i := 19) rfl)) (hw _ (List.mem_of_getElem? (i := 2) rfl)) (hw _ (List.mem_of_getElem? (i := 20) rfl)) (by decide) (rm3_418 l Z a0 hw [] b47 b175 k48 i0 v32 v34 v36 v38 v40 v42 v44 v46 k176 T496.heap n0 Z502 F497 F499 (Nat.lt_trans lt129 lt195)) (by decide) (by decide) rfl (by rw [hml]; rfl) (argsL := [(.ref b47), (.ref b175)]) (rest := []) (lenOf pd_2 rfl) rfl (W := 0) (Nat.le_refl _) rfl (hb hby at_126) (by decide) (by decide) (pc' := 129) rfl (fun T503 L503 r503 X503 q503 => ?_)
   obtain ⟨N503, e503, q503⟩ := q503
   have N503' := Fr.app N496' N503
   obtain rfl := q503
   show KEnds p e below s _ _ _ T503 (mkF m 129 #[.val (.long i0), .second, .val (.long i1), .second, .val (.long i2), .second, .val (.int i3), .val (.int i4), .val (.long (0 : Int64)), .second, .val (.ref b47), .val (.ref b110), .val (.ref b175), .val (.ref b257), .val (.ref b342), .val (.int (2 : Int32)), .val (.ref b110), .val (.ref b175), .unset, .unset] [(.int (1 : Int32))])
   refine k_if_eq X503 hx (hb hby at_129) (pn := 132) rfl (py := 136) (by decide) (fun hc => absurd hc (by decide)) (fun _ => ?_)
   refine k_iconst X503 hx (hb hby at_132) (pc' := 133) rfl (z := (1 : Int32)) rfl ?_
   refine k_goto X503 hx (hb hby at_133) (pc' := 137) (by decide) ?_
   refine k_istore X503 hx (hb hby at_137) (Ls' := #[.val (.long i0), .second, .val (.long i1), .second, .val (.long i2), .second, .val (.int i3), .val (.int i4), .val (.long (0 : Int64)), .second, .val (.ref b47), .val (.ref b110), .val (.ref b175), .val (.ref b257), .val (.ref b342), .val (.int (2 : Int32)), .val (.ref b110), .val (.ref b175), .val (.int (1 : Int32)), .unset]) rfl (pc' := 139) rfl ?_
   refine k_aload X503 hx (hb hby at_139) rfl rfl (pc' := 141) rfl ?_
   refine k_aload X503 hx (hb hby at_141) rfl rfl (pc' := 143) rfl ?_
   refine k_acmp_eq_same X503 hx (hb hby at_143) (by decide) (pc' := 156) (by decide) ?_
   refine k_iconst X503 hx (hb hby at_156) (pc' := 157) rfl (z := (1 : Int32)) rfl ?_
   refine k_goto X503 hx (hb hby at_157) (pc' := 161) (by decide) ?_
   refine k_istore X503 hx (hb hby at_161) (Ls' := #[.val (.long i0), .second, .val (.long i1), .second, .val (.long i2), .second, .val (.int i3), .val (.int i4), .val (.long (0 : Int64)), .second, .val (.ref b47), .val (.ref b110), .val (.ref b175), .val (.ref b257), .val (.ref b342), .val (.int (2 : Int32)), .val (.ref b110), .val (.ref b175), .val (.int (1 : Int32)), .val (.int (1 : Int32))]) rfl (pc' := 163) rfl ?_
   refine k_aload X503 hx (hb hby at_163) rfl rfl (pc' := 165) rfl ?_
   refine k_aload X503 hx (hb hby at_165) rfl rfl (pc' := 167) rfl ?_
   refine k_callS X503 hx hZ hown (hw _ (List.mem_of_getElem? (i := 18) rfl)) (hw _ (List.mem_of_getElem? (i := 19) rfl)) (hw _ (List.mem_of_getElem? (i := 2) rfl)) (hw _ (List.mem_of_getElem? (i := 20) rfl)) (by decide) (rm3_418 l Z a0 hw [] b110 b175 k111 i0 v32 v34 v36 v38 v40 v42 v44 v46 k176 T496.heap n0 Z502 F498 F499 lt195) (by decide) (by decide) e503 (by rw [hml]; rfl) (argsL := [(.ref b110), (.ref b175)]) (rest := []) (lenOf pd_2 rfl) rfl (W := 0) (Nat.le_refl _) rfl (hb hby at_167) (by decide) (by decide) (pc' := 170) rfl (fun T504 L504 r504 X504 q504 => ?_)
   obtain ⟨N504, e504, q504⟩ := q504
   have N504' := Fr.app N503' N504
   obtain rfl := q504
   show KEnds p e below s _ _ _ T504 (mkF m 170 #[.val (.long i0), .second, .val (.long i1), .second, .val (.long i2), .second, .val (.int i3), .val (.int i4), .val (.long (0 : Int64)), .second, .val (.ref b47), .val (.ref b110), .val (.ref b175), .val (.ref b257), .val (.ref b342), .val (.int (2 : Int32)), .val (.ref b110), .val (.ref b175), .val (.int (1 : Int32)), .val (.int (1 : Int32))] [(.int (1 : Int32))])
   refine k_if_eq X504 hx (hb hby at_170) (pn := 173) rfl (py := 187) (by decide) (fun hc => absurd hc (by decide)) (fun _ => ?_)
   refine k_iload X504 hx (hb hby at_173) rfl (pc' := 175) rfl ?_
   refine k_if_eq X504 hx (hb hby at_175) (pn := 178) rfl (py := 187) (by decide) (fun hc => absurd hc (by decide)) (fun _ => ?_)
   refine k_iload X504 hx (hb hby at_178) rfl (pc' := 180) rfl ?_
   refine k_if_eq X504 hx (hb hby at_180) (pn := 183) rfl (py := 187) (by decide) (fun hc => absurd hc (by decide)) (fun _ => ?_)
   refine k_iconst X504 hx (hb hby at_183) (pc' := 184) rfl (z := (1 : Int32)) rfl ?_
   refine k_goto X504 hx (hb hby at_184) (pc' := 188) (by decide) ?_
   exact k_retN X504 hx (t := .boolean) Bd.returns (by simp) (hb hby at_188) hlk (by decide) (by decide) (z' := (1 : Int32)) rfl ⟨rfl, N504'⟩
 ·
  show KEnds p e below s _ _ _ s₁ (mkF m 4 #[.val (.long i0), .second, .val (.long i1), .second, .val (.long i2), .second, .val (.int i3), .val (.int i4), .unset, .unset, .unset, .unset, .unset, .unset, .unset, .unset, .unset, .unset, .unset, .unset] [(.int (1 : Int32))])
  refine k_i2lL X0 hx (hb hby at_4) (pc' := 5) rfl (z := (1 : Int64)) (by decide) ?_
  refine k_lstore X0 hx (hb hby at_5) (Ls' := #[.val (.long i0), .second, .val (.long i1), .second, .val (.long i2), .second, .val (.int i3), .val (.int i4), .val (.long (1 : Int64)), .second, .unset, .unset, .unset, .unset, .unset, .unset, .unset, .unset, .unset, .unset]) rfl (pc' := 7) rfl ?_
  refine k_lloadN X0 hx (hb hby at_7) rfl (pc' := 8) rfl ?_
  refine k_lloadN X0 hx (hb hby at_8) rfl (pc' := 9) rfl ?_
  refine k_callS X0 hx hZ hown (hw _ (List.mem_of_getElem? (i := 0) rfl)) (hw _ (List.mem_of_getElem? (i := 1) rfl)) (hw _ (List.mem_of_getElem? (i := 2) rfl)) (hw _ (List.mem_of_getElem? (i := 3) rfl)) (by decide) (rm1_5 l Z a0 hw [] i0 i1 h0 n0 Z0 ) (by decide) (by decide) e0 (by rw [hml]; rfl) (argsL := [(.long i0), (.long i1)]) (rest := []) (lenOf pd_0 rfl) rfl (W := 0) (Nat.le_refl _) rfl (hb hby at_9) (by decide) (by decide) (pc' := 12) rfl (fun T506 L506 r506 X506 q506 => ?_)
  obtain ⟨N506, q506⟩ := q506
  have N506' := Fr.app N0 N506
  obtain ⟨v507, v508, v509, v510, v511, v512, v513, v514, v515, v516, v517, v518, v519, v520, v521, b522, k523, h524, h525, h526, h527, h528, h529, h530, h531, h532, h533, h534, h535, h536, h537, h538, rfl, F539, g_b522, Z540⟩ := q506
  show KEnds p e below s _ _ _ T506 (mkF m 12 #[.val (.long i0), .second, .val (.long i1), .second, .val (.long i2), .second, .val (.int i3), .val (.int i4), .val (.long (1 : Int64)), .second, .unset, .unset, .unset, .unset, .unset, .unset, .unset, .unset, .unset, .unset] [(.ref b522)])
  refine k_astore X506 hx (hb hby at_12) rfl (Ls' := #[.val (.long i0), .second, .val (.long i1), .second, .val (.long i2), .second, .val (.int i3), .val (.int i4), .val (.long (1 : Int64)), .second, .val (.ref b522), .unset, .unset, .unset, .unset, .unset, .unset, .unset, .unset, .unset]) rfl (pc' := 14) rfl ?_
  refine k_lloadN X506 hx (hb hby at_14) rfl (pc' := 15) rfl ?_
  refine k_lloadN X506 hx (hb hby at_15) rfl (pc' := 16) rfl ?_
  refine k_lload X506 hx (hb hby at_16) rfl (pc' := 18) rfl ?_
  refine k_lxor X506 hx (hb hby at_18) (pc' := 19) rfl (fun v541 hv541 => ?_)
  refine k_callS X506 hx hZ hown (hw _ (List.mem_of_getElem? (i := 0) rfl)) (hw _ (List.mem_of_getElem? (i := 1) rfl)) (hw _ (List.mem_of_getElem? (i := 2) rfl)) (hw _ (List.mem_of_getElem? (i := 3) rfl)) (by decide) (rm1_67 l Z a0 hw [] i1 v541 b522 k523 i0 v507 v509 v511 v513 v515 v517 v519 v521 T506.heap n0 Z540 F539 g_b522) (by decide) (by decide) rfl (by rw [hml]; rfl) (argsL := [(.long i1), (.long v541)]) (rest := []) (lenOf pd_0 rfl) rfl (W := 0) (Nat.le_refl _) rfl (hb hby at_19) (by decide) (by decide) (pc' := 22) rfl (fun T542 L542 r542 X542 q542 => ?_)
  obtain ⟨N542, q542⟩ := q542
  have N542' := Fr.app N506' N542
  obtain ⟨v543, v544, v545, v546, v547, v548, v549, v550, v551, v552, v553, v554, v555, v556, v557, b558, k559, h560, h561, h562, h563, h564, h565, h566, h567, h568, h569, h570, h571, h572, h573, h574, rfl, F575, F576, g_b558, lt577, Z578⟩ := q542
  show KEnds p e below s _ _ _ T542 (mkF m 22 #[.val (.long i0), .second, .val (.long i1), .second, .val (.long i2), .second, .val (.int i3), .val (.int i4), .val (.long (1 : Int64)), .second, .val (.ref b522), .unset, .unset, .unset, .unset, .unset, .unset, .unset, .unset, .unset] [(.ref b558)])
  refine k_astore X542 hx (hb hby at_22) rfl (Ls' := #[.val (.long i0), .second, .val (.long i1), .second, .val (.long i2), .second, .val (.int i3), .val (.int i4), .val (.long (1 : Int64)), .second, .val (.ref b522), .val (.ref b558), .unset, .unset, .unset, .unset, .unset, .unset, .unset, .unset]) rfl (pc' := 24) rfl ?_
  refine k_lloadN X542 hx (hb hby at_24) rfl (pc' := 25) rfl ?_
  refine k_lloadN X542 hx (hb hby at_25) rfl (pc' := 26) rfl ?_
  refine k_callS X542 hx hZ hown (hw _ (List.mem_of_getElem? (i := 0) rfl)) (hw _ (List.mem_of_getElem? (i := 1) rfl)) (hw _ (List.mem_of_getElem? (i := 2) rfl)) (hw _ (List.mem_of_getElem? (i := 3) rfl)) (by decide) (rm1_131 l Z a0 hw [] i0 i1 b522 k523 v507 v509 v511 v513 v515 v517 v519 v521 b558 k559 v543 v545 v547 v549 v551 v553 v555 v557 T542.heap n0 Z578 F575 g_b522 F576 g_b558 lt577) (by decide) (by decide) rfl (by rw [hml]; rfl) (argsL := [(.long i0), (.long i1)]) (rest := []) (lenOf pd_0 rfl) rfl (W := 0) (Nat.le_refl _) rfl (hb hby at_26) (by decide) (by decide) (pc' := 29) rfl (fun T579 L579 r579 X579 q579 => ?_)
  obtain ⟨N579, q579⟩ := q579
  have N579' := Fr.app N542' N579
  obtain ⟨v580, v581, v582, v583, v584, v585, v586, v587, v588, v589, v590, v591, v592, v593, v594, b595, k596, h597, h598, h599, h600, h601, h602, h603, h604, h605, h606, h607, h608, h609, h610, h611, rfl, F612, F613, F614, g_b595, lt615, Z616⟩ := q579
  have hh617 : v507 = v580 := h524.trans h597.symm
  subst hh617
  have hh618 : v508 = v581 := h525.trans h598.symm
  subst hh618
  have hh619 : v509 = v582 := h526.trans h599.symm
  subst hh619
  have hh620 : v510 = v583 := h527.trans h600.symm
  subst hh620
  have hh621 : v511 = v584 := h528.trans h601.symm
  subst hh621
  have hh622 : v512 = v585 := h529.trans h602.symm
  subst hh622
  have hh623 : v513 = v586 := h530.trans h603.symm
  subst hh623
  have hh624 : v514 = v587 := h531.trans h604.symm
  subst hh624
  have hh625 : v515 = v588 := h532.trans h605.symm
  subst hh625
  have hh626 : v516 = v589 := h533.trans h606.symm
  subst hh626
  have hh627 : v517 = v590 := h534.trans h607.symm
  subst hh627
  have hh628 : v518 = v591 := h535.trans h608.symm
  subst hh628
  have hh629 : v519 = v592 := h536.trans h609.symm
  subst hh629
  have hh630 : v520 = v593 := h537.trans h610.symm
  subst hh630
  have hh631 : v521 = v594 := h538.trans h611.symm
  subst hh631
  show KEnds p e below s _ _ _ T579 (mkF m 29 #[.val (.long i0), .second, .val (.long i1), .second, .val (.long i2), .second, .val (.int i3), .val (.int i4), .val (.long (1 : Int64)), .second, .val (.ref b522), .val (.ref b558), .unset, .unset, .unset, .unset, .unset, .unset, .unset, .unset] [(.ref b595)])
  refine k_astore X579 hx (hb hby at_29) rfl (Ls' := #[.val (.long i0), .second, .val (.long i1), .second, .val (.long i2), .second, .val (.int i3), .val (.int i4), .val (.long (1 : Int64)), .second, .val (.ref b522), .val (.ref b558), .val (.ref b595), .unset, .unset, .unset, .unset, .unset, .unset, .unset]) rfl (pc' := 31) rfl ?_
  refine k_lloadN X579 hx (hb hby at_31) rfl (pc' := 32) rfl ?_
  refine k_lloadN X579 hx (hb hby at_32) rfl (pc' := 33) rfl ?_
  refine k_lload X579 hx (hb hby at_33) rfl (pc' := 35) rfl ?_
  refine k_lxorL X579 hx (hb hby at_35) (pc' := 36) rfl (z := v541) hv541.symm ?_
  refine k_callS X579 hx hZ hown (hw _ (List.mem_of_getElem? (i := 0) rfl)) (hw _ (List.mem_of_getElem? (i := 1) rfl)) (hw _ (List.mem_of_getElem? (i := 2) rfl)) (hw _ (List.mem_of_getElem? (i := 3) rfl)) (by decide) (rm1_212 l Z a0 hw [] i1 v541 b522 k523 i0 v507 v509 v511 v513 v515 v517 v519 v521 b558 k559 v543 v545 v547 v549 v551 v553 v555 v557 b595 k596 T579.heap n0 Z616 F612 g_b522 F613 g_b558 F614 g_b595 lt577 lt615) (by decide) (by decide) rfl (by rw [hml]; rfl) (argsL := [(.long i1), (.long v541)]) (rest := []) (lenOf pd_0 rfl) rfl (W := 0) (Nat.le_refl _) rfl (hb hby at_36) (by decide) (by decide) (pc' := 39) rfl (fun T632 L632 r632 X632 q632 => ?_)
  obtain ⟨N632, q632⟩ := q632
  have N632' := Fr.app N579' N632
  obtain ⟨v633, v634, v635, v636, v637, v638, v639, v640, v641, v642, v643, v644, v645, v646, v647, b648, k649, h650, h651, h652, h653, h654, h655, h656, h657, h658, h659, h660, h661, h662, h663, h664, rfl, F665, F666, F667, F668, g_b648, lt669, Z670⟩ := q632
  have hh671 : v543 = v633 := h560.trans h650.symm
  subst hh671
  have hh672 : v544 = v634 := h561.trans h651.symm
  subst hh672
  have hh673 : v545 = v635 := h562.trans h652.symm
  subst hh673
  have hh674 : v546 = v636 := h563.trans h653.symm
  subst hh674
  have hh675 : v547 = v637 := h564.trans h654.symm
  subst hh675
  have hh676 : v548 = v638 := h565.trans h655.symm
  subst hh676
  have hh677 : v549 = v639 := h566.trans h656.symm
  subst hh677
  have hh678 : v550 = v640 := h567.trans h657.symm
  subst hh678
  have hh679 : v551 = v641 := h568.trans h658.symm
  subst hh679
  have hh680 : v552 = v642 := h569.trans h659.symm
  subst hh680
  have hh681 : v553 = v643 := h570.trans h660.symm
  subst hh681
  have hh682 : v554 = v644 := h571.trans h661.symm
  subst hh682
  have hh683 : v555 = v645 := h572.trans h662.symm
  subst hh683
  have hh684 : v556 = v646 := h573.trans h663.symm
  subst hh684
  have hh685 : v557 = v647 := h574.trans h664.symm
  subst hh685
  show KEnds p e below s _ _ _ T632 (mkF m 39 #[.val (.long i0), .second, .val (.long i1), .second, .val (.long i2), .second, .val (.int i3), .val (.int i4), .val (.long (1 : Int64)), .second, .val (.ref b522), .val (.ref b558), .val (.ref b595), .unset, .unset, .unset, .unset, .unset, .unset, .unset] [(.ref b648)])
  refine k_astore X632 hx (hb hby at_39) rfl (Ls' := #[.val (.long i0), .second, .val (.long i1), .second, .val (.long i2), .second, .val (.int i3), .val (.int i4), .val (.long (1 : Int64)), .second, .val (.ref b522), .val (.ref b558), .val (.ref b595), .val (.ref b648), .unset, .unset, .unset, .unset, .unset, .unset]) rfl (pc' := 41) rfl ?_
  refine k_lload X632 hx (hb hby at_41) rfl (pc' := 43) rfl ?_
  refine k_lloadN X632 hx (hb hby at_43) rfl (pc' := 44) rfl ?_
  refine k_ldcL X632 hx hZ hown (hw _ (List.mem_of_getElem? (i := 12) rfl)) (hb hby at_44) (pc' := 47) rfl ?_
  refine k_lxor X632 hx (hb hby at_47) (pc' := 48) rfl (fun v686 hv686 => ?_)
  refine k_callS X632 hx hZ hown (hw _ (List.mem_of_getElem? (i := 0) rfl)) (hw _ (List.mem_of_getElem? (i := 1) rfl)) (hw _ (List.mem_of_getElem? (i := 2) rfl)) (hw _ (List.mem_of_getElem? (i := 3) rfl)) (by decide) (rm1_296 l Z a0 hw [] i2 v686 b522 k523 i0 v507 v509 v511 v513 v515 v517 v519 v521 b558 k559 i1 v543 v545 v547 v549 v551 v553 v555 v557 b595 k596 b648 k649 T632.heap n0 Z670 F665 g_b522 F666 g_b558 F667 g_b595 F668 g_b648 lt577 lt615 lt669) (by decide) (by decide) rfl (by rw [hml]; rfl) (argsL := [(.long i2), (.long v686)]) (rest := []) (lenOf pd_0 rfl) rfl (W := 0) (Nat.le_refl _) rfl (hb hby at_48) (by decide) (by decide) (pc' := 51) rfl (fun T687 L687 r687 X687 q687 => ?_)
  obtain ⟨N687, q687⟩ := q687
  have N687' := Fr.app N632' N687
  obtain ⟨v688, v689, v690, v691, v692, v693, v694, v695, v696, v697, v698, v699, v700, v701, v702, b703, k704, h705, h706, h707, h708, h709, h710, h711, h712, h713, h714, h715, h716, h717, h718, h719, rfl, F720, F721, F722, F723, F724, g_b703, lt725, Z726⟩ := q687
  show KEnds p e below s _ _ _ T687 (mkF m 51 #[.val (.long i0), .second, .val (.long i1), .second, .val (.long i2), .second, .val (.int i3), .val (.int i4), .val (.long (1 : Int64)), .second, .val (.ref b522), .val (.ref b558), .val (.ref b595), .val (.ref b648), .unset, .unset, .unset, .unset, .unset, .unset] [(.ref b703)])
  refine k_astore X687 hx (hb hby at_51) rfl (Ls' := #[.val (.long i0), .second, .val (.long i1), .second, .val (.long i2), .second, .val (.int i3), .val (.int i4), .val (.long (1 : Int64)), .second, .val (.ref b522), .val (.ref b558), .val (.ref b595), .val (.ref b648), .val (.ref b703), .unset, .unset, .unset, .unset, .unset]) rfl (pc' := 53) rfl ?_
  refine k_iload X687 hx (hb hby at_53) rfl (pc' := 55) rfl ?_
  refine k_ldc X687 hx hZ hown (hw _ (List.mem_of_getElem? (i := 13) rfl)) (hb hby at_55) (pc' := 57) rfl ?_
  refine k_iand X687 hx (hb hby at_57) (pc' := 58) rfl (fun v727 hv727 => ?_)
  refine k_iconst X687 hx (hb hby at_58) (pc' := 59) rfl (z := (3 : Int32)) rfl ?_
  refine k_irem X687 hx (hb hby at_59) (by decide) (pc' := 60) rfl (fun v728 hv728 => ?_)
  have hs729 : v728 = (0 : Int32) ∨ v728 = (1 : Int32) ∨ v728 = (2 : Int32) := by
   have := rng32 v728
   have := rng32 v727
   have := rng32 i4
   have : (2147483647 : Int32).toInt = 2147483647 := (by decide)
   have q730 : v727.toInt = i4.toInt % 2147483648 := (by rw [hv727]; exact c_mask _ _ 31 (by decide) (by decide))
   have : (3 : Int32).toInt = 3 := (by decide)
   have q731 : (0 ≤ v727.toInt → v728.toInt = v727.toInt % 3) ∧ (v727.toInt < 0 → v728.toInt = -((-v727.toInt) % 3)) := (by rw [hv728]; exact c_irem _ _ 3 (by decide))
   rcases (by omega : v728.toInt = 0 ∨ v728.toInt = 1 ∨ v728.toInt = 2) with hq | hq | hq
   · exact Or.inl (Int32.toInt_inj.mp hq)
   · exact Or.inr (Or.inl (Int32.toInt_inj.mp hq))
   · exact Or.inr (Or.inr ((Int32.toInt_inj.mp hq)))
  rcases hs729 with rfl | rfl | rfl
  ·
   show KEnds p e below s _ _ _ T687 (mkF m 60 #[.val (.long i0), .second, .val (.long i1), .second, .val (.long i2), .second, .val (.int i3), .val (.int i4), .val (.long (1 : Int64)), .second, .val (.ref b522), .val (.ref b558), .val (.ref b595), .val (.ref b648), .val (.ref b703), .unset, .unset, .unset, .unset, .unset] [(.int (0 : Int32))])
   refine k_istore X687 hx (hb hby at_60) (Ls' := #[.val (.long i0), .second, .val (.long i1), .second, .val (.long i2), .second, .val (.int i3), .val (.int i4), .val (.long (1 : Int64)), .second, .val (.ref b522), .val (.ref b558), .val (.ref b595), .val (.ref b648), .val (.ref b703), .val (.int (0 : Int32)), .unset, .unset, .unset, .unset]) rfl (pc' := 62) rfl ?_
   refine k_iload X687 hx (hb hby at_62) rfl (pc' := 64) rfl ?_
   refine k_iconst X687 hx (hb hby at_64) (pc' := 65) rfl (z := (1 : Int32)) rfl ?_
   refine k_icmp_ne X687 hx (hb hby at_65) (pn := 68) rfl (py := 73) (by decide) (fun _ => ?_) (fun hc => absurd hc (by decide))
   refine k_iload X687 hx (hb hby at_73) rfl (pc' := 75) rfl ?_
   refine k_iconst X687 hx (hb hby at_75) (pc' := 76) rfl (z := (2 : Int32)) rfl ?_
   refine k_icmp_ne X687 hx (hb hby at_76) (pn := 79) rfl (py := 84) (by decide) (fun _ => ?_) (fun hc => absurd hc (by decide))
   refine k_aload X687 hx (hb hby at_84) rfl rfl (pc' := 86) rfl ?_
   refine k_astore X687 hx (hb hby at_86) rfl (Ls' := #[.val (.long i0), .second, .val (.long i1), .second, .val (.long i2), .second, .val (.int i3), .val (.int i4), .val (.long (1 : Int64)), .second, .val (.ref b522), .val (.ref b558), .val (.ref b595), .val (.ref b648), .val (.ref b703), .val (.int (0 : Int32)), .val (.ref b703), .unset, .unset, .unset]) rfl (pc' := 88) rfl ?_
   refine k_aload X687 hx (hb hby at_88) rfl rfl (pc' := 90) rfl ?_
   refine k_aload X687 hx (hb hby at_90) rfl rfl (pc' := 92) rfl ?_
   refine k_aload X687 hx (hb hby at_92) rfl rfl (pc' := 94) rfl ?_
   refine k_lload X687 hx (hb hby at_94) rfl (pc' := 96) rfl ?_
   refine k_callS X687 hx hZ hown (hw _ (List.mem_of_getElem? (i := 14) rfl)) (hw _ (List.mem_of_getElem? (i := 15) rfl)) (hw _ (List.mem_of_getElem? (i := 16) rfl)) (hw _ (List.mem_of_getElem? (i := 17) rfl)) (by decide) (rm2_733 l Z a0 hw [] b703 b522 b558 k523 i0 v507 v509 v511 v513 v515 v517 v519 v521 k559 i1 v543 v545 v547 v549 v551 v553 v555 v557 b595 k596 b648 k649 k704 i2 v688 v690 v692 v694 v696 v698 v700 v702 T687.heap n0 Z726 F720 g_b522 F721 g_b558 F722 g_b595 F723 g_b648 F724 g_b703 lt577 lt615 lt669 lt725) (by decide) (by decide) rfl (by rw [hml]; rfl) (argsL := [(.ref b703), (.ref b522), (.ref b558), (.long (1 : Int64))]) (rest := []) (lenOf pd_1 rfl) rfl (W := 0) (Nat.le_refl _) rfl (hb hby at_96) (by decide) (by decide) (pc' := 99) rfl (fun T772 L772 r772 X772 q772 => ?_)
   obtain ⟨N772, q772⟩ := q772
   have N772' := Fr.app N687' N772
   obtain ⟨rfl, F773, F774, F775, F776, F777, Z778⟩ := q772
   show KEnds p e below s _ _ _ T772 (mkF m 99 #[.val (.long i0), .second, .val (.long i1), .second, .val (.long i2), .second, .val (.int i3), .val (.int i4), .val (.long (1 : Int64)), .second, .val (.ref b522), .val (.ref b558), .val (.ref b595), .val (.ref b648), .val (.ref b703), .val (.int (0 : Int32)), .val (.ref b703), .unset, .unset, .unset] [])
   refine k_lload X772 hx (hb hby at_99) rfl (pc' := 101) rfl ?_
   refine k_lconst X772 hx (hb hby at_101) (pc' := 102) rfl (z := (1 : Int64)) rfl ?_
   refine k_lcif_ne X772 hx (hb hby at_102) (pm := 103) rfl (hb hby at_103) (pn := 106) rfl (py := 111) (by decide) (fun hc => absurd (by decide) hc) (fun _ => ?_)
   refine k_aload X772 hx (hb hby at_106) rfl rfl (pc' := 108) rfl ?_
   refine k_goto X772 hx (hb hby at_108) (pc' := 113) (by decide) ?_
   refine k_astore X772 hx (hb hby at_113) rfl (Ls' := #[.val (.long i0), .second, .val (.long i1), .second, .val (.long i2), .second, .val (.int i3), .val (.int i4), .val (.long (1 : Int64)), .second, .val (.ref b522), .val (.ref b558), .val (.ref b595), .val (.ref b648), .val (.ref b703), .val (.int (0 : Int32)), .val (.ref b703), .val (.ref b648), .unset, .unset]) rfl (pc' := 115) rfl ?_
   refine k_aload X772 hx (hb hby at_115) rfl rfl (pc' := 117) rfl ?_
   refine k_aload X772 hx (hb hby at_117) rfl rfl (pc' := 119) rfl ?_
   refine k_acmp_eq_diff X772 hx (Ne.symm (Nat.ne_of_lt (Nat.lt_trans (Nat.lt_trans (Nat.lt_trans lt577 lt615) lt669) lt725))) (hb hby at_119) (by decide) (pc' := 122) (by decide) ?_
   refine k_aload X772 hx (hb hby at_122) rfl rfl (pc' := 124) rfl ?_
   refine k_aload X772 hx (hb hby at_124) rfl rfl (pc' := 126) rfl ?_
   refine k_callS X772 hx hZ hown (hw _ (List.mem_of_getElem? (i := 18) rfl)) (hw _ (List.mem_of_getElem? (i := 19) rfl)) (hw _ (List.mem_of_getElem? (i := 2) rfl)) (hw _ (List.mem_of_getElem? (i := 20) rfl)) (by decide) (rm3_418 l Z a0 hw [] b522 b595 k523 i0 v507 v509 v511 v513 v515 v517 v519 v521 k596 T772.heap n0 Z778 F773 F775 (Nat.lt_trans lt577 lt615)) (by decide) (by decide) rfl (by rw [hml]; rfl) (argsL := [(.ref b522), (.ref b595)]) (rest := []) (lenOf pd_2 rfl) rfl (W := 0) (Nat.le_refl _) rfl (hb hby at_126) (by decide) (by decide) (pc' := 129) rfl (fun T779 L779 r779 X779 q779 => ?_)
   obtain ⟨N779, e779, q779⟩ := q779
   have N779' := Fr.app N772' N779
   obtain rfl := q779
   show KEnds p e below s _ _ _ T779 (mkF m 129 #[.val (.long i0), .second, .val (.long i1), .second, .val (.long i2), .second, .val (.int i3), .val (.int i4), .val (.long (1 : Int64)), .second, .val (.ref b522), .val (.ref b558), .val (.ref b595), .val (.ref b648), .val (.ref b703), .val (.int (0 : Int32)), .val (.ref b703), .val (.ref b648), .unset, .unset] [(.int (1 : Int32))])
   refine k_if_eq X779 hx (hb hby at_129) (pn := 132) rfl (py := 136) (by decide) (fun hc => absurd hc (by decide)) (fun _ => ?_)
   refine k_iconst X779 hx (hb hby at_132) (pc' := 133) rfl (z := (1 : Int32)) rfl ?_
   refine k_goto X779 hx (hb hby at_133) (pc' := 137) (by decide) ?_
   refine k_istore X779 hx (hb hby at_137) (Ls' := #[.val (.long i0), .second, .val (.long i1), .second, .val (.long i2), .second, .val (.int i3), .val (.int i4), .val (.long (1 : Int64)), .second, .val (.ref b522), .val (.ref b558), .val (.ref b595), .val (.ref b648), .val (.ref b703), .val (.int (0 : Int32)), .val (.ref b703), .val (.ref b648), .val (.int (1 : Int32)), .unset]) rfl (pc' := 139) rfl ?_
   refine k_aload X779 hx (hb hby at_139) rfl rfl (pc' := 141) rfl ?_
   refine k_aload X779 hx (hb hby at_141) rfl rfl (pc' := 143) rfl ?_
   refine k_acmp_eq_diff X779 hx (Ne.symm (Nat.ne_of_lt (Nat.lt_trans (Nat.lt_trans lt615 lt669) lt725))) (hb hby at_143) (by decide) (pc' := 146) (by decide) ?_
   refine k_aload X779 hx (hb hby at_146) rfl rfl (pc' := 148) rfl ?_
   refine k_aload X779 hx (hb hby at_148) rfl rfl (pc' := 150) rfl ?_
   refine k_callS X779 hx hZ hown (hw _ (List.mem_of_getElem? (i := 18) rfl)) (hw _ (List.mem_of_getElem? (i := 19) rfl)) (hw _ (List.mem_of_getElem? (i := 2) rfl)) (hw _ (List.mem_of_getElem? (i := 20) rfl)) (by decide) (rm3_418 l Z a0 hw [] b558 b648 k559 i1 v543 v545 v547 v549 v551 v553 v555 v557 k649 T772.heap n0 Z778 F774 F776 (Nat.lt_trans lt615 lt669)) (by decide) (by decide) e779 (by rw [hml]; rfl) (argsL := [(.ref b558), (.ref b648)]) (rest := []) (lenOf pd_2 rfl) rfl (W := 0) (Nat.le_refl _) rfl (hb hby at_150) (by decide) (by decide) (pc' := 153) rfl (fun T780 L780 r780 X780 q780 => ?_)
   obtain ⟨N780, e780, q780⟩ := q780
   have N780' := Fr.app N779' N780
   obtain rfl := q780
   show KEnds p e below s _ _ _ T780 (mkF m 153 #[.val (.long i0), .second, .val (.long i1), .second, .val (.long i2), .second, .val (.int i3), .val (.int i4), .val (.long (1 : Int64)), .second, .val (.ref b522), .val (.ref b558), .val (.ref b595), .val (.ref b648), .val (.ref b703), .val (.int (0 : Int32)), .val (.ref b703), .val (.ref b648), .val (.int (1 : Int32)), .unset] [(.int (1 : Int32))])
   refine k_if_eq X780 hx (hb hby at_153) (pn := 156) rfl (py := 160) (by decide) (fun hc => absurd hc (by decide)) (fun _ => ?_)
   refine k_iconst X780 hx (hb hby at_156) (pc' := 157) rfl (z := (1 : Int32)) rfl ?_
   refine k_goto X780 hx (hb hby at_157) (pc' := 161) (by decide) ?_
   refine k_istore X780 hx (hb hby at_161) (Ls' := #[.val (.long i0), .second, .val (.long i1), .second, .val (.long i2), .second, .val (.int i3), .val (.int i4), .val (.long (1 : Int64)), .second, .val (.ref b522), .val (.ref b558), .val (.ref b595), .val (.ref b648), .val (.ref b703), .val (.int (0 : Int32)), .val (.ref b703), .val (.ref b648), .val (.int (1 : Int32)), .val (.int (1 : Int32))]) rfl (pc' := 163) rfl ?_
   refine k_aload X780 hx (hb hby at_163) rfl rfl (pc' := 165) rfl ?_
   refine k_aload X780 hx (hb hby at_165) rfl rfl (pc' := 167) rfl ?_
   refine k_callS X780 hx hZ hown (hw _ (List.mem_of_getElem? (i := 18) rfl)) (hw _ (List.mem_of_getElem? (i := 19) rfl)) (hw _ (List.mem_of_getElem? (i := 2) rfl)) (hw _ (List.mem_of_getElem? (i := 20) rfl)) (by decide) (rm3_421 l Z a0 hw [] b703 b648 k649 i1 v543 v545 v547 v549 v551 v553 v555 v557 k704 T772.heap n0 Z778 F776 F777 lt725) (by decide) (by decide) e780 (by rw [hml]; rfl) (argsL := [(.ref b703), (.ref b648)]) (rest := []) (lenOf pd_2 rfl) rfl (W := 0) (Nat.le_refl _) rfl (hb hby at_167) (by decide) (by decide) (pc' := 170) rfl (fun T781 L781 r781 X781 q781 => ?_)
   obtain ⟨N781, e781, q781⟩ := q781
   have N781' := Fr.app N780' N781
   obtain rfl := q781
   show KEnds p e below s _ _ _ T781 (mkF m 170 #[.val (.long i0), .second, .val (.long i1), .second, .val (.long i2), .second, .val (.int i3), .val (.int i4), .val (.long (1 : Int64)), .second, .val (.ref b522), .val (.ref b558), .val (.ref b595), .val (.ref b648), .val (.ref b703), .val (.int (0 : Int32)), .val (.ref b703), .val (.ref b648), .val (.int (1 : Int32)), .val (.int (1 : Int32))] [(.int (1 : Int32))])
   refine k_if_eq X781 hx (hb hby at_170) (pn := 173) rfl (py := 187) (by decide) (fun hc => absurd hc (by decide)) (fun _ => ?_)
   refine k_iload X781 hx (hb hby at_173) rfl (pc' := 175) rfl ?_
   refine k_if_eq X781 hx (hb hby at_175) (pn := 178) rfl (py := 187) (by decide) (fun hc => absurd hc (by decide)) (fun _ => ?_)
   refine k_iload X781 hx (hb hby at_178) rfl (pc' := 180) rfl ?_
   refine k_if_eq X781 hx (hb hby at_180) (pn := 183) rfl (py := 187) (by decide) (fun hc => absurd hc (by decide)) (fun _ => ?_)
   refine k_iconst X781 hx (hb hby at_183) (pc' := 184) rfl (z := (1 : Int32)) rfl ?_
   refine k_goto X781 hx (hb hby at_184) (pc' := 188) (by decide) ?_
   exact k_retN X781 hx (t := .boolean) Bd.returns (by simp) (hb hby at_188) hlk (by decide) (by decide) (z' := (1 : Int32)) rfl ⟨rfl, N781'⟩
  ·
   show KEnds p e below s _ _ _ T687 (mkF m 60 #[.val (.long i0), .second, .val (.long i1), .second, .val (.long i2), .second, .val (.int i3), .val (.int i4), .val (.long (1 : Int64)), .second, .val (.ref b522), .val (.ref b558), .val (.ref b595), .val (.ref b648), .val (.ref b703), .unset, .unset, .unset, .unset, .unset] [(.int (1 : Int32))])
   refine k_istore X687 hx (hb hby at_60) (Ls' := #[.val (.long i0), .second, .val (.long i1), .second, .val (.long i2), .second, .val (.int i3), .val (.int i4), .val (.long (1 : Int64)), .second, .val (.ref b522), .val (.ref b558), .val (.ref b595), .val (.ref b648), .val (.ref b703), .val (.int (1 : Int32)), .unset, .unset, .unset, .unset]) rfl (pc' := 62) rfl ?_
   refine k_iload X687 hx (hb hby at_62) rfl (pc' := 64) rfl ?_
   refine k_iconst X687 hx (hb hby at_64) (pc' := 65) rfl (z := (1 : Int32)) rfl ?_
   refine k_icmp_ne X687 hx (hb hby at_65) (pn := 68) rfl (py := 73) (by decide) (fun hc => absurd (by decide) hc) (fun _ => ?_)
   refine k_aload X687 hx (hb hby at_68) rfl rfl (pc' := 70) rfl ?_
   refine k_goto X687 hx (hb hby at_70) (pc' := 86) (by decide) ?_
   refine k_astore X687 hx (hb hby at_86) rfl (Ls' := #[.val (.long i0), .second, .val (.long i1), .second, .val (.long i2), .second, .val (.int i3), .val (.int i4), .val (.long (1 : Int64)), .second, .val (.ref b522), .val (.ref b558), .val (.ref b595), .val (.ref b648), .val (.ref b703), .val (.int (1 : Int32)), .val (.ref b522), .unset, .unset, .unset]) rfl (pc' := 88) rfl ?_
   refine k_aload X687 hx (hb hby at_88) rfl rfl (pc' := 90) rfl ?_
   refine k_aload X687 hx (hb hby at_90) rfl rfl (pc' := 92) rfl ?_
   refine k_aload X687 hx (hb hby at_92) rfl rfl (pc' := 94) rfl ?_
   refine k_lload X687 hx (hb hby at_94) rfl (pc' := 96) rfl ?_
   refine k_callS X687 hx hZ hown (hw _ (List.mem_of_getElem? (i := 14) rfl)) (hw _ (List.mem_of_getElem? (i := 15) rfl)) (hw _ (List.mem_of_getElem? (i := 16) rfl)) (hw _ (List.mem_of_getElem? (i := 17) rfl)) (by decide) (rm2_783 l Z a0 hw [] b522 b558 k523 i0 v507 v509 v511 v513 v515 v517 v519 v521 k559 i1 v543 v545 v547 v549 v551 v553 v555 v557 b595 k596 b648 k649 b703 k704 i2 v688 v690 v692 v694 v696 v698 v700 v702 T687.heap n0 Z726 F720 g_b522 F721 g_b558 F722 g_b595 F723 g_b648 F724 g_b703 lt577 lt615 lt669 lt725) (by decide) (by decide) rfl (by rw [hml]; rfl) (argsL := [(.ref b522), (.ref b522), (.ref b558), (.long (1 : Int64))]) (rest := []) (lenOf pd_1 rfl) rfl (W := 0) (Nat.le_refl _) rfl (hb hby at_96) (by decide) (by decide) (pc' := 99) rfl (fun T814 L814 r814 X814 q814 => ?_)
   obtain ⟨N814, q814⟩ := q814
   have N814' := Fr.app N687' N814
   obtain ⟨rfl, F815, F816, F817, F818, F819, Z820⟩ := q814
   show KEnds p e below s _ _ _ T814 (mkF m 99 #[.val (.long i0), .second, .val (.long i1), .second, .val (.long i2), .second, .val (.int i3), .val (.int i4), .val (.long (1 : Int64)), .second, .val (.ref b522), .val (.ref b558), .val (.ref b595), .val (.ref b648), .val (.ref b703), .val (.int (1 : Int32)), .val (.ref b522), .unset, .unset, .unset] [])
   refine k_lload X814 hx (hb hby at_99) rfl (pc' := 101) rfl ?_
   refine k_lconst X814 hx (hb hby at_101) (pc' := 102) rfl (z := (1 : Int64)) rfl ?_
   refine k_lcif_ne X814 hx (hb hby at_102) (pm := 103) rfl (hb hby at_103) (pn := 106) rfl (py := 111) (by decide) (fun hc => absurd (by decide) hc) (fun _ => ?_)
   refine k_aload X814 hx (hb hby at_106) rfl rfl (pc' := 108) rfl ?_
   refine k_goto X814 hx (hb hby at_108) (pc' := 113) (by decide) ?_
   refine k_astore X814 hx (hb hby at_113) rfl (Ls' := #[.val (.long i0), .second, .val (.long i1), .second, .val (.long i2), .second, .val (.int i3), .val (.int i4), .val (.long (1 : Int64)), .second, .val (.ref b522), .val (.ref b558), .val (.ref b595), .val (.ref b648), .val (.ref b703), .val (.int (1 : Int32)), .val (.ref b522), .val (.ref b648), .unset, .unset]) rfl (pc' := 115) rfl ?_
   refine k_aload X814 hx (hb hby at_115) rfl rfl (pc' := 117) rfl ?_
   refine k_aload X814 hx (hb hby at_117) rfl rfl (pc' := 119) rfl ?_
   refine k_acmp_eq_same X814 hx (hb hby at_119) (by decide) (pc' := 132) (by decide) ?_
   refine k_iconst X814 hx (hb hby at_132) (pc' := 133) rfl (z := (1 : Int32)) rfl ?_
   refine k_goto X814 hx (hb hby at_133) (pc' := 137) (by decide) ?_
   refine k_istore X814 hx (hb hby at_137) (Ls' := #[.val (.long i0), .second, .val (.long i1), .second, .val (.long i2), .second, .val (.int i3), .val (.int i4), .val (.long (1 : Int64)), .second, .val (.ref b522), .val (.ref b558), .val (.ref b595), .val (.ref b648), .val (.ref b703), .val (.int (1 : Int32)), .val (.ref b522), .val (.ref b648), .val (.int (1 : Int32)), .unset]) rfl (pc' := 139) rfl ?_
   refine k_aload X814 hx (hb hby at_139) rfl rfl (pc' := 141) rfl ?_
   refine k_aload X814 hx (hb hby at_141) rfl rfl (pc' := 143) rfl ?_
   refine k_acmp_eq_diff X814 hx (Nat.ne_of_lt lt577) (hb hby at_143) (by decide) (pc' := 146) (by decide) ?_
   refine k_aload X814 hx (hb hby at_146) rfl rfl (pc' := 148) rfl ?_
   refine k_aload X814 hx (hb hby at_148) rfl rfl (pc' := 150) rfl ?_
   refine k_callS X814 hx hZ hown (hw _ (List.mem_of_getElem? (i := 18) rfl)) (hw _ (List.mem_of_getElem? (i := 19) rfl)) (hw _ (List.mem_of_getElem? (i := 2) rfl)) (hw _ (List.mem_of_getElem? (i := 20) rfl)) (by decide) (rm3_418 l Z a0 hw [] b558 b648 k559 i1 v543 v545 v547 v549 v551 v553 v555 v557 k649 T814.heap n0 Z820 F816 F818 (Nat.lt_trans lt615 lt669)) (by decide) (by decide) rfl (by rw [hml]; rfl) (argsL := [(.ref b558), (.ref b648)]) (rest := []) (lenOf pd_2 rfl) rfl (W := 0) (Nat.le_refl _) rfl (hb hby at_150) (by decide) (by decide) (pc' := 153) rfl (fun T821 L821 r821 X821 q821 => ?_)
   obtain ⟨N821, e821, q821⟩ := q821
   have N821' := Fr.app N814' N821
   obtain rfl := q821
   show KEnds p e below s _ _ _ T821 (mkF m 153 #[.val (.long i0), .second, .val (.long i1), .second, .val (.long i2), .second, .val (.int i3), .val (.int i4), .val (.long (1 : Int64)), .second, .val (.ref b522), .val (.ref b558), .val (.ref b595), .val (.ref b648), .val (.ref b703), .val (.int (1 : Int32)), .val (.ref b522), .val (.ref b648), .val (.int (1 : Int32)), .unset] [(.int (1 : Int32))])
   refine k_if_eq X821 hx (hb hby at_153) (pn := 156) rfl (py := 160) (by decide) (fun hc => absurd hc (by decide)) (fun _ => ?_)
   refine k_iconst X821 hx (hb hby at_156) (pc' := 157) rfl (z := (1 : Int32)) rfl ?_
   refine k_goto X821 hx (hb hby at_157) (pc' := 161) (by decide) ?_
   refine k_istore X821 hx (hb hby at_161) (Ls' := #[.val (.long i0), .second, .val (.long i1), .second, .val (.long i2), .second, .val (.int i3), .val (.int i4), .val (.long (1 : Int64)), .second, .val (.ref b522), .val (.ref b558), .val (.ref b595), .val (.ref b648), .val (.ref b703), .val (.int (1 : Int32)), .val (.ref b522), .val (.ref b648), .val (.int (1 : Int32)), .val (.int (1 : Int32))]) rfl (pc' := 163) rfl ?_
   refine k_aload X821 hx (hb hby at_163) rfl rfl (pc' := 165) rfl ?_
   refine k_aload X821 hx (hb hby at_165) rfl rfl (pc' := 167) rfl ?_
   refine k_callS X821 hx hZ hown (hw _ (List.mem_of_getElem? (i := 18) rfl)) (hw _ (List.mem_of_getElem? (i := 19) rfl)) (hw _ (List.mem_of_getElem? (i := 2) rfl)) (hw _ (List.mem_of_getElem? (i := 20) rfl)) (by decide) (rm3_418 l Z a0 hw [] b522 b648 k523 i1 v543 v545 v547 v549 v551 v553 v555 v557 k649 T814.heap n0 Z820 F815 F818 (Nat.lt_trans (Nat.lt_trans lt577 lt615) lt669)) (by decide) (by decide) e821 (by rw [hml]; rfl) (argsL := [(.ref b522), (.ref b648)]) (rest := []) (lenOf pd_2 rfl) rfl (W := 0) (Nat.le_refl _) rfl (hb hby at_167) (by decide) (by decide) (pc' := 170) rfl (fun T822 L822 r822 X822 q822 => ?_)
   obtain ⟨N822, e822, q822⟩ := q822
   have N822' := Fr.app N821' N822
   obtain rfl := q822
   show KEnds p e below s _ _ _ T822 (mkF m 170 #[.val (.long i0), .second, .val (.long i1), .second, .val (.long i2), .second, .val (.int i3), .val (.int i4), .val (.long (1 : Int64)), .second, .val (.ref b522), .val (.ref b558), .val (.ref b595), .val (.ref b648), .val (.ref b703), .val (.int (1 : Int32)), .val (.ref b522), .val (.ref b648), .val (.int (1 : Int32)), .val (.int (1 : Int32))] [(.int (1 : Int32))])
   refine k_if_eq X822 hx (hb hby at_170) (pn := 173) rfl (py := 187) (by decide) (fun hc => absurd hc (by decide)) (fun _ => ?_)
   refine k_iload X822 hx (hb hby at_173) rfl (pc' := 175) rfl ?_
   refine k_if_eq X822 hx (hb hby at_175) (pn := 178) rfl (py := 187) (by decide) (fun hc => absurd hc (by decide)) (fun _ => ?_)
   refine k_iload X822 hx (hb hby at_178) rfl (pc' := 180) rfl ?_
   refine k_if_eq X822 hx (hb hby at_180) (pn := 183) rfl (py := 187) (by decide) (fun hc => absurd hc (by decide)) (fun _ => ?_)
   refine k_iconst X822 hx (hb hby at_183) (pc' := 184) rfl (z := (1 : Int32)) rfl ?_
   refine k_goto X822 hx (hb hby at_184) (pc' := 188) (by decide) ?_
   exact k_retN X822 hx (t := .boolean) Bd.returns (by simp) (hb hby at_188) hlk (by decide) (by decide) (z' := (1 : Int32)) rfl ⟨rfl, N822'⟩
  ·
   show KEnds p e below s _ _ _ T687 (mkF m 60 #[.val (.long i0), .second, .val (.long i1), .second, .val (.long i2), .second, .val (.int i3), .val (.int i4), .val (.long (1 : Int64)), .second, .val (.ref b522), .val (.ref b558), .val (.ref b595), .val (.ref b648), .val (.ref b703), .unset, .unset, .unset, .unset, .unset] [(.int (2 : Int32))])
   refine k_istore X687 hx (hb hby at_60) (Ls' := #[.val (.long i0), .second, .val (.long i1), .second, .val (.long i2), .second, .val (.int i3), .val (.int i4), .val (.long (1 : Int64)), .second, .val (.ref b522), .val (.ref b558), .val (.ref b595), .val (.ref b648), .val (.ref b703), .val (.int (2 : Int32)), .unset, .unset, .unset, .unset]) rfl (pc' := 62) rfl ?_
   refine k_iload X687 hx (hb hby at_62) rfl (pc' := 64) rfl ?_
   refine k_iconst X687 hx (hb hby at_64) (pc' := 65) rfl (z := (1 : Int32)) rfl ?_
   refine k_icmp_ne X687 hx (hb hby at_65) (pn := 68) rfl (py := 73) (by decide) (fun _ => ?_) (fun hc => absurd hc (by decide))
   refine k_iload X687 hx (hb hby at_73) rfl (pc' := 75) rfl ?_
   refine k_iconst X687 hx (hb hby at_75) (pc' := 76) rfl (z := (2 : Int32)) rfl ?_
   refine k_icmp_ne X687 hx (hb hby at_76) (pn := 79) rfl (py := 84) (by decide) (fun hc => absurd (by decide) hc) (fun _ => ?_)
   refine k_aload X687 hx (hb hby at_79) rfl rfl (pc' := 81) rfl ?_
   refine k_goto X687 hx (hb hby at_81) (pc' := 86) (by decide) ?_
   refine k_astore X687 hx (hb hby at_86) rfl (Ls' := #[.val (.long i0), .second, .val (.long i1), .second, .val (.long i2), .second, .val (.int i3), .val (.int i4), .val (.long (1 : Int64)), .second, .val (.ref b522), .val (.ref b558), .val (.ref b595), .val (.ref b648), .val (.ref b703), .val (.int (2 : Int32)), .val (.ref b558), .unset, .unset, .unset]) rfl (pc' := 88) rfl ?_
   refine k_aload X687 hx (hb hby at_88) rfl rfl (pc' := 90) rfl ?_
   refine k_aload X687 hx (hb hby at_90) rfl rfl (pc' := 92) rfl ?_
   refine k_aload X687 hx (hb hby at_92) rfl rfl (pc' := 94) rfl ?_
   refine k_lload X687 hx (hb hby at_94) rfl (pc' := 96) rfl ?_
   refine k_callS X687 hx hZ hown (hw _ (List.mem_of_getElem? (i := 14) rfl)) (hw _ (List.mem_of_getElem? (i := 15) rfl)) (hw _ (List.mem_of_getElem? (i := 16) rfl)) (hw _ (List.mem_of_getElem? (i := 17) rfl)) (by decide) (rm2_824 l Z a0 hw [] b558 b522 k523 i0 v507 v509 v511 v513 v515 v517 v519 v521 k559 i1 v543 v545 v547 v549 v551 v553 v555 v557 b595 k596 b648 k649 b703 k704 i2 v688 v690 v692 v694 v696 v698 v700 v702 T687.heap n0 Z726 F720 g_b522 F721 g_b558 F722 g_b595 F723 g_b648 F724 g_b703 lt577 lt615 lt669 lt725) (by decide) (by decide) rfl (by rw [hml]; rfl) (argsL := [(.ref b558), (.ref b522), (.ref b558), (.long (1 : Int64))]) (rest := []) (lenOf pd_1 rfl) rfl (W := 0) (Nat.le_refl _) rfl (hb hby at_96) (by decide) (by decide) (pc' := 99) rfl (fun T855 L855 r855 X855 q855 => ?_)
   obtain ⟨N855, q855⟩ := q855
   have N855' := Fr.app N687' N855
   obtain ⟨rfl, F856, F857, F858, F859, F860, Z861⟩ := q855
   show KEnds p e below s _ _ _ T855 (mkF m 99 #[.val (.long i0), .second, .val (.long i1), .second, .val (.long i2), .second, .val (.int i3), .val (.int i4), .val (.long (1 : Int64)), .second, .val (.ref b522), .val (.ref b558), .val (.ref b595), .val (.ref b648), .val (.ref b703), .val (.int (2 : Int32)), .val (.ref b558), .unset, .unset, .unset] [])
   refine k_lload X855 hx (hb hby at_99) rfl (pc' := 101) rfl ?_
   refine k_lconst X855 hx (hb hby at_101) (pc' := 102) rfl (z := (1 : Int64)) rfl ?_
   refine k_lcif_ne X855 hx (hb hby at_102) (pm := 103) rfl (hb hby at_103) (pn := 106) rfl (py := 111) (by decide) (fun hc => absurd (by decide) hc) (fun _ => ?_)
   refine k_aload X855 hx (hb hby at_106) rfl rfl (pc' := 108) rfl ?_
   refine k_goto X855 hx (hb hby at_108) (pc' := 113) (by decide) ?_
   refine k_astore X855 hx (hb hby at_113) rfl (Ls' := #[.val (.long i0), .second, .val (.long i1), .second, .val (.long i2), .second, .val (.int i3), .val (.int i4), .val (.long (1 : Int64)), .second, .val (.ref b522), .val (.ref b558), .val (.ref b595), .val (.ref b648), .val (.ref b703), .val (.int (2 : Int32)), .val (.ref b558), .val (.ref b648), .unset, .unset]) rfl (pc' := 115) rfl ?_
   refine k_aload X855 hx (hb hby at_115) rfl rfl (pc' := 117) rfl ?_
   refine k_aload X855 hx (hb hby at_117) rfl rfl (pc' := 119) rfl ?_
   refine k_acmp_eq_diff X855 hx (Ne.symm (Nat.ne_of_lt lt577)) (hb hby at_119) (by decide) (pc' := 122) (by decide) ?_
   refine k_aload X855 hx (hb hby at_122) rfl rfl (pc' := 124) rfl ?_
   refine k_aload X855 hx (hb hby at_124) rfl rfl (pc' := 126) rfl ?_
   refine k_callS X855 hx hZ hown (hw _ (List.mem_of_getElem? (i := 18) rfl)) (hw _ (List.mem_of_getElem? (i := 19) rfl)) (hw _ (List.mem_of_getElem? (i := 2) rfl)) (hw _ (List.mem_of_getElem? (i := 20) rfl)) (by decide) (rm3_418 l Z a0 hw [] b522 b595 k523 i0 v507 v509 v511 v513 v515 v517 v519 v521 k596 T855.heap n0 Z861 F856 F858 (Nat.lt_trans lt577 lt615)) (by decide) (by decide) rfl (by rw [hml]; rfl) (argsL := [(.ref b522), (.ref b595)]) (rest := []) (lenOf pd_2 rfl) rfl (W := 0) (Nat.le_refl _) rfl (hb hby at_126) (by decide) (by decide) (pc' := 129) rfl (fun T862 L862 r862 X862 q862 => ?_)
   obtain ⟨N862, e862, q862⟩ := q862
   have N862' := Fr.app N855' N862
   obtain rfl := q862
   show KEnds p e below s _ _ _ T862 (mkF m 129 #[.val (.long i0), .second, .val (.long i1), .second, .val (.long i2), .second, .val (.int i3), .val (.int i4), .val (.long (1 : Int64)), .second, .val (.ref b522), .val (.ref b558), .val (.ref b595), .val (.ref b648), .val (.ref b703), .val (.int (2 : Int32)), .val (.ref b558), .val (.ref b648), .unset, .unset] [(.int (1 : Int32))])
   refine k_if_eq X862 hx (hb hby at_129) (pn := 132) rfl (py := 136) (by decide) (fun hc => absurd hc (by decide)) (fun _ => ?_)
   refine k_iconst X862 hx (hb hby at_132) (pc' := 133) rfl (z := (1 : Int32)) rfl ?_
   refine k_goto X862 hx (hb hby at_133) (pc' := 137) (by decide) ?_
   refine k_istore X862 hx (hb hby at_137) (Ls' := #[.val (.long i0), .second, .val (.long i1), .second, .val (.long i2), .second, .val (.int i3), .val (.int i4), .val (.long (1 : Int64)), .second, .val (.ref b522), .val (.ref b558), .val (.ref b595), .val (.ref b648), .val (.ref b703), .val (.int (2 : Int32)), .val (.ref b558), .val (.ref b648), .val (.int (1 : Int32)), .unset]) rfl (pc' := 139) rfl ?_
   refine k_aload X862 hx (hb hby at_139) rfl rfl (pc' := 141) rfl ?_
   refine k_aload X862 hx (hb hby at_141) rfl rfl (pc' := 143) rfl ?_
   refine k_acmp_eq_same X862 hx (hb hby at_143) (by decide) (pc' := 156) (by decide) ?_
   refine k_iconst X862 hx (hb hby at_156) (pc' := 157) rfl (z := (1 : Int32)) rfl ?_
   refine k_goto X862 hx (hb hby at_157) (pc' := 161) (by decide) ?_
   refine k_istore X862 hx (hb hby at_161) (Ls' := #[.val (.long i0), .second, .val (.long i1), .second, .val (.long i2), .second, .val (.int i3), .val (.int i4), .val (.long (1 : Int64)), .second, .val (.ref b522), .val (.ref b558), .val (.ref b595), .val (.ref b648), .val (.ref b703), .val (.int (2 : Int32)), .val (.ref b558), .val (.ref b648), .val (.int (1 : Int32)), .val (.int (1 : Int32))]) rfl (pc' := 163) rfl ?_
   refine k_aload X862 hx (hb hby at_163) rfl rfl (pc' := 165) rfl ?_
   refine k_aload X862 hx (hb hby at_165) rfl rfl (pc' := 167) rfl ?_
   refine k_callS X862 hx hZ hown (hw _ (List.mem_of_getElem? (i := 18) rfl)) (hw _ (List.mem_of_getElem? (i := 19) rfl)) (hw _ (List.mem_of_getElem? (i := 2) rfl)) (hw _ (List.mem_of_getElem? (i := 20) rfl)) (by decide) (rm3_418 l Z a0 hw [] b558 b648 k559 i1 v543 v545 v547 v549 v551 v553 v555 v557 k649 T855.heap n0 Z861 F857 F859 (Nat.lt_trans lt615 lt669)) (by decide) (by decide) e862 (by rw [hml]; rfl) (argsL := [(.ref b558), (.ref b648)]) (rest := []) (lenOf pd_2 rfl) rfl (W := 0) (Nat.le_refl _) rfl (hb hby at_167) (by decide) (by decide) (pc' := 170) rfl (fun T863 L863 r863 X863 q863 => ?_)
   obtain ⟨N863, e863, q863⟩ := q863
   have N863' := Fr.app N862' N863
   obtain rfl := q863
   show KEnds p e below s _ _ _ T863 (mkF m 170 #[.val (.long i0), .second, .val (.long i1), .second, .val (.long i2), .second, .val (.int i3), .val (.int i4), .val (.long (1 : Int64)), .second, .val (.ref b522), .val (.ref b558), .val (.ref b595), .val (.ref b648), .val (.ref b703), .val (.int (2 : Int32)), .val (.ref b558), .val (.ref b648), .val (.int (1 : Int32)), .val (.int (1 : Int32))] [(.int (1 : Int32))])
   refine k_if_eq X863 hx (hb hby at_170) (pn := 173) rfl (py := 187) (by decide) (fun hc => absurd hc (by decide)) (fun _ => ?_)
   refine k_iload X863 hx (hb hby at_173) rfl (pc' := 175) rfl ?_
   refine k_if_eq X863 hx (hb hby at_175) (pn := 178) rfl (py := 187) (by decide) (fun hc => absurd hc (by decide)) (fun _ => ?_)
   refine k_iload X863 hx (hb hby at_178) rfl (pc' := 180) rfl ?_
   refine k_if_eq X863 hx (hb hby at_180) (pn := 183) rfl (py := 187) (by decide) (fun hc => absurd hc (by decide)) (fun _ => ?_)
   refine k_iconst X863 hx (hb hby at_183) (pc' := 184) rfl (z := (1 : Int32)) rfl ?_
   refine k_goto X863 hx (hb hby at_184) (pc' := 188) (by decide) ?_
   exact k_retN X863 hx (t := .boolean) Bd.returns (by simp) (hb hby at_188) hlk (by decide) (by decide) (z' := (1 : Int32)) rfl ⟨rfl, N863'⟩
set_option maxRecDepth 65536 in
set_option maxHeartbeats 40000000 in
theorem comes_1 {Post : Tables → Env → Array Value → State → Outcome → State → Prop} (hpost : ∀ tb e args s v u, (limb_1_1.after args s (.returned v) u = true ∧ limb_1_2.after args s (.returned v) u = true ∧ True) → FrameEnd s (.returned v) u (Jvm.fieldLocs frame_1_writes args s ++ Jvm.arrayLocs frame_1_arrays args s ++ Jvm.staticLocs frame_1_statics s) 24 192 → Post tb e args s (.returned v) u) :
    ArmFor flags0 classFile x code maxLocals ret World_1 tables_1 room_1 Calls_1 rest_1 Pre_1 Post := by
  intro l hfl _ _ p e ha hc hk s m args below hf hA hF happ hP
  obtain ⟨hcalls, hrest, hpre⟩ := hP
  obtain ⟨-, -, -, hnamed, -, -, -, hat⟩ := (Spec.applies_iff hf).mp happ
  obtain ⟨hg, hn⟩ := and_e (Cond.before_iff.mp (show (Jvm.Cond.and given_1 narrow_1).before args s = true from hpre))
  obtain ⟨g864, g865⟩ := and_e hg
  obtain ⟨g866, g867⟩ := and_e g865
  obtain ⟨g868, g869⟩ := and_e g867
  obtain ⟨g870, g871⟩ := and_e g869
  obtain ⟨g872, g873⟩ := and_e g871
  obtain ⟨w0, w1, w2, w3, w4, rfl⟩ : ∃ w0 w1 w2 w3 w4 : Value, args = #[w0, w1, w2, w3, w4] := by
    have hs : args.size = 5 := by simpa [Cond.value, given_1] using g864
    obtain ⟨L⟩ := args
    match L, hs with
    | [w0, w1, w2, w3, w4], _ => exact ⟨w0, w1, w2, w3, w4, rfl⟩
  have hw := fun d (hd : d ∈ tables_1) => atoms_spec (ws := Jvm.Cond.code x code maxLocals ret :: tables_1) hat d (List.mem_cons_of_mem _ hd)
  obtain ⟨i0, ei0⟩ := isL_v g866
  obtain rfl : w0 = (.long i0) := Option.some.inj ei0
  obtain ⟨i1, ei1⟩ := isL_v g868
  obtain rfl : w1 = (.long i1) := Option.some.inj ei1
  obtain ⟨i2, ei2⟩ := isL_v g870
  obtain rfl : w2 = (.long i2) := Option.some.inj ei2
  obtain ⟨i3, ei3⟩ := is_v g872
  obtain rfl : w3 = (.int i3) := Option.some.inj ei3
  obtain ⟨i4, ei4⟩ := is_v g873
  obtain rfl : w4 = (.int i4) := Option.some.inj ei4
  obtain ⟨n, o, h1, h2, h3, _, L, rfl, ⟨rfl, N⟩, hq⟩ := rm0 l s _ hw tables_1 i0 i1 i2 i3 i4 s.heap s.heap.size (Nat.le_refl _) p e ha hc hk s m _ below hf ((Spec.applies_iff_loose hf).mp happ).1 ⟨rfl, State.Warmed39.refl s, rfl⟩ trivial
  refine ⟨n, _, h1, h2, h3, hpost _ _ _ _ _ _ ⟨Cond.after_iff.mpr rfl, Cond.after_iff.mpr (eq_i res_at (Term.int_eval (1)) rfl), trivial⟩ ⟨hq.1, hq.2.1, (hq.2.2.sift fun y hy => Or.inr (N y hy)).mono (by decide) (by decide)⟩⟩
theorem main_1_1 : Claimed_1_1 := comes_1 fun _ _ _ _ _ _ h hF => ⟨h.1, hF⟩
theorem main_1_2 : Claimed_1_2 := comes_1 fun _ _ _ _ _ _ h hF => ⟨h.2.1, hF⟩
end Jvm.Pilot.@@N@@
namespace Jvm.Pilot.@@N@@
open Jvm Jvm.ClassFile Sem Op Lib Jvm.Free Jvm.Stand Jvm.Pilot.@@N@@.Jvm.D
/-! MADE BY PROGRAM (witnessworld.py) out of the Statement's table words and the real class files: 11 classes; the members and pool entries that the words name. The judged class is class 1, her method 1. -/
namespace start1
open Jvm.ClassFile
def u (s : String) : CpInfo := .utf8 (stringToUtf16 s)
/-- a pool by its gaps: so many unusable entries, then the entry; so many at the end -/
def gap : Nat → List CpInfo → List CpInfo
  | 0, r => r
  | n + 1, r => .unusable :: gap n r
def poolList (es : List (Nat × CpInfo)) (last : Nat) : List CpInfo := es.foldr (fun e r => gap e.1 (e.2 :: r)) (gap last [])
def pool (es : List (Nat × CpInfo)) (last : Nat) : Array CpInfo := ⟨poolList es last⟩
def fileOf (pool : Array CpInfo) (this : Nat) (attrs : Array Attribute := #[]) (ms : Array MethodInfo := #[]) (fl : Nat := 33) (sup : Nat := 0) (ifs : Array Nat := #[]) (fds : Array FieldInfo := #[]) : ClassFile where
  minorVersion := 0
  majorVersion := 65
  constantPool := pool
  accessFlags := fl
  thisClass := this
  superClass := sup
  interfaces := ifs
  fields := fds
  methods := ms
  attributes := attrs
def plain (name : String) (sup : Option ClassId) : Class where
  name := name
  kind := .ordinary
  loader := none
  accessFlags := 33
  super := sup
  interfaces := #[]
  cf := none
  fields := #[]
  methods := #[]
  instanceTypes := #[]
  staticTypes := #[]
  resolved := #[]
  callSites := []
  init := .initialized
  statics := none
  mirror := none

def pool0 : Array CpInfo := pool [(5, u "<init>"), (0, u "()V"), (1, .class_ 10), (1, u "java/lang/Object")] 113

def k0m0 : Method := { name := "<init>", desc := "()V", sig := { parameters := [], returnType := none }, accessFlags := 1, code := none }
/-- java/lang/Object -/
def k0 : Class := { plain "java/lang/Object" none with
  accessFlags := 33
  interfaces := #[]
  cf := some (fileOf pool0 8 #[] #[{ accessFlags := 1, nameIndex := 5, descriptorIndex := 6, attributes := #[] }] 33 0 #[] #[])
  fields := #[]
  methods := #[k0m0]
  instanceTypes := #[]
  staticTypes := #[]
  resolved := Array.replicate 124 none
  statics := none }

def pool1 : Array CpInfo := pool [(2, .class_ 4), (1, u "java/lang/Object"), (0, u "<init>"), (0, u "()V"), (0, .methodref 8 9), (0, .class_ 10), (0, .nameAndType 11 12), (0, u "com/example/portcullis/portcullis/protocol/FieldSelectPinLaw"), (0, u "limbs"), (0, u "(JJ)[J"), (0, .long 18446744073709551615), (1, .integer 2147483647), (0, .methodref 17 18), (0, .class_ 19), (0, .nameAndType 20 21), (0, u "com/example/portcullis/portcullis/protocol/Field"), (0, u "select"), (0, u "([J[J[JJ)V"), (0, .methodref 8 23), (0, .nameAndType 24 25), (0, u "same"), (0, u "([J[J)Z"), (0, .long 2), (1, .long 3), (1, .long 4), (1, .long 5), (1, .long 6), (1, .long 7), (1, .long 8), (3, u "law"), (0, u "(JJJII)Z")] 5

def k1m0 : Method := { name := "<init>", desc := "()V", sig := { parameters := [], returnType := none }, accessFlags := 1, code := none }
def k1c1 : Code := { maxStack := 6, maxLocals := 20, code := code, exceptionTable := #[], attributes := #[] }
def k1m1 : Method := { name := "law", desc := "(JJJII)Z", sig := { parameters := [.long, .long, .long, .int, .int], returnType := some .boolean }, accessFlags := 9, code := some k1c1 }
def k1c2 : Code := { maxStack := 9, maxLocals := 4, code := method_3_code, exceptionTable := #[], attributes := #[] }
def k1m2 : Method := { name := "limbs", desc := "(JJ)[J", sig := { parameters := [.long, .long], returnType := some (.array .long) }, accessFlags := 10, code := some k1c2 }
def k1c3 : Code := { maxStack := 4, maxLocals := 2, code := method_4_code, exceptionTable := #[], attributes := #[] }
def k1m3 : Method := { name := "same", desc := "([J[J)Z", sig := { parameters := [(.array .long), (.array .long)], returnType := some .boolean }, accessFlags := 10, code := some k1c3 }
/-- com/example/portcullis/portcullis/protocol/FieldSelectPinLaw -/
def k1 : Class := { plain "com/example/portcullis/portcullis/protocol/FieldSelectPinLaw" (some 0) with
  accessFlags := 49
  interfaces := #[]
  cf := some (fileOf pool1 8 #[] #[{ accessFlags := 1, nameIndex := 5, descriptorIndex := 6, attributes := #[] }, { accessFlags := 9, nameIndex := 42, descriptorIndex := 43, attributes := #[] }, { accessFlags := 10, nameIndex := 11, descriptorIndex := 12, attributes := #[] }, { accessFlags := 10, nameIndex := 24, descriptorIndex := 25, attributes := #[] }] 49 2 #[] #[])
  fields := #[]
  methods := #[k1m0, k1m1, k1m2, k1m3]
  instanceTypes := #[]
  staticTypes := #[]
  resolved := Array.replicate 49 none
  statics := none }

def pool2 : Array CpInfo := pool [(1, .class_ 2), (0, u "com/example/portcullis/portcullis/protocol/Field"), (1, .class_ 6), (1, u "java/lang/Object"), (4, u "modulus"), (0, u "Ljava/math/BigInteger;"), (6, u "limbs"), (0, u "[J"), (8, u "twice"), (17, u "inverse"), (0, u "J"), (2, u "SPARSE_PRIME"), (6, u "sparse"), (0, u "Z"), (2, u "RADIX"), (8, u "radixSquared"), (2, u "one"), (12, u "inverter"), (0, u "[I"), (76, u "P"), (0, u "Lcom/example/portcullis/portcullis/protocol/Field;"), (8, u "N"), (0, u "LIMBS"), (0, u "I"), (2, u "BYTES"), (1, u "PACKED"), (1, u "BITS"), (1, u "MASK"), (13, u "select"), (0, u "([J[J[JJ)V")] 8

def k2c0 : Code := { maxStack := 8, maxLocals := 8, code := prog_3_method_12_code, exceptionTable := #[], attributes := #[] }
def k2m0 : Method := { name := "select", desc := "([J[J[JJ)V", sig := { parameters := [(.array .long), (.array .long), (.array .long), .long], returnType := none }, accessFlags := 8, code := some k2c0 }
/-- com/example/portcullis/portcullis/protocol/Field -/
def k2 : Class := { plain "com/example/portcullis/portcullis/protocol/Field" (some 0) with
  accessFlags := 48
  interfaces := #[]
  cf := some (fileOf pool2 1 #[] #[{ accessFlags := 8, nameIndex := 200, descriptorIndex := 201, attributes := #[] }] 48 4 #[] #[{ accessFlags := 24, nameIndex := 176, descriptorIndex := 177, attributes := #[] }, { accessFlags := 24, nameIndex := 180, descriptorIndex := 177, attributes := #[] }, { accessFlags := 24, nameIndex := 182, descriptorIndex := 177, attributes := #[] }, { accessFlags := 26, nameIndex := 184, descriptorIndex := 177, attributes := #[] }, { accessFlags := 26, nameIndex := 186, descriptorIndex := 48, attributes := #[] }, { accessFlags := 26, nameIndex := 62, descriptorIndex := 12, attributes := #[] }, { accessFlags := 26, nameIndex := 51, descriptorIndex := 12, attributes := #[] }, { accessFlags := 24, nameIndex := 165, descriptorIndex := 166, attributes := #[] }, { accessFlags := 24, nameIndex := 175, descriptorIndex := 166, attributes := #[] }, { accessFlags := 18, nameIndex := 11, descriptorIndex := 12, attributes := #[] }, { accessFlags := 18, nameIndex := 19, descriptorIndex := 20, attributes := #[] }, { accessFlags := 18, nameIndex := 29, descriptorIndex := 20, attributes := #[] }, { accessFlags := 18, nameIndex := 47, descriptorIndex := 48, attributes := #[] }, { accessFlags := 18, nameIndex := 58, descriptorIndex := 59, attributes := #[] }, { accessFlags := 18, nameIndex := 71, descriptorIndex := 20, attributes := #[] }, { accessFlags := 18, nameIndex := 74, descriptorIndex := 20, attributes := #[] }, { accessFlags := 18, nameIndex := 87, descriptorIndex := 88, attributes := #[] }])
  fields := #[{ name := "LIMBS", type := .int, accessFlags := 24, slot := 0, constantValue := 0 }, { name := "BYTES", type := .int, accessFlags := 24, slot := 1, constantValue := 0 }, { name := "PACKED", type := .int, accessFlags := 24, slot := 2, constantValue := 0 }, { name := "BITS", type := .int, accessFlags := 26, slot := 3, constantValue := 0 }, { name := "MASK", type := .long, accessFlags := 26, slot := 4, constantValue := 0 }, { name := "RADIX", type := (.object "java/math/BigInteger"), accessFlags := 26, slot := 5, constantValue := 0 }, { name := "SPARSE_PRIME", type := (.object "java/math/BigInteger"), accessFlags := 26, slot := 6, constantValue := 0 }, { name := "P", type := (.object "com/example/portcullis/portcullis/protocol/Field"), accessFlags := 24, slot := 7, constantValue := 0 }, { name := "N", type := (.object "com/example/portcullis/portcullis/protocol/Field"), accessFlags := 24, slot := 8, constantValue := 0 }, { name := "modulus", type := (.object "java/math/BigInteger"), accessFlags := 18, slot := 0, constantValue := 0 }, { name := "limbs", type := (.array .long), accessFlags := 18, slot := 1, constantValue := 0 }, { name := "twice", type := (.array .long), accessFlags := 18, slot := 2, constantValue := 0 }, { name := "inverse", type := .long, accessFlags := 18, slot := 3, constantValue := 0 }, { name := "sparse", type := .boolean, accessFlags := 18, slot := 4, constantValue := 0 }, { name := "radixSquared", type := (.array .long), accessFlags := 18, slot := 5, constantValue := 0 }, { name := "one", type := (.array .long), accessFlags := 18, slot := 6, constantValue := 0 }, { name := "inverter", type := (.array .int), accessFlags := 18, slot := 7, constantValue := 0 }]
  methods := #[k2m0]
  instanceTypes := #[(.object "java/math/BigInteger"), (.array .long), (.array .long), .long, .boolean, (.array .long), (.array .long), (.array .int)]
  staticTypes := #[.int, .int, .int, .int, .long, (.object "java/math/BigInteger"), (.object "java/math/BigInteger"), (.object "com/example/portcullis/portcullis/protocol/Field"), (.object "com/example/portcullis/portcullis/protocol/Field")]
  resolved := Array.replicate 210 none
  statics := none }

def pool3 : Array CpInfo := pool [(1, u "java/lang/Cloneable"), (0, .class_ 1), (0, u "java/lang/Object"), (0, .class_ 3)] 3

/-- java/lang/Cloneable -/
def k3 : Class := { plain "java/lang/Cloneable" (some 0) with
  accessFlags := 1537
  interfaces := #[]
  cf := some (fileOf pool3 2 #[] #[] 1537 4 #[] #[])
  fields := #[]
  methods := #[]
  instanceTypes := #[]
  staticTypes := #[]
  resolved := Array.replicate 8 none
  statics := none }

def pool4 : Array CpInfo := pool [(1, u "java/io/Serializable"), (0, .class_ 1), (0, u "java/lang/Object"), (0, .class_ 3)] 3

/-- java/io/Serializable -/
def k4 : Class := { plain "java/io/Serializable" (some 0) with
  accessFlags := 1537
  interfaces := #[]
  cf := some (fileOf pool4 2 #[] #[] 1537 4 #[] #[])
  fields := #[]
  methods := #[]
  instanceTypes := #[]
  staticTypes := #[]
  resolved := Array.replicate 8 none
  statics := none }

/-- the primitive byte -/
def k5 : Class := { plain "byte" none with kind := .primitive 'B', accessFlags := 0x411 }
/-- [B -/
def k6 : Class := { plain "[B" (some 0) with kind := .array 5 .byte, interfaces := #[3, 4], accessFlags := 1041 }

/-- the primitive int -/
def k7 : Class := { plain "int" none with kind := .primitive 'I', accessFlags := 0x411 }
/-- [I -/
def k8 : Class := { plain "[I" (some 0) with kind := .array 7 .int, interfaces := #[3, 4], accessFlags := 1041 }

/-- the primitive long -/
def k9 : Class := { plain "long" none with kind := .primitive 'J', accessFlags := 0x411 }
/-- [J -/
def k10 : Class := { plain "[J" (some 0) with kind := .array 9 .long, interfaces := #[3, 4], accessFlags := 1041 }

def heap : Heap := #[]
def classes : Array Class := #[k0, k1, k2, k3, k4, k5, k6, k7, k8, k9, k10]
def interned : List (Array UInt16 × Addr) := []
def slotsUsed : Nat := 0
def theMethod : MethodId := ⟨1, 1⟩
def args0 : Array Value := #[.long 5, .long 7, .long 1, .int 3, .int 2]
def aboutOver (below : List Frame) : State where
  vm := { classes := classes, interned := interned.toArray }
  heap := heap
  slotsUsed := slotsUsed
  threads := #[{ frames := .invoking theMethod args0 :: below }]
def below0 : List Frame := [.native { method := ⟨0, 0⟩, args := #[] }]
def about1 : State := aboutOver below0
def p0 : Program := .bare "" "" ""
def e0 : Env := launch0.env 0 0 0
theorem w_frames : about1.frames = Frame.invoking theMethod args0 :: below0 := rfl
set_option maxRecDepth 65536 in
theorem w_args : argsFit about1.vm theMethod args0 = true := by decide +kernel
set_option maxRecDepth 65536 in
theorem w_heap : heapFits about1 = true := by decide +kernel
set_option maxRecDepth 65536 in
theorem w_runnable : about1.curStatus? = some .runnable := by decide +kernel
set_option maxRecDepth 65536 in
theorem w_alone : about1.alone = true := by decide +kernel
set_option maxRecDepth 65536 in
theorem w_named : about1.methodNamed? x = some theMethod := by decide +kernel
set_option maxRecDepth 65536 in
theorem w_hears : about1.hears theMethod below0 = true := by decide +kernel
set_option maxRecDepth 65536 in
theorem w_ripe : about1.ripe theMethod args0 below0 = true := by decide +kernel
theorem w_running : about1.status = .running := rfl
set_option maxRecDepth 65536 in
theorem w_room : about1.hasRoom e0.platform room_1 = true :=
  launch0.hasRoom_least _ room_1 (by decide +kernel) (by decide +kernel) (by decide +kernel) (by decide +kernel) (by decide +kernel) (by decide +kernel)
theorem allAtoms_all (ts : List Jvm.Cond) (a : Array Jvm.Value) (st : Jvm.State) : (allAtoms ts).before a st = ts.all (fun c => c.before a st) := by
  induction ts with
  | nil => rfl
  | cons c t ih =>
    show (Jvm.Cond.and c (allAtoms t)).before a st = _
    rw [Jvm.Cond.before_and, ih, List.all_cons]
def words1 : List Jvm.Cond := Jvm.Cond.code x code maxLocals ret :: tables_1
/-- a 'code' word, met by the world's own term for the bytes: nothing is compared byte by byte -/
theorem code_word {y : MethodName} {bytes : ByteArray} {mx : Nat} {rt : Option FieldType} {a : Array Value} {s : State} {m : MethodId} {meth : Method} {c : Code} (h1 : s.methodNamed? y = some m) (h2 : s.vm.method? m = some meth) (h3 : meth.code = some c) (h4 : c.code = bytes)
    (h5 : (c.maxLocals == mx && c.exceptionTable.isEmpty && decide (c.maxStack ≤ mostOperands) && decide (meth.sig.returnType = rt) && !meth.locks && decide (parseMethodDescriptor y.desc = some meth.sig)) = true) : (Jvm.Cond.code y bytes mx rt).before a s = true := by
  simp only [Bool.and_eq_true, beq_iff_eq, Bool.not_eq_true', decide_eq_true_eq] at h5
  obtain ⟨⟨⟨⟨⟨g1, g2⟩, g3⟩, g4⟩, g5⟩, g6⟩ := h5
  simp [Cond.before, Cond.holds, Cond.value, h1, h2, h3, h4, g1, g2, g3, g4, g5, g6]
def isCode : Jvm.Cond → Bool
  | .code _ _ _ _ => true
  | _ => false
theorem all_split {L : List Jvm.Cond} {P : Jvm.Cond → Bool} (h1 : L.all (fun c => isCode c || P c) = true) (h2 : ∀ c ∈ L.filter isCode, P c = true) : L.all P = true := by
  refine List.all_eq_true.mpr fun c hc => ?_
  have h := List.all_eq_true.mp h1 c hc
  rcases Bool.eq_false_or_eq_true (isCode c) with hi | hi
  · exact h2 c (List.mem_filter.mpr ⟨hc, hi⟩)
  · simpa [hi] using h
set_option maxRecDepth 65536 in
theorem w_c0 : (Jvm.Cond.code x code maxLocals ret).before args0 about1 = true := code_word (m := ⟨1, 1⟩) (meth := k1m1) (c := k1c1) (by decide +kernel) rfl rfl rfl (by decide +kernel)
set_option maxRecDepth 65536 in
theorem w_c1 : (Jvm.Cond.code ({ cls := "com/example/portcullis/portcullis/protocol/FieldSelectPinLaw", name := "limbs", desc := "(JJ)[J" } : Jvm.MethodName) method_3_code (4 : Nat) (Option.some (Jvm.ClassFile.FieldType.array Jvm.ClassFile.FieldType.long))).before args0 about1 = true := code_word (m := ⟨1, 2⟩) (meth := k1m2) (c := k1c2) (by decide +kernel) rfl rfl rfl (by decide +kernel)
set_option maxRecDepth 65536 in
theorem w_c2 : (Jvm.Cond.code ({ cls := "com/example/portcullis/portcullis/protocol/Field", name := "select", desc := "([J[J[JJ)V" } : Jvm.MethodName) prog_3_method_12_code (8 : Nat) (Option.none : Option Jvm.ClassFile.FieldType)).before args0 about1 = true := code_word (m := ⟨2, 0⟩) (meth := k2m0) (c := k2c0) (by decide +kernel) rfl rfl rfl (by decide +kernel)
set_option maxRecDepth 65536 in
theorem w_c3 : (Jvm.Cond.code ({ cls := "com/example/portcullis/portcullis/protocol/FieldSelectPinLaw", name := "same", desc := "([J[J)Z" } : Jvm.MethodName) method_4_code (2 : Nat) (Option.some Jvm.ClassFile.FieldType.boolean)).before args0 about1 = true := code_word (m := ⟨1, 3⟩) (meth := k1m3) (c := k1c3) (by decide +kernel) rfl rfl rfl (by decide +kernel)
def codes1 : List Jvm.Cond := [Jvm.Cond.code x code maxLocals ret, Jvm.Cond.code ({ cls := "com/example/portcullis/portcullis/protocol/FieldSelectPinLaw", name := "limbs", desc := "(JJ)[J" } : Jvm.MethodName) method_3_code (4 : Nat) (Option.some (Jvm.ClassFile.FieldType.array Jvm.ClassFile.FieldType.long)), Jvm.Cond.code ({ cls := "com/example/portcullis/portcullis/protocol/Field", name := "select", desc := "([J[J[JJ)V" } : Jvm.MethodName) prog_3_method_12_code (8 : Nat) (Option.none : Option Jvm.ClassFile.FieldType), Jvm.Cond.code ({ cls := "com/example/portcullis/portcullis/protocol/FieldSelectPinLaw", name := "same", desc := "([J[J)Z" } : Jvm.MethodName) method_4_code (2 : Nat) (Option.some Jvm.ClassFile.FieldType.boolean)]
set_option maxRecDepth 65536 in
theorem codes_eq : words1.filter isCode = codes1 := rfl
theorem w_codes : ∀ c ∈ words1.filter isCode, c.before args0 about1 = true := by
  rw [codes_eq]
  intro c hc
  simp only [codes1, List.mem_cons, List.not_mem_nil, or_false] at hc
  rcases hc with rfl | rfl | rfl | rfl
  · exact w_c0
  · exact w_c1
  · exact w_c2
  · exact w_c3
set_option maxRecDepth 65536 in
theorem w_t1 : words1.all (fun c => isCode c || c.before args0 about1) = true := by decide +kernel
theorem w_tables : (allAtoms (Jvm.Cond.code x code maxLocals ret :: tables_1)).before args0 about1 = true := by
  rw [allAtoms_all]
  show words1.all (fun c => c.before args0 about1) = true
  refine all_split ?_ w_codes
  rw [w_t1]
set_option maxRecDepth 65536 in
theorem w_case : (Jvm.Cond.and given_1 narrow_1).before args0 about1 = true := by decide +kernel
theorem w_applies : (headSpec (Jvm.Cond.code x code maxLocals ret :: tables_1) room_1).applies x e0.platform about1 = true :=
  (Spec.applies_iff w_frames).mpr ⟨w_running, w_runnable, w_alone, w_named, w_hears, w_ripe, w_room, w_tables⟩
theorem atStart : AtStart classFile x code maxLocals ret World_1 tables_1 room_1 Calls_1 rest_1 Pre_1 launch0 p0 e0 about1 theMethod args0 below0 :=
  ⟨lists_1, trivial, launch0.admits_env _ _ _, launch0.least_env, fairChoices_fair.cas, fairChoices_fair.clock, w_frames, w_args, w_heap, w_applies, trivial, trivial, w_case⟩
end start1
theorem witness_1 : WitnessClaimed_1 := ⟨start1.p0, start1.e0, start1.about1, start1.theMethod, start1.args0, start1.below0, start1.atStart⟩
end Jvm.Pilot.@@N@@
