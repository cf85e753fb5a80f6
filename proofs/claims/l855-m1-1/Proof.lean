import JvmDerived
import JvmDerived.Pilot.@@N@@Statement
import JvmDerived.Pilot.@@N@@Code
set_option linter.unusedVariables false
set_option linter.unusedSimpArgs false
namespace Jvm.OwnK
open Sem ClassFile Op Lib Jvm.Stand Jvm.Free Jvm.LawKit Jvm.RoadKit
section
variable {p : Program} {l : Launch} {e : Env} {R : Room} {s : State} {m : MethodId} {args : Array Value} {below : List Frame} {meth : Method} {c : Code} {T : State} {locs : List Loc} {cells slots : Nat} {Cn Sn : Nat} {Q : Option Value → Heap → List Loc → Prop}
/-- from the frame f the run comes to an end that Q takes -/
def KEnds (p : Program) (e : Env) (below : List Frame) (s : State) (Cn Sn : Nat) (Q : Option Value → Heap → List Loc → Prop) (T : State) (f : JFrame) : Prop :=
  ∃ s₂ o, Steps p.tables e below (T.setTop f) s₂ ∧ s₂.status = .running ∧ Ended s₂ below o ∧ ∃ v L, o = .returned v ∧ Q v s₂.heap L ∧ FrameEnd s o s₂ L Cn Sn
theorem k_via {T' : State} {f f' : JFrame} (st : ∀ t, Steps p.tables e below (T'.setTop f') t → Steps p.tables e below (T.setTop f) t) (k : KEnds p e below s Cn Sn Q T' f') : KEnds p e below s Cn Sn Q T f := by
  obtain ⟨s₂, o, h, r⟩ := k
  exact ⟨s₂, o, st _ h, r⟩
theorem k_iloadN (X : Stand p l e R s m args below meth c T locs cells slots) (hx : p.tables.exec = Jvm.exec) {pc pc' : Nat} {Ls : Array Slot} {St : List Value} {i : Fin 4} {v : Int32} (hd : decode c.code pc = .ok (.iload_n i, 1)) (hl : Ls[i.val]? = some (.val (.int v))) (hpc : pc + 1 = pc') (k : KEnds p e below s Cn Sn Q T (mkF m pc' Ls (.int v :: St))) : KEnds p e below s Cn Sn Q T (mkF m pc Ls (St)) := by
  subst hpc; exact k_via (fun t h => XS.iloadN X.here hx rfl hd hl h) k
theorem k_iload (X : Stand p l e R s m args below meth c T locs cells slots) (hx : p.tables.exec = Jvm.exec) {pc pc' : Nat} {Ls : Array Slot} {St : List Value} {i : Nat} {v : Int32} (hd : decode c.code pc = .ok (.iload i, 2)) (hl : Ls[i]? = some (.val (.int v))) (hpc : pc + 2 = pc') (k : KEnds p e below s Cn Sn Q T (mkF m pc' Ls (.int v :: St))) : KEnds p e below s Cn Sn Q T (mkF m pc Ls (St)) := by
  subst hpc; exact k_via (fun t h => XS.iload X.here hx rfl hd hl h) k
theorem k_istoreN (X : Stand p l e R s m args below meth c T locs cells slots) (hx : p.tables.exec = Jvm.exec) {pc pc' : Nat} {Ls : Array Slot} {St : List Value} {i : Fin 4} {v : Int32} {Ls' : Array Slot} (hd : decode c.code pc = .ok (.istore_n i, 1)) (hl : storeLocals Ls i.val (.int v) = some Ls') (hpc : pc + 1 = pc') (k : KEnds p e below s Cn Sn Q T (mkF m pc' Ls' (St))) : KEnds p e below s Cn Sn Q T (mkF m pc Ls (.int v :: St)) := by
  subst hpc; exact k_via (fun t h => XS.istoreN X.here hx rfl hd rfl hl h) k
theorem k_istore (X : Stand p l e R s m args below meth c T locs cells slots) (hx : p.tables.exec = Jvm.exec) {pc pc' : Nat} {Ls : Array Slot} {St : List Value} {i : Nat} {v : Int32} {Ls' : Array Slot} (hd : decode c.code pc = .ok (.istore i, 2)) (hl : storeLocals Ls i (.int v) = some Ls') (hpc : pc + 2 = pc') (k : KEnds p e below s Cn Sn Q T (mkF m pc' Ls' (St))) : KEnds p e below s Cn Sn Q T (mkF m pc Ls (.int v :: St)) := by
  subst hpc; exact k_via (fun t h => XS.istore X.here hx rfl hd rfl hl h) k
theorem k_lloadN (X : Stand p l e R s m args below meth c T locs cells slots) (hx : p.tables.exec = Jvm.exec) {pc pc' : Nat} {Ls : Array Slot} {St : List Value} {i : Fin 4} {v : Int64} (hd : decode c.code pc = .ok (.lload_n i, 1)) (hl : Ls[i.val]? = some (.val (.long v))) (hpc : pc + 1 = pc') (k : KEnds p e below s Cn Sn Q T (mkF m pc' Ls (.long v :: St))) : KEnds p e below s Cn Sn Q T (mkF m pc Ls (St)) := by
  subst hpc; exact k_via (fun t h => XS.lloadN X.here hx rfl hd hl h) k
theorem k_lload (X : Stand p l e R s m args below meth c T locs cells slots) (hx : p.tables.exec = Jvm.exec) {pc pc' : Nat} {Ls : Array Slot} {St : List Value} {i : Nat} {v : Int64} (hd : decode c.code pc = .ok (.lload i, 2)) (hl : Ls[i]? = some (.val (.long v))) (hpc : pc + 2 = pc') (k : KEnds p e below s Cn Sn Q T (mkF m pc' Ls (.long v :: St))) : KEnds p e below s Cn Sn Q T (mkF m pc Ls (St)) := by
  subst hpc; exact k_via (fun t h => XS.lload X.here hx rfl hd hl h) k
theorem k_lstore (X : Stand p l e R s m args below meth c T locs cells slots) (hx : p.tables.exec = Jvm.exec) {pc pc' : Nat} {Ls : Array Slot} {St : List Value} {i : Nat} {v : Int64} {Ls' : Array Slot} (hd : decode c.code pc = .ok (.lstore i, 2)) (hl : storeLocals Ls i (.long v) = some Ls') (hpc : pc + 2 = pc') (k : KEnds p e below s Cn Sn Q T (mkF m pc' Ls' (St))) : KEnds p e below s Cn Sn Q T (mkF m pc Ls (.long v :: St)) := by
  subst hpc; exact k_via (fun t h => XS.lstore X.here hx rfl hd rfl hl h) k
theorem k_aloadN (X : Stand p l e R s m args below meth c T locs cells slots) (hx : p.tables.exec = Jvm.exec) {pc pc' : Nat} {Ls : Array Slot} {St : List Value} {i : Fin 4} {v : Value} (hd : decode c.code pc = .ok (.aload_n i, 1)) (hl : Ls[i.val]? = some (.val v)) (hv : v.isRef = true) (hpc : pc + 1 = pc') (k : KEnds p e below s Cn Sn Q T (mkF m pc' Ls (v :: St))) : KEnds p e below s Cn Sn Q T (mkF m pc Ls (St)) := by
  subst hpc; exact k_via (fun t h => XS.aloadN X.here hx rfl hd hl hv h) k
theorem k_aload (X : Stand p l e R s m args below meth c T locs cells slots) (hx : p.tables.exec = Jvm.exec) {pc pc' : Nat} {Ls : Array Slot} {St : List Value} {i : Nat} {v : Value} (hd : decode c.code pc = .ok (.aload i, 2)) (hl : Ls[i]? = some (.val v)) (hv : v.isRef = true) (hpc : pc + 2 = pc') (k : KEnds p e below s Cn Sn Q T (mkF m pc' Ls (v :: St))) : KEnds p e below s Cn Sn Q T (mkF m pc Ls (St)) := by
  subst hpc; exact k_via (fun t h => XS.aload X.here hx rfl hd hl hv h) k
theorem k_astore (X : Stand p l e R s m args below meth c T locs cells slots) (hx : p.tables.exec = Jvm.exec) {pc pc' : Nat} {Ls : Array Slot} {St : List Value} {i : Nat} {v : Value} {Ls' : Array Slot} (hd : decode c.code pc = .ok (.astore i, 2)) (hv : v.isRef = true) (hl : storeLocals Ls i v = some Ls') (hpc : pc + 2 = pc') (k : KEnds p e below s Cn Sn Q T (mkF m pc' Ls' (St))) : KEnds p e below s Cn Sn Q T (mkF m pc Ls (v :: St)) := by
  subst hpc; exact k_via (fun t h => XS.astore X.here hx rfl hd rfl hv hl h) k
theorem k_iconst (X : Stand p l e R s m args below meth c T locs cells slots) (hx : p.tables.exec = Jvm.exec) {pc pc' : Nat} {Ls : Array Slot} {St : List Value} {i : Int} {z : Int32} (hd : decode c.code pc = .ok (.iconst i, 1)) (hpc : pc + 1 = pc') (hz : Int32.ofInt i = z) (k : KEnds p e below s Cn Sn Q T (mkF m pc' Ls (.int z :: St))) : KEnds p e below s Cn Sn Q T (mkF m pc Ls St) := by
  subst hpc hz; exact k_via (fun t h => XS.iconst X.here hx rfl hd h) k
theorem k_bipush (X : Stand p l e R s m args below meth c T locs cells slots) (hx : p.tables.exec = Jvm.exec) {pc pc' : Nat} {Ls : Array Slot} {St : List Value} {i : Int} {z : Int32} (hd : decode c.code pc = .ok (.bipush i, 2)) (hpc : pc + 2 = pc') (hz : (Int8.ofInt i).toInt32 = z) (k : KEnds p e below s Cn Sn Q T (mkF m pc' Ls (.int z :: St))) : KEnds p e below s Cn Sn Q T (mkF m pc Ls St) := by
  subst hpc hz; exact k_via (fun t h => XS.bipush X.here hx rfl hd h) k
theorem k_lconst (X : Stand p l e R s m args below meth c T locs cells slots) (hx : p.tables.exec = Jvm.exec) {pc pc' : Nat} {Ls : Array Slot} {St : List Value} {i : Fin 2} {z : Int64} (hd : decode c.code pc = .ok (.lconst i, 1)) (hpc : pc + 1 = pc') (hz : Int64.ofNat i = z) (k : KEnds p e below s Cn Sn Q T (mkF m pc' Ls (.long z :: St))) : KEnds p e below s Cn Sn Q T (mkF m pc Ls St) := by
  subst hpc hz; exact k_via (fun t h => XS.lconst X.here hx rfl hd h) k
theorem k_iaddL (X : Stand p l e R s m args below meth c T locs cells slots) (hx : p.tables.exec = Jvm.exec) {pc pc' : Nat} {Ls : Array Slot} {St : List Value} {x y : Int32} {z : Int32} (hd : decode c.code pc = .ok (.iadd, 1))  (hpc : pc + 1 = pc') (hz : x + y = z) (k : KEnds p e below s Cn Sn Q T (mkF m pc' Ls (.int z :: St))) : KEnds p e below s Cn Sn Q T (mkF m pc Ls (.int y :: .int x :: St)) := by
  subst hpc hz; exact k_via (fun t h => XS.iadd X.here hx rfl hd rfl h) k
theorem k_imulL (X : Stand p l e R s m args below meth c T locs cells slots) (hx : p.tables.exec = Jvm.exec) {pc pc' : Nat} {Ls : Array Slot} {St : List Value} {x y : Int32} {z : Int32} (hd : decode c.code pc = .ok (.imul, 1))  (hpc : pc + 1 = pc') (hz : x * y = z) (k : KEnds p e below s Cn Sn Q T (mkF m pc' Ls (.int z :: St))) : KEnds p e below s Cn Sn Q T (mkF m pc Ls (.int y :: .int x :: St)) := by
  subst hpc hz; exact k_via (fun t h => XS.imul X.here hx rfl hd rfl h) k
theorem k_iand (X : Stand p l e R s m args below meth c T locs cells slots) (hx : p.tables.exec = Jvm.exec) {pc pc' : Nat} {Ls : Array Slot} {St : List Value} {x y : Int32} (hd : decode c.code pc = .ok (.iand, 1))  (hpc : pc + 1 = pc') (k : ∀ z : Int32, z = x &&& y → KEnds p e below s Cn Sn Q T (mkF m pc' Ls (.int z :: St))) : KEnds p e below s Cn Sn Q T (mkF m pc Ls (.int y :: .int x :: St)) := by
  subst hpc; exact k_via (fun t h => XS.iand X.here hx rfl hd rfl h) (k _ rfl)
theorem k_landL (X : Stand p l e R s m args below meth c T locs cells slots) (hx : p.tables.exec = Jvm.exec) {pc pc' : Nat} {Ls : Array Slot} {St : List Value} {x y : Int64} {z : Int64} (hd : decode c.code pc = .ok (.land, 1))  (hpc : pc + 1 = pc') (hz : x &&& y = z) (k : KEnds p e below s Cn Sn Q T (mkF m pc' Ls (.long z :: St))) : KEnds p e below s Cn Sn Q T (mkF m pc Ls (.long y :: .long x :: St)) := by
  subst hpc hz; exact k_via (fun t h => XS.land X.here hx rfl hd rfl h) k
theorem k_land (X : Stand p l e R s m args below meth c T locs cells slots) (hx : p.tables.exec = Jvm.exec) {pc pc' : Nat} {Ls : Array Slot} {St : List Value} {x y : Int64} (hd : decode c.code pc = .ok (.land, 1))  (hpc : pc + 1 = pc') (k : ∀ z : Int64, z = x &&& y → KEnds p e below s Cn Sn Q T (mkF m pc' Ls (.long z :: St))) : KEnds p e below s Cn Sn Q T (mkF m pc Ls (.long y :: .long x :: St)) := by
  subst hpc; exact k_via (fun t h => XS.land X.here hx rfl hd rfl h) (k _ rfl)
theorem k_lor (X : Stand p l e R s m args below meth c T locs cells slots) (hx : p.tables.exec = Jvm.exec) {pc pc' : Nat} {Ls : Array Slot} {St : List Value} {x y : Int64} (hd : decode c.code pc = .ok (.lor, 1))  (hpc : pc + 1 = pc') (k : ∀ z : Int64, z = x ||| y → KEnds p e below s Cn Sn Q T (mkF m pc' Ls (.long z :: St))) : KEnds p e below s Cn Sn Q T (mkF m pc Ls (.long y :: .long x :: St)) := by
  subst hpc; exact k_via (fun t h => XS.lor X.here hx rfl hd rfl h) (k _ rfl)
theorem k_lshl (X : Stand p l e R s m args below meth c T locs cells slots) (hx : p.tables.exec = Jvm.exec) {pc pc' : Nat} {Ls : Array Slot} {St : List Value} {x : Int64} {y : Int32} (hd : decode c.code pc = .ok (.lshl, 1))  (hpc : pc + 1 = pc') (k : ∀ z : Int64, z = x <<< (y &&& 0x3f).toInt64 → KEnds p e below s Cn Sn Q T (mkF m pc' Ls (.long z :: St))) : KEnds p e below s Cn Sn Q T (mkF m pc Ls (.int y :: .long x :: St)) := by
  subst hpc; exact k_via (fun t h => XS.lshl X.here hx rfl hd rfl h) (k _ rfl)
theorem k_lushr (X : Stand p l e R s m args below meth c T locs cells slots) (hx : p.tables.exec = Jvm.exec) {pc pc' : Nat} {Ls : Array Slot} {St : List Value} {x : Int64} {y : Int32} (hd : decode c.code pc = .ok (.lushr, 1))  (hpc : pc + 1 = pc') (k : ∀ z : Int64, z = ((x.toUInt64 >>> (y &&& 0x3f).toInt64.toUInt64).toInt64) → KEnds p e below s Cn Sn Q T (mkF m pc' Ls (.long z :: St))) : KEnds p e below s Cn Sn Q T (mkF m pc Ls (.int y :: .long x :: St)) := by
  subst hpc; exact k_via (fun t h => XS.lushr X.here hx rfl hd rfl h) (k _ rfl)
theorem k_irem (X : Stand p l e R s m args below meth c T locs cells slots) (hx : p.tables.exec = Jvm.exec) {pc pc' : Nat} {Ls : Array Slot} {St : List Value} {x y : Int32} (hd : decode c.code pc = .ok (.irem, 1)) (hy : y ≠ 0) (hpc : pc + 1 = pc') (k : ∀ z : Int32, z = x % y → KEnds p e below s Cn Sn Q T (mkF m pc' Ls (.int z :: St))) : KEnds p e below s Cn Sn Q T (mkF m pc Ls (.int y :: .int x :: St)) := by
  subst hpc; exact k_via (fun t h => iremM X hx rfl hd rfl hy h) (k _ rfl)
theorem k_iinc (X : Stand p l e R s m args below meth c T locs cells slots) (hx : p.tables.exec = Jvm.exec) {pc pc' : Nat} {Ls : Array Slot} {St : List Value} {i : Nat} {cst : Int} {x z : Int32} {Ls' : Array Slot} (hd : decode c.code pc = .ok (.iinc i cst, 3)) (hl : Ls[i]? = some (.val (.int x))) (hpc : pc + 3 = pc') (hz : x + Int32.ofInt cst = z) (hl' : storeLocals Ls i (.int z) = some Ls') (k : KEnds p e below s Cn Sn Q T (mkF m pc' Ls' St)) : KEnds p e below s Cn Sn Q T (mkF m pc Ls St) := by
  subst hpc hz; exact k_via (fun t h => XS.iinc X.here hx rfl hd hl hl' h) k
theorem k_goto (X : Stand p l e R s m args below meth c T locs cells slots) (hx : p.tables.exec = Jvm.exec) {pc pc' : Nat} {Ls : Array Slot} {St : List Value} {o : Int} (hd : decode c.code pc = .ok (.goto o, 3)) (hp : (pc : Int) + o = (pc' : Int)) (k : KEnds p e below s Cn Sn Q T (mkF m pc' Ls St)) : KEnds p e below s Cn Sn Q T (mkF m pc Ls St) :=
  k_via (fun t h => XS.goto X.here hx rfl (pc0 := pc) rfl hd (by omega) (by omega) h) k
theorem k_icmp_ge (X : Stand p l e R s m args below meth c T locs cells slots) (hx : p.tables.exec = Jvm.exec) {pc pn py : Nat} {Ls : Array Slot} {St : List Value} {x y : Int32} {o : Int} (hd : decode c.code pc = .ok (.if_icmp .ge o, 3)) (hn : pc + 3 = pn) (hp : (pc : Int) + o = (py : Int)) (ky : ¬ x < y → KEnds p e below s Cn Sn Q T (mkF m py Ls St)) (kn : x < y → KEnds p e below s Cn Sn Q T (mkF m pn Ls St)) : KEnds p e below s Cn Sn Q T (mkF m pc Ls (.int y :: .int x :: St)) := by
  subst hn
  by_cases hc : x < y
  · exact k_via (fun t h => XS.icmpNo X.here hx rfl hd rfl (tlt hc).2.1 h) (kn hc)
  · exact k_via (fun t h => XS.icmpYes X.here hx rfl (pc0 := pc) rfl hd rfl (flt hc).2.1 (by omega) (by omega) h) (ky hc)
theorem k_if_eq (X : Stand p l e R s m args below meth c T locs cells slots) (hx : p.tables.exec = Jvm.exec) {pc pn py : Nat} {Ls : Array Slot} {St : List Value} {x : Int32} {o : Int} (hd : decode c.code pc = .ok (.ifCond .eq o, 3)) (hn : pc + 3 = pn) (hp : (pc : Int) + o = (py : Int)) (ky : x = (0 : Int32) → KEnds p e below s Cn Sn Q T (mkF m py Ls St)) (kn : ¬ x = (0 : Int32) → KEnds p e below s Cn Sn Q T (mkF m pn Ls St)) : KEnds p e below s Cn Sn Q T (mkF m pc Ls (.int x :: St)) := by
  subst hn
  by_cases hc : x = (0 : Int32)
  · exact k_via (fun t h => XS.ifYes X.here hx rfl (pc0 := pc) rfl hd rfl ((if0 _ _).trans (teq hc).1) (by omega) (by omega) h) (ky hc)
  · exact k_via (fun t h => XS.ifNo X.here hx rfl hd rfl ((if0 _ _).trans (feq hc).1) h) (kn hc)
theorem k_if_ne (X : Stand p l e R s m args below meth c T locs cells slots) (hx : p.tables.exec = Jvm.exec) {pc pn py : Nat} {Ls : Array Slot} {St : List Value} {x : Int32} {o : Int} (hd : decode c.code pc = .ok (.ifCond .ne o, 3)) (hn : pc + 3 = pn) (hp : (pc : Int) + o = (py : Int)) (ky : ¬ x = (0 : Int32) → KEnds p e below s Cn Sn Q T (mkF m py Ls St)) (kn : x = (0 : Int32) → KEnds p e below s Cn Sn Q T (mkF m pn Ls St)) : KEnds p e below s Cn Sn Q T (mkF m pc Ls (.int x :: St)) := by
  subst hn
  by_cases hc : x = (0 : Int32)
  · exact k_via (fun t h => XS.ifNo X.here hx rfl hd rfl ((if0 _ _).trans (teq hc).2) h) (kn hc)
  · exact k_via (fun t h => XS.ifYes X.here hx rfl (pc0 := pc) rfl hd rfl ((if0 _ _).trans (feq hc).2) (by omega) (by omega) h) (ky hc)
theorem k_lcif_ne (X : Stand p l e R s m args below meth c T locs cells slots) (hx : p.tables.exec = Jvm.exec) {pc pn py : Nat} {Ls : Array Slot} {St : List Value} {x y : Int64} {o : Int} {pm : Nat} (hd0 : decode c.code pc = .ok (.lcmp, 1)) (hm : pc + 1 = pm) (hd : decode c.code pm = .ok (.ifCond .ne o, 3)) (hn : pm + 3 = pn) (hp : (pm : Int) + o = (py : Int)) (ky : ¬ x = y → KEnds p e below s Cn Sn Q T (mkF m py Ls St)) (kn : x = y → KEnds p e below s Cn Sn Q T (mkF m pn Ls St)) : KEnds p e below s Cn Sn Q T (mkF m pc Ls (.long y :: .long x :: St)) := by
  subst hm
  have F := k_if_ne (Q := Q) (Cn := Cn) (Sn := Sn) (Ls := Ls) (St := St) (x := lcmpW x y) X hx hd hn hp (fun hc => ky (fun q => hc ((lw_eq x y).mpr q))) (fun hc => kn ((lw_eq x y).mp hc))
  exact k_via (fun t h => XS.lcmp X.here hx rfl hd0 rfl h) F
theorem k_retN (X : Stand p l e R s m args below meth c T locs cells slots) (hx : p.tables.exec = Jvm.exec) {pc : Nat} {Ls : Array Slot} {St : List Value} {t : FieldType} {z z' : Int32} (hret : meth.sig.returnType = some t) (ht : t = .boolean ∨ t = .byte ∨ t = .char ∨ t = .short) (hd : decode c.code pc = .ok (.ireturn, 1)) (hlk : meth.locks = false) (hC : cells ≤ Cn) (hS : slots ≤ Sn) (hz : nar t z = z') (q : Q (some (.int z')) T.heap locs) : KEnds p e below s Cn Sn Q T (mkF m pc Ls (.int z :: St)) := by
  subst hz
  obtain ⟨fs, hr, hrun, hended, hW, hsame⟩ := X.leave (v := some (.int (nar t z))) (fun h => by rw [hret] at h; cases h) hlk
  exact ⟨_, _, retN X hx hret ht hd hr, hrun, hended, _, _, rfl, q, ⟨_, rfl⟩, hW, hsame.mono hC hS⟩
theorem k_ret (X : Stand p l e R s m args below meth c T locs cells slots) (hx : p.tables.exec = Jvm.exec) {pc : Nat} {Ls : Array Slot} (hret : meth.sig.returnType = none) (hd : decode c.code pc = .ok (.return_, 1)) (hlk : meth.locks = false) (hC : cells ≤ Cn) (hS : slots ≤ Sn) (q : Q none T.heap locs) : KEnds p e below s Cn Sn Q T (mkF m pc Ls []) := by
  obtain ⟨fs, hr, hrun, hended, hW, hsame⟩ := X.leave (v := none) (fun _ => rfl) hlk
  exact ⟨_, _, X.returnOut hx hret hd hr, hrun, hended, _, _, rfl, q, ⟨_, rfl⟩, hW, hsame.mono hC hS⟩
variable {Z : State} {a0 : Array Value} {h : Heap} {own : String}
theorem k_ldc (X : Stand p l e R s m args below meth c T locs cells slots) (hx : p.tables.exec = Jvm.exec) (hZ : Z.Warmed39 s.vm) (hown : s.vm.findClass own = some m.cls) {pc pc' : Nat} {Ls : Array Slot} {St : List Value} {index : Nat} {v : Int32} (w : (Cond.constant own index v).before a0 Z = true) (hd : decode c.code pc = .ok (.ldc index, 2)) (hpc : pc + 2 = pc') (k : KEnds p e below s Cn Sn Q T (mkF m pc' Ls (.int v :: St))) : KEnds p e below s Cn Sn Q T (mkF m pc Ls St) := by
  subst hpc; exact k_via (X.ldcInt hx hown (mvT hZ w) (g := mkF m pc Ls St) rfl hd) k
theorem k_ldcL (X : Stand p l e R s m args below meth c T locs cells slots) (hx : p.tables.exec = Jvm.exec) (hZ : Z.Warmed39 s.vm) (hown : s.vm.findClass own = some m.cls) {pc pc' : Nat} {Ls : Array Slot} {St : List Value} {index : Nat} {v : Int64} (w : (Cond.constantLong own index v).before a0 Z = true) (hd : decode c.code pc = .ok (.ldc2_w index, 3)) (hpc : pc + 3 = pc') (k : KEnds p e below s Cn Sn Q T (mkF m pc' Ls (.long v :: St))) : KEnds p e below s Cn Sn Q T (mkF m pc Ls St) := by
  subst hpc; exact k_via (X.ldc2Long hx hown (mvT hZ w) (g := mkF m pc Ls St) rfl hd) k
theorem k_newA (X : Stand p l e R s m args below meth c T locs cells slots) (hx : p.tables.exec = Jvm.exec) (hZ : Z.Warmed39 s.vm) {pc pc' : Nat} {Ls : Array Slot} {St : List Value} {aty : ArrayType} (w : (Cond.arrayClass (newarray.typeOf aty)).before a0 Z = true) (eT : T.heap = h) (hd : decode c.code pc = .ok (.newarray aty, 2)) {n : Int32} (hn : ¬ n < 0) {cap : Nat} (hcap : n.toNatClampNeg ≤ cap) (hb : cap * 8 ≤ 536870912) (hc : cells + 1 ≤ R.cells) (hl : slots + cap ≤ R.slots) (hpc : pc + 2 = pc') (k : ∀ T' h' a cA, a = h.size → Stand p l e R s m args below meth c T' locs (cells + 1) (slots + cap) → T'.heap = h' → Ext h h' → Arv Z h' a cA (newarray.typeOf aty) n (List.replicate cap (defaultValue (newarray.typeOf aty))) (defaultValue (newarray.typeOf aty)) → KEnds p e below s Cn Sn Q T' (mkF m pc' Ls (.ref a :: St))) : KEnds p e below s Cn Sn Q T (mkF m pc Ls (.int n :: St)) := by
  subst hpc
  obtain ⟨T', h', cA, X', e', E', A', st⟩ := newP X hx hZ w eT (g := mkF m pc Ls (.int n :: St)) rfl hd rfl hn hcap hb hc hl
  exact k_via st (k T' h' _ cA rfl X' e' E' ((Arv.new A' hn).pad (pad_rep [] _ cap)))
theorem k_lastore (X : Stand p l e R s m args below meth c T locs cells slots) (hx : p.tables.exec = Jvm.exec) (hZ : Z.Warmed39 s.vm) {pc pc' : Nat} {Ls : Array Slot} {St : List Value} (eT : T.heap = h) {a : Addr} {kA : ClassId} {z j : Int32} {x : Int64} {vs : List Value} {dv : Value} (F : Arv Z h a kA .long z vs dv) (hj : ¬ j < 0 ∧ j < z) {i : Nat} (hi : j.toNatClampNeg = i) (hil : i < vs.length) (hd : decode c.code pc = .ok (.lastore, 1)) (hpc : pc + 1 = pc') (k : ∀ T' h', Stand p l e R s m args below meth c T' (locs ++ [⟨a, j.toNatClampNeg⟩]) cells slots → T'.heap = h' → Wr h h' a j.toNatClampNeg (.long (x)) → Arv Z h' a kA .long z (vs.set i (.long (x))) dv → KEnds p e below s Cn Sn Q T' (mkF m pc' Ls St)) : KEnds p e below s Cn Sn Q T (mkF m pc Ls (.long x :: .int j :: .ref a :: St)) := by
  subst hpc
  obtain ⟨cl, A, q1, S, N, H, G⟩ := F
  obtain ⟨T', h', X', e', W', st⟩ := stJ X hx hZ eT A (inb_of S hj) (g := mkF m pc Ls (.long x :: .int j :: .ref a :: St)) rfl rfl hd
  exact k_via st (k T' h' X' e' W' (Arv.set A q1 S N H G rfl W' i hi hil))
theorem k_laload (X : Stand p l e R s m args below meth c T locs cells slots) (hx : p.tables.exec = Jvm.exec) (hZ : Z.Warmed39 s.vm) {pc pc' : Nat} {Ls : Array Slot} {St : List Value} (eT : T.heap = h) {a : Addr} {kA : ClassId} {z j : Int32} {v : Value} {vs : List Value} {dv : Value} (F : Arv Z h a kA .long z vs dv) (hj : ¬ j < 0 ∧ j < z) (hv : vs.getD j.toNatClampNeg dv = v) (hd : decode c.code pc = .ok (.laload, 1)) (hpc : pc + 1 = pc') (k : KEnds p e below s Cn Sn Q T (mkF m pc' Ls (v :: St))) : KEnds p e below s Cn Sn Q T (mkF m pc Ls (.int j :: .ref a :: St)) := by
  subst hpc
  obtain ⟨cl, A, q1, S, N, H, G⟩ := F
  exact k_via (fun t hs => X.laload hx (by rw [eT]; exact A.1) (State.isArrayOf_alike hZ.alike A.2.1) A.2.2 (inb_of S hj) (H.at (inb_of S hj) hv) (g := mkF m pc Ls (.int j :: .ref a :: St)) rfl rfl hd t hs) k
theorem k_callS (X : Stand p l e R s m args below meth c T locs cells slots) (hx : p.tables.exec = Jvm.exec) (hZ : Z.Warmed39 s.vm) (hown : s.vm.findClass own = some m.cls) {pc pc' : Nat} {Ls : Array Slot} {St : List Value} {y : MethodName} {bytes : ByteArray} {maxL : Nat} {ret : Option FieldType} {rm : Room} {index W : Nat} {as' : Array Value} {Q' : Option Value → Heap → List Loc → Prop} (w1 : (Cond.methodLink own index y).before a0 Z = true) (w2 : (Cond.static y).before a0 Z = true) (w3 : (Cond.initialized y.cls).before a0 Z = true) (w4 : (Cond.code y bytes maxL ret).before a0 Z = true) (hy : y.cls ≠ "java/lang/invoke/MethodHandle" ∧ y.cls ≠ "java/lang/invoke/VarHandle") (hM : MetFree l y (head1 [Cond.code y bytes maxL ret] rm) (fun a U => a = as' ∧ Z.Warmed39 U.vm ∧ U.heap = h) (fun _ _ _ _ _ => True) (fun _ U o U' => ∃ v L, o = .returned v ∧ Q' v U'.heap L ∧ FrameEnd U o U' L rm.cells rm.slots)) (hf : rm.frames + 1 ≤ R.frames) (hl : W + (maxL + 11) + rm.locals ≤ R.locals) (eT : T.heap = h) (hsize : Ls.size = c.maxLocals) {argsL rest : List Value} (hlen : ∀ sig, parseMethodDescriptor y.desc = some sig → argsL.length = sig.parameters.length) (hst : St = argsL.reverse ++ rest) (hW : (rest.map fun v => v.category).sum ≤ W) (has : argsL.toArray = as') (hd : decode c.code pc = .ok (.invokestatic index, 3)) (hce : cells + rm.cells ≤ R.cells) (hsl : slots + rm.slots ≤ R.slots) (hpc : pc + 3 = pc') (k : ∀ T' L v, Stand p l e R s m args below meth c T' (locs ++ L) (cells + rm.cells) (slots + rm.slots) → Q' v T'.heap L → KEnds p e below s Cn Sn Q T' (mkF m pc' Ls (v.toList ++ rest))) : KEnds p e below s Cn Sn Q T (mkF m pc Ls St) := by
  subst hpc
  obtain ⟨v, _, ⟨T', L', k', n'⟩, -, X', ⟨Lc, hQ, l', y', z'⟩, st⟩ := Jvm.LawKit.callS X hx (y := y) hown (mvT hZ w1) (mvT hZ w2) (mvT hZ w3) (mvT hZ w4) hy (backOf (W := W) hM hZ w4 w3 hf hl) (g := mkF m pc Ls St) rfl hsize hlen hst (by show 2 * 0 + _ ≤ _; omega) hd (fun _ _ => ⟨has, eT, hce, hsl⟩)
  dsimp only [Pt.U, Pt.locs, Pt.cells, Pt.slots] at X' l' y' z' st hQ
  subst l' y' z'
  exact k_via st (k T' Lc v X' hQ)
end
end Jvm.OwnK
namespace Jvm.Pilot.@@N@@
open Jvm Jvm.ClassFile Sem Op Lib Jvm.Free Jvm.Stand Jvm.LawKit Jvm.RoadKit Jvm.OwnK Bundle Jvm.Pilot.@@N@@.Jvm.D
theorem d1_0 : decode prog_3_method_10_code 0 = .ok (.iconst 0, 1) := by decide +kernel
theorem d1_1 : decode prog_3_method_10_code 1 = .ok (.istore_n 3, 1) := by decide +kernel
theorem d1_2 : decode prog_3_method_10_code 2 = .ok (.iload_n 3, 1) := by decide +kernel
theorem d1_3 : decode prog_3_method_10_code 3 = .ok (.iconst 5, 1) := by decide +kernel
theorem d1_4 : decode prog_3_method_10_code 4 = .ok (.if_icmp .ge 48, 3) := by decide +kernel
theorem d1_7 : decode prog_3_method_10_code 7 = .ok (.iconst 2, 1) := by decide +kernel
theorem d1_8 : decode prog_3_method_10_code 8 = .ok (.iload_n 3, 1) := by decide +kernel
theorem d1_9 : decode prog_3_method_10_code 9 = .ok (.imul, 1) := by decide +kernel
theorem d1_10 : decode prog_3_method_10_code 10 = .ok (.iconst 1, 1) := by decide +kernel
theorem d1_11 : decode prog_3_method_10_code 11 = .ok (.iadd, 1) := by decide +kernel
theorem d1_12 : decode prog_3_method_10_code 12 = .ok (.bipush 9, 2) := by decide +kernel
theorem d1_14 : decode prog_3_method_10_code 14 = .ok (.if_icmp .ge 16, 3) := by decide +kernel
theorem d1_17 : decode prog_3_method_10_code 17 = .ok (.aload_n 0, 1) := by decide +kernel
theorem d1_18 : decode prog_3_method_10_code 18 = .ok (.iconst 2, 1) := by decide +kernel
theorem d1_19 : decode prog_3_method_10_code 19 = .ok (.iload_n 3, 1) := by decide +kernel
theorem d1_20 : decode prog_3_method_10_code 20 = .ok (.imul, 1) := by decide +kernel
theorem d1_21 : decode prog_3_method_10_code 21 = .ok (.iconst 1, 1) := by decide +kernel
theorem d1_22 : decode prog_3_method_10_code 22 = .ok (.iadd, 1) := by decide +kernel
theorem d1_23 : decode prog_3_method_10_code 23 = .ok (.laload, 1) := by decide +kernel
theorem d1_24 : decode prog_3_method_10_code 24 = .ok (.bipush 29, 2) := by decide +kernel
theorem d1_26 : decode prog_3_method_10_code 26 = .ok (.lshl, 1) := by decide +kernel
theorem d1_27 : decode prog_3_method_10_code 27 = .ok (.goto 4, 3) := by decide +kernel
theorem d1_31 : decode prog_3_method_10_code 31 = .ok (.lstore 4, 2) := by decide +kernel
theorem d1_33 : decode prog_3_method_10_code 33 = .ok (.aload_n 1, 1) := by decide +kernel
theorem d1_34 : decode prog_3_method_10_code 34 = .ok (.iload_n 2, 1) := by decide +kernel
theorem d1_35 : decode prog_3_method_10_code 35 = .ok (.iload_n 3, 1) := by decide +kernel
theorem d1_36 : decode prog_3_method_10_code 36 = .ok (.iadd, 1) := by decide +kernel
theorem d1_37 : decode prog_3_method_10_code 37 = .ok (.aload_n 0, 1) := by decide +kernel
theorem d1_38 : decode prog_3_method_10_code 38 = .ok (.iconst 2, 1) := by decide +kernel
theorem d1_39 : decode prog_3_method_10_code 39 = .ok (.iload_n 3, 1) := by decide +kernel
theorem d1_40 : decode prog_3_method_10_code 40 = .ok (.imul, 1) := by decide +kernel
theorem d1_41 : decode prog_3_method_10_code 41 = .ok (.laload, 1) := by decide +kernel
theorem d1_42 : decode prog_3_method_10_code 42 = .ok (.lload 4, 2) := by decide +kernel
theorem d1_44 : decode prog_3_method_10_code 44 = .ok (.lor, 1) := by decide +kernel
theorem d1_45 : decode prog_3_method_10_code 45 = .ok (.lastore, 1) := by decide +kernel
theorem d1_46 : decode prog_3_method_10_code 46 = .ok (.iinc 3 1, 3) := by decide +kernel
theorem d1_49 : decode prog_3_method_10_code 49 = .ok (.goto (-47), 3) := by decide +kernel
theorem d1_30 : decode prog_3_method_10_code 30 = .ok (.lconst 0, 1) := by decide +kernel
theorem d1_52 : decode prog_3_method_10_code 52 = .ok (.return_, 1) := by decide +kernel
abbrev R1_77 : Room := { frames := 0, cells := 0, slots := 0, locals := 0 }
def Q1_77 (Z : State) (a1 : Addr) (a2 : Addr) (k3 : ClassId) (p4 : Int64) (p5 : Int64) (p6 : Int64) (p7 : Int64) (p8 : Int64) (p9 : Int64) (p10 : Int64) (p11 : Int64) (p12 : Int64) (a13 : Addr) (k14 : ClassId) (k15 : ClassId) (a16 : Addr) (k17 : ClassId) (p18 : Int64) (p19 : Int64) (p20 : Int64) (p21 : Int64) (h0 : Heap) (n0 : Nat) (v : Option Value) (h : Heap) (L : List Loc) : Prop := Fr n0 L ∧ ((∃ (v78 : Int64) (v79 : Int64) (v82 : Int64) (v83 : Int64) (v86 : Int64) (v87 : Int64) (v90 : Int64) (v91 : Int64) (v94 : Int64), v78 = p5 <<< ((29 : Int32) &&& 0x3f).toInt64 ∧ v79 = p4 ||| v78 ∧ v82 = p7 <<< ((29 : Int32) &&& 0x3f).toInt64 ∧ v83 = p6 ||| v82 ∧ v86 = p9 <<< ((29 : Int32) &&& 0x3f).toInt64 ∧ v87 = p8 ||| v86 ∧ v90 = p11 <<< ((29 : Int32) &&& 0x3f).toInt64 ∧ v91 = p10 ||| v90 ∧ v94 = p12 ||| (0 : Int64) ∧ v = none ∧ Arv Z h a1 k3 .long (9 : Int32) [(.long p4), (.long p5), (.long p6), (.long p7), (.long p8), (.long p9), (.long p10), (.long p11), (.long p12)] (.long (0 : Int64)) ∧ Arv Z h a13 k14 .long (9 : Int32) [(.long p4), (.long p5), (.long p6), (.long p7), (.long p8), (.long p9), (.long p10), (.long p11), (.long p12)] (.long (0 : Int64)) ∧ Arv Z h a2 k15 .long (7 : Int32) [(.long v79), (.long v83), (.long v87), (.long v91), (.long v94), (.long (-1 : Int64)), (.long (-1 : Int64))] (.long (0 : Int64)) ∧ Arv Z h a16 k17 .long (7 : Int32) [(.long p18), (.long p19), (.long p20), (.long p21), (.long p12), (.long (-1 : Int64)), (.long (-1 : Int64))] (.long (0 : Int64)) ∧ n0 ≤ h.size))
theorem ef1_77 (m : MethodId) (x0 : Addr) (x1 : Addr) : entryFrame m #[(.ref x0), (.ref x1), (.int (0 : Int32))] 6 = mkF m 0 #[.val (.ref x0), .val (.ref x1), .val (.int (0 : Int32)), .unset, .unset, .unset] [] := by first | (simp [entryFrame, mkF, argsToLocals, Value.category]; done) | rfl
theorem pn_0 : plainName "com/example/portcullis/portcullis/protocol/Field" = true := by first | (simp [plainName, overriddenIn]; done) | decide +kernel
set_option maxRecDepth 65536 in
set_option maxHeartbeats 40000000 in
theorem rm1_77 (l : Launch) (Z : State) (a0 : Array Value) (hw : ∀ d ∈ tables_1, d.before a0 Z = true) (ws : List Jvm.Cond) (a1 : Addr) (a2 : Addr) (k3 : ClassId) (p4 : Int64) (p5 : Int64) (p6 : Int64) (p7 : Int64) (p8 : Int64) (p9 : Int64) (p10 : Int64) (p11 : Int64) (p12 : Int64) (a13 : Addr) (k14 : ClassId) (k15 : ClassId) (a16 : Addr) (k17 : ClassId) (p18 : Int64) (p19 : Int64) (p20 : Int64) (p21 : Int64) (h0 : Heap) (n0 : Nat) (Z0 : n0 ≤ h0.size) (F0_0 : Arv Z h0 a1 k3 .long (9 : Int32) [(.long p4), (.long p5), (.long p6), (.long p7), (.long p8), (.long p9), (.long p10), (.long p11), (.long p12)] (.long (0 : Int64))) (g_a1 : n0 ≤ a1) (F0_2 : Arv Z h0 a13 k14 .long (9 : Int32) [(.long p4), (.long p5), (.long p6), (.long p7), (.long p8), (.long p9), (.long p10), (.long p11), (.long p12)] (.long (0 : Int64))) (g_a13 : n0 ≤ a13) (F0_4 : Arv Z h0 a2 k15 .long (7 : Int32) [(.long (-1 : Int64)), (.long (-1 : Int64)), (.long (-1 : Int64)), (.long (-1 : Int64)), (.long (-1 : Int64)), (.long (-1 : Int64)), (.long (-1 : Int64))] (.long (0 : Int64))) (g_a2 : n0 ≤ a2) (F0_6 : Arv Z h0 a16 k17 .long (7 : Int32) [(.long p18), (.long p19), (.long p20), (.long p21), (.long p12), (.long (-1 : Int64)), (.long (-1 : Int64))] (.long (0 : Int64))) (g_a16 : n0 ≤ a16) (lt0_0 : a1 < a13) (lt0_1 : a13 < a2) (lt0_2 : a2 < a16) :
    MetFree l (⟨"com/example/portcullis/portcullis/protocol/Field", "pack", "([J[JI)V"⟩ : MethodName) (head1 (Jvm.Cond.code (⟨"com/example/portcullis/portcullis/protocol/Field", "pack", "([J[JI)V"⟩ : MethodName) prog_3_method_10_code 6 none :: ws) R1_77) (fun a U => a = #[(.ref a1), (.ref a2), (.int (0 : Int32))] ∧ Z.Warmed39 U.vm ∧ U.heap = h0) (fun _ _ _ _ _ => True) (fun _ U o U' => ∃ v L, o = .returned v ∧ Q1_77 Z a1 a2 k3 p4 p5 p6 p7 p8 p9 p10 p11 p12 a13 k14 k15 a16 k17 p18 p19 p20 p21 h0 n0 v U'.heap L ∧ FrameEnd U o U' L R1_77.cells R1_77.slots) := by
 refine MetFree.of_bodySF (plainFor_of_name pn_0) hisR ?_
 intro p e s m args below meth c s₁ Bd hml0 hP hK
 obtain ⟨rfl, hZ, hh⟩ := hP
 have hx := Bd.exec
 have hby := Bd.bytes
 have hml : c.maxLocals = 6 := hml0
 have hlk : meth.locks = false := Bd.notSynchronized
 have hown : s.vm.findClass "com/example/portcullis/portcullis/protocol/Field" = some m.cls := findClass_of_methodNamed Bd.named
 have hnm := (name_of_methodNamed Bd.named Bd.method).1
 have X0 : Stand p l e R1_77 s m #[(.ref a1), (.ref a2), (.int (0 : Int32))] below meth c s₁ [] 0 0 := Stand.of_body Bd
 have e0 : s₁.heap = h0 := by rw [← hh, Bd.state]; rfl
 have N0 := Fr.nil n0
 rw [ef1_77 m a1 a2]
 show KEnds p e below s R1_77.cells R1_77.slots (Q1_77 Z a1 a2 k3 p4 p5 p6 p7 p8 p9 p10 p11 p12 a13 k14 k15 a16 k17 p18 p19 p20 p21 h0 n0) s₁ (mkF m 0 #[.val (.ref a1), .val (.ref a2), .val (.int (0 : Int32)), .unset, .unset, .unset] [])
 refine k_iconst X0 hx (hb hby d1_0) (pc' := 1) rfl (z := (0 : Int32)) rfl ?_
 refine k_istoreN X0 hx (hb hby d1_1) (Ls' := #[.val (.ref a1), .val (.ref a2), .val (.int (0 : Int32)), .val (.int (0 : Int32)), .unset, .unset]) rfl (pc' := 2) rfl ?_
 refine k_iloadN X0 hx (hb hby d1_2) rfl (pc' := 3) rfl ?_
 refine k_iconst X0 hx (hb hby d1_3) (pc' := 4) rfl (z := (5 : Int32)) rfl ?_
 refine k_icmp_ge X0 hx (hb hby d1_4) (pn := 7) rfl (py := 52) (by decide) (fun hc => absurd (by decide) hc) (fun _ => ?_)
 refine k_iconst X0 hx (hb hby d1_7) (pc' := 8) rfl (z := (2 : Int32)) rfl ?_
 refine k_iloadN X0 hx (hb hby d1_8) rfl (pc' := 9) rfl ?_
 refine k_imulL X0 hx (hb hby d1_9) (pc' := 10) rfl (z := (0 : Int32)) (by decide) ?_
 refine k_iconst X0 hx (hb hby d1_10) (pc' := 11) rfl (z := (1 : Int32)) rfl ?_
 refine k_iaddL X0 hx (hb hby d1_11) (pc' := 12) rfl (z := (1 : Int32)) (by decide) ?_
 refine k_bipush X0 hx (hb hby d1_12) (pc' := 14) rfl (z := (9 : Int32)) rfl ?_
 refine k_icmp_ge X0 hx (hb hby d1_14) (pn := 17) rfl (py := 30) (by decide) (fun hc => absurd (by decide) hc) (fun _ => ?_)
 refine k_aloadN X0 hx (hb hby d1_17) rfl rfl (pc' := 18) rfl ?_
 refine k_iconst X0 hx (hb hby d1_18) (pc' := 19) rfl (z := (2 : Int32)) rfl ?_
 refine k_iloadN X0 hx (hb hby d1_19) rfl (pc' := 20) rfl ?_
 refine k_imulL X0 hx (hb hby d1_20) (pc' := 21) rfl (z := (0 : Int32)) (by decide) ?_
 refine k_iconst X0 hx (hb hby d1_21) (pc' := 22) rfl (z := (1 : Int32)) rfl ?_
 refine k_iaddL X0 hx (hb hby d1_22) (pc' := 23) rfl (z := (1 : Int32)) (by decide) ?_
 refine k_laload X0 hx hZ e0 F0_0 ⟨by decide, by decide⟩ (v := (.long p5)) rfl (hb hby d1_23) (pc' := 24) rfl ?_
 refine k_bipush X0 hx (hb hby d1_24) (pc' := 26) rfl (z := (29 : Int32)) rfl ?_
 refine k_lshl X0 hx (hb hby d1_26) (pc' := 27) rfl (fun v78 hv78 => ?_)
 refine k_goto X0 hx (hb hby d1_27) (pc' := 31) (by decide) ?_
 refine k_lstore X0 hx (hb hby d1_31) (Ls' := #[.val (.ref a1), .val (.ref a2), .val (.int (0 : Int32)), .val (.int (0 : Int32)), .val (.long v78), .second]) rfl (pc' := 33) rfl ?_
 refine k_aloadN X0 hx (hb hby d1_33) rfl rfl (pc' := 34) rfl ?_
 refine k_iloadN X0 hx (hb hby d1_34) rfl (pc' := 35) rfl ?_
 refine k_iloadN X0 hx (hb hby d1_35) rfl (pc' := 36) rfl ?_
 refine k_iaddL X0 hx (hb hby d1_36) (pc' := 37) rfl (z := (0 : Int32)) (by decide) ?_
 refine k_aloadN X0 hx (hb hby d1_37) rfl rfl (pc' := 38) rfl ?_
 refine k_iconst X0 hx (hb hby d1_38) (pc' := 39) rfl (z := (2 : Int32)) rfl ?_
 refine k_iloadN X0 hx (hb hby d1_39) rfl (pc' := 40) rfl ?_
 refine k_imulL X0 hx (hb hby d1_40) (pc' := 41) rfl (z := (0 : Int32)) (by decide) ?_
 refine k_laload X0 hx hZ e0 F0_0 ⟨by decide, by decide⟩ (v := (.long p4)) rfl (hb hby d1_41) (pc' := 42) rfl ?_
 refine k_lload X0 hx (hb hby d1_42) rfl (pc' := 44) rfl ?_
 refine k_lor X0 hx (hb hby d1_44) (pc' := 45) rfl (fun v79 hv79 => ?_)
 refine k_lastore X0 hx hZ e0 F0_4 ⟨by decide, by decide⟩ (i := 0) rfl (Nat.le_of_ble_eq_true rfl) (hb hby d1_45) (pc' := 46) rfl (fun T80 h80 X80 e80 W80 V80 => ?_)
 have Vw80 : Arv Z h80 a2 k15 .long (7 : Int32) [(.long v79), (.long (-1 : Int64)), (.long (-1 : Int64)), (.long (-1 : Int64)), (.long (-1 : Int64)), (.long (-1 : Int64)), (.long (-1 : Int64))] (.long (0 : Int64)) := V80
 have N80 := Fr.snoc X80 N0 g_a2
 have Z80 : n0 ≤ h80.size := Nat.le_trans Z0 (Nat.le_of_eq W80.size.symm)
 refine k_iinc X80 hx (hb hby d1_46) rfl (pc' := 49) rfl (z := (1 : Int32)) (by decide) (Ls' := #[.val (.ref a1), .val (.ref a2), .val (.int (0 : Int32)), .val (.int (1 : Int32)), .val (.long v78), .second]) rfl ?_
 refine k_goto X80 hx (hb hby d1_49) (pc' := 2) (by decide) ?_
 refine k_iloadN X80 hx (hb hby d1_2) rfl (pc' := 3) rfl ?_
 refine k_iconst X80 hx (hb hby d1_3) (pc' := 4) rfl (z := (5 : Int32)) rfl ?_
 refine k_icmp_ge X80 hx (hb hby d1_4) (pn := 7) rfl (py := 52) (by decide) (fun hc => absurd (by decide) hc) (fun _ => ?_)
 refine k_iconst X80 hx (hb hby d1_7) (pc' := 8) rfl (z := (2 : Int32)) rfl ?_
 refine k_iloadN X80 hx (hb hby d1_8) rfl (pc' := 9) rfl ?_
 refine k_imulL X80 hx (hb hby d1_9) (pc' := 10) rfl (z := (2 : Int32)) (by decide) ?_
 refine k_iconst X80 hx (hb hby d1_10) (pc' := 11) rfl (z := (1 : Int32)) rfl ?_
 refine k_iaddL X80 hx (hb hby d1_11) (pc' := 12) rfl (z := (3 : Int32)) (by decide) ?_
 refine k_bipush X80 hx (hb hby d1_12) (pc' := 14) rfl (z := (9 : Int32)) rfl ?_
 refine k_icmp_ge X80 hx (hb hby d1_14) (pn := 17) rfl (py := 30) (by decide) (fun hc => absurd (by decide) hc) (fun _ => ?_)
 refine k_aloadN X80 hx (hb hby d1_17) rfl rfl (pc' := 18) rfl ?_
 refine k_iconst X80 hx (hb hby d1_18) (pc' := 19) rfl (z := (2 : Int32)) rfl ?_
 refine k_iloadN X80 hx (hb hby d1_19) rfl (pc' := 20) rfl ?_
 refine k_imulL X80 hx (hb hby d1_20) (pc' := 21) rfl (z := (2 : Int32)) (by decide) ?_
 refine k_iconst X80 hx (hb hby d1_21) (pc' := 22) rfl (z := (1 : Int32)) rfl ?_
 refine k_iaddL X80 hx (hb hby d1_22) (pc' := 23) rfl (z := (3 : Int32)) (by decide) ?_
 have F81 := (F0_0.other W80 (Nat.ne_of_lt (Nat.lt_trans lt0_0 lt0_1)))
 refine k_laload X80 hx hZ e80 F81 ⟨by decide, by decide⟩ (v := (.long p7)) rfl (hb hby d1_23) (pc' := 24) rfl ?_
 refine k_bipush X80 hx (hb hby d1_24) (pc' := 26) rfl (z := (29 : Int32)) rfl ?_
 refine k_lshl X80 hx (hb hby d1_26) (pc' := 27) rfl (fun v82 hv82 => ?_)
 refine k_goto X80 hx (hb hby d1_27) (pc' := 31) (by decide) ?_
 refine k_lstore X80 hx (hb hby d1_31) (Ls' := #[.val (.ref a1), .val (.ref a2), .val (.int (0 : Int32)), .val (.int (1 : Int32)), .val (.long v82), .second]) rfl (pc' := 33) rfl ?_
 refine k_aloadN X80 hx (hb hby d1_33) rfl rfl (pc' := 34) rfl ?_
 refine k_iloadN X80 hx (hb hby d1_34) rfl (pc' := 35) rfl ?_
 refine k_iloadN X80 hx (hb hby d1_35) rfl (pc' := 36) rfl ?_
 refine k_iaddL X80 hx (hb hby d1_36) (pc' := 37) rfl (z := (1 : Int32)) (by decide) ?_
 refine k_aloadN X80 hx (hb hby d1_37) rfl rfl (pc' := 38) rfl ?_
 refine k_iconst X80 hx (hb hby d1_38) (pc' := 39) rfl (z := (2 : Int32)) rfl ?_
 refine k_iloadN X80 hx (hb hby d1_39) rfl (pc' := 40) rfl ?_
 refine k_imulL X80 hx (hb hby d1_40) (pc' := 41) rfl (z := (2 : Int32)) (by decide) ?_
 refine k_laload X80 hx hZ e80 F81 ⟨by decide, by decide⟩ (v := (.long p6)) rfl (hb hby d1_41) (pc' := 42) rfl ?_
 refine k_lload X80 hx (hb hby d1_42) rfl (pc' := 44) rfl ?_
 refine k_lor X80 hx (hb hby d1_44) (pc' := 45) rfl (fun v83 hv83 => ?_)
 refine k_lastore X80 hx hZ e80 Vw80 ⟨by decide, by decide⟩ (i := 1) rfl (Nat.le_of_ble_eq_true rfl) (hb hby d1_45) (pc' := 46) rfl (fun T84 h84 X84 e84 W84 V84 => ?_)
 have Vw84 : Arv Z h84 a2 k15 .long (7 : Int32) [(.long v79), (.long v83), (.long (-1 : Int64)), (.long (-1 : Int64)), (.long (-1 : Int64)), (.long (-1 : Int64)), (.long (-1 : Int64))] (.long (0 : Int64)) := V84
 have N84 := Fr.snoc X84 N80 g_a2
 have Z84 : n0 ≤ h84.size := Nat.le_trans Z80 (Nat.le_of_eq W84.size.symm)
 refine k_iinc X84 hx (hb hby d1_46) rfl (pc' := 49) rfl (z := (2 : Int32)) (by decide) (Ls' := #[.val (.ref a1), .val (.ref a2), .val (.int (0 : Int32)), .val (.int (2 : Int32)), .val (.long v82), .second]) rfl ?_
 refine k_goto X84 hx (hb hby d1_49) (pc' := 2) (by decide) ?_
 refine k_iloadN X84 hx (hb hby d1_2) rfl (pc' := 3) rfl ?_
 refine k_iconst X84 hx (hb hby d1_3) (pc' := 4) rfl (z := (5 : Int32)) rfl ?_
 refine k_icmp_ge X84 hx (hb hby d1_4) (pn := 7) rfl (py := 52) (by decide) (fun hc => absurd (by decide) hc) (fun _ => ?_)
 refine k_iconst X84 hx (hb hby d1_7) (pc' := 8) rfl (z := (2 : Int32)) rfl ?_
 refine k_iloadN X84 hx (hb hby d1_8) rfl (pc' := 9) rfl ?_
 refine k_imulL X84 hx (hb hby d1_9) (pc' := 10) rfl (z := (4 : Int32)) (by decide) ?_
 refine k_iconst X84 hx (hb hby d1_10) (pc' := 11) rfl (z := (1 : Int32)) rfl ?_
 refine k_iaddL X84 hx (hb hby d1_11) (pc' := 12) rfl (z := (5 : Int32)) (by decide) ?_
 refine k_bipush X84 hx (hb hby d1_12) (pc' := 14) rfl (z := (9 : Int32)) rfl ?_
 refine k_icmp_ge X84 hx (hb hby d1_14) (pn := 17) rfl (py := 30) (by decide) (fun hc => absurd (by decide) hc) (fun _ => ?_)
 refine k_aloadN X84 hx (hb hby d1_17) rfl rfl (pc' := 18) rfl ?_
 refine k_iconst X84 hx (hb hby d1_18) (pc' := 19) rfl (z := (2 : Int32)) rfl ?_
 refine k_iloadN X84 hx (hb hby d1_19) rfl (pc' := 20) rfl ?_
 refine k_imulL X84 hx (hb hby d1_20) (pc' := 21) rfl (z := (4 : Int32)) (by decide) ?_
 refine k_iconst X84 hx (hb hby d1_21) (pc' := 22) rfl (z := (1 : Int32)) rfl ?_
 refine k_iaddL X84 hx (hb hby d1_22) (pc' := 23) rfl (z := (5 : Int32)) (by decide) ?_
 have F85 := (F81.other W84 (Nat.ne_of_lt (Nat.lt_trans lt0_0 lt0_1)))
 refine k_laload X84 hx hZ e84 F85 ⟨by decide, by decide⟩ (v := (.long p9)) rfl (hb hby d1_23) (pc' := 24) rfl ?_
 refine k_bipush X84 hx (hb hby d1_24) (pc' := 26) rfl (z := (29 : Int32)) rfl ?_
 refine k_lshl X84 hx (hb hby d1_26) (pc' := 27) rfl (fun v86 hv86 => ?_)
 refine k_goto X84 hx (hb hby d1_27) (pc' := 31) (by decide) ?_
 refine k_lstore X84 hx (hb hby d1_31) (Ls' := #[.val (.ref a1), .val (.ref a2), .val (.int (0 : Int32)), .val (.int (2 : Int32)), .val (.long v86), .second]) rfl (pc' := 33) rfl ?_
 refine k_aloadN X84 hx (hb hby d1_33) rfl rfl (pc' := 34) rfl ?_
 refine k_iloadN X84 hx (hb hby d1_34) rfl (pc' := 35) rfl ?_
 refine k_iloadN X84 hx (hb hby d1_35) rfl (pc' := 36) rfl ?_
 refine k_iaddL X84 hx (hb hby d1_36) (pc' := 37) rfl (z := (2 : Int32)) (by decide) ?_
 refine k_aloadN X84 hx (hb hby d1_37) rfl rfl (pc' := 38) rfl ?_
 refine k_iconst X84 hx (hb hby d1_38) (pc' := 39) rfl (z := (2 : Int32)) rfl ?_
 refine k_iloadN X84 hx (hb hby d1_39) rfl (pc' := 40) rfl ?_
 refine k_imulL X84 hx (hb hby d1_40) (pc' := 41) rfl (z := (4 : Int32)) (by decide) ?_
 refine k_laload X84 hx hZ e84 F85 ⟨by decide, by decide⟩ (v := (.long p8)) rfl (hb hby d1_41) (pc' := 42) rfl ?_
 refine k_lload X84 hx (hb hby d1_42) rfl (pc' := 44) rfl ?_
 refine k_lor X84 hx (hb hby d1_44) (pc' := 45) rfl (fun v87 hv87 => ?_)
 refine k_lastore X84 hx hZ e84 Vw84 ⟨by decide, by decide⟩ (i := 2) rfl (Nat.le_of_ble_eq_true rfl) (hb hby d1_45) (pc' := 46) rfl (fun T88 h88 X88 e88 W88 V88 => ?_)
 have Vw88 : Arv Z h88 a2 k15 .long (7 : Int32) [(.long v79), (.long v83), (.long v87), (.long (-1 : Int64)), (.long (-1 : Int64)), (.long (-1 : Int64)), (.long (-1 : Int64))] (.long (0 : Int64)) := V88
 have N88 := Fr.snoc X88 N84 g_a2
 have Z88 : n0 ≤ h88.size := Nat.le_trans Z84 (Nat.le_of_eq W88.size.symm)
 refine k_iinc X88 hx (hb hby d1_46) rfl (pc' := 49) rfl (z := (3 : Int32)) (by decide) (Ls' := #[.val (.ref a1), .val (.ref a2), .val (.int (0 : Int32)), .val (.int (3 : Int32)), .val (.long v86), .second]) rfl ?_
 refine k_goto X88 hx (hb hby d1_49) (pc' := 2) (by decide) ?_
 refine k_iloadN X88 hx (hb hby d1_2) rfl (pc' := 3) rfl ?_
 refine k_iconst X88 hx (hb hby d1_3) (pc' := 4) rfl (z := (5 : Int32)) rfl ?_
 refine k_icmp_ge X88 hx (hb hby d1_4) (pn := 7) rfl (py := 52) (by decide) (fun hc => absurd (by decide) hc) (fun _ => ?_)
 refine k_iconst X88 hx (hb hby d1_7) (pc' := 8) rfl (z := (2 : Int32)) rfl ?_
 refine k_iloadN X88 hx (hb hby d1_8) rfl (pc' := 9) rfl ?_
 refine k_imulL X88 hx (hb hby d1_9) (pc' := 10) rfl (z := (6 : Int32)) (by decide) ?_
 refine k_iconst X88 hx (hb hby d1_10) (pc' := 11) rfl (z := (1 : Int32)) rfl ?_
 refine k_iaddL X88 hx (hb hby d1_11) (pc' := 12) rfl (z := (7 : Int32)) (by decide) ?_
 refine k_bipush X88 hx (hb hby d1_12) (pc' := 14) rfl (z := (9 : Int32)) rfl ?_
 refine k_icmp_ge X88 hx (hb hby d1_14) (pn := 17) rfl (py := 30) (by decide) (fun hc => absurd (by decide) hc) (fun _ => ?_)
 refine k_aloadN X88 hx (hb hby d1_17) rfl rfl (pc' := 18) rfl ?_
 refine k_iconst X88 hx (hb hby d1_18) (pc' := 19) rfl (z := (2 : Int32)) rfl ?_
 refine k_iloadN X88 hx (hb hby d1_19) rfl (pc' := 20) rfl ?_
 refine k_imulL X88 hx (hb hby d1_20) (pc' := 21) rfl (z := (6 : Int32)) (by decide) ?_
 refine k_iconst X88 hx (hb hby d1_21) (pc' := 22) rfl (z := (1 : Int32)) rfl ?_
 refine k_iaddL X88 hx (hb hby d1_22) (pc' := 23) rfl (z := (7 : Int32)) (by decide) ?_
 have F89 := (F85.other W88 (Nat.ne_of_lt (Nat.lt_trans lt0_0 lt0_1)))
 refine k_laload X88 hx hZ e88 F89 ⟨by decide, by decide⟩ (v := (.long p11)) rfl (hb hby d1_23) (pc' := 24) rfl ?_
 refine k_bipush X88 hx (hb hby d1_24) (pc' := 26) rfl (z := (29 : Int32)) rfl ?_
 refine k_lshl X88 hx (hb hby d1_26) (pc' := 27) rfl (fun v90 hv90 => ?_)
 refine k_goto X88 hx (hb hby d1_27) (pc' := 31) (by decide) ?_
 refine k_lstore X88 hx (hb hby d1_31) (Ls' := #[.val (.ref a1), .val (.ref a2), .val (.int (0 : Int32)), .val (.int (3 : Int32)), .val (.long v90), .second]) rfl (pc' := 33) rfl ?_
 refine k_aloadN X88 hx (hb hby d1_33) rfl rfl (pc' := 34) rfl ?_
 refine k_iloadN X88 hx (hb hby d1_34) rfl (pc' := 35) rfl ?_
 refine k_iloadN X88 hx (hb hby d1_35) rfl (pc' := 36) rfl ?_
 refine k_iaddL X88 hx (hb hby d1_36) (pc' := 37) rfl (z := (3 : Int32)) (by decide) ?_
 refine k_aloadN X88 hx (hb hby d1_37) rfl rfl (pc' := 38) rfl ?_
 refine k_iconst X88 hx (hb hby d1_38) (pc' := 39) rfl (z := (2 : Int32)) rfl ?_
 refine k_iloadN X88 hx (hb hby d1_39) rfl (pc' := 40) rfl ?_
 refine k_imulL X88 hx (hb hby d1_40) (pc' := 41) rfl (z := (6 : Int32)) (by decide) ?_
 refine k_laload X88 hx hZ e88 F89 ⟨by decide, by decide⟩ (v := (.long p10)) rfl (hb hby d1_41) (pc' := 42) rfl ?_
 refine k_lload X88 hx (hb hby d1_42) rfl (pc' := 44) rfl ?_
 refine k_lor X88 hx (hb hby d1_44) (pc' := 45) rfl (fun v91 hv91 => ?_)
 refine k_lastore X88 hx hZ e88 Vw88 ⟨by decide, by decide⟩ (i := 3) rfl (Nat.le_of_ble_eq_true rfl) (hb hby d1_45) (pc' := 46) rfl (fun T92 h92 X92 e92 W92 V92 => ?_)
 have Vw92 : Arv Z h92 a2 k15 .long (7 : Int32) [(.long v79), (.long v83), (.long v87), (.long v91), (.long (-1 : Int64)), (.long (-1 : Int64)), (.long (-1 : Int64))] (.long (0 : Int64)) := V92
 have N92 := Fr.snoc X92 N88 g_a2
 have Z92 : n0 ≤ h92.size := Nat.le_trans Z88 (Nat.le_of_eq W92.size.symm)
 refine k_iinc X92 hx (hb hby d1_46) rfl (pc' := 49) rfl (z := (4 : Int32)) (by decide) (Ls' := #[.val (.ref a1), .val (.ref a2), .val (.int (0 : Int32)), .val (.int (4 : Int32)), .val (.long v90), .second]) rfl ?_
 refine k_goto X92 hx (hb hby d1_49) (pc' := 2) (by decide) ?_
 refine k_iloadN X92 hx (hb hby d1_2) rfl (pc' := 3) rfl ?_
 refine k_iconst X92 hx (hb hby d1_3) (pc' := 4) rfl (z := (5 : Int32)) rfl ?_
 refine k_icmp_ge X92 hx (hb hby d1_4) (pn := 7) rfl (py := 52) (by decide) (fun hc => absurd (by decide) hc) (fun _ => ?_)
 refine k_iconst X92 hx (hb hby d1_7) (pc' := 8) rfl (z := (2 : Int32)) rfl ?_
 refine k_iloadN X92 hx (hb hby d1_8) rfl (pc' := 9) rfl ?_
 refine k_imulL X92 hx (hb hby d1_9) (pc' := 10) rfl (z := (8 : Int32)) (by decide) ?_
 refine k_iconst X92 hx (hb hby d1_10) (pc' := 11) rfl (z := (1 : Int32)) rfl ?_
 refine k_iaddL X92 hx (hb hby d1_11) (pc' := 12) rfl (z := (9 : Int32)) (by decide) ?_
 refine k_bipush X92 hx (hb hby d1_12) (pc' := 14) rfl (z := (9 : Int32)) rfl ?_
 refine k_icmp_ge X92 hx (hb hby d1_14) (pn := 17) rfl (py := 30) (by decide) (fun _ => ?_) (fun hc => absurd hc (by decide))
 refine k_lconst X92 hx (hb hby d1_30) (pc' := 31) rfl (z := (0 : Int64)) rfl ?_
 refine k_lstore X92 hx (hb hby d1_31) (Ls' := #[.val (.ref a1), .val (.ref a2), .val (.int (0 : Int32)), .val (.int (4 : Int32)), .val (.long (0 : Int64)), .second]) rfl (pc' := 33) rfl ?_
 refine k_aloadN X92 hx (hb hby d1_33) rfl rfl (pc' := 34) rfl ?_
 refine k_iloadN X92 hx (hb hby d1_34) rfl (pc' := 35) rfl ?_
 refine k_iloadN X92 hx (hb hby d1_35) rfl (pc' := 36) rfl ?_
 refine k_iaddL X92 hx (hb hby d1_36) (pc' := 37) rfl (z := (4 : Int32)) (by decide) ?_
 refine k_aloadN X92 hx (hb hby d1_37) rfl rfl (pc' := 38) rfl ?_
 refine k_iconst X92 hx (hb hby d1_38) (pc' := 39) rfl (z := (2 : Int32)) rfl ?_
 refine k_iloadN X92 hx (hb hby d1_39) rfl (pc' := 40) rfl ?_
 refine k_imulL X92 hx (hb hby d1_40) (pc' := 41) rfl (z := (8 : Int32)) (by decide) ?_
 have F93 := (F89.other W92 (Nat.ne_of_lt (Nat.lt_trans lt0_0 lt0_1)))
 refine k_laload X92 hx hZ e92 F93 ⟨by decide, by decide⟩ (v := (.long p12)) rfl (hb hby d1_41) (pc' := 42) rfl ?_
 refine k_lload X92 hx (hb hby d1_42) rfl (pc' := 44) rfl ?_
 refine k_lor X92 hx (hb hby d1_44) (pc' := 45) rfl (fun v94 hv94 => ?_)
 refine k_lastore X92 hx hZ e92 Vw92 ⟨by decide, by decide⟩ (i := 4) rfl (Nat.le_of_ble_eq_true rfl) (hb hby d1_45) (pc' := 46) rfl (fun T95 h95 X95 e95 W95 V95 => ?_)
 have Vw95 : Arv Z h95 a2 k15 .long (7 : Int32) [(.long v79), (.long v83), (.long v87), (.long v91), (.long v94), (.long (-1 : Int64)), (.long (-1 : Int64))] (.long (0 : Int64)) := V95
 have N95 := Fr.snoc X95 N92 g_a2
 have Z95 : n0 ≤ h95.size := Nat.le_trans Z92 (Nat.le_of_eq W95.size.symm)
 refine k_iinc X95 hx (hb hby d1_46) rfl (pc' := 49) rfl (z := (5 : Int32)) (by decide) (Ls' := #[.val (.ref a1), .val (.ref a2), .val (.int (0 : Int32)), .val (.int (5 : Int32)), .val (.long (0 : Int64)), .second]) rfl ?_
 refine k_goto X95 hx (hb hby d1_49) (pc' := 2) (by decide) ?_
 refine k_iloadN X95 hx (hb hby d1_2) rfl (pc' := 3) rfl ?_
 refine k_iconst X95 hx (hb hby d1_3) (pc' := 4) rfl (z := (5 : Int32)) rfl ?_
 refine k_icmp_ge X95 hx (hb hby d1_4) (pn := 7) rfl (py := 52) (by decide) (fun _ => ?_) (fun hc => absurd hc (by decide))
 have F96 := (F93.other W95 (Nat.ne_of_lt (Nat.lt_trans lt0_0 lt0_1)))
 have F97 := (((((F0_2.other W80 (Nat.ne_of_lt lt0_1)).other W84 (Nat.ne_of_lt lt0_1)).other W88 (Nat.ne_of_lt lt0_1)).other W92 (Nat.ne_of_lt lt0_1)).other W95 (Nat.ne_of_lt lt0_1))
 have F98 := (((((F0_6.other W80 (Ne.symm (Nat.ne_of_lt lt0_2))).other W84 (Ne.symm (Nat.ne_of_lt lt0_2))).other W88 (Ne.symm (Nat.ne_of_lt lt0_2))).other W92 (Ne.symm (Nat.ne_of_lt lt0_2))).other W95 (Ne.symm (Nat.ne_of_lt lt0_2)))
 exact k_ret X95 hx Bd.returns (hb hby d1_52) hlk (by decide) (by decide) (by rw [e95]; exact ⟨N95, ⟨v78, v79, v82, v83, v86, v87, v90, v91, v94, hv78, hv79, hv82, hv83, hv86, hv87, hv90, hv91, hv94, rfl, F96, F97, Vw95, F98, Z95⟩⟩)
theorem pd_0 : parseMethodDescriptor "([J[JI)V" = some ⟨[(.array .long), (.array .long), .int], none⟩ := by decide +kernel
abbrev R1_188 : Room := { frames := 0, cells := 0, slots := 0, locals := 0 }
def Q1_188 (Z : State) (a1 : Addr) (a2 : Addr) (k3 : ClassId) (p4 : Int64) (p5 : Int64) (p6 : Int64) (p7 : Int64) (p8 : Int64) (p9 : Int64) (p10 : Int64) (p11 : Int64) (p12 : Int64) (a13 : Addr) (k14 : ClassId) (k15 : ClassId) (a16 : Addr) (k17 : ClassId) (p18 : Int64) (p19 : Int64) (p20 : Int64) (p21 : Int64) (h0 : Heap) (n0 : Nat) (v : Option Value) (h : Heap) (L : List Loc) : Prop := Fr n0 L ∧ ((∃ (v189 : Int64) (v190 : Int64) (v193 : Int64) (v194 : Int64) (v197 : Int64) (v198 : Int64) (v201 : Int64) (v202 : Int64) (v205 : Int64), v189 = p5 <<< ((29 : Int32) &&& 0x3f).toInt64 ∧ v190 = p4 ||| v189 ∧ v193 = p7 <<< ((29 : Int32) &&& 0x3f).toInt64 ∧ v194 = p6 ||| v193 ∧ v197 = p9 <<< ((29 : Int32) &&& 0x3f).toInt64 ∧ v198 = p8 ||| v197 ∧ v201 = p11 <<< ((29 : Int32) &&& 0x3f).toInt64 ∧ v202 = p10 ||| v201 ∧ v205 = p12 ||| (0 : Int64) ∧ v = none ∧ Arv Z h a1 k3 .long (9 : Int32) [(.long p4), (.long p5), (.long p6), (.long p7), (.long p8), (.long p9), (.long p10), (.long p11), (.long p12)] (.long (0 : Int64)) ∧ Arv Z h a13 k14 .long (9 : Int32) [(.long p4), (.long p5), (.long p6), (.long p7), (.long p8), (.long p9), (.long p10), (.long p11), (.long p12)] (.long (0 : Int64)) ∧ Arv Z h a2 k15 .long (7 : Int32) [(.long (-1 : Int64)), (.long v190), (.long v194), (.long v198), (.long v202), (.long v205), (.long (-1 : Int64))] (.long (0 : Int64)) ∧ Arv Z h a16 k17 .long (7 : Int32) [(.long (-1 : Int64)), (.long p18), (.long p19), (.long p20), (.long p21), (.long p12), (.long (-1 : Int64))] (.long (0 : Int64)) ∧ n0 ≤ h.size))
theorem ef1_188 (m : MethodId) (x0 : Addr) (x1 : Addr) : entryFrame m #[(.ref x0), (.ref x1), (.int (1 : Int32))] 6 = mkF m 0 #[.val (.ref x0), .val (.ref x1), .val (.int (1 : Int32)), .unset, .unset, .unset] [] := by first | (simp [entryFrame, mkF, argsToLocals, Value.category]; done) | rfl
set_option maxRecDepth 65536 in
set_option maxHeartbeats 40000000 in
theorem rm1_188 (l : Launch) (Z : State) (a0 : Array Value) (hw : ∀ d ∈ tables_1, d.before a0 Z = true) (ws : List Jvm.Cond) (a1 : Addr) (a2 : Addr) (k3 : ClassId) (p4 : Int64) (p5 : Int64) (p6 : Int64) (p7 : Int64) (p8 : Int64) (p9 : Int64) (p10 : Int64) (p11 : Int64) (p12 : Int64) (a13 : Addr) (k14 : ClassId) (k15 : ClassId) (a16 : Addr) (k17 : ClassId) (p18 : Int64) (p19 : Int64) (p20 : Int64) (p21 : Int64) (h0 : Heap) (n0 : Nat) (Z0 : n0 ≤ h0.size) (F0_0 : Arv Z h0 a1 k3 .long (9 : Int32) [(.long p4), (.long p5), (.long p6), (.long p7), (.long p8), (.long p9), (.long p10), (.long p11), (.long p12)] (.long (0 : Int64))) (g_a1 : n0 ≤ a1) (F0_2 : Arv Z h0 a13 k14 .long (9 : Int32) [(.long p4), (.long p5), (.long p6), (.long p7), (.long p8), (.long p9), (.long p10), (.long p11), (.long p12)] (.long (0 : Int64))) (g_a13 : n0 ≤ a13) (F0_4 : Arv Z h0 a2 k15 .long (7 : Int32) [(.long (-1 : Int64)), (.long (-1 : Int64)), (.long (-1 : Int64)), (.long (-1 : Int64)), (.long (-1 : Int64)), (.long (-1 : Int64)), (.long (-1 : Int64))] (.long (0 : Int64))) (g_a2 : n0 ≤ a2) (F0_6 : Arv Z h0 a16 k17 .long (7 : Int32) [(.long (-1 : Int64)), (.long p18), (.long p19), (.long p20), (.long p21), (.long p12), (.long (-1 : Int64))] (.long (0 : Int64))) (g_a16 : n0 ≤ a16) (lt0_0 : a1 < a13) (lt0_1 : a13 < a2) (lt0_2 : a2 < a16) :
    MetFree l (⟨"com/example/portcullis/portcullis/protocol/Field", "pack", "([J[JI)V"⟩ : MethodName) (head1 (Jvm.Cond.code (⟨"com/example/portcullis/portcullis/protocol/Field", "pack", "([J[JI)V"⟩ : MethodName) prog_3_method_10_code 6 none :: ws) R1_188) (fun a U => a = #[(.ref a1), (.ref a2), (.int (1 : Int32))] ∧ Z.Warmed39 U.vm ∧ U.heap = h0) (fun _ _ _ _ _ => True) (fun _ U o U' => ∃ v L, o = .returned v ∧ Q1_188 Z a1 a2 k3 p4 p5 p6 p7 p8 p9 p10 p11 p12 a13 k14 k15 a16 k17 p18 p19 p20 p21 h0 n0 v U'.heap L ∧ FrameEnd U o U' L R1_188.cells R1_188.slots) := by
 refine MetFree.of_bodySF (plainFor_of_name pn_0) hisR ?_
 intro p e s m args below meth c s₁ Bd hml0 hP hK
 obtain ⟨rfl, hZ, hh⟩ := hP
 have hx := Bd.exec
 have hby := Bd.bytes
 have hml : c.maxLocals = 6 := hml0
 have hlk : meth.locks = false := Bd.notSynchronized
 have hown : s.vm.findClass "com/example/portcullis/portcullis/protocol/Field" = some m.cls := findClass_of_methodNamed Bd.named
 have hnm := (name_of_methodNamed Bd.named Bd.method).1
 have X0 : Stand p l e R1_188 s m #[(.ref a1), (.ref a2), (.int (1 : Int32))] below meth c s₁ [] 0 0 := Stand.of_body Bd
 have e0 : s₁.heap = h0 := by rw [← hh, Bd.state]; rfl
 have N0 := Fr.nil n0
 rw [ef1_188 m a1 a2]
 show KEnds p e below s R1_188.cells R1_188.slots (Q1_188 Z a1 a2 k3 p4 p5 p6 p7 p8 p9 p10 p11 p12 a13 k14 k15 a16 k17 p18 p19 p20 p21 h0 n0) s₁ (mkF m 0 #[.val (.ref a1), .val (.ref a2), .val (.int (1 : Int32)), .unset, .unset, .unset] [])
 refine k_iconst X0 hx (hb hby d1_0) (pc' := 1) rfl (z := (0 : Int32)) rfl ?_
 refine k_istoreN X0 hx (hb hby d1_1) (Ls' := #[.val (.ref a1), .val (.ref a2), .val (.int (1 : Int32)), .val (.int (0 : Int32)), .unset, .unset]) rfl (pc' := 2) rfl ?_
 refine k_iloadN X0 hx (hb hby d1_2) rfl (pc' := 3) rfl ?_
 refine k_iconst X0 hx (hb hby d1_3) (pc' := 4) rfl (z := (5 : Int32)) rfl ?_
 refine k_icmp_ge X0 hx (hb hby d1_4) (pn := 7) rfl (py := 52) (by decide) (fun hc => absurd (by decide) hc) (fun _ => ?_)
 refine k_iconst X0 hx (hb hby d1_7) (pc' := 8) rfl (z := (2 : Int32)) rfl ?_
 refine k_iloadN X0 hx (hb hby d1_8) rfl (pc' := 9) rfl ?_
 refine k_imulL X0 hx (hb hby d1_9) (pc' := 10) rfl (z := (0 : Int32)) (by decide) ?_
 refine k_iconst X0 hx (hb hby d1_10) (pc' := 11) rfl (z := (1 : Int32)) rfl ?_
 refine k_iaddL X0 hx (hb hby d1_11) (pc' := 12) rfl (z := (1 : Int32)) (by decide) ?_
 refine k_bipush X0 hx (hb hby d1_12) (pc' := 14) rfl (z := (9 : Int32)) rfl ?_
 refine k_icmp_ge X0 hx (hb hby d1_14) (pn := 17) rfl (py := 30) (by decide) (fun hc => absurd (by decide) hc) (fun _ => ?_)
 refine k_aloadN X0 hx (hb hby d1_17) rfl rfl (pc' := 18) rfl ?_
 refine k_iconst X0 hx (hb hby d1_18) (pc' := 19) rfl (z := (2 : Int32)) rfl ?_
 refine k_iloadN X0 hx (hb hby d1_19) rfl (pc' := 20) rfl ?_
 refine k_imulL X0 hx (hb hby d1_20) (pc' := 21) rfl (z := (0 : Int32)) (by decide) ?_
 refine k_iconst X0 hx (hb hby d1_21) (pc' := 22) rfl (z := (1 : Int32)) rfl ?_
 refine k_iaddL X0 hx (hb hby d1_22) (pc' := 23) rfl (z := (1 : Int32)) (by decide) ?_
 refine k_laload X0 hx hZ e0 F0_0 ⟨by decide, by decide⟩ (v := (.long p5)) rfl (hb hby d1_23) (pc' := 24) rfl ?_
 refine k_bipush X0 hx (hb hby d1_24) (pc' := 26) rfl (z := (29 : Int32)) rfl ?_
 refine k_lshl X0 hx (hb hby d1_26) (pc' := 27) rfl (fun v189 hv189 => ?_)
 refine k_goto X0 hx (hb hby d1_27) (pc' := 31) (by decide) ?_
 refine k_lstore X0 hx (hb hby d1_31) (Ls' := #[.val (.ref a1), .val (.ref a2), .val (.int (1 : Int32)), .val (.int (0 : Int32)), .val (.long v189), .second]) rfl (pc' := 33) rfl ?_
 refine k_aloadN X0 hx (hb hby d1_33) rfl rfl (pc' := 34) rfl ?_
 refine k_iloadN X0 hx (hb hby d1_34) rfl (pc' := 35) rfl ?_
 refine k_iloadN X0 hx (hb hby d1_35) rfl (pc' := 36) rfl ?_
 refine k_iaddL X0 hx (hb hby d1_36) (pc' := 37) rfl (z := (1 : Int32)) (by decide) ?_
 refine k_aloadN X0 hx (hb hby d1_37) rfl rfl (pc' := 38) rfl ?_
 refine k_iconst X0 hx (hb hby d1_38) (pc' := 39) rfl (z := (2 : Int32)) rfl ?_
 refine k_iloadN X0 hx (hb hby d1_39) rfl (pc' := 40) rfl ?_
 refine k_imulL X0 hx (hb hby d1_40) (pc' := 41) rfl (z := (0 : Int32)) (by decide) ?_
 refine k_laload X0 hx hZ e0 F0_0 ⟨by decide, by decide⟩ (v := (.long p4)) rfl (hb hby d1_41) (pc' := 42) rfl ?_
 refine k_lload X0 hx (hb hby d1_42) rfl (pc' := 44) rfl ?_
 refine k_lor X0 hx (hb hby d1_44) (pc' := 45) rfl (fun v190 hv190 => ?_)
 refine k_lastore X0 hx hZ e0 F0_4 ⟨by decide, by decide⟩ (i := 1) rfl (Nat.le_of_ble_eq_true rfl) (hb hby d1_45) (pc' := 46) rfl (fun T191 h191 X191 e191 W191 V191 => ?_)
 have Vw191 : Arv Z h191 a2 k15 .long (7 : Int32) [(.long (-1 : Int64)), (.long v190), (.long (-1 : Int64)), (.long (-1 : Int64)), (.long (-1 : Int64)), (.long (-1 : Int64)), (.long (-1 : Int64))] (.long (0 : Int64)) := V191
 have N191 := Fr.snoc X191 N0 g_a2
 have Z191 : n0 ≤ h191.size := Nat.le_trans Z0 (Nat.le_of_eq W191.size.symm)
 refine k_iinc X191 hx (hb hby d1_46) rfl (pc' := 49) rfl (z := (1 : Int32)) (by decide) (Ls' := #[.val (.ref a1), .val (.ref a2), .val (.int (1 : Int32)), .val (.int (1 : Int32)), .val (.long v189), .second]) rfl ?_
 refine k_goto X191 hx (hb hby d1_49) (pc' := 2) (by decide) ?_
 refine k_iloadN X191 hx (hb hby d1_2) rfl (pc' := 3) rfl ?_
 refine k_iconst X191 hx (hb hby d1_3) (pc' := 4) rfl (z := (5 : Int32)) rfl ?_
 refine k_icmp_ge X191 hx (hb hby d1_4) (pn := 7) rfl (py := 52) (by decide) (fun hc => absurd (by decide) hc) (fun _ => ?_)
 refine k_iconst X191 hx (hb hby d1_7) (pc' := 8) rfl (z := (2 : Int32)) rfl ?_
 refine k_iloadN X191 hx (hb hby d1_8) rfl (pc' := 9) rfl ?_
 refine k_imulL X191 hx (hb hby d1_9) (pc' := 10) rfl (z := (2 : Int32)) (by decide) ?_
 refine k_iconst X191 hx (hb hby d1_10) (pc' := 11) rfl (z := (1 : Int32)) rfl ?_
 refine k_iaddL X191 hx (hb hby d1_11) (pc' := 12) rfl (z := (3 : Int32)) (by decide) ?_
 refine k_bipush X191 hx (hb hby d1_12) (pc' := 14) rfl (z := (9 : Int32)) rfl ?_
 refine k_icmp_ge X191 hx (hb hby d1_14) (pn := 17) rfl (py := 30) (by decide) (fun hc => absurd (by decide) hc) (fun _ => ?_)
 refine k_aloadN X191 hx (hb hby d1_17) rfl rfl (pc' := 18) rfl ?_
 refine k_iconst X191 hx (hb hby d1_18) (pc' := 19) rfl (z := (2 : Int32)) rfl ?_
 refine k_iloadN X191 hx (hb hby d1_19) rfl (pc' := 20) rfl ?_
 refine k_imulL X191 hx (hb hby d1_20) (pc' := 21) rfl (z := (2 : Int32)) (by decide) ?_
 refine k_iconst X191 hx (hb hby d1_21) (pc' := 22) rfl (z := (1 : Int32)) rfl ?_
 refine k_iaddL X191 hx (hb hby d1_22) (pc' := 23) rfl (z := (3 : Int32)) (by decide) ?_
 have F192 := (F0_0.other W191 (Nat.ne_of_lt (Nat.lt_trans lt0_0 lt0_1)))
 refine k_laload X191 hx hZ e191 F192 ⟨by decide, by decide⟩ (v := (.long p7)) rfl (hb hby d1_23) (pc' := 24) rfl ?_
 refine k_bipush X191 hx (hb hby d1_24) (pc' := 26) rfl (z := (29 : Int32)) rfl ?_
 refine k_lshl X191 hx (hb hby d1_26) (pc' := 27) rfl (fun v193 hv193 => ?_)
 refine k_goto X191 hx (hb hby d1_27) (pc' := 31) (by decide) ?_
 refine k_lstore X191 hx (hb hby d1_31) (Ls' := #[.val (.ref a1), .val (.ref a2), .val (.int (1 : Int32)), .val (.int (1 : Int32)), .val (.long v193), .second]) rfl (pc' := 33) rfl ?_
 refine k_aloadN X191 hx (hb hby d1_33) rfl rfl (pc' := 34) rfl ?_
 refine k_iloadN X191 hx (hb hby d1_34) rfl (pc' := 35) rfl ?_
 refine k_iloadN X191 hx (hb hby d1_35) rfl (pc' := 36) rfl ?_
 refine k_iaddL X191 hx (hb hby d1_36) (pc' := 37) rfl (z := (2 : Int32)) (by decide) ?_
 refine k_aloadN X191 hx (hb hby d1_37) rfl rfl (pc' := 38) rfl ?_
 refine k_iconst X191 hx (hb hby d1_38) (pc' := 39) rfl (z := (2 : Int32)) rfl ?_
 refine k_iloadN X191 hx (hb hby d1_39) rfl (pc' := 40) rfl ?_
 refine k_imulL X191 hx (hb hby d1_40) (pc' := 41) rfl (z := (2 : Int32)) (by decide) ?_
 refine k_laload X191 hx hZ e191 F192 ⟨by decide, by decide⟩ (v := (.long p6)) rfl (hb hby d1_41) (pc' := 42) rfl ?_
 refine k_lload X191 hx (hb hby d1_42) rfl (pc' := 44) rfl ?_
 refine k_lor X191 hx (hb hby d1_44) (pc' := 45) rfl (fun v194 hv194 => ?_)
 refine k_lastore X191 hx hZ e191 Vw191 ⟨by decide, by decide⟩ (i := 2) rfl (Nat.le_of_ble_eq_true rfl) (hb hby d1_45) (pc' := 46) rfl (fun T195 h195 X195 e195 W195 V195 => ?_)
 have Vw195 : Arv Z h195 a2 k15 .long (7 : Int32) [(.long (-1 : Int64)), (.long v190), (.long v194), (.long (-1 : Int64)), (.long (-1 : Int64)), (.long (-1 : Int64)), (.long (-1 : Int64))] (.long (0 : Int64)) := V195
 have N195 := Fr.snoc X195 N191 g_a2
 have Z195 : n0 ≤ h195.size := Nat.le_trans Z191 (Nat.le_of_eq W195.size.symm)
 refine k_iinc X195 hx (hb hby d1_46) rfl (pc' := 49) rfl (z := (2 : Int32)) (by decide) (Ls' := #[.val (.ref a1), .val (.ref a2), .val (.int (1 : Int32)), .val (.int (2 : Int32)), .val (.long v193), .second]) rfl ?_
 refine k_goto X195 hx (hb hby d1_49) (pc' := 2) (by decide) ?_
 refine k_iloadN X195 hx (hb hby d1_2) rfl (pc' := 3) rfl ?_
 refine k_iconst X195 hx (hb hby d1_3) (pc' := 4) rfl (z := (5 : Int32)) rfl ?_
 refine k_icmp_ge X195 hx (hb hby d1_4) (pn := 7) rfl (py := 52) (by decide) (fun hc => absurd (by decide) hc) (fun _ => ?_)
 refine k_iconst X195 hx (hb hby d1_7) (pc' := 8) rfl (z := (2 : Int32)) rfl ?_
 refine k_iloadN X195 hx (hb hby d1_8) rfl (pc' := 9) rfl ?_
 refine k_imulL X195 hx (hb hby d1_9) (pc' := 10) rfl (z := (4 : Int32)) (by decide) ?_
 refine k_iconst X195 hx (hb hby d1_10) (pc' := 11) rfl (z := (1 : Int32)) rfl ?_
 refine k_iaddL X195 hx (hb hby d1_11) (pc' := 12) rfl (z := (5 : Int32)) (by decide) ?_
 refine k_bipush X195 hx (hb hby d1_12) (pc' := 14) rfl (z := (9 : Int32)) rfl ?_
 refine k_icmp_ge X195 hx (hb hby d1_14) (pn := 17) rfl (py := 30) (by decide) (fun hc => absurd (by decide) hc) (fun _ => ?_)
 refine k_aloadN X195 hx (hb hby d1_17) rfl rfl (pc' := 18) rfl ?_
 refine k_iconst X195 hx (hb hby d1_18) (pc' := 19) rfl (z := (2 : Int32)) rfl ?_
 refine k_iloadN X195 hx (hb hby d1_19) rfl (pc' := 20) rfl ?_
 refine k_imulL X195 hx (hb hby d1_20) (pc' := 21) rfl (z := (4 : Int32)) (by decide) ?_
 refine k_iconst X195 hx (hb hby d1_21) (pc' := 22) rfl (z := (1 : Int32)) rfl ?_
 refine k_iaddL X195 hx (hb hby d1_22) (pc' := 23) rfl (z := (5 : Int32)) (by decide) ?_
 have F196 := (F192.other W195 (Nat.ne_of_lt (Nat.lt_trans lt0_0 lt0_1)))
 refine k_laload X195 hx hZ e195 F196 ⟨by decide, by decide⟩ (v := (.long p9)) rfl (hb hby d1_23) (pc' := 24) rfl ?_
 refine k_bipush X195 hx (hb hby d1_24) (pc' := 26) rfl (z := (29 : Int32)) rfl ?_
 refine k_lshl X195 hx (hb hby d1_26) (pc' := 27) rfl (fun v197 hv197 => ?_)
 refine k_goto X195 hx (hb hby d1_27) (pc' := 31) (by decide) ?_
 refine k_lstore X195 hx (hb hby d1_31) (Ls' := #[.val (.ref a1), .val (.ref a2), .val (.int (1 : Int32)), .val (.int (2 : Int32)), .val (.long v197), .second]) rfl (pc' := 33) rfl ?_
 refine k_aloadN X195 hx (hb hby d1_33) rfl rfl (pc' := 34) rfl ?_
 refine k_iloadN X195 hx (hb hby d1_34) rfl (pc' := 35) rfl ?_
 refine k_iloadN X195 hx (hb hby d1_35) rfl (pc' := 36) rfl ?_
 refine k_iaddL X195 hx (hb hby d1_36) (pc' := 37) rfl (z := (3 : Int32)) (by decide) ?_
 refine k_aloadN X195 hx (hb hby d1_37) rfl rfl (pc' := 38) rfl ?_
 refine k_iconst X195 hx (hb hby d1_38) (pc' := 39) rfl (z := (2 : Int32)) rfl ?_
 refine k_iloadN X195 hx (hb hby d1_39) rfl (pc' := 40) rfl ?_
 refine k_imulL X195 hx (hb hby d1_40) (pc' := 41) rfl (z := (4 : Int32)) (by decide) ?_
 refine k_laload X195 hx hZ e195 F196 ⟨by decide, by decide⟩ (v := (.long p8)) rfl (hb hby d1_41) (pc' := 42) rfl ?_
 refine k_lload X195 hx (hb hby d1_42) rfl (pc' := 44) rfl ?_
 refine k_lor X195 hx (hb hby d1_44) (pc' := 45) rfl (fun v198 hv198 => ?_)
 refine k_lastore X195 hx hZ e195 Vw195 ⟨by decide, by decide⟩ (i := 3) rfl (Nat.le_of_ble_eq_true rfl) (hb hby d1_45) (pc' := 46) rfl (fun T199 h199 X199 e199 W199 V199 => ?_)
 have Vw199 : Arv Z h199 a2 k15 .long (7 : Int32) [(.long (-1 : Int64)), (.long v190), (.long v194), (.long v198), (.long (-1 : Int64)), (.long (-1 : Int64)), (.long (-1 : Int64))] (.long (0 : Int64)) := V199
 have N199 := Fr.snoc X199 N195 g_a2
 have Z199 : n0 ≤ h199.size := Nat.le_trans Z195 (Nat.le_of_eq W199.size.symm)
 refine k_iinc X199 hx (hb hby d1_46) rfl (pc' := 49) rfl (z := (3 : Int32)) (by decide) (Ls' := #[.val (.ref a1), .val (.ref a2), .val (.int (1 : Int32)), .val (.int (3 : Int32)), .val (.long v197), .second]) rfl ?_
 refine k_goto X199 hx (hb hby d1_49) (pc' := 2) (by decide) ?_
 refine k_iloadN X199 hx (hb hby d1_2) rfl (pc' := 3) rfl ?_
 refine k_iconst X199 hx (hb hby d1_3) (pc' := 4) rfl (z := (5 : Int32)) rfl ?_
 refine k_icmp_ge X199 hx (hb hby d1_4) (pn := 7) rfl (py := 52) (by decide) (fun hc => absurd (by decide) hc) (fun _ => ?_)
 refine k_iconst X199 hx (hb hby d1_7) (pc' := 8) rfl (z := (2 : Int32)) rfl ?_
 refine k_iloadN X199 hx (hb hby d1_8) rfl (pc' := 9) rfl ?_
 refine k_imulL X199 hx (hb hby d1_9) (pc' := 10) rfl (z := (6 : Int32)) (by decide) ?_
 refine k_iconst X199 hx (hb hby d1_10) (pc' := 11) rfl (z := (1 : Int32)) rfl ?_
 refine k_iaddL X199 hx (hb hby d1_11) (pc' := 12) rfl (z := (7 : Int32)) (by decide) ?_
 refine k_bipush X199 hx (hb hby d1_12) (pc' := 14) rfl (z := (9 : Int32)) rfl ?_
 refine k_icmp_ge X199 hx (hb hby d1_14) (pn := 17) rfl (py := 30) (by decide) (fun hc => absurd (by decide) hc) (fun _ => ?_)
 refine k_aloadN X199 hx (hb hby d1_17) rfl rfl (pc' := 18) rfl ?_
 refine k_iconst X199 hx (hb hby d1_18) (pc' := 19) rfl (z := (2 : Int32)) rfl ?_
 refine k_iloadN X199 hx (hb hby d1_19) rfl (pc' := 20) rfl ?_
 refine k_imulL X199 hx (hb hby d1_20) (pc' := 21) rfl (z := (6 : Int32)) (by decide) ?_
 refine k_iconst X199 hx (hb hby d1_21) (pc' := 22) rfl (z := (1 : Int32)) rfl ?_
 refine k_iaddL X199 hx (hb hby d1_22) (pc' := 23) rfl (z := (7 : Int32)) (by decide) ?_
 have F200 := (F196.other W199 (Nat.ne_of_lt (Nat.lt_trans lt0_0 lt0_1)))
 refine k_laload X199 hx hZ e199 F200 ⟨by decide, by decide⟩ (v := (.long p11)) rfl (hb hby d1_23) (pc' := 24) rfl ?_
 refine k_bipush X199 hx (hb hby d1_24) (pc' := 26) rfl (z := (29 : Int32)) rfl ?_
 refine k_lshl X199 hx (hb hby d1_26) (pc' := 27) rfl (fun v201 hv201 => ?_)
 refine k_goto X199 hx (hb hby d1_27) (pc' := 31) (by decide) ?_
 refine k_lstore X199 hx (hb hby d1_31) (Ls' := #[.val (.ref a1), .val (.ref a2), .val (.int (1 : Int32)), .val (.int (3 : Int32)), .val (.long v201), .second]) rfl (pc' := 33) rfl ?_
 refine k_aloadN X199 hx (hb hby d1_33) rfl rfl (pc' := 34) rfl ?_
 refine k_iloadN X199 hx (hb hby d1_34) rfl (pc' := 35) rfl ?_
 refine k_iloadN X199 hx (hb hby d1_35) rfl (pc' := 36) rfl ?_
 refine k_iaddL X199 hx (hb hby d1_36) (pc' := 37) rfl (z := (4 : Int32)) (by decide) ?_
 refine k_aloadN X199 hx (hb hby d1_37) rfl rfl (pc' := 38) rfl ?_
 refine k_iconst X199 hx (hb hby d1_38) (pc' := 39) rfl (z := (2 : Int32)) rfl ?_
 refine k_iloadN X199 hx (hb hby d1_39) rfl (pc' := 40) rfl ?_
 refine k_imulL X199 hx (hb hby d1_40) (pc' := 41) rfl (z := (6 : Int32)) (by decide) ?_
 refine k_laload X199 hx hZ e199 F200 ⟨by decide, by decide⟩ (v := (.long p10)) rfl (hb hby d1_41) (pc' := 42) rfl ?_
 refine k_lload X199 hx (hb hby d1_42) rfl (pc' := 44) rfl ?_
 refine k_lor X199 hx (hb hby d1_44) (pc' := 45) rfl (fun v202 hv202 => ?_)
 refine k_lastore X199 hx hZ e199 Vw199 ⟨by decide, by decide⟩ (i := 4) rfl (Nat.le_of_ble_eq_true rfl) (hb hby d1_45) (pc' := 46) rfl (fun T203 h203 X203 e203 W203 V203 => ?_)
 have Vw203 : Arv Z h203 a2 k15 .long (7 : Int32) [(.long (-1 : Int64)), (.long v190), (.long v194), (.long v198), (.long v202), (.long (-1 : Int64)), (.long (-1 : Int64))] (.long (0 : Int64)) := V203
 have N203 := Fr.snoc X203 N199 g_a2
 have Z203 : n0 ≤ h203.size := Nat.le_trans Z199 (Nat.le_of_eq W203.size.symm)
 refine k_iinc X203 hx (hb hby d1_46) rfl (pc' := 49) rfl (z := (4 : Int32)) (by decide) (Ls' := #[.val (.ref a1), .val (.ref a2), .val (.int (1 : Int32)), .val (.int (4 : Int32)), .val (.long v201), .second]) rfl ?_
 refine k_goto X203 hx (hb hby d1_49) (pc' := 2) (by decide) ?_
 refine k_iloadN X203 hx (hb hby d1_2) rfl (pc' := 3) rfl ?_
 refine k_iconst X203 hx (hb hby d1_3) (pc' := 4) rfl (z := (5 : Int32)) rfl ?_
 refine k_icmp_ge X203 hx (hb hby d1_4) (pn := 7) rfl (py := 52) (by decide) (fun hc => absurd (by decide) hc) (fun _ => ?_)
 refine k_iconst X203 hx (hb hby d1_7) (pc' := 8) rfl (z := (2 : Int32)) rfl ?_
 refine k_iloadN X203 hx (hb hby d1_8) rfl (pc' := 9) rfl ?_
 refine k_imulL X203 hx (hb hby d1_9) (pc' := 10) rfl (z := (8 : Int32)) (by decide) ?_
 refine k_iconst X203 hx (hb hby d1_10) (pc' := 11) rfl (z := (1 : Int32)) rfl ?_
 refine k_iaddL X203 hx (hb hby d1_11) (pc' := 12) rfl (z := (9 : Int32)) (by decide) ?_
 refine k_bipush X203 hx (hb hby d1_12) (pc' := 14) rfl (z := (9 : Int32)) rfl ?_
 refine k_icmp_ge X203 hx (hb hby d1_14) (pn := 17) rfl (py := 30) (by decide) (fun _ => ?_) (fun hc => absurd hc (by decide))
 refine k_lconst X203 hx (hb hby d1_30) (pc' := 31) rfl (z := (0 : Int64)) rfl ?_
 refine k_lstore X203 hx (hb hby d1_31) (Ls' := #[.val (.ref a1), .val (.ref a2), .val (.int (1 : Int32)), .val (.int (4 : Int32)), .val (.long (0 : Int64)), .second]) rfl (pc' := 33) rfl ?_
 refine k_aloadN X203 hx (hb hby d1_33) rfl rfl (pc' := 34) rfl ?_
 refine k_iloadN X203 hx (hb hby d1_34) rfl (pc' := 35) rfl ?_
 refine k_iloadN X203 hx (hb hby d1_35) rfl (pc' := 36) rfl ?_
 refine k_iaddL X203 hx (hb hby d1_36) (pc' := 37) rfl (z := (5 : Int32)) (by decide) ?_
 refine k_aloadN X203 hx (hb hby d1_37) rfl rfl (pc' := 38) rfl ?_
 refine k_iconst X203 hx (hb hby d1_38) (pc' := 39) rfl (z := (2 : Int32)) rfl ?_
 refine k_iloadN X203 hx (hb hby d1_39) rfl (pc' := 40) rfl ?_
 refine k_imulL X203 hx (hb hby d1_40) (pc' := 41) rfl (z := (8 : Int32)) (by decide) ?_
 have F204 := (F200.other W203 (Nat.ne_of_lt (Nat.lt_trans lt0_0 lt0_1)))
 refine k_laload X203 hx hZ e203 F204 ⟨by decide, by decide⟩ (v := (.long p12)) rfl (hb hby d1_41) (pc' := 42) rfl ?_
 refine k_lload X203 hx (hb hby d1_42) rfl (pc' := 44) rfl ?_
 refine k_lor X203 hx (hb hby d1_44) (pc' := 45) rfl (fun v205 hv205 => ?_)
 refine k_lastore X203 hx hZ e203 Vw203 ⟨by decide, by decide⟩ (i := 5) rfl (Nat.le_of_ble_eq_true rfl) (hb hby d1_45) (pc' := 46) rfl (fun T206 h206 X206 e206 W206 V206 => ?_)
 have Vw206 : Arv Z h206 a2 k15 .long (7 : Int32) [(.long (-1 : Int64)), (.long v190), (.long v194), (.long v198), (.long v202), (.long v205), (.long (-1 : Int64))] (.long (0 : Int64)) := V206
 have N206 := Fr.snoc X206 N203 g_a2
 have Z206 : n0 ≤ h206.size := Nat.le_trans Z203 (Nat.le_of_eq W206.size.symm)
 refine k_iinc X206 hx (hb hby d1_46) rfl (pc' := 49) rfl (z := (5 : Int32)) (by decide) (Ls' := #[.val (.ref a1), .val (.ref a2), .val (.int (1 : Int32)), .val (.int (5 : Int32)), .val (.long (0 : Int64)), .second]) rfl ?_
 refine k_goto X206 hx (hb hby d1_49) (pc' := 2) (by decide) ?_
 refine k_iloadN X206 hx (hb hby d1_2) rfl (pc' := 3) rfl ?_
 refine k_iconst X206 hx (hb hby d1_3) (pc' := 4) rfl (z := (5 : Int32)) rfl ?_
 refine k_icmp_ge X206 hx (hb hby d1_4) (pn := 7) rfl (py := 52) (by decide) (fun _ => ?_) (fun hc => absurd hc (by decide))
 have F207 := (F204.other W206 (Nat.ne_of_lt (Nat.lt_trans lt0_0 lt0_1)))
 have F208 := (((((F0_2.other W191 (Nat.ne_of_lt lt0_1)).other W195 (Nat.ne_of_lt lt0_1)).other W199 (Nat.ne_of_lt lt0_1)).other W203 (Nat.ne_of_lt lt0_1)).other W206 (Nat.ne_of_lt lt0_1))
 have F209 := (((((F0_6.other W191 (Ne.symm (Nat.ne_of_lt lt0_2))).other W195 (Ne.symm (Nat.ne_of_lt lt0_2))).other W199 (Ne.symm (Nat.ne_of_lt lt0_2))).other W203 (Ne.symm (Nat.ne_of_lt lt0_2))).other W206 (Ne.symm (Nat.ne_of_lt lt0_2)))
 exact k_ret X206 hx Bd.returns (hb hby d1_52) hlk (by decide) (by decide) (by rw [e206]; exact ⟨N206, ⟨v189, v190, v193, v194, v197, v198, v201, v202, v205, hv189, hv190, hv193, hv194, hv197, hv198, hv201, hv202, hv205, rfl, F207, F208, Vw206, F209, Z206⟩⟩)
abbrev R1_299 : Room := { frames := 0, cells := 0, slots := 0, locals := 0 }
def Q1_299 (Z : State) (a1 : Addr) (a2 : Addr) (k3 : ClassId) (p4 : Int64) (p5 : Int64) (p6 : Int64) (p7 : Int64) (p8 : Int64) (p9 : Int64) (p10 : Int64) (p11 : Int64) (p12 : Int64) (a13 : Addr) (k14 : ClassId) (k15 : ClassId) (a16 : Addr) (k17 : ClassId) (p18 : Int64) (p19 : Int64) (p20 : Int64) (p21 : Int64) (h0 : Heap) (n0 : Nat) (v : Option Value) (h : Heap) (L : List Loc) : Prop := Fr n0 L ∧ ((∃ (v300 : Int64) (v301 : Int64) (v304 : Int64) (v305 : Int64) (v308 : Int64) (v309 : Int64) (v312 : Int64) (v313 : Int64) (v316 : Int64), v300 = p5 <<< ((29 : Int32) &&& 0x3f).toInt64 ∧ v301 = p4 ||| v300 ∧ v304 = p7 <<< ((29 : Int32) &&& 0x3f).toInt64 ∧ v305 = p6 ||| v304 ∧ v308 = p9 <<< ((29 : Int32) &&& 0x3f).toInt64 ∧ v309 = p8 ||| v308 ∧ v312 = p11 <<< ((29 : Int32) &&& 0x3f).toInt64 ∧ v313 = p10 ||| v312 ∧ v316 = p12 ||| (0 : Int64) ∧ v = none ∧ Arv Z h a1 k3 .long (9 : Int32) [(.long p4), (.long p5), (.long p6), (.long p7), (.long p8), (.long p9), (.long p10), (.long p11), (.long p12)] (.long (0 : Int64)) ∧ Arv Z h a13 k14 .long (9 : Int32) [(.long p4), (.long p5), (.long p6), (.long p7), (.long p8), (.long p9), (.long p10), (.long p11), (.long p12)] (.long (0 : Int64)) ∧ Arv Z h a2 k15 .long (7 : Int32) [(.long (-1 : Int64)), (.long (-1 : Int64)), (.long v301), (.long v305), (.long v309), (.long v313), (.long v316)] (.long (0 : Int64)) ∧ Arv Z h a16 k17 .long (7 : Int32) [(.long (-1 : Int64)), (.long (-1 : Int64)), (.long p18), (.long p19), (.long p20), (.long p21), (.long p12)] (.long (0 : Int64)) ∧ n0 ≤ h.size))
theorem ef1_299 (m : MethodId) (x0 : Addr) (x1 : Addr) : entryFrame m #[(.ref x0), (.ref x1), (.int (2 : Int32))] 6 = mkF m 0 #[.val (.ref x0), .val (.ref x1), .val (.int (2 : Int32)), .unset, .unset, .unset] [] := by first | (simp [entryFrame, mkF, argsToLocals, Value.category]; done) | rfl
set_option maxRecDepth 65536 in
set_option maxHeartbeats 40000000 in
theorem rm1_299 (l : Launch) (Z : State) (a0 : Array Value) (hw : ∀ d ∈ tables_1, d.before a0 Z = true) (ws : List Jvm.Cond) (a1 : Addr) (a2 : Addr) (k3 : ClassId) (p4 : Int64) (p5 : Int64) (p6 : Int64) (p7 : Int64) (p8 : Int64) (p9 : Int64) (p10 : Int64) (p11 : Int64) (p12 : Int64) (a13 : Addr) (k14 : ClassId) (k15 : ClassId) (a16 : Addr) (k17 : ClassId) (p18 : Int64) (p19 : Int64) (p20 : Int64) (p21 : Int64) (h0 : Heap) (n0 : Nat) (Z0 : n0 ≤ h0.size) (F0_0 : Arv Z h0 a1 k3 .long (9 : Int32) [(.long p4), (.long p5), (.long p6), (.long p7), (.long p8), (.long p9), (.long p10), (.long p11), (.long p12)] (.long (0 : Int64))) (g_a1 : n0 ≤ a1) (F0_2 : Arv Z h0 a13 k14 .long (9 : Int32) [(.long p4), (.long p5), (.long p6), (.long p7), (.long p8), (.long p9), (.long p10), (.long p11), (.long p12)] (.long (0 : Int64))) (g_a13 : n0 ≤ a13) (F0_4 : Arv Z h0 a2 k15 .long (7 : Int32) [(.long (-1 : Int64)), (.long (-1 : Int64)), (.long (-1 : Int64)), (.long (-1 : Int64)), (.long (-1 : Int64)), (.long (-1 : Int64)), (.long (-1 : Int64))] (.long (0 : Int64))) (g_a2 : n0 ≤ a2) (F0_6 : Arv Z h0 a16 k17 .long (7 : Int32) [(.long (-1 : Int64)), (.long (-1 : Int64)), (.long p18), (.long p19), (.long p20), (.long p21), (.long p12)] (.long (0 : Int64))) (g_a16 : n0 ≤ a16) (lt0_0 : a1 < a13) (lt0_1 : a13 < a2) (lt0_2 : a2 < a16) :
    MetFree l (⟨"com/example/portcullis/portcullis/protocol/Field", "pack", "([J[JI)V"⟩ : MethodName) (head1 (Jvm.Cond.code (⟨"com/example/portcullis/portcullis/protocol/Field", "pack", "([J[JI)V"⟩ : MethodName) prog_3_method_10_code 6 none :: ws) R1_299) (fun a U => a = #[(.ref a1), (.ref a2), (.int (2 : Int32))] ∧ Z.Warmed39 U.vm ∧ U.heap = h0) (fun _ _ _ _ _ => True) (fun _ U o U' => ∃ v L, o = .returned v ∧ Q1_299 Z a1 a2 k3 p4 p5 p6 p7 p8 p9 p10 p11 p12 a13 k14 k15 a16 k17 p18 p19 p20 p21 h0 n0 v U'.heap L ∧ FrameEnd U o U' L R1_299.cells R1_299.slots) := by
 refine MetFree.of_bodySF (plainFor_of_name pn_0) hisR ?_
 intro p e s m args below meth c s₁ Bd hml0 hP hK
 obtain ⟨rfl, hZ, hh⟩ := hP
 have hx := Bd.exec
 have hby := Bd.bytes
 have hml : c.maxLocals = 6 := hml0
 have hlk : meth.locks = false := Bd.notSynchronized
 have hown : s.vm.findClass "com/example/portcullis/portcullis/protocol/Field" = some m.cls := findClass_of_methodNamed Bd.named
 have hnm := (name_of_methodNamed Bd.named Bd.method).1
 have X0 : Stand p l e R1_299 s m #[(.ref a1), (.ref a2), (.int (2 : Int32))] below meth c s₁ [] 0 0 := Stand.of_body Bd
 have e0 : s₁.heap = h0 := by rw [← hh, Bd.state]; rfl
 have N0 := Fr.nil n0
 rw [ef1_299 m a1 a2]
 show KEnds p e below s R1_299.cells R1_299.slots (Q1_299 Z a1 a2 k3 p4 p5 p6 p7 p8 p9 p10 p11 p12 a13 k14 k15 a16 k17 p18 p19 p20 p21 h0 n0) s₁ (mkF m 0 #[.val (.ref a1), .val (.ref a2), .val (.int (2 : Int32)), .unset, .unset, .unset] [])
 refine k_iconst X0 hx (hb hby d1_0) (pc' := 1) rfl (z := (0 : Int32)) rfl ?_
 refine k_istoreN X0 hx (hb hby d1_1) (Ls' := #[.val (.ref a1), .val (.ref a2), .val (.int (2 : Int32)), .val (.int (0 : Int32)), .unset, .unset]) rfl (pc' := 2) rfl ?_
 refine k_iloadN X0 hx (hb hby d1_2) rfl (pc' := 3) rfl ?_
 refine k_iconst X0 hx (hb hby d1_3) (pc' := 4) rfl (z := (5 : Int32)) rfl ?_
 refine k_icmp_ge X0 hx (hb hby d1_4) (pn := 7) rfl (py := 52) (by decide) (fun hc => absurd (by decide) hc) (fun _ => ?_)
 refine k_iconst X0 hx (hb hby d1_7) (pc' := 8) rfl (z := (2 : Int32)) rfl ?_
 refine k_iloadN X0 hx (hb hby d1_8) rfl (pc' := 9) rfl ?_
 refine k_imulL X0 hx (hb hby d1_9) (pc' := 10) rfl (z := (0 : Int32)) (by decide) ?_
 refine k_iconst X0 hx (hb hby d1_10) (pc' := 11) rfl (z := (1 : Int32)) rfl ?_
 refine k_iaddL X0 hx (hb hby d1_11) (pc' := 12) rfl (z := (1 : Int32)) (by decide) ?_
 refine k_bipush X0 hx (hb hby d1_12) (pc' := 14) rfl (z := (9 : Int32)) rfl ?_
 refine k_icmp_ge X0 hx (hb hby d1_14) (pn := 17) rfl (py := 30) (by decide) (fun hc => absurd (by decide) hc) (fun _ => ?_)
 refine k_aloadN X0 hx (hb hby d1_17) rfl rfl (pc' := 18) rfl ?_
 refine k_iconst X0 hx (hb hby d1_18) (pc' := 19) rfl (z := (2 : Int32)) rfl ?_
 refine k_iloadN X0 hx (hb hby d1_19) rfl (pc' := 20) rfl ?_
 refine k_imulL X0 hx (hb hby d1_20) (pc' := 21) rfl (z := (0 : Int32)) (by decide) ?_
 refine k_iconst X0 hx (hb hby d1_21) (pc' := 22) rfl (z := (1 : Int32)) rfl ?_
 refine k_iaddL X0 hx (hb hby d1_22) (pc' := 23) rfl (z := (1 : Int32)) (by decide) ?_
 refine k_laload X0 hx hZ e0 F0_0 ⟨by decide, by decide⟩ (v := (.long p5)) rfl (hb hby d1_23) (pc' := 24) rfl ?_
 refine k_bipush X0 hx (hb hby d1_24) (pc' := 26) rfl (z := (29 : Int32)) rfl ?_
 refine k_lshl X0 hx (hb hby d1_26) (pc' := 27) rfl (fun v300 hv300 => ?_)
 refine k_goto X0 hx (hb hby d1_27) (pc' := 31) (by decide) ?_
 refine k_lstore X0 hx (hb hby d1_31) (Ls' := #[.val (.ref a1), .val (.ref a2), .val (.int (2 : Int32)), .val (.int (0 : Int32)), .val (.long v300), .second]) rfl (pc' := 33) rfl ?_
 refine k_aloadN X0 hx (hb hby d1_33) rfl rfl (pc' := 34) rfl ?_
 refine k_iloadN X0 hx (hb hby d1_34) rfl (pc' := 35) rfl ?_
 refine k_iloadN X0 hx (hb hby d1_35) rfl (pc' := 36) rfl ?_
 refine k_iaddL X0 hx (hb hby d1_36) (pc' := 37) rfl (z := (2 : Int32)) (by decide) ?_
 refine k_aloadN X0 hx (hb hby d1_37) rfl rfl (pc' := 38) rfl ?_
 refine k_iconst X0 hx (hb hby d1_38) (pc' := 39) rfl (z := (2 : Int32)) rfl ?_
 refine k_iloadN X0 hx (hb hby d1_39) rfl (pc' := 40) rfl ?_
 refine k_imulL X0 hx (hb hby d1_40) (pc' := 41) rfl (z := (0 : Int32)) (by decide) ?_
 refine k_laload X0 hx hZ e0 F0_0 ⟨by decide, by decide⟩ (v := (.long p4)) rfl (hb hby d1_41) (pc' := 42) rfl ?_
 refine k_lload X0 hx (hb hby d1_42) rfl (pc' := 44) rfl ?_
 refine k_lor X0 hx (hb hby d1_44) (pc' := 45) rfl (fun v301 hv301 => ?_)
 refine k_lastore X0 hx hZ e0 F0_4 ⟨by decide, by decide⟩ (i := 2) rfl (Nat.le_of_ble_eq_true rfl) (hb hby d1_45) (pc' := 46) rfl (fun T302 h302 X302 e302 W302 V302 => ?_)
 have Vw302 : Arv Z h302 a2 k15 .long (7 : Int32) [(.long (-1 : Int64)), (.long (-1 : Int64)), (.long v301), (.long (-1 : Int64)), (.long (-1 : Int64)), (.long (-1 : Int64)), (.long (-1 : Int64))] (.long (0 : Int64)) := V302
 have N302 := Fr.snoc X302 N0 g_a2
 have Z302 : n0 ≤ h302.size := Nat.le_trans Z0 (Nat.le_of_eq W302.size.symm)
 refine k_iinc X302 hx (hb hby d1_46) rfl (pc' := 49) rfl (z := (1 : Int32)) (by decide) (Ls' := #[.val (.ref a1), .val (.ref a2), .val (.int (2 : Int32)), .val (.int (1 : Int32)), .val (.long v300), .second]) rfl ?_
 refine k_goto X302 hx (hb hby d1_49) (pc' := 2) (by decide) ?_
 refine k_iloadN X302 hx (hb hby d1_2) rfl (pc' := 3) rfl ?_
 refine k_iconst X302 hx (hb hby d1_3) (pc' := 4) rfl (z := (5 : Int32)) rfl ?_
 refine k_icmp_ge X302 hx (hb hby d1_4) (pn := 7) rfl (py := 52) (by decide) (fun hc => absurd (by decide) hc) (fun _ => ?_)
 refine k_iconst X302 hx (hb hby d1_7) (pc' := 8) rfl (z := (2 : Int32)) rfl ?_
 refine k_iloadN X302 hx (hb hby d1_8) rfl (pc' := 9) rfl ?_
 refine k_imulL X302 hx (hb hby d1_9) (pc' := 10) rfl (z := (2 : Int32)) (by decide) ?_
 refine k_iconst X302 hx (hb hby d1_10) (pc' := 11) rfl (z := (1 : Int32)) rfl ?_
 refine k_iaddL X302 hx (hb hby d1_11) (pc' := 12) rfl (z := (3 : Int32)) (by decide) ?_
 refine k_bipush X302 hx (hb hby d1_12) (pc' := 14) rfl (z := (9 : Int32)) rfl ?_
 refine k_icmp_ge X302 hx (hb hby d1_14) (pn := 17) rfl (py := 30) (by decide) (fun hc => absurd (by decide) hc) (fun _ => ?_)
 refine k_aloadN X302 hx (hb hby d1_17) rfl rfl (pc' := 18) rfl ?_
 refine k_iconst X302 hx (hb hby d1_18) (pc' := 19) rfl (z := (2 : Int32)) rfl ?_
 refine k_iloadN X302 hx (hb hby d1_19) rfl (pc' := 20) rfl ?_
 refine k_imulL X302 hx (hb hby d1_20) (pc' := 21) rfl (z := (2 : Int32)) (by decide) ?_
 refine k_iconst X302 hx (hb hby d1_21) (pc' := 22) rfl (z := (1 : Int32)) rfl ?_
 refine k_iaddL X302 hx (hb hby d1_22) (pc' := 23) rfl (z := (3 : Int32)) (by decide) ?_
 have F303 := (F0_0.other W302 (Nat.ne_of_lt (Nat.lt_trans lt0_0 lt0_1)))
 refine k_laload X302 hx hZ e302 F303 ⟨by decide, by decide⟩ (v := (.long p7)) rfl (hb hby d1_23) (pc' := 24) rfl ?_
 refine k_bipush X302 hx (hb hby d1_24) (pc' := 26) rfl (z := (29 : Int32)) rfl ?_
 refine k_lshl X302 hx (hb hby d1_26) (pc' := 27) rfl (fun v304 hv304 => ?_)
 refine k_goto X302 hx (hb hby d1_27) (pc' := 31) (by decide) ?_
 refine k_lstore X302 hx (hb hby d1_31) (Ls' := #[.val (.ref a1), .val (.ref a2), .val (.int (2 : Int32)), .val (.int (1 : Int32)), .val (.long v304), .second]) rfl (pc' := 33) rfl ?_
 refine k_aloadN X302 hx (hb hby d1_33) rfl rfl (pc' := 34) rfl ?_
 refine k_iloadN X302 hx (hb hby d1_34) rfl (pc' := 35) rfl ?_
 refine k_iloadN X302 hx (hb hby d1_35) rfl (pc' := 36) rfl ?_
 refine k_iaddL X302 hx (hb hby d1_36) (pc' := 37) rfl (z := (3 : Int32)) (by decide) ?_
 refine k_aloadN X302 hx (hb hby d1_37) rfl rfl (pc' := 38) rfl ?_
 refine k_iconst X302 hx (hb hby d1_38) (pc' := 39) rfl (z := (2 : Int32)) rfl ?_
 refine k_iloadN X302 hx (hb hby d1_39) rfl (pc' := 40) rfl ?_
 refine k_imulL X302 hx (hb hby d1_40) (pc' := 41) rfl (z := (2 : Int32)) (by decide) ?_
 refine k_laload X302 hx hZ e302 F303 ⟨by decide, by decide⟩ (v := (.long p6)) rfl (hb hby d1_41) (pc' := 42) rfl ?_
 refine k_lload X302 hx (hb hby d1_42) rfl (pc' := 44) rfl ?_
 refine k_lor X302 hx (hb hby d1_44) (pc' := 45) rfl (fun v305 hv305 => ?_)
 refine k_lastore X302 hx hZ e302 Vw302 ⟨by decide, by decide⟩ (i := 3) rfl (Nat.le_of_ble_eq_true rfl) (hb hby d1_45) (pc' := 46) rfl (fun T306 h306 X306 e306 W306 V306 => ?_)
 have Vw306 : Arv Z h306 a2 k15 .long (7 : Int32) [(.long (-1 : Int64)), (.long (-1 : Int64)), (.long v301), (.long v305), (.long (-1 : Int64)), (.long (-1 : Int64)), (.long (-1 : Int64))] (.long (0 : Int64)) := V306
 have N306 := Fr.snoc X306 N302 g_a2
 have Z306 : n0 ≤ h306.size := Nat.le_trans Z302 (Nat.le_of_eq W306.size.symm)
 refine k_iinc X306 hx (hb hby d1_46) rfl (pc' := 49) rfl (z := (2 : Int32)) (by decide) (Ls' := #[.val (.ref a1), .val (.ref a2), .val (.int (2 : Int32)), .val (.int (2 : Int32)), .val (.long v304), .second]) rfl ?_
 refine k_goto X306 hx (hb hby d1_49) (pc' := 2) (by decide) ?_
 refine k_iloadN X306 hx (hb hby d1_2) rfl (pc' := 3) rfl ?_
 refine k_iconst X306 hx (hb hby d1_3) (pc' := 4) rfl (z := (5 : Int32)) rfl ?_
 refine k_icmp_ge X306 hx (hb hby d1_4) (pn := 7) rfl (py := 52) (by decide) (fun hc => absurd (by decide) hc) (fun _ => ?_)
 refine k_iconst X306 hx (hb hby d1_7) (pc' := 8) rfl (z := (2 : Int32)) rfl ?_
 refine k_iloadN X306 hx (hb hby d1_8) rfl (pc' := 9) rfl ?_
 refine k_imulL X306 hx (hb hby d1_9) (pc' := 10) rfl (z := (4 : Int32)) (by decide) ?_
 refine k_iconst X306 hx (hb hby d1_10) (pc' := 11) rfl (z := (1 : Int32)) rfl ?_
 refine k_iaddL X306 hx (hb hby d1_11) (pc' := 12) rfl (z := (5 : Int32)) (by decide) ?_
 refine k_bipush X306 hx (hb hby d1_12) (pc' := 14) rfl (z := (9 : Int32)) rfl ?_
 refine k_icmp_ge X306 hx (hb hby d1_14) (pn := 17) rfl (py := 30) (by decide) (fun hc => absurd (by decide) hc) (fun _ => ?_)
 refine k_aloadN X306 hx (hb hby d1_17) rfl rfl (pc' := 18) rfl ?_
 refine k_iconst X306 hx (hb hby d1_18) (pc' := 19) rfl (z := (2 : Int32)) rfl ?_
 refine k_iloadN X306 hx (hb hby d1_19) rfl (pc' := 20) rfl ?_
 refine k_imulL X306 hx (hb hby d1_20) (pc' := 21) rfl (z := (4 : Int32)) (by decide) ?_
 refine k_iconst X306 hx (hb hby d1_21) (pc' := 22) rfl (z := (1 : Int32)) rfl ?_
 refine k_iaddL X306 hx (hb hby d1_22) (pc' := 23) rfl (z := (5 : Int32)) (by decide) ?_
 have F307 := (F303.other W306 (Nat.ne_of_lt (Nat.lt_trans lt0_0 lt0_1)))
 refine k_laload X306 hx hZ e306 F307 ⟨by decide, by decide⟩ (v := (.long p9)) rfl (hb hby d1_23) (pc' := 24) rfl ?_
 refine k_bipush X306 hx (hb hby d1_24) (pc' := 26) rfl (z := (29 : Int32)) rfl ?_
 refine k_lshl X306 hx (hb hby d1_26) (pc' := 27) rfl (fun v308 hv308 => ?_)
 refine k_goto X306 hx (hb hby d1_27) (pc' := 31) (by decide) ?_
 refine k_lstore X306 hx (hb hby d1_31) (Ls' := #[.val (.ref a1), .val (.ref a2), .val (.int (2 : Int32)), .val (.int (2 : Int32)), .val (.long v308), .second]) rfl (pc' := 33) rfl ?_
 refine k_aloadN X306 hx (hb hby d1_33) rfl rfl (pc' := 34) rfl ?_
 refine k_iloadN X306 hx (hb hby d1_34) rfl (pc' := 35) rfl ?_
 refine k_iloadN X306 hx (hb hby d1_35) rfl (pc' := 36) rfl ?_
 refine k_iaddL X306 hx (hb hby d1_36) (pc' := 37) rfl (z := (4 : Int32)) (by decide) ?_
 refine k_aloadN X306 hx (hb hby d1_37) rfl rfl (pc' := 38) rfl ?_
 refine k_iconst X306 hx (hb hby d1_38) (pc' := 39) rfl (z := (2 : Int32)) rfl ?_
 refine k_iloadN X306 hx (hb hby d1_39) rfl (pc' := 40) rfl ?_
 refine k_imulL X306 hx (hb hby d1_40) (pc' := 41) rfl (z := (4 : Int32)) (by decide) ?_
 refine k_laload X306 hx hZ e306 F307 ⟨by decide, by decide⟩ (v := (.long p8)) rfl (hb hby d1_41) (pc' := 42) rfl ?_
 refine k_lload X306 hx (hb hby d1_42) rfl (pc' := 44) rfl ?_
 refine k_lor X306 hx (hb hby d1_44) (pc' := 45) rfl (fun v309 hv309 => ?_)
 refine k_lastore X306 hx hZ e306 Vw306 ⟨by decide, by decide⟩ (i := 4) rfl (Nat.le_of_ble_eq_true rfl) (hb hby d1_45) (pc' := 46) rfl (fun T310 h310 X310 e310 W310 V310 => ?_)
 have Vw310 : Arv Z h310 a2 k15 .long (7 : Int32) [(.long (-1 : Int64)), (.long (-1 : Int64)), (.long v301), (.long v305), (.long v309), (.long (-1 : Int64)), (.long (-1 : Int64))] (.long (0 : Int64)) := V310
 have N310 := Fr.snoc X310 N306 g_a2
 have Z310 : n0 ≤ h310.size := Nat.le_trans Z306 (Nat.le_of_eq W310.size.symm)
 refine k_iinc X310 hx (hb hby d1_46) rfl (pc' := 49) rfl (z := (3 : Int32)) (by decide) (Ls' := #[.val (.ref a1), .val (.ref a2), .val (.int (2 : Int32)), .val (.int (3 : Int32)), .val (.long v308), .second]) rfl ?_
 refine k_goto X310 hx (hb hby d1_49) (pc' := 2) (by decide) ?_
 refine k_iloadN X310 hx (hb hby d1_2) rfl (pc' := 3) rfl ?_
 refine k_iconst X310 hx (hb hby d1_3) (pc' := 4) rfl (z := (5 : Int32)) rfl ?_
 refine k_icmp_ge X310 hx (hb hby d1_4) (pn := 7) rfl (py := 52) (by decide) (fun hc => absurd (by decide) hc) (fun _ => ?_)
 refine k_iconst X310 hx (hb hby d1_7) (pc' := 8) rfl (z := (2 : Int32)) rfl ?_
 refine k_iloadN X310 hx (hb hby d1_8) rfl (pc' := 9) rfl ?_
 refine k_imulL X310 hx (hb hby d1_9) (pc' := 10) rfl (z := (6 : Int32)) (by decide) ?_
 refine k_iconst X310 hx (hb hby d1_10) (pc' := 11) rfl (z := (1 : Int32)) rfl ?_
 refine k_iaddL X310 hx (hb hby d1_11) (pc' := 12) rfl (z := (7 : Int32)) (by decide) ?_
 refine k_bipush X310 hx (hb hby d1_12) (pc' := 14) rfl (z := (9 : Int32)) rfl ?_
 refine k_icmp_ge X310 hx (hb hby d1_14) (pn := 17) rfl (py := 30) (by decide) (fun hc => absurd (by decide) hc) (fun _ => ?_)
 refine k_aloadN X310 hx (hb hby d1_17) rfl rfl (pc' := 18) rfl ?_
 refine k_iconst X310 hx (hb hby d1_18) (pc' := 19) rfl (z := (2 : Int32)) rfl ?_
 refine k_iloadN X310 hx (hb hby d1_19) rfl (pc' := 20) rfl ?_
 refine k_imulL X310 hx (hb hby d1_20) (pc' := 21) rfl (z := (6 : Int32)) (by decide) ?_
 refine k_iconst X310 hx (hb hby d1_21) (pc' := 22) rfl (z := (1 : Int32)) rfl ?_
 refine k_iaddL X310 hx (hb hby d1_22) (pc' := 23) rfl (z := (7 : Int32)) (by decide) ?_
 have F311 := (F307.other W310 (Nat.ne_of_lt (Nat.lt_trans lt0_0 lt0_1)))
 refine k_laload X310 hx hZ e310 F311 ⟨by decide, by decide⟩ (v := (.long p11)) rfl (hb hby d1_23) (pc' := 24) rfl ?_
 refine k_bipush X310 hx (hb hby d1_24) (pc' := 26) rfl (z := (29 : Int32)) rfl ?_
 refine k_lshl X310 hx (hb hby d1_26) (pc' := 27) rfl (fun v312 hv312 => ?_)
 refine k_goto X310 hx (hb hby d1_27) (pc' := 31) (by decide) ?_
 refine k_lstore X310 hx (hb hby d1_31) (Ls' := #[.val (.ref a1), .val (.ref a2), .val (.int (2 : Int32)), .val (.int (3 : Int32)), .val (.long v312), .second]) rfl (pc' := 33) rfl ?_
 refine k_aloadN X310 hx (hb hby d1_33) rfl rfl (pc' := 34) rfl ?_
 refine k_iloadN X310 hx (hb hby d1_34) rfl (pc' := 35) rfl ?_
 refine k_iloadN X310 hx (hb hby d1_35) rfl (pc' := 36) rfl ?_
 refine k_iaddL X310 hx (hb hby d1_36) (pc' := 37) rfl (z := (5 : Int32)) (by decide) ?_
 refine k_aloadN X310 hx (hb hby d1_37) rfl rfl (pc' := 38) rfl ?_
 refine k_iconst X310 hx (hb hby d1_38) (pc' := 39) rfl (z := (2 : Int32)) rfl ?_
 refine k_iloadN X310 hx (hb hby d1_39) rfl (pc' := 40) rfl ?_
 refine k_imulL X310 hx (hb hby d1_40) (pc' := 41) rfl (z := (6 : Int32)) (by decide) ?_
 refine k_laload X310 hx hZ e310 F311 ⟨by decide, by decide⟩ (v := (.long p10)) rfl (hb hby d1_41) (pc' := 42) rfl ?_
 refine k_lload X310 hx (hb hby d1_42) rfl (pc' := 44) rfl ?_
 refine k_lor X310 hx (hb hby d1_44) (pc' := 45) rfl (fun v313 hv313 => ?_)
 refine k_lastore X310 hx hZ e310 Vw310 ⟨by decide, by decide⟩ (i := 5) rfl (Nat.le_of_ble_eq_true rfl) (hb hby d1_45) (pc' := 46) rfl (fun T314 h314 X314 e314 W314 V314 => ?_)
 have Vw314 : Arv Z h314 a2 k15 .long (7 : Int32) [(.long (-1 : Int64)), (.long (-1 : Int64)), (.long v301), (.long v305), (.long v309), (.long v313), (.long (-1 : Int64))] (.long (0 : Int64)) := V314
 have N314 := Fr.snoc X314 N310 g_a2
 have Z314 : n0 ≤ h314.size := Nat.le_trans Z310 (Nat.le_of_eq W314.size.symm)
 refine k_iinc X314 hx (hb hby d1_46) rfl (pc' := 49) rfl (z := (4 : Int32)) (by decide) (Ls' := #[.val (.ref a1), .val (.ref a2), .val (.int (2 : Int32)), .val (.int (4 : Int32)), .val (.long v312), .second]) rfl ?_
 refine k_goto X314 hx (hb hby d1_49) (pc' := 2) (by decide) ?_
 refine k_iloadN X314 hx (hb hby d1_2) rfl (pc' := 3) rfl ?_
 refine k_iconst X314 hx (hb hby d1_3) (pc' := 4) rfl (z := (5 : Int32)) rfl ?_
 refine k_icmp_ge X314 hx (hb hby d1_4) (pn := 7) rfl (py := 52) (by decide) (fun hc => absurd (by decide) hc) (fun _ => ?_)
 refine k_iconst X314 hx (hb hby d1_7) (pc' := 8) rfl (z := (2 : Int32)) rfl ?_
 refine k_iloadN X314 hx (hb hby d1_8) rfl (pc' := 9) rfl ?_
 refine k_imulL X314 hx (hb hby d1_9) (pc' := 10) rfl (z := (8 : Int32)) (by decide) ?_
 refine k_iconst X314 hx (hb hby d1_10) (pc' := 11) rfl (z := (1 : Int32)) rfl ?_
 refine k_iaddL X314 hx (hb hby d1_11) (pc' := 12) rfl (z := (9 : Int32)) (by decide) ?_
 refine k_bipush X314 hx (hb hby d1_12) (pc' := 14) rfl (z := (9 : Int32)) rfl ?_
 refine k_icmp_ge X314 hx (hb hby d1_14) (pn := 17) rfl (py := 30) (by decide) (fun _ => ?_) (fun hc => absurd hc (by decide))
 refine k_lconst X314 hx (hb hby d1_30) (pc' := 31) rfl (z := (0 : Int64)) rfl ?_
 refine k_lstore X314 hx (hb hby d1_31) (Ls' := #[.val (.ref a1), .val (.ref a2), .val (.int (2 : Int32)), .val (.int (4 : Int32)), .val (.long (0 : Int64)), .second]) rfl (pc' := 33) rfl ?_
 refine k_aloadN X314 hx (hb hby d1_33) rfl rfl (pc' := 34) rfl ?_
 refine k_iloadN X314 hx (hb hby d1_34) rfl (pc' := 35) rfl ?_
 refine k_iloadN X314 hx (hb hby d1_35) rfl (pc' := 36) rfl ?_
 refine k_iaddL X314 hx (hb hby d1_36) (pc' := 37) rfl (z := (6 : Int32)) (by decide) ?_
 refine k_aloadN X314 hx (hb hby d1_37) rfl rfl (pc' := 38) rfl ?_
 refine k_iconst X314 hx (hb hby d1_38) (pc' := 39) rfl (z := (2 : Int32)) rfl ?_
 refine k_iloadN X314 hx (hb hby d1_39) rfl (pc' := 40) rfl ?_
 refine k_imulL X314 hx (hb hby d1_40) (pc' := 41) rfl (z := (8 : Int32)) (by decide) ?_
 have F315 := (F311.other W314 (Nat.ne_of_lt (Nat.lt_trans lt0_0 lt0_1)))
 refine k_laload X314 hx hZ e314 F315 ⟨by decide, by decide⟩ (v := (.long p12)) rfl (hb hby d1_41) (pc' := 42) rfl ?_
 refine k_lload X314 hx (hb hby d1_42) rfl (pc' := 44) rfl ?_
 refine k_lor X314 hx (hb hby d1_44) (pc' := 45) rfl (fun v316 hv316 => ?_)
 refine k_lastore X314 hx hZ e314 Vw314 ⟨by decide, by decide⟩ (i := 6) rfl (Nat.le_of_ble_eq_true rfl) (hb hby d1_45) (pc' := 46) rfl (fun T317 h317 X317 e317 W317 V317 => ?_)
 have Vw317 : Arv Z h317 a2 k15 .long (7 : Int32) [(.long (-1 : Int64)), (.long (-1 : Int64)), (.long v301), (.long v305), (.long v309), (.long v313), (.long v316)] (.long (0 : Int64)) := V317
 have N317 := Fr.snoc X317 N314 g_a2
 have Z317 : n0 ≤ h317.size := Nat.le_trans Z314 (Nat.le_of_eq W317.size.symm)
 refine k_iinc X317 hx (hb hby d1_46) rfl (pc' := 49) rfl (z := (5 : Int32)) (by decide) (Ls' := #[.val (.ref a1), .val (.ref a2), .val (.int (2 : Int32)), .val (.int (5 : Int32)), .val (.long (0 : Int64)), .second]) rfl ?_
 refine k_goto X317 hx (hb hby d1_49) (pc' := 2) (by decide) ?_
 refine k_iloadN X317 hx (hb hby d1_2) rfl (pc' := 3) rfl ?_
 refine k_iconst X317 hx (hb hby d1_3) (pc' := 4) rfl (z := (5 : Int32)) rfl ?_
 refine k_icmp_ge X317 hx (hb hby d1_4) (pn := 7) rfl (py := 52) (by decide) (fun _ => ?_) (fun hc => absurd hc (by decide))
 have F318 := (F315.other W317 (Nat.ne_of_lt (Nat.lt_trans lt0_0 lt0_1)))
 have F319 := (((((F0_2.other W302 (Nat.ne_of_lt lt0_1)).other W306 (Nat.ne_of_lt lt0_1)).other W310 (Nat.ne_of_lt lt0_1)).other W314 (Nat.ne_of_lt lt0_1)).other W317 (Nat.ne_of_lt lt0_1))
 have F320 := (((((F0_6.other W302 (Ne.symm (Nat.ne_of_lt lt0_2))).other W306 (Ne.symm (Nat.ne_of_lt lt0_2))).other W310 (Ne.symm (Nat.ne_of_lt lt0_2))).other W314 (Ne.symm (Nat.ne_of_lt lt0_2))).other W317 (Ne.symm (Nat.ne_of_lt lt0_2)))
 exact k_ret X317 hx Bd.returns (hb hby d1_52) hlk (by decide) (by decide) (by rw [e317]; exact ⟨N317, ⟨v300, v301, v304, v305, v308, v309, v312, v313, v316, hv300, hv301, hv304, hv305, hv308, hv309, hv312, hv313, hv316, rfl, F318, F319, Vw317, F320, Z317⟩⟩)
theorem ef0 (m : MethodId) (x0 : Int64) (x1 : Int64) (x2 : Int64) (x3 : Int64) (x4 : Int64) (x5 : Int32) : entryFrame m #[(.long x0), (.long x1), (.long x2), (.long x3), (.long x4), (.int x5)] maxLocals = mkF m 0 #[.val (.long x0), .second, .val (.long x1), .second, .val (.long x2), .second, .val (.long x3), .second, .val (.long x4), .second, .val (.int x5), .unset, .unset, .unset, .unset, .unset, .unset, .unset] [] := by first | (simp [entryFrame, mkF, argsToLocals, Value.category, maxLocals]; done) | rfl
theorem pn_1 : plainName "com/example/portcullis/portcullis/protocol/FieldPackPinLaw" = true := by first | (simp [plainName, overriddenIn]; done) | decide +kernel
def Q0 (n0 : Nat) (v : Option Value) (h : Heap) (L : List Loc) : Prop := v = some (.int 1) ∧ Fr n0 L
set_option maxRecDepth 65536 in
set_option maxHeartbeats 40000000 in
theorem rm0 (l : Launch) (Z : State) (a0 : Array Value) (hw : ∀ d ∈ tables_1, d.before a0 Z = true) (ws : List Jvm.Cond) (i0 : Int64) (i1 : Int64) (i2 : Int64) (i3 : Int64) (i4 : Int64) (i5 : Int32) (h0 : Heap) (n0 : Nat) (Z0 : n0 ≤ h0.size) :
    MetFree l x (head1 (Jvm.Cond.code x code maxLocals ret :: ws) room_1) (fun a U => a = #[(.long i0), (.long i1), (.long i2), (.long i3), (.long i4), (.int i5)] ∧ Z.Warmed39 U.vm ∧ U.heap = h0) (fun _ _ _ _ _ => True) (fun _ U o U' => ∃ v L, o = .returned v ∧ Q0 n0 v U'.heap L ∧ FrameEnd U o U' L 16 128) := by
 refine MetFree.of_bodySF (plainFor_of_name pn_1) hisR ?_
 intro p e s m args below meth c s₁ Bd hml0 hP hK
 obtain ⟨rfl, hZ, hh⟩ := hP
 have hx := Bd.exec
 have hby := Bd.bytes
 have hml : c.maxLocals = 18 := hml0
 have hlk : meth.locks = false := Bd.notSynchronized
 have hown : s.vm.findClass "com/example/portcullis/portcullis/protocol/FieldPackPinLaw" = some m.cls := findClass_of_methodNamed Bd.named
 have hnm := (name_of_methodNamed Bd.named Bd.method).1
 have X0 : Stand p l e room_1 s m #[(.long i0), (.long i1), (.long i2), (.long i3), (.long i4), (.int i5)] below meth c s₁ [] 0 0 := Stand.of_body Bd
 have e0 : s₁.heap = h0 := by rw [← hh, Bd.state]; rfl
 have N0 := Fr.nil n0
 rw [show entryFrame m #[(.long i0), (.long i1), (.long i2), (.long i3), (.long i4), (.int i5)] maxLocals = _ from ef0 m i0 i1 i2 i3 i4 i5]
 show KEnds p e below s 16 128 (Q0 n0) s₁ (mkF m 0 #[.val (.long i0), .second, .val (.long i1), .second, .val (.long i2), .second, .val (.long i3), .second, .val (.long i4), .second, .val (.int i5), .unset, .unset, .unset, .unset, .unset, .unset, .unset] [])
 refine k_bipush X0 hx (hb hby at_0) (pc' := 2) rfl (z := (9 : Int32)) rfl ?_
 refine k_newA X0 hx hZ (hw _ (List.mem_of_getElem? (i := 0) rfl)) e0 (hb hby at_2) (by decide) (cap := 9) (by decide) (by decide) (by decide) (by decide) (pc' := 4) rfl (fun T1 h1 b1 k1 g1 X1 e1 E1 V1 => ?_)
 have g_b1 : n0 ≤ b1 := Nat.le_trans Z0 (Nat.le_of_eq g1.symm)
 have Z1 : n0 ≤ h1.size := Nat.le_trans Z0 E1.1
 have Vw1 : Arv Z h1 b1 k1 .long (9 : Int32) [(.long (0 : Int64)), (.long (0 : Int64)), (.long (0 : Int64)), (.long (0 : Int64)), (.long (0 : Int64)), (.long (0 : Int64)), (.long (0 : Int64)), (.long (0 : Int64)), (.long (0 : Int64))] (.long (0 : Int64)) := V1
 refine k_astore X1 hx (hb hby at_4) rfl (Ls' := #[.val (.long i0), .second, .val (.long i1), .second, .val (.long i2), .second, .val (.long i3), .second, .val (.long i4), .second, .val (.int i5), .val (.ref b1), .unset, .unset, .unset, .unset, .unset, .unset]) rfl (pc' := 6) rfl ?_
 refine k_aload X1 hx (hb hby at_6) rfl rfl (pc' := 8) rfl ?_
 refine k_iconst X1 hx (hb hby at_8) (pc' := 9) rfl (z := (0 : Int32)) rfl ?_
 refine k_lloadN X1 hx (hb hby at_9) rfl (pc' := 10) rfl ?_
 refine k_ldcL X1 hx hZ hown (hw _ (List.mem_of_getElem? (i := 1) rfl)) (hb hby at_10) (pc' := 13) rfl ?_
 refine k_land X1 hx (hb hby at_13) (pc' := 14) rfl (fun v2 hv2 => ?_)
 refine k_lastore X1 hx hZ e1 Vw1 ⟨by decide, by decide⟩ (i := 0) rfl (Nat.le_of_ble_eq_true rfl) (hb hby at_14) (pc' := 15) rfl (fun T3 h3 X3 e3 W3 V3 => ?_)
 have Vw3 : Arv Z h3 b1 k1 .long (9 : Int32) [(.long v2), (.long (0 : Int64)), (.long (0 : Int64)), (.long (0 : Int64)), (.long (0 : Int64)), (.long (0 : Int64)), (.long (0 : Int64)), (.long (0 : Int64)), (.long (0 : Int64))] (.long (0 : Int64)) := V3
 have N3 := Fr.snoc X3 N0 g_b1
 have Z3 : n0 ≤ h3.size := Nat.le_trans Z1 (Nat.le_of_eq W3.size.symm)
 refine k_aload X3 hx (hb hby at_15) rfl rfl (pc' := 17) rfl ?_
 refine k_iconst X3 hx (hb hby at_17) (pc' := 18) rfl (z := (1 : Int32)) rfl ?_
 refine k_lloadN X3 hx (hb hby at_18) rfl (pc' := 19) rfl ?_
 refine k_bipush X3 hx (hb hby at_19) (pc' := 21) rfl (z := (29 : Int32)) rfl ?_
 refine k_lushr X3 hx (hb hby at_21) (pc' := 22) rfl (fun v4 hv4 => ?_)
 refine k_ldcL X3 hx hZ hown (hw _ (List.mem_of_getElem? (i := 1) rfl)) (hb hby at_22) (pc' := 25) rfl ?_
 refine k_land X3 hx (hb hby at_25) (pc' := 26) rfl (fun v5 hv5 => ?_)
 refine k_lastore X3 hx hZ e3 Vw3 ⟨by decide, by decide⟩ (i := 1) rfl (Nat.le_of_ble_eq_true rfl) (hb hby at_26) (pc' := 27) rfl (fun T6 h6 X6 e6 W6 V6 => ?_)
 have Vw6 : Arv Z h6 b1 k1 .long (9 : Int32) [(.long v2), (.long v5), (.long (0 : Int64)), (.long (0 : Int64)), (.long (0 : Int64)), (.long (0 : Int64)), (.long (0 : Int64)), (.long (0 : Int64)), (.long (0 : Int64))] (.long (0 : Int64)) := V6
 have N6 := Fr.snoc X6 N3 g_b1
 have Z6 : n0 ≤ h6.size := Nat.le_trans Z3 (Nat.le_of_eq W6.size.symm)
 refine k_aload X6 hx (hb hby at_27) rfl rfl (pc' := 29) rfl ?_
 refine k_iconst X6 hx (hb hby at_29) (pc' := 30) rfl (z := (2 : Int32)) rfl ?_
 refine k_lloadN X6 hx (hb hby at_30) rfl (pc' := 31) rfl ?_
 refine k_ldcL X6 hx hZ hown (hw _ (List.mem_of_getElem? (i := 1) rfl)) (hb hby at_31) (pc' := 34) rfl ?_
 refine k_land X6 hx (hb hby at_34) (pc' := 35) rfl (fun v7 hv7 => ?_)
 refine k_lastore X6 hx hZ e6 Vw6 ⟨by decide, by decide⟩ (i := 2) rfl (Nat.le_of_ble_eq_true rfl) (hb hby at_35) (pc' := 36) rfl (fun T8 h8 X8 e8 W8 V8 => ?_)
 have Vw8 : Arv Z h8 b1 k1 .long (9 : Int32) [(.long v2), (.long v5), (.long v7), (.long (0 : Int64)), (.long (0 : Int64)), (.long (0 : Int64)), (.long (0 : Int64)), (.long (0 : Int64)), (.long (0 : Int64))] (.long (0 : Int64)) := V8
 have N8 := Fr.snoc X8 N6 g_b1
 have Z8 : n0 ≤ h8.size := Nat.le_trans Z6 (Nat.le_of_eq W8.size.symm)
 refine k_aload X8 hx (hb hby at_36) rfl rfl (pc' := 38) rfl ?_
 refine k_iconst X8 hx (hb hby at_38) (pc' := 39) rfl (z := (3 : Int32)) rfl ?_
 refine k_lloadN X8 hx (hb hby at_39) rfl (pc' := 40) rfl ?_
 refine k_bipush X8 hx (hb hby at_40) (pc' := 42) rfl (z := (29 : Int32)) rfl ?_
 refine k_lushr X8 hx (hb hby at_42) (pc' := 43) rfl (fun v9 hv9 => ?_)
 refine k_ldcL X8 hx hZ hown (hw _ (List.mem_of_getElem? (i := 1) rfl)) (hb hby at_43) (pc' := 46) rfl ?_
 refine k_land X8 hx (hb hby at_46) (pc' := 47) rfl (fun v10 hv10 => ?_)
 refine k_lastore X8 hx hZ e8 Vw8 ⟨by decide, by decide⟩ (i := 3) rfl (Nat.le_of_ble_eq_true rfl) (hb hby at_47) (pc' := 48) rfl (fun T11 h11 X11 e11 W11 V11 => ?_)
 have Vw11 : Arv Z h11 b1 k1 .long (9 : Int32) [(.long v2), (.long v5), (.long v7), (.long v10), (.long (0 : Int64)), (.long (0 : Int64)), (.long (0 : Int64)), (.long (0 : Int64)), (.long (0 : Int64))] (.long (0 : Int64)) := V11
 have N11 := Fr.snoc X11 N8 g_b1
 have Z11 : n0 ≤ h11.size := Nat.le_trans Z8 (Nat.le_of_eq W11.size.symm)
 refine k_aload X11 hx (hb hby at_48) rfl rfl (pc' := 50) rfl ?_
 refine k_iconst X11 hx (hb hby at_50) (pc' := 51) rfl (z := (4 : Int32)) rfl ?_
 refine k_lload X11 hx (hb hby at_51) rfl (pc' := 53) rfl ?_
 refine k_ldcL X11 hx hZ hown (hw _ (List.mem_of_getElem? (i := 1) rfl)) (hb hby at_53) (pc' := 56) rfl ?_
 refine k_land X11 hx (hb hby at_56) (pc' := 57) rfl (fun v12 hv12 => ?_)
 refine k_lastore X11 hx hZ e11 Vw11 ⟨by decide, by decide⟩ (i := 4) rfl (Nat.le_of_ble_eq_true rfl) (hb hby at_57) (pc' := 58) rfl (fun T13 h13 X13 e13 W13 V13 => ?_)
 have Vw13 : Arv Z h13 b1 k1 .long (9 : Int32) [(.long v2), (.long v5), (.long v7), (.long v10), (.long v12), (.long (0 : Int64)), (.long (0 : Int64)), (.long (0 : Int64)), (.long (0 : Int64))] (.long (0 : Int64)) := V13
 have N13 := Fr.snoc X13 N11 g_b1
 have Z13 : n0 ≤ h13.size := Nat.le_trans Z11 (Nat.le_of_eq W13.size.symm)
 refine k_aload X13 hx (hb hby at_58) rfl rfl (pc' := 60) rfl ?_
 refine k_iconst X13 hx (hb hby at_60) (pc' := 61) rfl (z := (5 : Int32)) rfl ?_
 refine k_lload X13 hx (hb hby at_61) rfl (pc' := 63) rfl ?_
 refine k_bipush X13 hx (hb hby at_63) (pc' := 65) rfl (z := (29 : Int32)) rfl ?_
 refine k_lushr X13 hx (hb hby at_65) (pc' := 66) rfl (fun v14 hv14 => ?_)
 refine k_ldcL X13 hx hZ hown (hw _ (List.mem_of_getElem? (i := 1) rfl)) (hb hby at_66) (pc' := 69) rfl ?_
 refine k_land X13 hx (hb hby at_69) (pc' := 70) rfl (fun v15 hv15 => ?_)
 refine k_lastore X13 hx hZ e13 Vw13 ⟨by decide, by decide⟩ (i := 5) rfl (Nat.le_of_ble_eq_true rfl) (hb hby at_70) (pc' := 71) rfl (fun T16 h16 X16 e16 W16 V16 => ?_)
 have Vw16 : Arv Z h16 b1 k1 .long (9 : Int32) [(.long v2), (.long v5), (.long v7), (.long v10), (.long v12), (.long v15), (.long (0 : Int64)), (.long (0 : Int64)), (.long (0 : Int64))] (.long (0 : Int64)) := V16
 have N16 := Fr.snoc X16 N13 g_b1
 have Z16 : n0 ≤ h16.size := Nat.le_trans Z13 (Nat.le_of_eq W16.size.symm)
 refine k_aload X16 hx (hb hby at_71) rfl rfl (pc' := 73) rfl ?_
 refine k_bipush X16 hx (hb hby at_73) (pc' := 75) rfl (z := (6 : Int32)) rfl ?_
 refine k_lload X16 hx (hb hby at_75) rfl (pc' := 77) rfl ?_
 refine k_ldcL X16 hx hZ hown (hw _ (List.mem_of_getElem? (i := 1) rfl)) (hb hby at_77) (pc' := 80) rfl ?_
 refine k_land X16 hx (hb hby at_80) (pc' := 81) rfl (fun v17 hv17 => ?_)
 refine k_lastore X16 hx hZ e16 Vw16 ⟨by decide, by decide⟩ (i := 6) rfl (Nat.le_of_ble_eq_true rfl) (hb hby at_81) (pc' := 82) rfl (fun T18 h18 X18 e18 W18 V18 => ?_)
 have Vw18 : Arv Z h18 b1 k1 .long (9 : Int32) [(.long v2), (.long v5), (.long v7), (.long v10), (.long v12), (.long v15), (.long v17), (.long (0 : Int64)), (.long (0 : Int64))] (.long (0 : Int64)) := V18
 have N18 := Fr.snoc X18 N16 g_b1
 have Z18 : n0 ≤ h18.size := Nat.le_trans Z16 (Nat.le_of_eq W18.size.symm)
 refine k_aload X18 hx (hb hby at_82) rfl rfl (pc' := 84) rfl ?_
 refine k_bipush X18 hx (hb hby at_84) (pc' := 86) rfl (z := (7 : Int32)) rfl ?_
 refine k_lload X18 hx (hb hby at_86) rfl (pc' := 88) rfl ?_
 refine k_bipush X18 hx (hb hby at_88) (pc' := 90) rfl (z := (29 : Int32)) rfl ?_
 refine k_lushr X18 hx (hb hby at_90) (pc' := 91) rfl (fun v19 hv19 => ?_)
 refine k_ldcL X18 hx hZ hown (hw _ (List.mem_of_getElem? (i := 1) rfl)) (hb hby at_91) (pc' := 94) rfl ?_
 refine k_land X18 hx (hb hby at_94) (pc' := 95) rfl (fun v20 hv20 => ?_)
 refine k_lastore X18 hx hZ e18 Vw18 ⟨by decide, by decide⟩ (i := 7) rfl (Nat.le_of_ble_eq_true rfl) (hb hby at_95) (pc' := 96) rfl (fun T21 h21 X21 e21 W21 V21 => ?_)
 have Vw21 : Arv Z h21 b1 k1 .long (9 : Int32) [(.long v2), (.long v5), (.long v7), (.long v10), (.long v12), (.long v15), (.long v17), (.long v20), (.long (0 : Int64))] (.long (0 : Int64)) := V21
 have N21 := Fr.snoc X21 N18 g_b1
 have Z21 : n0 ≤ h21.size := Nat.le_trans Z18 (Nat.le_of_eq W21.size.symm)
 refine k_aload X21 hx (hb hby at_96) rfl rfl (pc' := 98) rfl ?_
 refine k_bipush X21 hx (hb hby at_98) (pc' := 100) rfl (z := (8 : Int32)) rfl ?_
 refine k_lload X21 hx (hb hby at_100) rfl (pc' := 102) rfl ?_
 refine k_ldcL X21 hx hZ hown (hw _ (List.mem_of_getElem? (i := 1) rfl)) (hb hby at_102) (pc' := 105) rfl ?_
 refine k_land X21 hx (hb hby at_105) (pc' := 106) rfl (fun v22 hv22 => ?_)
 refine k_lastore X21 hx hZ e21 Vw21 ⟨by decide, by decide⟩ (i := 8) rfl (Nat.le_of_ble_eq_true rfl) (hb hby at_106) (pc' := 107) rfl (fun T23 h23 X23 e23 W23 V23 => ?_)
 have Vw23 : Arv Z h23 b1 k1 .long (9 : Int32) [(.long v2), (.long v5), (.long v7), (.long v10), (.long v12), (.long v15), (.long v17), (.long v20), (.long v22)] (.long (0 : Int64)) := V23
 have N23 := Fr.snoc X23 N21 g_b1
 have Z23 : n0 ≤ h23.size := Nat.le_trans Z21 (Nat.le_of_eq W23.size.symm)
 refine k_bipush X23 hx (hb hby at_107) (pc' := 109) rfl (z := (9 : Int32)) rfl ?_
 refine k_newA X23 hx hZ (hw _ (List.mem_of_getElem? (i := 0) rfl)) e23 (hb hby at_109) (by decide) (cap := 9) (by decide) (by decide) (by decide) (by decide) (pc' := 111) rfl (fun T24 h24 b24 k24 g24 X24 e24 E24 V24 => ?_)
 have g_b24 : n0 ≤ b24 := Nat.le_trans Z23 (Nat.le_of_eq g24.symm)
 have lt_b24 : b1 < b24 := Nat.lt_of_lt_of_le Vw23.lt (Nat.le_of_eq g24.symm)
 have Z24 : n0 ≤ h24.size := Nat.le_trans Z23 E24.1
 have Vw24 : Arv Z h24 b24 k24 .long (9 : Int32) [(.long (0 : Int64)), (.long (0 : Int64)), (.long (0 : Int64)), (.long (0 : Int64)), (.long (0 : Int64)), (.long (0 : Int64)), (.long (0 : Int64)), (.long (0 : Int64)), (.long (0 : Int64))] (.long (0 : Int64)) := V24
 refine k_astore X24 hx (hb hby at_111) rfl (Ls' := #[.val (.long i0), .second, .val (.long i1), .second, .val (.long i2), .second, .val (.long i3), .second, .val (.long i4), .second, .val (.int i5), .val (.ref b1), .val (.ref b24), .unset, .unset, .unset, .unset, .unset]) rfl (pc' := 113) rfl ?_
 refine k_aload X24 hx (hb hby at_113) rfl rfl (pc' := 115) rfl ?_
 refine k_iconst X24 hx (hb hby at_115) (pc' := 116) rfl (z := (0 : Int32)) rfl ?_
 refine k_aload X24 hx (hb hby at_116) rfl rfl (pc' := 118) rfl ?_
 refine k_iconst X24 hx (hb hby at_118) (pc' := 119) rfl (z := (0 : Int32)) rfl ?_
 have F25 := (Vw23.ext E24)
 refine k_laload X24 hx hZ e24 F25 ⟨by decide, by decide⟩ (v := (.long v2)) rfl (hb hby at_119) (pc' := 120) rfl ?_
 refine k_lastore X24 hx hZ e24 Vw24 ⟨by decide, by decide⟩ (i := 0) rfl (Nat.le_of_ble_eq_true rfl) (hb hby at_120) (pc' := 121) rfl (fun T26 h26 X26 e26 W26 V26 => ?_)
 have Vw26 : Arv Z h26 b24 k24 .long (9 : Int32) [(.long v2), (.long (0 : Int64)), (.long (0 : Int64)), (.long (0 : Int64)), (.long (0 : Int64)), (.long (0 : Int64)), (.long (0 : Int64)), (.long (0 : Int64)), (.long (0 : Int64))] (.long (0 : Int64)) := V26
 have N26 := Fr.snoc X26 N23 g_b24
 have Z26 : n0 ≤ h26.size := Nat.le_trans Z24 (Nat.le_of_eq W26.size.symm)
 refine k_aload X26 hx (hb hby at_121) rfl rfl (pc' := 123) rfl ?_
 refine k_iconst X26 hx (hb hby at_123) (pc' := 124) rfl (z := (1 : Int32)) rfl ?_
 refine k_aload X26 hx (hb hby at_124) rfl rfl (pc' := 126) rfl ?_
 refine k_iconst X26 hx (hb hby at_126) (pc' := 127) rfl (z := (1 : Int32)) rfl ?_
 have F27 := (F25.other W26 (Nat.ne_of_lt lt_b24))
 refine k_laload X26 hx hZ e26 F27 ⟨by decide, by decide⟩ (v := (.long v5)) rfl (hb hby at_127) (pc' := 128) rfl ?_
 refine k_lastore X26 hx hZ e26 Vw26 ⟨by decide, by decide⟩ (i := 1) rfl (Nat.le_of_ble_eq_true rfl) (hb hby at_128) (pc' := 129) rfl (fun T28 h28 X28 e28 W28 V28 => ?_)
 have Vw28 : Arv Z h28 b24 k24 .long (9 : Int32) [(.long v2), (.long v5), (.long (0 : Int64)), (.long (0 : Int64)), (.long (0 : Int64)), (.long (0 : Int64)), (.long (0 : Int64)), (.long (0 : Int64)), (.long (0 : Int64))] (.long (0 : Int64)) := V28
 have N28 := Fr.snoc X28 N26 g_b24
 have Z28 : n0 ≤ h28.size := Nat.le_trans Z26 (Nat.le_of_eq W28.size.symm)
 refine k_aload X28 hx (hb hby at_129) rfl rfl (pc' := 131) rfl ?_
 refine k_iconst X28 hx (hb hby at_131) (pc' := 132) rfl (z := (2 : Int32)) rfl ?_
 refine k_aload X28 hx (hb hby at_132) rfl rfl (pc' := 134) rfl ?_
 refine k_iconst X28 hx (hb hby at_134) (pc' := 135) rfl (z := (2 : Int32)) rfl ?_
 have F29 := (F27.other W28 (Nat.ne_of_lt lt_b24))
 refine k_laload X28 hx hZ e28 F29 ⟨by decide, by decide⟩ (v := (.long v7)) rfl (hb hby at_135) (pc' := 136) rfl ?_
 refine k_lastore X28 hx hZ e28 Vw28 ⟨by decide, by decide⟩ (i := 2) rfl (Nat.le_of_ble_eq_true rfl) (hb hby at_136) (pc' := 137) rfl (fun T30 h30 X30 e30 W30 V30 => ?_)
 have Vw30 : Arv Z h30 b24 k24 .long (9 : Int32) [(.long v2), (.long v5), (.long v7), (.long (0 : Int64)), (.long (0 : Int64)), (.long (0 : Int64)), (.long (0 : Int64)), (.long (0 : Int64)), (.long (0 : Int64))] (.long (0 : Int64)) := V30
 have N30 := Fr.snoc X30 N28 g_b24
 have Z30 : n0 ≤ h30.size := Nat.le_trans Z28 (Nat.le_of_eq W30.size.symm)
 refine k_aload X30 hx (hb hby at_137) rfl rfl (pc' := 139) rfl ?_
 refine k_iconst X30 hx (hb hby at_139) (pc' := 140) rfl (z := (3 : Int32)) rfl ?_
 refine k_aload X30 hx (hb hby at_140) rfl rfl (pc' := 142) rfl ?_
 refine k_iconst X30 hx (hb hby at_142) (pc' := 143) rfl (z := (3 : Int32)) rfl ?_
 have F31 := (F29.other W30 (Nat.ne_of_lt lt_b24))
 refine k_laload X30 hx hZ e30 F31 ⟨by decide, by decide⟩ (v := (.long v10)) rfl (hb hby at_143) (pc' := 144) rfl ?_
 refine k_lastore X30 hx hZ e30 Vw30 ⟨by decide, by decide⟩ (i := 3) rfl (Nat.le_of_ble_eq_true rfl) (hb hby at_144) (pc' := 145) rfl (fun T32 h32 X32 e32 W32 V32 => ?_)
 have Vw32 : Arv Z h32 b24 k24 .long (9 : Int32) [(.long v2), (.long v5), (.long v7), (.long v10), (.long (0 : Int64)), (.long (0 : Int64)), (.long (0 : Int64)), (.long (0 : Int64)), (.long (0 : Int64))] (.long (0 : Int64)) := V32
 have N32 := Fr.snoc X32 N30 g_b24
 have Z32 : n0 ≤ h32.size := Nat.le_trans Z30 (Nat.le_of_eq W32.size.symm)
 refine k_aload X32 hx (hb hby at_145) rfl rfl (pc' := 147) rfl ?_
 refine k_iconst X32 hx (hb hby at_147) (pc' := 148) rfl (z := (4 : Int32)) rfl ?_
 refine k_aload X32 hx (hb hby at_148) rfl rfl (pc' := 150) rfl ?_
 refine k_iconst X32 hx (hb hby at_150) (pc' := 151) rfl (z := (4 : Int32)) rfl ?_
 have F33 := (F31.other W32 (Nat.ne_of_lt lt_b24))
 refine k_laload X32 hx hZ e32 F33 ⟨by decide, by decide⟩ (v := (.long v12)) rfl (hb hby at_151) (pc' := 152) rfl ?_
 refine k_lastore X32 hx hZ e32 Vw32 ⟨by decide, by decide⟩ (i := 4) rfl (Nat.le_of_ble_eq_true rfl) (hb hby at_152) (pc' := 153) rfl (fun T34 h34 X34 e34 W34 V34 => ?_)
 have Vw34 : Arv Z h34 b24 k24 .long (9 : Int32) [(.long v2), (.long v5), (.long v7), (.long v10), (.long v12), (.long (0 : Int64)), (.long (0 : Int64)), (.long (0 : Int64)), (.long (0 : Int64))] (.long (0 : Int64)) := V34
 have N34 := Fr.snoc X34 N32 g_b24
 have Z34 : n0 ≤ h34.size := Nat.le_trans Z32 (Nat.le_of_eq W34.size.symm)
 refine k_aload X34 hx (hb hby at_153) rfl rfl (pc' := 155) rfl ?_
 refine k_iconst X34 hx (hb hby at_155) (pc' := 156) rfl (z := (5 : Int32)) rfl ?_
 refine k_aload X34 hx (hb hby at_156) rfl rfl (pc' := 158) rfl ?_
 refine k_iconst X34 hx (hb hby at_158) (pc' := 159) rfl (z := (5 : Int32)) rfl ?_
 have F35 := (F33.other W34 (Nat.ne_of_lt lt_b24))
 refine k_laload X34 hx hZ e34 F35 ⟨by decide, by decide⟩ (v := (.long v15)) rfl (hb hby at_159) (pc' := 160) rfl ?_
 refine k_lastore X34 hx hZ e34 Vw34 ⟨by decide, by decide⟩ (i := 5) rfl (Nat.le_of_ble_eq_true rfl) (hb hby at_160) (pc' := 161) rfl (fun T36 h36 X36 e36 W36 V36 => ?_)
 have Vw36 : Arv Z h36 b24 k24 .long (9 : Int32) [(.long v2), (.long v5), (.long v7), (.long v10), (.long v12), (.long v15), (.long (0 : Int64)), (.long (0 : Int64)), (.long (0 : Int64))] (.long (0 : Int64)) := V36
 have N36 := Fr.snoc X36 N34 g_b24
 have Z36 : n0 ≤ h36.size := Nat.le_trans Z34 (Nat.le_of_eq W36.size.symm)
 refine k_aload X36 hx (hb hby at_161) rfl rfl (pc' := 163) rfl ?_
 refine k_bipush X36 hx (hb hby at_163) (pc' := 165) rfl (z := (6 : Int32)) rfl ?_
 refine k_aload X36 hx (hb hby at_165) rfl rfl (pc' := 167) rfl ?_
 refine k_bipush X36 hx (hb hby at_167) (pc' := 169) rfl (z := (6 : Int32)) rfl ?_
 have F37 := (F35.other W36 (Nat.ne_of_lt lt_b24))
 refine k_laload X36 hx hZ e36 F37 ⟨by decide, by decide⟩ (v := (.long v17)) rfl (hb hby at_169) (pc' := 170) rfl ?_
 refine k_lastore X36 hx hZ e36 Vw36 ⟨by decide, by decide⟩ (i := 6) rfl (Nat.le_of_ble_eq_true rfl) (hb hby at_170) (pc' := 171) rfl (fun T38 h38 X38 e38 W38 V38 => ?_)
 have Vw38 : Arv Z h38 b24 k24 .long (9 : Int32) [(.long v2), (.long v5), (.long v7), (.long v10), (.long v12), (.long v15), (.long v17), (.long (0 : Int64)), (.long (0 : Int64))] (.long (0 : Int64)) := V38
 have N38 := Fr.snoc X38 N36 g_b24
 have Z38 : n0 ≤ h38.size := Nat.le_trans Z36 (Nat.le_of_eq W38.size.symm)
 refine k_aload X38 hx (hb hby at_171) rfl rfl (pc' := 173) rfl ?_
 refine k_bipush X38 hx (hb hby at_173) (pc' := 175) rfl (z := (7 : Int32)) rfl ?_
 refine k_aload X38 hx (hb hby at_175) rfl rfl (pc' := 177) rfl ?_
 refine k_bipush X38 hx (hb hby at_177) (pc' := 179) rfl (z := (7 : Int32)) rfl ?_
 have F39 := (F37.other W38 (Nat.ne_of_lt lt_b24))
 refine k_laload X38 hx hZ e38 F39 ⟨by decide, by decide⟩ (v := (.long v20)) rfl (hb hby at_179) (pc' := 180) rfl ?_
 refine k_lastore X38 hx hZ e38 Vw38 ⟨by decide, by decide⟩ (i := 7) rfl (Nat.le_of_ble_eq_true rfl) (hb hby at_180) (pc' := 181) rfl (fun T40 h40 X40 e40 W40 V40 => ?_)
 have Vw40 : Arv Z h40 b24 k24 .long (9 : Int32) [(.long v2), (.long v5), (.long v7), (.long v10), (.long v12), (.long v15), (.long v17), (.long v20), (.long (0 : Int64))] (.long (0 : Int64)) := V40
 have N40 := Fr.snoc X40 N38 g_b24
 have Z40 : n0 ≤ h40.size := Nat.le_trans Z38 (Nat.le_of_eq W40.size.symm)
 refine k_aload X40 hx (hb hby at_181) rfl rfl (pc' := 183) rfl ?_
 refine k_bipush X40 hx (hb hby at_183) (pc' := 185) rfl (z := (8 : Int32)) rfl ?_
 refine k_aload X40 hx (hb hby at_185) rfl rfl (pc' := 187) rfl ?_
 refine k_bipush X40 hx (hb hby at_187) (pc' := 189) rfl (z := (8 : Int32)) rfl ?_
 have F41 := (F39.other W40 (Nat.ne_of_lt lt_b24))
 refine k_laload X40 hx hZ e40 F41 ⟨by decide, by decide⟩ (v := (.long v22)) rfl (hb hby at_189) (pc' := 190) rfl ?_
 refine k_lastore X40 hx hZ e40 Vw40 ⟨by decide, by decide⟩ (i := 8) rfl (Nat.le_of_ble_eq_true rfl) (hb hby at_190) (pc' := 191) rfl (fun T42 h42 X42 e42 W42 V42 => ?_)
 have Vw42 : Arv Z h42 b24 k24 .long (9 : Int32) [(.long v2), (.long v5), (.long v7), (.long v10), (.long v12), (.long v15), (.long v17), (.long v20), (.long v22)] (.long (0 : Int64)) := V42
 have N42 := Fr.snoc X42 N40 g_b24
 have Z42 : n0 ≤ h42.size := Nat.le_trans Z40 (Nat.le_of_eq W42.size.symm)
 refine k_iload X42 hx (hb hby at_191) rfl (pc' := 193) rfl ?_
 refine k_ldc X42 hx hZ hown (hw _ (List.mem_of_getElem? (i := 2) rfl)) (hb hby at_193) (pc' := 195) rfl ?_
 refine k_iand X42 hx (hb hby at_195) (pc' := 196) rfl (fun v43 hv43 => ?_)
 refine k_iconst X42 hx (hb hby at_196) (pc' := 197) rfl (z := (3 : Int32)) rfl ?_
 refine k_irem X42 hx (hb hby at_197) (by decide) (pc' := 198) rfl (fun v44 hv44 => ?_)
 have hs45 : v44 = (0 : Int32) ∨ v44 = (1 : Int32) ∨ v44 = (2 : Int32) := by
  have := rng32 v44
  have := rng32 v43
  have := rng32 i5
  have : (2147483647 : Int32).toInt = 2147483647 := (by decide)
  have q46 : v43.toInt = i5.toInt % 2147483648 := (by rw [hv43]; exact c_mask _ _ 31 (by decide) (by decide))
  have : (3 : Int32).toInt = 3 := (by decide)
  have q47 : (0 ≤ v43.toInt → v44.toInt = v43.toInt % 3) ∧ (v43.toInt < 0 → v44.toInt = -((-v43.toInt) % 3)) := (by rw [hv44]; exact c_irem _ _ 3 (by decide))
  rcases (by omega : v44.toInt = 0 ∨ v44.toInt = 1 ∨ v44.toInt = 2) with hq | hq | hq
  · exact Or.inl (Int32.toInt_inj.mp hq)
  · exact Or.inr (Or.inl (Int32.toInt_inj.mp hq))
  · exact Or.inr (Or.inr ((Int32.toInt_inj.mp hq)))
 rcases hs45 with rfl | rfl | rfl
 ·
  show KEnds p e below s _ _ _ T42 (mkF m 198 #[.val (.long i0), .second, .val (.long i1), .second, .val (.long i2), .second, .val (.long i3), .second, .val (.long i4), .second, .val (.int i5), .val (.ref b1), .val (.ref b24), .unset, .unset, .unset, .unset, .unset] [(.int (0 : Int32))])
  refine k_istore X42 hx (hb hby at_198) (Ls' := #[.val (.long i0), .second, .val (.long i1), .second, .val (.long i2), .second, .val (.long i3), .second, .val (.long i4), .second, .val (.int i5), .val (.ref b1), .val (.ref b24), .val (.int (0 : Int32)), .unset, .unset, .unset, .unset]) rfl (pc' := 200) rfl ?_
  refine k_bipush X42 hx (hb hby at_200) (pc' := 202) rfl (z := (7 : Int32)) rfl ?_
  refine k_newA X42 hx hZ (hw _ (List.mem_of_getElem? (i := 0) rfl)) e42 (hb hby at_202) (by decide) (cap := 7) (by decide) (by decide) (by decide) (by decide) (pc' := 204) rfl (fun T49 h49 b49 k49 g49 X49 e49 E49 V49 => ?_)
  have g_b49 : n0 ≤ b49 := Nat.le_trans Z42 (Nat.le_of_eq g49.symm)
  have lt_b49 : b24 < b49 := Nat.lt_of_lt_of_le Vw42.lt (Nat.le_of_eq g49.symm)
  have Z49 : n0 ≤ h49.size := Nat.le_trans Z42 E49.1
  have Vw49 : Arv Z h49 b49 k49 .long (7 : Int32) [(.long (0 : Int64)), (.long (0 : Int64)), (.long (0 : Int64)), (.long (0 : Int64)), (.long (0 : Int64)), (.long (0 : Int64)), (.long (0 : Int64))] (.long (0 : Int64)) := V49
  refine k_astore X49 hx (hb hby at_204) rfl (Ls' := #[.val (.long i0), .second, .val (.long i1), .second, .val (.long i2), .second, .val (.long i3), .second, .val (.long i4), .second, .val (.int i5), .val (.ref b1), .val (.ref b24), .val (.int (0 : Int32)), .val (.ref b49), .unset, .unset, .unset]) rfl (pc' := 206) rfl ?_
  refine k_aload X49 hx (hb hby at_206) rfl rfl (pc' := 208) rfl ?_
  refine k_iconst X49 hx (hb hby at_208) (pc' := 209) rfl (z := (0 : Int32)) rfl ?_
  refine k_ldcL X49 hx hZ hown (hw _ (List.mem_of_getElem? (i := 3) rfl)) (hb hby at_209) (pc' := 212) rfl ?_
  refine k_lastore X49 hx hZ e49 Vw49 ⟨by decide, by decide⟩ (i := 0) rfl (Nat.le_of_ble_eq_true rfl) (hb hby at_212) (pc' := 213) rfl (fun T50 h50 X50 e50 W50 V50 => ?_)
  have Vw50 : Arv Z h50 b49 k49 .long (7 : Int32) [(.long (-1 : Int64)), (.long (0 : Int64)), (.long (0 : Int64)), (.long (0 : Int64)), (.long (0 : Int64)), (.long (0 : Int64)), (.long (0 : Int64))] (.long (0 : Int64)) := V50
  have N50 := Fr.snoc X50 N42 g_b49
  have Z50 : n0 ≤ h50.size := Nat.le_trans Z49 (Nat.le_of_eq W50.size.symm)
  refine k_aload X50 hx (hb hby at_213) rfl rfl (pc' := 215) rfl ?_
  refine k_iconst X50 hx (hb hby at_215) (pc' := 216) rfl (z := (1 : Int32)) rfl ?_
  refine k_ldcL X50 hx hZ hown (hw _ (List.mem_of_getElem? (i := 3) rfl)) (hb hby at_216) (pc' := 219) rfl ?_
  refine k_lastore X50 hx hZ e50 Vw50 ⟨by decide, by decide⟩ (i := 1) rfl (Nat.le_of_ble_eq_true rfl) (hb hby at_219) (pc' := 220) rfl (fun T51 h51 X51 e51 W51 V51 => ?_)
  have Vw51 : Arv Z h51 b49 k49 .long (7 : Int32) [(.long (-1 : Int64)), (.long (-1 : Int64)), (.long (0 : Int64)), (.long (0 : Int64)), (.long (0 : Int64)), (.long (0 : Int64)), (.long (0 : Int64))] (.long (0 : Int64)) := V51
  have N51 := Fr.snoc X51 N50 g_b49
  have Z51 : n0 ≤ h51.size := Nat.le_trans Z50 (Nat.le_of_eq W51.size.symm)
  refine k_aload X51 hx (hb hby at_220) rfl rfl (pc' := 222) rfl ?_
  refine k_iconst X51 hx (hb hby at_222) (pc' := 223) rfl (z := (2 : Int32)) rfl ?_
  refine k_ldcL X51 hx hZ hown (hw _ (List.mem_of_getElem? (i := 3) rfl)) (hb hby at_223) (pc' := 226) rfl ?_
  refine k_lastore X51 hx hZ e51 Vw51 ⟨by decide, by decide⟩ (i := 2) rfl (Nat.le_of_ble_eq_true rfl) (hb hby at_226) (pc' := 227) rfl (fun T52 h52 X52 e52 W52 V52 => ?_)
  have Vw52 : Arv Z h52 b49 k49 .long (7 : Int32) [(.long (-1 : Int64)), (.long (-1 : Int64)), (.long (-1 : Int64)), (.long (0 : Int64)), (.long (0 : Int64)), (.long (0 : Int64)), (.long (0 : Int64))] (.long (0 : Int64)) := V52
  have N52 := Fr.snoc X52 N51 g_b49
  have Z52 : n0 ≤ h52.size := Nat.le_trans Z51 (Nat.le_of_eq W52.size.symm)
  refine k_aload X52 hx (hb hby at_227) rfl rfl (pc' := 229) rfl ?_
  refine k_iconst X52 hx (hb hby at_229) (pc' := 230) rfl (z := (3 : Int32)) rfl ?_
  refine k_ldcL X52 hx hZ hown (hw _ (List.mem_of_getElem? (i := 3) rfl)) (hb hby at_230) (pc' := 233) rfl ?_
  refine k_lastore X52 hx hZ e52 Vw52 ⟨by decide, by decide⟩ (i := 3) rfl (Nat.le_of_ble_eq_true rfl) (hb hby at_233) (pc' := 234) rfl (fun T53 h53 X53 e53 W53 V53 => ?_)
  have Vw53 : Arv Z h53 b49 k49 .long (7 : Int32) [(.long (-1 : Int64)), (.long (-1 : Int64)), (.long (-1 : Int64)), (.long (-1 : Int64)), (.long (0 : Int64)), (.long (0 : Int64)), (.long (0 : Int64))] (.long (0 : Int64)) := V53
  have N53 := Fr.snoc X53 N52 g_b49
  have Z53 : n0 ≤ h53.size := Nat.le_trans Z52 (Nat.le_of_eq W53.size.symm)
  refine k_aload X53 hx (hb hby at_234) rfl rfl (pc' := 236) rfl ?_
  refine k_iconst X53 hx (hb hby at_236) (pc' := 237) rfl (z := (4 : Int32)) rfl ?_
  refine k_ldcL X53 hx hZ hown (hw _ (List.mem_of_getElem? (i := 3) rfl)) (hb hby at_237) (pc' := 240) rfl ?_
  refine k_lastore X53 hx hZ e53 Vw53 ⟨by decide, by decide⟩ (i := 4) rfl (Nat.le_of_ble_eq_true rfl) (hb hby at_240) (pc' := 241) rfl (fun T54 h54 X54 e54 W54 V54 => ?_)
  have Vw54 : Arv Z h54 b49 k49 .long (7 : Int32) [(.long (-1 : Int64)), (.long (-1 : Int64)), (.long (-1 : Int64)), (.long (-1 : Int64)), (.long (-1 : Int64)), (.long (0 : Int64)), (.long (0 : Int64))] (.long (0 : Int64)) := V54
  have N54 := Fr.snoc X54 N53 g_b49
  have Z54 : n0 ≤ h54.size := Nat.le_trans Z53 (Nat.le_of_eq W54.size.symm)
  refine k_aload X54 hx (hb hby at_241) rfl rfl (pc' := 243) rfl ?_
  refine k_iconst X54 hx (hb hby at_243) (pc' := 244) rfl (z := (5 : Int32)) rfl ?_
  refine k_ldcL X54 hx hZ hown (hw _ (List.mem_of_getElem? (i := 3) rfl)) (hb hby at_244) (pc' := 247) rfl ?_
  refine k_lastore X54 hx hZ e54 Vw54 ⟨by decide, by decide⟩ (i := 5) rfl (Nat.le_of_ble_eq_true rfl) (hb hby at_247) (pc' := 248) rfl (fun T55 h55 X55 e55 W55 V55 => ?_)
  have Vw55 : Arv Z h55 b49 k49 .long (7 : Int32) [(.long (-1 : Int64)), (.long (-1 : Int64)), (.long (-1 : Int64)), (.long (-1 : Int64)), (.long (-1 : Int64)), (.long (-1 : Int64)), (.long (0 : Int64))] (.long (0 : Int64)) := V55
  have N55 := Fr.snoc X55 N54 g_b49
  have Z55 : n0 ≤ h55.size := Nat.le_trans Z54 (Nat.le_of_eq W55.size.symm)
  refine k_aload X55 hx (hb hby at_248) rfl rfl (pc' := 250) rfl ?_
  refine k_bipush X55 hx (hb hby at_250) (pc' := 252) rfl (z := (6 : Int32)) rfl ?_
  refine k_ldcL X55 hx hZ hown (hw _ (List.mem_of_getElem? (i := 3) rfl)) (hb hby at_252) (pc' := 255) rfl ?_
  refine k_lastore X55 hx hZ e55 Vw55 ⟨by decide, by decide⟩ (i := 6) rfl (Nat.le_of_ble_eq_true rfl) (hb hby at_255) (pc' := 256) rfl (fun T56 h56 X56 e56 W56 V56 => ?_)
  have Vw56 : Arv Z h56 b49 k49 .long (7 : Int32) [(.long (-1 : Int64)), (.long (-1 : Int64)), (.long (-1 : Int64)), (.long (-1 : Int64)), (.long (-1 : Int64)), (.long (-1 : Int64)), (.long (-1 : Int64))] (.long (0 : Int64)) := V56
  have N56 := Fr.snoc X56 N55 g_b49
  have Z56 : n0 ≤ h56.size := Nat.le_trans Z55 (Nat.le_of_eq W56.size.symm)
  refine k_bipush X56 hx (hb hby at_256) (pc' := 258) rfl (z := (7 : Int32)) rfl ?_
  refine k_newA X56 hx hZ (hw _ (List.mem_of_getElem? (i := 0) rfl)) e56 (hb hby at_258) (by decide) (cap := 7) (by decide) (by decide) (by decide) (by decide) (pc' := 260) rfl (fun T57 h57 b57 k57 g57 X57 e57 E57 V57 => ?_)
  have g_b57 : n0 ≤ b57 := Nat.le_trans Z56 (Nat.le_of_eq g57.symm)
  have lt_b57 : b49 < b57 := Nat.lt_of_lt_of_le Vw56.lt (Nat.le_of_eq g57.symm)
  have Z57 : n0 ≤ h57.size := Nat.le_trans Z56 E57.1
  have Vw57 : Arv Z h57 b57 k57 .long (7 : Int32) [(.long (0 : Int64)), (.long (0 : Int64)), (.long (0 : Int64)), (.long (0 : Int64)), (.long (0 : Int64)), (.long (0 : Int64)), (.long (0 : Int64))] (.long (0 : Int64)) := V57
  refine k_astore X57 hx (hb hby at_260) rfl (Ls' := #[.val (.long i0), .second, .val (.long i1), .second, .val (.long i2), .second, .val (.long i3), .second, .val (.long i4), .second, .val (.int i5), .val (.ref b1), .val (.ref b24), .val (.int (0 : Int32)), .val (.ref b49), .val (.ref b57), .unset, .unset]) rfl (pc' := 262) rfl ?_
  refine k_aload X57 hx (hb hby at_262) rfl rfl (pc' := 264) rfl ?_
  refine k_iconst X57 hx (hb hby at_264) (pc' := 265) rfl (z := (0 : Int32)) rfl ?_
  refine k_ldcL X57 hx hZ hown (hw _ (List.mem_of_getElem? (i := 3) rfl)) (hb hby at_265) (pc' := 268) rfl ?_
  refine k_lastore X57 hx hZ e57 Vw57 ⟨by decide, by decide⟩ (i := 0) rfl (Nat.le_of_ble_eq_true rfl) (hb hby at_268) (pc' := 269) rfl (fun T58 h58 X58 e58 W58 V58 => ?_)
  have Vw58 : Arv Z h58 b57 k57 .long (7 : Int32) [(.long (-1 : Int64)), (.long (0 : Int64)), (.long (0 : Int64)), (.long (0 : Int64)), (.long (0 : Int64)), (.long (0 : Int64)), (.long (0 : Int64))] (.long (0 : Int64)) := V58
  have N58 := Fr.snoc X58 N56 g_b57
  have Z58 : n0 ≤ h58.size := Nat.le_trans Z57 (Nat.le_of_eq W58.size.symm)
  refine k_aload X58 hx (hb hby at_269) rfl rfl (pc' := 271) rfl ?_
  refine k_iconst X58 hx (hb hby at_271) (pc' := 272) rfl (z := (1 : Int32)) rfl ?_
  refine k_ldcL X58 hx hZ hown (hw _ (List.mem_of_getElem? (i := 3) rfl)) (hb hby at_272) (pc' := 275) rfl ?_
  refine k_lastore X58 hx hZ e58 Vw58 ⟨by decide, by decide⟩ (i := 1) rfl (Nat.le_of_ble_eq_true rfl) (hb hby at_275) (pc' := 276) rfl (fun T59 h59 X59 e59 W59 V59 => ?_)
  have Vw59 : Arv Z h59 b57 k57 .long (7 : Int32) [(.long (-1 : Int64)), (.long (-1 : Int64)), (.long (0 : Int64)), (.long (0 : Int64)), (.long (0 : Int64)), (.long (0 : Int64)), (.long (0 : Int64))] (.long (0 : Int64)) := V59
  have N59 := Fr.snoc X59 N58 g_b57
  have Z59 : n0 ≤ h59.size := Nat.le_trans Z58 (Nat.le_of_eq W59.size.symm)
  refine k_aload X59 hx (hb hby at_276) rfl rfl (pc' := 278) rfl ?_
  refine k_iconst X59 hx (hb hby at_278) (pc' := 279) rfl (z := (2 : Int32)) rfl ?_
  refine k_ldcL X59 hx hZ hown (hw _ (List.mem_of_getElem? (i := 3) rfl)) (hb hby at_279) (pc' := 282) rfl ?_
  refine k_lastore X59 hx hZ e59 Vw59 ⟨by decide, by decide⟩ (i := 2) rfl (Nat.le_of_ble_eq_true rfl) (hb hby at_282) (pc' := 283) rfl (fun T60 h60 X60 e60 W60 V60 => ?_)
  have Vw60 : Arv Z h60 b57 k57 .long (7 : Int32) [(.long (-1 : Int64)), (.long (-1 : Int64)), (.long (-1 : Int64)), (.long (0 : Int64)), (.long (0 : Int64)), (.long (0 : Int64)), (.long (0 : Int64))] (.long (0 : Int64)) := V60
  have N60 := Fr.snoc X60 N59 g_b57
  have Z60 : n0 ≤ h60.size := Nat.le_trans Z59 (Nat.le_of_eq W60.size.symm)
  refine k_aload X60 hx (hb hby at_283) rfl rfl (pc' := 285) rfl ?_
  refine k_iconst X60 hx (hb hby at_285) (pc' := 286) rfl (z := (3 : Int32)) rfl ?_
  refine k_ldcL X60 hx hZ hown (hw _ (List.mem_of_getElem? (i := 3) rfl)) (hb hby at_286) (pc' := 289) rfl ?_
  refine k_lastore X60 hx hZ e60 Vw60 ⟨by decide, by decide⟩ (i := 3) rfl (Nat.le_of_ble_eq_true rfl) (hb hby at_289) (pc' := 290) rfl (fun T61 h61 X61 e61 W61 V61 => ?_)
  have Vw61 : Arv Z h61 b57 k57 .long (7 : Int32) [(.long (-1 : Int64)), (.long (-1 : Int64)), (.long (-1 : Int64)), (.long (-1 : Int64)), (.long (0 : Int64)), (.long (0 : Int64)), (.long (0 : Int64))] (.long (0 : Int64)) := V61
  have N61 := Fr.snoc X61 N60 g_b57
  have Z61 : n0 ≤ h61.size := Nat.le_trans Z60 (Nat.le_of_eq W61.size.symm)
  refine k_aload X61 hx (hb hby at_290) rfl rfl (pc' := 292) rfl ?_
  refine k_iconst X61 hx (hb hby at_292) (pc' := 293) rfl (z := (4 : Int32)) rfl ?_
  refine k_ldcL X61 hx hZ hown (hw _ (List.mem_of_getElem? (i := 3) rfl)) (hb hby at_293) (pc' := 296) rfl ?_
  refine k_lastore X61 hx hZ e61 Vw61 ⟨by decide, by decide⟩ (i := 4) rfl (Nat.le_of_ble_eq_true rfl) (hb hby at_296) (pc' := 297) rfl (fun T62 h62 X62 e62 W62 V62 => ?_)
  have Vw62 : Arv Z h62 b57 k57 .long (7 : Int32) [(.long (-1 : Int64)), (.long (-1 : Int64)), (.long (-1 : Int64)), (.long (-1 : Int64)), (.long (-1 : Int64)), (.long (0 : Int64)), (.long (0 : Int64))] (.long (0 : Int64)) := V62
  have N62 := Fr.snoc X62 N61 g_b57
  have Z62 : n0 ≤ h62.size := Nat.le_trans Z61 (Nat.le_of_eq W62.size.symm)
  refine k_aload X62 hx (hb hby at_297) rfl rfl (pc' := 299) rfl ?_
  refine k_iconst X62 hx (hb hby at_299) (pc' := 300) rfl (z := (5 : Int32)) rfl ?_
  refine k_ldcL X62 hx hZ hown (hw _ (List.mem_of_getElem? (i := 3) rfl)) (hb hby at_300) (pc' := 303) rfl ?_
  refine k_lastore X62 hx hZ e62 Vw62 ⟨by decide, by decide⟩ (i := 5) rfl (Nat.le_of_ble_eq_true rfl) (hb hby at_303) (pc' := 304) rfl (fun T63 h63 X63 e63 W63 V63 => ?_)
  have Vw63 : Arv Z h63 b57 k57 .long (7 : Int32) [(.long (-1 : Int64)), (.long (-1 : Int64)), (.long (-1 : Int64)), (.long (-1 : Int64)), (.long (-1 : Int64)), (.long (-1 : Int64)), (.long (0 : Int64))] (.long (0 : Int64)) := V63
  have N63 := Fr.snoc X63 N62 g_b57
  have Z63 : n0 ≤ h63.size := Nat.le_trans Z62 (Nat.le_of_eq W63.size.symm)
  refine k_aload X63 hx (hb hby at_304) rfl rfl (pc' := 306) rfl ?_
  refine k_bipush X63 hx (hb hby at_306) (pc' := 308) rfl (z := (6 : Int32)) rfl ?_
  refine k_ldcL X63 hx hZ hown (hw _ (List.mem_of_getElem? (i := 3) rfl)) (hb hby at_308) (pc' := 311) rfl ?_
  refine k_lastore X63 hx hZ e63 Vw63 ⟨by decide, by decide⟩ (i := 6) rfl (Nat.le_of_ble_eq_true rfl) (hb hby at_311) (pc' := 312) rfl (fun T64 h64 X64 e64 W64 V64 => ?_)
  have Vw64 : Arv Z h64 b57 k57 .long (7 : Int32) [(.long (-1 : Int64)), (.long (-1 : Int64)), (.long (-1 : Int64)), (.long (-1 : Int64)), (.long (-1 : Int64)), (.long (-1 : Int64)), (.long (-1 : Int64))] (.long (0 : Int64)) := V64
  have N64 := Fr.snoc X64 N63 g_b57
  have Z64 : n0 ≤ h64.size := Nat.le_trans Z63 (Nat.le_of_eq W64.size.symm)
  refine k_aload X64 hx (hb hby at_312) rfl rfl (pc' := 314) rfl ?_
  refine k_iload X64 hx (hb hby at_314) rfl (pc' := 316) rfl ?_
  refine k_lloadN X64 hx (hb hby at_316) rfl (pc' := 317) rfl ?_
  refine k_ldcL X64 hx hZ hown (hw _ (List.mem_of_getElem? (i := 4) rfl)) (hb hby at_317) (pc' := 320) rfl ?_
  refine k_land X64 hx (hb hby at_320) (pc' := 321) rfl (fun v65 hv65 => ?_)
  refine k_lastore X64 hx hZ e64 Vw64 ⟨by decide, by decide⟩ (i := 0) rfl (Nat.le_of_ble_eq_true rfl) (hb hby at_321) (pc' := 322) rfl (fun T66 h66 X66 e66 W66 V66 => ?_)
  have Vw66 : Arv Z h66 b57 k57 .long (7 : Int32) [(.long v65), (.long (-1 : Int64)), (.long (-1 : Int64)), (.long (-1 : Int64)), (.long (-1 : Int64)), (.long (-1 : Int64)), (.long (-1 : Int64))] (.long (0 : Int64)) := V66
  have N66 := Fr.snoc X66 N64 g_b57
  have Z66 : n0 ≤ h66.size := Nat.le_trans Z64 (Nat.le_of_eq W66.size.symm)
  refine k_aload X66 hx (hb hby at_322) rfl rfl (pc' := 324) rfl ?_
  refine k_iload X66 hx (hb hby at_324) rfl (pc' := 326) rfl ?_
  refine k_iconst X66 hx (hb hby at_326) (pc' := 327) rfl (z := (1 : Int32)) rfl ?_
  refine k_iaddL X66 hx (hb hby at_327) (pc' := 328) rfl (z := (1 : Int32)) (by decide) ?_
  refine k_lloadN X66 hx (hb hby at_328) rfl (pc' := 329) rfl ?_
  refine k_ldcL X66 hx hZ hown (hw _ (List.mem_of_getElem? (i := 4) rfl)) (hb hby at_329) (pc' := 332) rfl ?_
  refine k_land X66 hx (hb hby at_332) (pc' := 333) rfl (fun v67 hv67 => ?_)
  refine k_lastore X66 hx hZ e66 Vw66 ⟨by decide, by decide⟩ (i := 1) rfl (Nat.le_of_ble_eq_true rfl) (hb hby at_333) (pc' := 334) rfl (fun T68 h68 X68 e68 W68 V68 => ?_)
  have Vw68 : Arv Z h68 b57 k57 .long (7 : Int32) [(.long v65), (.long v67), (.long (-1 : Int64)), (.long (-1 : Int64)), (.long (-1 : Int64)), (.long (-1 : Int64)), (.long (-1 : Int64))] (.long (0 : Int64)) := V68
  have N68 := Fr.snoc X68 N66 g_b57
  have Z68 : n0 ≤ h68.size := Nat.le_trans Z66 (Nat.le_of_eq W68.size.symm)
  refine k_aload X68 hx (hb hby at_334) rfl rfl (pc' := 336) rfl ?_
  refine k_iload X68 hx (hb hby at_336) rfl (pc' := 338) rfl ?_
  refine k_iconst X68 hx (hb hby at_338) (pc' := 339) rfl (z := (2 : Int32)) rfl ?_
  refine k_iaddL X68 hx (hb hby at_339) (pc' := 340) rfl (z := (2 : Int32)) (by decide) ?_
  refine k_lload X68 hx (hb hby at_340) rfl (pc' := 342) rfl ?_
  refine k_ldcL X68 hx hZ hown (hw _ (List.mem_of_getElem? (i := 4) rfl)) (hb hby at_342) (pc' := 345) rfl ?_
  refine k_land X68 hx (hb hby at_345) (pc' := 346) rfl (fun v69 hv69 => ?_)
  refine k_lastore X68 hx hZ e68 Vw68 ⟨by decide, by decide⟩ (i := 2) rfl (Nat.le_of_ble_eq_true rfl) (hb hby at_346) (pc' := 347) rfl (fun T70 h70 X70 e70 W70 V70 => ?_)
  have Vw70 : Arv Z h70 b57 k57 .long (7 : Int32) [(.long v65), (.long v67), (.long v69), (.long (-1 : Int64)), (.long (-1 : Int64)), (.long (-1 : Int64)), (.long (-1 : Int64))] (.long (0 : Int64)) := V70
  have N70 := Fr.snoc X70 N68 g_b57
  have Z70 : n0 ≤ h70.size := Nat.le_trans Z68 (Nat.le_of_eq W70.size.symm)
  refine k_aload X70 hx (hb hby at_347) rfl rfl (pc' := 349) rfl ?_
  refine k_iload X70 hx (hb hby at_349) rfl (pc' := 351) rfl ?_
  refine k_iconst X70 hx (hb hby at_351) (pc' := 352) rfl (z := (3 : Int32)) rfl ?_
  refine k_iaddL X70 hx (hb hby at_352) (pc' := 353) rfl (z := (3 : Int32)) (by decide) ?_
  refine k_lload X70 hx (hb hby at_353) rfl (pc' := 355) rfl ?_
  refine k_ldcL X70 hx hZ hown (hw _ (List.mem_of_getElem? (i := 4) rfl)) (hb hby at_355) (pc' := 358) rfl ?_
  refine k_land X70 hx (hb hby at_358) (pc' := 359) rfl (fun v71 hv71 => ?_)
  refine k_lastore X70 hx hZ e70 Vw70 ⟨by decide, by decide⟩ (i := 3) rfl (Nat.le_of_ble_eq_true rfl) (hb hby at_359) (pc' := 360) rfl (fun T72 h72 X72 e72 W72 V72 => ?_)
  have Vw72 : Arv Z h72 b57 k57 .long (7 : Int32) [(.long v65), (.long v67), (.long v69), (.long v71), (.long (-1 : Int64)), (.long (-1 : Int64)), (.long (-1 : Int64))] (.long (0 : Int64)) := V72
  have N72 := Fr.snoc X72 N70 g_b57
  have Z72 : n0 ≤ h72.size := Nat.le_trans Z70 (Nat.le_of_eq W72.size.symm)
  refine k_aload X72 hx (hb hby at_360) rfl rfl (pc' := 362) rfl ?_
  refine k_iload X72 hx (hb hby at_362) rfl (pc' := 364) rfl ?_
  refine k_iconst X72 hx (hb hby at_364) (pc' := 365) rfl (z := (4 : Int32)) rfl ?_
  refine k_iaddL X72 hx (hb hby at_365) (pc' := 366) rfl (z := (4 : Int32)) (by decide) ?_
  refine k_lload X72 hx (hb hby at_366) rfl (pc' := 368) rfl ?_
  refine k_ldcL X72 hx hZ hown (hw _ (List.mem_of_getElem? (i := 1) rfl)) (hb hby at_368) (pc' := 371) rfl ?_
  refine k_landL X72 hx (hb hby at_371) (pc' := 372) rfl (z := v22) hv22.symm ?_
  refine k_lastore X72 hx hZ e72 Vw72 ⟨by decide, by decide⟩ (i := 4) rfl (Nat.le_of_ble_eq_true rfl) (hb hby at_372) (pc' := 373) rfl (fun T73 h73 X73 e73 W73 V73 => ?_)
  have Vw73 : Arv Z h73 b57 k57 .long (7 : Int32) [(.long v65), (.long v67), (.long v69), (.long v71), (.long v22), (.long (-1 : Int64)), (.long (-1 : Int64))] (.long (0 : Int64)) := V73
  have N73 := Fr.snoc X73 N72 g_b57
  have Z73 : n0 ≤ h73.size := Nat.le_trans Z72 (Nat.le_of_eq W73.size.symm)
  refine k_aload X73 hx (hb hby at_373) rfl rfl (pc' := 375) rfl ?_
  refine k_aload X73 hx (hb hby at_375) rfl rfl (pc' := 377) rfl ?_
  refine k_iload X73 hx (hb hby at_377) rfl (pc' := 379) rfl ?_
  have F74 := ((((((((((((((((((((((F41.other W42 (Nat.ne_of_lt lt_b24)).ext E49).other W50 (Nat.ne_of_lt (Nat.lt_trans lt_b24 lt_b49))).other W51 (Nat.ne_of_lt (Nat.lt_trans lt_b24 lt_b49))).other W52 (Nat.ne_of_lt (Nat.lt_trans lt_b24 lt_b49))).other W53 (Nat.ne_of_lt (Nat.lt_trans lt_b24 lt_b49))).other W54 (Nat.ne_of_lt (Nat.lt_trans lt_b24 lt_b49))).other W55 (Nat.ne_of_lt (Nat.lt_trans lt_b24 lt_b49))).other W56 (Nat.ne_of_lt (Nat.lt_trans lt_b24 lt_b49))).ext E57).other W58 (Nat.ne_of_lt (Nat.lt_trans (Nat.lt_trans lt_b24 lt_b49) lt_b57))).other W59 (Nat.ne_of_lt (Nat.lt_trans (Nat.lt_trans lt_b24 lt_b49) lt_b57))).other W60 (Nat.ne_of_lt (Nat.lt_trans (Nat.lt_trans lt_b24 lt_b49) lt_b57))).other W61 (Nat.ne_of_lt (Nat.lt_trans (Nat.lt_trans lt_b24 lt_b49) lt_b57))).other W62 (Nat.ne_of_lt (Nat.lt_trans (Nat.lt_trans lt_b24 lt_b49) lt_b57))).other W63 (Nat.ne_of_lt (Nat.lt_trans (Nat.lt_trans lt_b24 lt_b49) lt_b57))).other W64 (Nat.ne_of_lt (Nat.lt_trans (Nat.lt_trans lt_b24 lt_b49) lt_b57))).other W66 (Nat.ne_of_lt (Nat.lt_trans (Nat.lt_trans lt_b24 lt_b49) lt_b57))).other W68 (Nat.ne_of_lt (Nat.lt_trans (Nat.lt_trans lt_b24 lt_b49) lt_b57))).other W70 (Nat.ne_of_lt (Nat.lt_trans (Nat.lt_trans lt_b24 lt_b49) lt_b57))).other W72 (Nat.ne_of_lt (Nat.lt_trans (Nat.lt_trans lt_b24 lt_b49) lt_b57))).other W73 (Nat.ne_of_lt (Nat.lt_trans (Nat.lt_trans lt_b24 lt_b49) lt_b57)))
  have F75 := (((((((((((((((((((((Vw42.ext E49).other W50 (Nat.ne_of_lt lt_b49)).other W51 (Nat.ne_of_lt lt_b49)).other W52 (Nat.ne_of_lt lt_b49)).other W53 (Nat.ne_of_lt lt_b49)).other W54 (Nat.ne_of_lt lt_b49)).other W55 (Nat.ne_of_lt lt_b49)).other W56 (Nat.ne_of_lt lt_b49)).ext E57).other W58 (Nat.ne_of_lt (Nat.lt_trans lt_b49 lt_b57))).other W59 (Nat.ne_of_lt (Nat.lt_trans lt_b49 lt_b57))).other W60 (Nat.ne_of_lt (Nat.lt_trans lt_b49 lt_b57))).other W61 (Nat.ne_of_lt (Nat.lt_trans lt_b49 lt_b57))).other W62 (Nat.ne_of_lt (Nat.lt_trans lt_b49 lt_b57))).other W63 (Nat.ne_of_lt (Nat.lt_trans lt_b49 lt_b57))).other W64 (Nat.ne_of_lt (Nat.lt_trans lt_b49 lt_b57))).other W66 (Nat.ne_of_lt (Nat.lt_trans lt_b49 lt_b57))).other W68 (Nat.ne_of_lt (Nat.lt_trans lt_b49 lt_b57))).other W70 (Nat.ne_of_lt (Nat.lt_trans lt_b49 lt_b57))).other W72 (Nat.ne_of_lt (Nat.lt_trans lt_b49 lt_b57))).other W73 (Nat.ne_of_lt (Nat.lt_trans lt_b49 lt_b57)))
  have F76 := (((((((((((((Vw56.ext E57).other W58 (Nat.ne_of_lt lt_b57)).other W59 (Nat.ne_of_lt lt_b57)).other W60 (Nat.ne_of_lt lt_b57)).other W61 (Nat.ne_of_lt lt_b57)).other W62 (Nat.ne_of_lt lt_b57)).other W63 (Nat.ne_of_lt lt_b57)).other W64 (Nat.ne_of_lt lt_b57)).other W66 (Nat.ne_of_lt lt_b57)).other W68 (Nat.ne_of_lt lt_b57)).other W70 (Nat.ne_of_lt lt_b57)).other W72 (Nat.ne_of_lt lt_b57)).other W73 (Nat.ne_of_lt lt_b57))
  refine k_callS X73 hx hZ hown (hw _ (List.mem_of_getElem? (i := 5) rfl)) (hw _ (List.mem_of_getElem? (i := 6) rfl)) (hw _ (List.mem_of_getElem? (i := 7) rfl)) (hw _ (List.mem_of_getElem? (i := 8) rfl)) (by decide) (rm1_77 l Z a0 hw [] b1 b49 k1 v2 v5 v7 v10 v12 v15 v17 v20 v22 b24 k24 k49 b57 k57 v65 v67 v69 v71 h73 n0 Z73 F74 g_b1 F75 g_b24 F76 g_b49 Vw73 g_b57 lt_b24 lt_b49 lt_b57) (by decide) (by decide) e73 (by rw [hml]; rfl) (argsL := [(.ref b1), (.ref b49), (.int (0 : Int32))]) (rest := []) (lenOf pd_0 rfl) rfl (W := 0) (Nat.le_refl _) rfl (hb hby at_379) (by decide) (by decide) (pc' := 382) rfl (fun T99 L99 r99 X99 q99 => ?_)
  obtain ⟨N99, q99⟩ := q99
  have N99' := Fr.app N73 N99
  obtain ⟨v100, v101, v102, v103, v104, v105, v106, v107, v108, h109, h110, h111, h112, h113, h114, h115, h116, h117, rfl, F118, F119, F120, F121, Z122⟩ := q99
  show KEnds p e below s _ _ _ T99 (mkF m 382 #[.val (.long i0), .second, .val (.long i1), .second, .val (.long i2), .second, .val (.long i3), .second, .val (.long i4), .second, .val (.int i5), .val (.ref b1), .val (.ref b24), .val (.int (0 : Int32)), .val (.ref b49), .val (.ref b57), .unset, .unset] [])
  refine k_aload X99 hx (hb hby at_382) rfl rfl (pc' := 384) rfl ?_
  refine k_iconst X99 hx (hb hby at_384) (pc' := 385) rfl (z := (0 : Int32)) rfl ?_
  refine k_laload X99 hx hZ rfl F120 ⟨by decide, by decide⟩ (v := (.long v101)) rfl (hb hby at_385) (pc' := 386) rfl ?_
  refine k_aload X99 hx (hb hby at_386) rfl rfl (pc' := 388) rfl ?_
  refine k_iconst X99 hx (hb hby at_388) (pc' := 389) rfl (z := (0 : Int32)) rfl ?_
  refine k_laload X99 hx hZ rfl F121 ⟨by decide, by decide⟩ (v := (.long v65)) rfl (hb hby at_389) (pc' := 390) rfl ?_
  refine k_lcif_ne X99 hx (hb hby at_390) (pm := 391) rfl (hb hby at_391) (pn := 394) rfl (py := 472) (by decide) (fun hc123 => ?_) (fun hc123 => ?_)
  ·
   refine k_iconst X99 hx (hb hby at_472) (pc' := 473) rfl (z := (0 : Int32)) rfl ?_
   refine k_istore X99 hx (hb hby at_473) (Ls' := #[.val (.long i0), .second, .val (.long i1), .second, .val (.long i2), .second, .val (.long i3), .second, .val (.long i4), .second, .val (.int i5), .val (.ref b1), .val (.ref b24), .val (.int (0 : Int32)), .val (.ref b49), .val (.ref b57), .val (.int (0 : Int32)), .unset]) rfl (pc' := 475) rfl ?_
   refine k_aload X99 hx (hb hby at_475) rfl rfl (pc' := 477) rfl ?_
   refine k_iconst X99 hx (hb hby at_477) (pc' := 478) rfl (z := (0 : Int32)) rfl ?_
   refine k_laload X99 hx hZ rfl F118 ⟨by decide, by decide⟩ (v := (.long v2)) rfl (hb hby at_478) (pc' := 479) rfl ?_
   refine k_aload X99 hx (hb hby at_479) rfl rfl (pc' := 481) rfl ?_
   refine k_iconst X99 hx (hb hby at_481) (pc' := 482) rfl (z := (0 : Int32)) rfl ?_
   refine k_laload X99 hx hZ rfl F119 ⟨by decide, by decide⟩ (v := (.long v2)) rfl (hb hby at_482) (pc' := 483) rfl ?_
   refine k_lcif_ne X99 hx (hb hby at_483) (pm := 484) rfl (hb hby at_484) (pn := 487) rfl (py := 593) (by decide) (fun hc => absurd rfl hc) (fun _ => ?_)
   refine k_aload X99 hx (hb hby at_487) rfl rfl (pc' := 489) rfl ?_
   refine k_iconst X99 hx (hb hby at_489) (pc' := 490) rfl (z := (1 : Int32)) rfl ?_
   refine k_laload X99 hx hZ rfl F118 ⟨by decide, by decide⟩ (v := (.long v5)) rfl (hb hby at_490) (pc' := 491) rfl ?_
   refine k_aload X99 hx (hb hby at_491) rfl rfl (pc' := 493) rfl ?_
   refine k_iconst X99 hx (hb hby at_493) (pc' := 494) rfl (z := (1 : Int32)) rfl ?_
   refine k_laload X99 hx hZ rfl F119 ⟨by decide, by decide⟩ (v := (.long v5)) rfl (hb hby at_494) (pc' := 495) rfl ?_
   refine k_lcif_ne X99 hx (hb hby at_495) (pm := 496) rfl (hb hby at_496) (pn := 499) rfl (py := 593) (by decide) (fun hc => absurd rfl hc) (fun _ => ?_)
   refine k_aload X99 hx (hb hby at_499) rfl rfl (pc' := 501) rfl ?_
   refine k_iconst X99 hx (hb hby at_501) (pc' := 502) rfl (z := (2 : Int32)) rfl ?_
   refine k_laload X99 hx hZ rfl F118 ⟨by decide, by decide⟩ (v := (.long v7)) rfl (hb hby at_502) (pc' := 503) rfl ?_
   refine k_aload X99 hx (hb hby at_503) rfl rfl (pc' := 505) rfl ?_
   refine k_iconst X99 hx (hb hby at_505) (pc' := 506) rfl (z := (2 : Int32)) rfl ?_
   refine k_laload X99 hx hZ rfl F119 ⟨by decide, by decide⟩ (v := (.long v7)) rfl (hb hby at_506) (pc' := 507) rfl ?_
   refine k_lcif_ne X99 hx (hb hby at_507) (pm := 508) rfl (hb hby at_508) (pn := 511) rfl (py := 593) (by decide) (fun hc => absurd rfl hc) (fun _ => ?_)
   refine k_aload X99 hx (hb hby at_511) rfl rfl (pc' := 513) rfl ?_
   refine k_iconst X99 hx (hb hby at_513) (pc' := 514) rfl (z := (3 : Int32)) rfl ?_
   refine k_laload X99 hx hZ rfl F118 ⟨by decide, by decide⟩ (v := (.long v10)) rfl (hb hby at_514) (pc' := 515) rfl ?_
   refine k_aload X99 hx (hb hby at_515) rfl rfl (pc' := 517) rfl ?_
   refine k_iconst X99 hx (hb hby at_517) (pc' := 518) rfl (z := (3 : Int32)) rfl ?_
   refine k_laload X99 hx hZ rfl F119 ⟨by decide, by decide⟩ (v := (.long v10)) rfl (hb hby at_518) (pc' := 519) rfl ?_
   refine k_lcif_ne X99 hx (hb hby at_519) (pm := 520) rfl (hb hby at_520) (pn := 523) rfl (py := 593) (by decide) (fun hc => absurd rfl hc) (fun _ => ?_)
   refine k_aload X99 hx (hb hby at_523) rfl rfl (pc' := 525) rfl ?_
   refine k_iconst X99 hx (hb hby at_525) (pc' := 526) rfl (z := (4 : Int32)) rfl ?_
   refine k_laload X99 hx hZ rfl F118 ⟨by decide, by decide⟩ (v := (.long v12)) rfl (hb hby at_526) (pc' := 527) rfl ?_
   refine k_aload X99 hx (hb hby at_527) rfl rfl (pc' := 529) rfl ?_
   refine k_iconst X99 hx (hb hby at_529) (pc' := 530) rfl (z := (4 : Int32)) rfl ?_
   refine k_laload X99 hx hZ rfl F119 ⟨by decide, by decide⟩ (v := (.long v12)) rfl (hb hby at_530) (pc' := 531) rfl ?_
   refine k_lcif_ne X99 hx (hb hby at_531) (pm := 532) rfl (hb hby at_532) (pn := 535) rfl (py := 593) (by decide) (fun hc => absurd rfl hc) (fun _ => ?_)
   refine k_aload X99 hx (hb hby at_535) rfl rfl (pc' := 537) rfl ?_
   refine k_iconst X99 hx (hb hby at_537) (pc' := 538) rfl (z := (5 : Int32)) rfl ?_
   refine k_laload X99 hx hZ rfl F118 ⟨by decide, by decide⟩ (v := (.long v15)) rfl (hb hby at_538) (pc' := 539) rfl ?_
   refine k_aload X99 hx (hb hby at_539) rfl rfl (pc' := 541) rfl ?_
   refine k_iconst X99 hx (hb hby at_541) (pc' := 542) rfl (z := (5 : Int32)) rfl ?_
   refine k_laload X99 hx hZ rfl F119 ⟨by decide, by decide⟩ (v := (.long v15)) rfl (hb hby at_542) (pc' := 543) rfl ?_
   refine k_lcif_ne X99 hx (hb hby at_543) (pm := 544) rfl (hb hby at_544) (pn := 547) rfl (py := 593) (by decide) (fun hc => absurd rfl hc) (fun _ => ?_)
   refine k_aload X99 hx (hb hby at_547) rfl rfl (pc' := 549) rfl ?_
   refine k_bipush X99 hx (hb hby at_549) (pc' := 551) rfl (z := (6 : Int32)) rfl ?_
   refine k_laload X99 hx hZ rfl F118 ⟨by decide, by decide⟩ (v := (.long v17)) rfl (hb hby at_551) (pc' := 552) rfl ?_
   refine k_aload X99 hx (hb hby at_552) rfl rfl (pc' := 554) rfl ?_
   refine k_bipush X99 hx (hb hby at_554) (pc' := 556) rfl (z := (6 : Int32)) rfl ?_
   refine k_laload X99 hx hZ rfl F119 ⟨by decide, by decide⟩ (v := (.long v17)) rfl (hb hby at_556) (pc' := 557) rfl ?_
   refine k_lcif_ne X99 hx (hb hby at_557) (pm := 558) rfl (hb hby at_558) (pn := 561) rfl (py := 593) (by decide) (fun hc => absurd rfl hc) (fun _ => ?_)
   refine k_aload X99 hx (hb hby at_561) rfl rfl (pc' := 563) rfl ?_
   refine k_bipush X99 hx (hb hby at_563) (pc' := 565) rfl (z := (7 : Int32)) rfl ?_
   refine k_laload X99 hx hZ rfl F118 ⟨by decide, by decide⟩ (v := (.long v20)) rfl (hb hby at_565) (pc' := 566) rfl ?_
   refine k_aload X99 hx (hb hby at_566) rfl rfl (pc' := 568) rfl ?_
   refine k_bipush X99 hx (hb hby at_568) (pc' := 570) rfl (z := (7 : Int32)) rfl ?_
   refine k_laload X99 hx hZ rfl F119 ⟨by decide, by decide⟩ (v := (.long v20)) rfl (hb hby at_570) (pc' := 571) rfl ?_
   refine k_lcif_ne X99 hx (hb hby at_571) (pm := 572) rfl (hb hby at_572) (pn := 575) rfl (py := 593) (by decide) (fun hc => absurd rfl hc) (fun _ => ?_)
   refine k_aload X99 hx (hb hby at_575) rfl rfl (pc' := 577) rfl ?_
   refine k_bipush X99 hx (hb hby at_577) (pc' := 579) rfl (z := (8 : Int32)) rfl ?_
   refine k_laload X99 hx hZ rfl F118 ⟨by decide, by decide⟩ (v := (.long v22)) rfl (hb hby at_579) (pc' := 580) rfl ?_
   refine k_aload X99 hx (hb hby at_580) rfl rfl (pc' := 582) rfl ?_
   refine k_bipush X99 hx (hb hby at_582) (pc' := 584) rfl (z := (8 : Int32)) rfl ?_
   refine k_laload X99 hx hZ rfl F119 ⟨by decide, by decide⟩ (v := (.long v22)) rfl (hb hby at_584) (pc' := 585) rfl ?_
   refine k_lcif_ne X99 hx (hb hby at_585) (pm := 586) rfl (hb hby at_586) (pn := 589) rfl (py := 593) (by decide) (fun hc => absurd rfl hc) (fun _ => ?_)
   refine k_iconst X99 hx (hb hby at_589) (pc' := 590) rfl (z := (1 : Int32)) rfl ?_
   refine k_goto X99 hx (hb hby at_590) (pc' := 594) (by decide) ?_
   refine k_istore X99 hx (hb hby at_594) (Ls' := #[.val (.long i0), .second, .val (.long i1), .second, .val (.long i2), .second, .val (.long i3), .second, .val (.long i4), .second, .val (.int i5), .val (.ref b1), .val (.ref b24), .val (.int (0 : Int32)), .val (.ref b49), .val (.ref b57), .val (.int (0 : Int32)), .val (.int (1 : Int32))]) rfl (pc' := 596) rfl ?_
   refine k_iload X99 hx (hb hby at_596) rfl (pc' := 598) rfl ?_
   refine k_if_eq X99 hx (hb hby at_598) (pn := 601) rfl (py := 610) (by decide) (fun _ => ?_) (fun hc => absurd (by decide) hc)
   refine k_iconst X99 hx (hb hby at_610) (pc' := 611) rfl (z := (0 : Int32)) rfl ?_
   exfalso
   have := rng64 v101
   have := rng64 v2
   have := rng64 i0
   have : (536870911 : Int64).toInt = 536870911 := (by decide)
   have q124 : v2.toInt = i0.toInt % 536870912 := (by rw [hv2]; exact c_maskL _ _ 29 (by decide) (by decide))
   have := rng64 v100
   have := rng64 v5
   have := rng64 v4
   have : (29 : Int32).toInt = 29 := (by decide)
   have q125 : v4.toInt = (i0.toInt % 18446744073709551616) / 536870912 := (by rw [hv4]; exact c_lushr _ _ 29 (by decide) (by decide))
   have q126 : v5.toInt = v4.toInt % 536870912 := (by rw [hv5]; exact c_maskL _ _ 29 (by decide) (by decide))
   have q127 : (v100.toInt - v5.toInt * 536870912) % 18446744073709551616 = 0 := (by rw [h109]; exact c_lshl _ _ 29 (by decide))
   have q128 := c_orL' v2 v100 29 (by decide) 536870912 rfl; rw [← h110] at q128
   have := rng64 v65
   have : (288230376151711743 : Int64).toInt = 288230376151711743 := (by decide)
   have q129 : v65.toInt = i0.toInt % 288230376151711744 := (by rw [hv65]; exact c_maskL _ _ 58 (by decide) (by decide))
   have q130 : ¬ v101.toInt = v65.toInt := fun q => hc123 (Int64.toInt_inj.mp q)
   omega
  ·
   refine k_aload X99 hx (hb hby at_394) rfl rfl (pc' := 396) rfl ?_
   refine k_iconst X99 hx (hb hby at_396) (pc' := 397) rfl (z := (1 : Int32)) rfl ?_
   refine k_laload X99 hx hZ rfl F120 ⟨by decide, by decide⟩ (v := (.long v103)) rfl (hb hby at_397) (pc' := 398) rfl ?_
   refine k_aload X99 hx (hb hby at_398) rfl rfl (pc' := 400) rfl ?_
   refine k_iconst X99 hx (hb hby at_400) (pc' := 401) rfl (z := (1 : Int32)) rfl ?_
   refine k_laload X99 hx hZ rfl F121 ⟨by decide, by decide⟩ (v := (.long v67)) rfl (hb hby at_401) (pc' := 402) rfl ?_
   refine k_lcif_ne X99 hx (hb hby at_402) (pm := 403) rfl (hb hby at_403) (pn := 406) rfl (py := 472) (by decide) (fun hc131 => ?_) (fun hc131 => ?_)
   ·
    refine k_iconst X99 hx (hb hby at_472) (pc' := 473) rfl (z := (0 : Int32)) rfl ?_
    refine k_istore X99 hx (hb hby at_473) (Ls' := #[.val (.long i0), .second, .val (.long i1), .second, .val (.long i2), .second, .val (.long i3), .second, .val (.long i4), .second, .val (.int i5), .val (.ref b1), .val (.ref b24), .val (.int (0 : Int32)), .val (.ref b49), .val (.ref b57), .val (.int (0 : Int32)), .unset]) rfl (pc' := 475) rfl ?_
    refine k_aload X99 hx (hb hby at_475) rfl rfl (pc' := 477) rfl ?_
    refine k_iconst X99 hx (hb hby at_477) (pc' := 478) rfl (z := (0 : Int32)) rfl ?_
    refine k_laload X99 hx hZ rfl F118 ⟨by decide, by decide⟩ (v := (.long v2)) rfl (hb hby at_478) (pc' := 479) rfl ?_
    refine k_aload X99 hx (hb hby at_479) rfl rfl (pc' := 481) rfl ?_
    refine k_iconst X99 hx (hb hby at_481) (pc' := 482) rfl (z := (0 : Int32)) rfl ?_
    refine k_laload X99 hx hZ rfl F119 ⟨by decide, by decide⟩ (v := (.long v2)) rfl (hb hby at_482) (pc' := 483) rfl ?_
    refine k_lcif_ne X99 hx (hb hby at_483) (pm := 484) rfl (hb hby at_484) (pn := 487) rfl (py := 593) (by decide) (fun hc => absurd rfl hc) (fun _ => ?_)
    refine k_aload X99 hx (hb hby at_487) rfl rfl (pc' := 489) rfl ?_
    refine k_iconst X99 hx (hb hby at_489) (pc' := 490) rfl (z := (1 : Int32)) rfl ?_
    refine k_laload X99 hx hZ rfl F118 ⟨by decide, by decide⟩ (v := (.long v5)) rfl (hb hby at_490) (pc' := 491) rfl ?_
    refine k_aload X99 hx (hb hby at_491) rfl rfl (pc' := 493) rfl ?_
    refine k_iconst X99 hx (hb hby at_493) (pc' := 494) rfl (z := (1 : Int32)) rfl ?_
    refine k_laload X99 hx hZ rfl F119 ⟨by decide, by decide⟩ (v := (.long v5)) rfl (hb hby at_494) (pc' := 495) rfl ?_
    refine k_lcif_ne X99 hx (hb hby at_495) (pm := 496) rfl (hb hby at_496) (pn := 499) rfl (py := 593) (by decide) (fun hc => absurd rfl hc) (fun _ => ?_)
    refine k_aload X99 hx (hb hby at_499) rfl rfl (pc' := 501) rfl ?_
    refine k_iconst X99 hx (hb hby at_501) (pc' := 502) rfl (z := (2 : Int32)) rfl ?_
    refine k_laload X99 hx hZ rfl F118 ⟨by decide, by decide⟩ (v := (.long v7)) rfl (hb hby at_502) (pc' := 503) rfl ?_
    refine k_aload X99 hx (hb hby at_503) rfl rfl (pc' := 505) rfl ?_
    refine k_iconst X99 hx (hb hby at_505) (pc' := 506) rfl (z := (2 : Int32)) rfl ?_
    refine k_laload X99 hx hZ rfl F119 ⟨by decide, by decide⟩ (v := (.long v7)) rfl (hb hby at_506) (pc' := 507) rfl ?_
    refine k_lcif_ne X99 hx (hb hby at_507) (pm := 508) rfl (hb hby at_508) (pn := 511) rfl (py := 593) (by decide) (fun hc => absurd rfl hc) (fun _ => ?_)
    refine k_aload X99 hx (hb hby at_511) rfl rfl (pc' := 513) rfl ?_
    refine k_iconst X99 hx (hb hby at_513) (pc' := 514) rfl (z := (3 : Int32)) rfl ?_
    refine k_laload X99 hx hZ rfl F118 ⟨by decide, by decide⟩ (v := (.long v10)) rfl (hb hby at_514) (pc' := 515) rfl ?_
    refine k_aload X99 hx (hb hby at_515) rfl rfl (pc' := 517) rfl ?_
    refine k_iconst X99 hx (hb hby at_517) (pc' := 518) rfl (z := (3 : Int32)) rfl ?_
    refine k_laload X99 hx hZ rfl F119 ⟨by decide, by decide⟩ (v := (.long v10)) rfl (hb hby at_518) (pc' := 519) rfl ?_
    refine k_lcif_ne X99 hx (hb hby at_519) (pm := 520) rfl (hb hby at_520) (pn := 523) rfl (py := 593) (by decide) (fun hc => absurd rfl hc) (fun _ => ?_)
    refine k_aload X99 hx (hb hby at_523) rfl rfl (pc' := 525) rfl ?_
    refine k_iconst X99 hx (hb hby at_525) (pc' := 526) rfl (z := (4 : Int32)) rfl ?_
    refine k_laload X99 hx hZ rfl F118 ⟨by decide, by decide⟩ (v := (.long v12)) rfl (hb hby at_526) (pc' := 527) rfl ?_
    refine k_aload X99 hx (hb hby at_527) rfl rfl (pc' := 529) rfl ?_
    refine k_iconst X99 hx (hb hby at_529) (pc' := 530) rfl (z := (4 : Int32)) rfl ?_
    refine k_laload X99 hx hZ rfl F119 ⟨by decide, by decide⟩ (v := (.long v12)) rfl (hb hby at_530) (pc' := 531) rfl ?_
    refine k_lcif_ne X99 hx (hb hby at_531) (pm := 532) rfl (hb hby at_532) (pn := 535) rfl (py := 593) (by decide) (fun hc => absurd rfl hc) (fun _ => ?_)
    refine k_aload X99 hx (hb hby at_535) rfl rfl (pc' := 537) rfl ?_
    refine k_iconst X99 hx (hb hby at_537) (pc' := 538) rfl (z := (5 : Int32)) rfl ?_
    refine k_laload X99 hx hZ rfl F118 ⟨by decide, by decide⟩ (v := (.long v15)) rfl (hb hby at_538) (pc' := 539) rfl ?_
    refine k_aload X99 hx (hb hby at_539) rfl rfl (pc' := 541) rfl ?_
    refine k_iconst X99 hx (hb hby at_541) (pc' := 542) rfl (z := (5 : Int32)) rfl ?_
    refine k_laload X99 hx hZ rfl F119 ⟨by decide, by decide⟩ (v := (.long v15)) rfl (hb hby at_542) (pc' := 543) rfl ?_
    refine k_lcif_ne X99 hx (hb hby at_543) (pm := 544) rfl (hb hby at_544) (pn := 547) rfl (py := 593) (by decide) (fun hc => absurd rfl hc) (fun _ => ?_)
    refine k_aload X99 hx (hb hby at_547) rfl rfl (pc' := 549) rfl ?_
    refine k_bipush X99 hx (hb hby at_549) (pc' := 551) rfl (z := (6 : Int32)) rfl ?_
    refine k_laload X99 hx hZ rfl F118 ⟨by decide, by decide⟩ (v := (.long v17)) rfl (hb hby at_551) (pc' := 552) rfl ?_
    refine k_aload X99 hx (hb hby at_552) rfl rfl (pc' := 554) rfl ?_
    refine k_bipush X99 hx (hb hby at_554) (pc' := 556) rfl (z := (6 : Int32)) rfl ?_
    refine k_laload X99 hx hZ rfl F119 ⟨by decide, by decide⟩ (v := (.long v17)) rfl (hb hby at_556) (pc' := 557) rfl ?_
    refine k_lcif_ne X99 hx (hb hby at_557) (pm := 558) rfl (hb hby at_558) (pn := 561) rfl (py := 593) (by decide) (fun hc => absurd rfl hc) (fun _ => ?_)
    refine k_aload X99 hx (hb hby at_561) rfl rfl (pc' := 563) rfl ?_
    refine k_bipush X99 hx (hb hby at_563) (pc' := 565) rfl (z := (7 : Int32)) rfl ?_
    refine k_laload X99 hx hZ rfl F118 ⟨by decide, by decide⟩ (v := (.long v20)) rfl (hb hby at_565) (pc' := 566) rfl ?_
    refine k_aload X99 hx (hb hby at_566) rfl rfl (pc' := 568) rfl ?_
    refine k_bipush X99 hx (hb hby at_568) (pc' := 570) rfl (z := (7 : Int32)) rfl ?_
    refine k_laload X99 hx hZ rfl F119 ⟨by decide, by decide⟩ (v := (.long v20)) rfl (hb hby at_570) (pc' := 571) rfl ?_
    refine k_lcif_ne X99 hx (hb hby at_571) (pm := 572) rfl (hb hby at_572) (pn := 575) rfl (py := 593) (by decide) (fun hc => absurd rfl hc) (fun _ => ?_)
    refine k_aload X99 hx (hb hby at_575) rfl rfl (pc' := 577) rfl ?_
    refine k_bipush X99 hx (hb hby at_577) (pc' := 579) rfl (z := (8 : Int32)) rfl ?_
    refine k_laload X99 hx hZ rfl F118 ⟨by decide, by decide⟩ (v := (.long v22)) rfl (hb hby at_579) (pc' := 580) rfl ?_
    refine k_aload X99 hx (hb hby at_580) rfl rfl (pc' := 582) rfl ?_
    refine k_bipush X99 hx (hb hby at_582) (pc' := 584) rfl (z := (8 : Int32)) rfl ?_
    refine k_laload X99 hx hZ rfl F119 ⟨by decide, by decide⟩ (v := (.long v22)) rfl (hb hby at_584) (pc' := 585) rfl ?_
    refine k_lcif_ne X99 hx (hb hby at_585) (pm := 586) rfl (hb hby at_586) (pn := 589) rfl (py := 593) (by decide) (fun hc => absurd rfl hc) (fun _ => ?_)
    refine k_iconst X99 hx (hb hby at_589) (pc' := 590) rfl (z := (1 : Int32)) rfl ?_
    refine k_goto X99 hx (hb hby at_590) (pc' := 594) (by decide) ?_
    refine k_istore X99 hx (hb hby at_594) (Ls' := #[.val (.long i0), .second, .val (.long i1), .second, .val (.long i2), .second, .val (.long i3), .second, .val (.long i4), .second, .val (.int i5), .val (.ref b1), .val (.ref b24), .val (.int (0 : Int32)), .val (.ref b49), .val (.ref b57), .val (.int (0 : Int32)), .val (.int (1 : Int32))]) rfl (pc' := 596) rfl ?_
    refine k_iload X99 hx (hb hby at_596) rfl (pc' := 598) rfl ?_
    refine k_if_eq X99 hx (hb hby at_598) (pn := 601) rfl (py := 610) (by decide) (fun _ => ?_) (fun hc => absurd (by decide) hc)
    refine k_iconst X99 hx (hb hby at_610) (pc' := 611) rfl (z := (0 : Int32)) rfl ?_
    exfalso
    have := rng64 v103
    have := rng64 v7
    have := rng64 i1
    have : (536870911 : Int64).toInt = 536870911 := (by decide)
    have q132 : v7.toInt = i1.toInt % 536870912 := (by rw [hv7]; exact c_maskL _ _ 29 (by decide) (by decide))
    have := rng64 v102
    have := rng64 v10
    have := rng64 v9
    have : (29 : Int32).toInt = 29 := (by decide)
    have q133 : v9.toInt = (i1.toInt % 18446744073709551616) / 536870912 := (by rw [hv9]; exact c_lushr _ _ 29 (by decide) (by decide))
    have q134 : v10.toInt = v9.toInt % 536870912 := (by rw [hv10]; exact c_maskL _ _ 29 (by decide) (by decide))
    have q135 : (v102.toInt - v10.toInt * 536870912) % 18446744073709551616 = 0 := (by rw [h111]; exact c_lshl _ _ 29 (by decide))
    have q136 := c_orL' v7 v102 29 (by decide) 536870912 rfl; rw [← h112] at q136
    have := rng64 v67
    have : (288230376151711743 : Int64).toInt = 288230376151711743 := (by decide)
    have q137 : v67.toInt = i1.toInt % 288230376151711744 := (by rw [hv67]; exact c_maskL _ _ 58 (by decide) (by decide))
    have q138 : ¬ v103.toInt = v67.toInt := fun q => hc131 (Int64.toInt_inj.mp q)
    omega
   ·
    refine k_aload X99 hx (hb hby at_406) rfl rfl (pc' := 408) rfl ?_
    refine k_iconst X99 hx (hb hby at_408) (pc' := 409) rfl (z := (2 : Int32)) rfl ?_
    refine k_laload X99 hx hZ rfl F120 ⟨by decide, by decide⟩ (v := (.long v105)) rfl (hb hby at_409) (pc' := 410) rfl ?_
    refine k_aload X99 hx (hb hby at_410) rfl rfl (pc' := 412) rfl ?_
    refine k_iconst X99 hx (hb hby at_412) (pc' := 413) rfl (z := (2 : Int32)) rfl ?_
    refine k_laload X99 hx hZ rfl F121 ⟨by decide, by decide⟩ (v := (.long v69)) rfl (hb hby at_413) (pc' := 414) rfl ?_
    refine k_lcif_ne X99 hx (hb hby at_414) (pm := 415) rfl (hb hby at_415) (pn := 418) rfl (py := 472) (by decide) (fun hc139 => ?_) (fun hc139 => ?_)
    ·
     refine k_iconst X99 hx (hb hby at_472) (pc' := 473) rfl (z := (0 : Int32)) rfl ?_
     refine k_istore X99 hx (hb hby at_473) (Ls' := #[.val (.long i0), .second, .val (.long i1), .second, .val (.long i2), .second, .val (.long i3), .second, .val (.long i4), .second, .val (.int i5), .val (.ref b1), .val (.ref b24), .val (.int (0 : Int32)), .val (.ref b49), .val (.ref b57), .val (.int (0 : Int32)), .unset]) rfl (pc' := 475) rfl ?_
     refine k_aload X99 hx (hb hby at_475) rfl rfl (pc' := 477) rfl ?_
     refine k_iconst X99 hx (hb hby at_477) (pc' := 478) rfl (z := (0 : Int32)) rfl ?_
     refine k_laload X99 hx hZ rfl F118 ⟨by decide, by decide⟩ (v := (.long v2)) rfl (hb hby at_478) (pc' := 479) rfl ?_
     refine k_aload X99 hx (hb hby at_479) rfl rfl (pc' := 481) rfl ?_
     refine k_iconst X99 hx (hb hby at_481) (pc' := 482) rfl (z := (0 : Int32)) rfl ?_
     refine k_laload X99 hx hZ rfl F119 ⟨by decide, by decide⟩ (v := (.long v2)) rfl (hb hby at_482) (pc' := 483) rfl ?_
     refine k_lcif_ne X99 hx (hb hby at_483) (pm := 484) rfl (hb hby at_484) (pn := 487) rfl (py := 593) (by decide) (fun hc => absurd rfl hc) (fun _ => ?_)
     refine k_aload X99 hx (hb hby at_487) rfl rfl (pc' := 489) rfl ?_
     refine k_iconst X99 hx (hb hby at_489) (pc' := 490) rfl (z := (1 : Int32)) rfl ?_
     refine k_laload X99 hx hZ rfl F118 ⟨by decide, by decide⟩ (v := (.long v5)) rfl (hb hby at_490) (pc' := 491) rfl ?_
     refine k_aload X99 hx (hb hby at_491) rfl rfl (pc' := 493) rfl ?_
     refine k_iconst X99 hx (hb hby at_493) (pc' := 494) rfl (z := (1 : Int32)) rfl ?_
     refine k_laload X99 hx hZ rfl F119 ⟨by decide, by decide⟩ (v := (.long v5)) rfl (hb hby at_494) (pc' := 495) rfl ?_
     refine k_lcif_ne X99 hx (hb hby at_495) (pm := 496) rfl (hb hby at_496) (pn := 499) rfl (py := 593) (by decide) (fun hc => absurd rfl hc) (fun _ => ?_)
     refine k_aload X99 hx (hb hby at_499) rfl rfl (pc' := 501) rfl ?_
     refine k_iconst X99 hx (hb hby at_501) (pc' := 502) rfl (z := (2 : Int32)) rfl ?_
     refine k_laload X99 hx hZ rfl F118 ⟨by decide, by decide⟩ (v := (.long v7)) rfl (hb hby at_502) (pc' := 503) rfl ?_
     refine k_aload X99 hx (hb hby at_503) rfl rfl (pc' := 505) rfl ?_
     refine k_iconst X99 hx (hb hby at_505) (pc' := 506) rfl (z := (2 : Int32)) rfl ?_
     refine k_laload X99 hx hZ rfl F119 ⟨by decide, by decide⟩ (v := (.long v7)) rfl (hb hby at_506) (pc' := 507) rfl ?_
     refine k_lcif_ne X99 hx (hb hby at_507) (pm := 508) rfl (hb hby at_508) (pn := 511) rfl (py := 593) (by decide) (fun hc => absurd rfl hc) (fun _ => ?_)
     refine k_aload X99 hx (hb hby at_511) rfl rfl (pc' := 513) rfl ?_
     refine k_iconst X99 hx (hb hby at_513) (pc' := 514) rfl (z := (3 : Int32)) rfl ?_
     refine k_laload X99 hx hZ rfl F118 ⟨by decide, by decide⟩ (v := (.long v10)) rfl (hb hby at_514) (pc' := 515) rfl ?_
     refine k_aload X99 hx (hb hby at_515) rfl rfl (pc' := 517) rfl ?_
     refine k_iconst X99 hx (hb hby at_517) (pc' := 518) rfl (z := (3 : Int32)) rfl ?_
     refine k_laload X99 hx hZ rfl F119 ⟨by decide, by decide⟩ (v := (.long v10)) rfl (hb hby at_518) (pc' := 519) rfl ?_
     refine k_lcif_ne X99 hx (hb hby at_519) (pm := 520) rfl (hb hby at_520) (pn := 523) rfl (py := 593) (by decide) (fun hc => absurd rfl hc) (fun _ => ?_)
     refine k_aload X99 hx (hb hby at_523) rfl rfl (pc' := 525) rfl ?_
     refine k_iconst X99 hx (hb hby at_525) (pc' := 526) rfl (z := (4 : Int32)) rfl ?_
     refine k_laload X99 hx hZ rfl F118 ⟨by decide, by decide⟩ (v := (.long v12)) rfl (hb hby at_526) (pc' := 527) rfl ?_
     refine k_aload X99 hx (hb hby at_527) rfl rfl (pc' := 529) rfl ?_
     refine k_iconst X99 hx (hb hby at_529) (pc' := 530) rfl (z := (4 : Int32)) rfl ?_
     refine k_laload X99 hx hZ rfl F119 ⟨by decide, by decide⟩ (v := (.long v12)) rfl (hb hby at_530) (pc' := 531) rfl ?_
     refine k_lcif_ne X99 hx (hb hby at_531) (pm := 532) rfl (hb hby at_532) (pn := 535) rfl (py := 593) (by decide) (fun hc => absurd rfl hc) (fun _ => ?_)
     refine k_aload X99 hx (hb hby at_535) rfl rfl (pc' := 537) rfl ?_
     refine k_iconst X99 hx (hb hby at_537) (pc' := 538) rfl (z := (5 : Int32)) rfl ?_
     refine k_laload X99 hx hZ rfl F118 ⟨by decide, by decide⟩ (v := (.long v15)) rfl (hb hby at_538) (pc' := 539) rfl ?_
     refine k_aload X99 hx (hb hby at_539) rfl rfl (pc' := 541) rfl ?_
     refine k_iconst X99 hx (hb hby at_541) (pc' := 542) rfl (z := (5 : Int32)) rfl ?_
     refine k_laload X99 hx hZ rfl F119 ⟨by decide, by decide⟩ (v := (.long v15)) rfl (hb hby at_542) (pc' := 543) rfl ?_
     refine k_lcif_ne X99 hx (hb hby at_543) (pm := 544) rfl (hb hby at_544) (pn := 547) rfl (py := 593) (by decide) (fun hc => absurd rfl hc) (fun _ => ?_)
     refine k_aload X99 hx (hb hby at_547) rfl rfl (pc' := 549) rfl ?_
     refine k_bipush X99 hx (hb hby at_549) (pc' := 551) rfl (z := (6 : Int32)) rfl ?_
     refine k_laload X99 hx hZ rfl F118 ⟨by decide, by decide⟩ (v := (.long v17)) rfl (hb hby at_551) (pc' := 552) rfl ?_
     refine k_aload X99 hx (hb hby at_552) rfl rfl (pc' := 554) rfl ?_
     refine k_bipush X99 hx (hb hby at_554) (pc' := 556) rfl (z := (6 : Int32)) rfl ?_
     refine k_laload X99 hx hZ rfl F119 ⟨by decide, by decide⟩ (v := (.long v17)) rfl (hb hby at_556) (pc' := 557) rfl ?_
     refine k_lcif_ne X99 hx (hb hby at_557) (pm := 558) rfl (hb hby at_558) (pn := 561) rfl (py := 593) (by decide) (fun hc => absurd rfl hc) (fun _ => ?_)
     refine k_aload X99 hx (hb hby at_561) rfl rfl (pc' := 563) rfl ?_
     refine k_bipush X99 hx (hb hby at_563) (pc' := 565) rfl (z := (7 : Int32)) rfl ?_
     refine k_laload X99 hx hZ rfl F118 ⟨by decide, by decide⟩ (v := (.long v20)) rfl (hb hby at_565) (pc' := 566) rfl ?_
     refine k_aload X99 hx (hb hby at_566) rfl rfl (pc' := 568) rfl ?_
     refine k_bipush X99 hx (hb hby at_568) (pc' := 570) rfl (z := (7 : Int32)) rfl ?_
     refine k_laload X99 hx hZ rfl F119 ⟨by decide, by decide⟩ (v := (.long v20)) rfl (hb hby at_570) (pc' := 571) rfl ?_
     refine k_lcif_ne X99 hx (hb hby at_571) (pm := 572) rfl (hb hby at_572) (pn := 575) rfl (py := 593) (by decide) (fun hc => absurd rfl hc) (fun _ => ?_)
     refine k_aload X99 hx (hb hby at_575) rfl rfl (pc' := 577) rfl ?_
     refine k_bipush X99 hx (hb hby at_577) (pc' := 579) rfl (z := (8 : Int32)) rfl ?_
     refine k_laload X99 hx hZ rfl F118 ⟨by decide, by decide⟩ (v := (.long v22)) rfl (hb hby at_579) (pc' := 580) rfl ?_
     refine k_aload X99 hx (hb hby at_580) rfl rfl (pc' := 582) rfl ?_
     refine k_bipush X99 hx (hb hby at_582) (pc' := 584) rfl (z := (8 : Int32)) rfl ?_
     refine k_laload X99 hx hZ rfl F119 ⟨by decide, by decide⟩ (v := (.long v22)) rfl (hb hby at_584) (pc' := 585) rfl ?_
     refine k_lcif_ne X99 hx (hb hby at_585) (pm := 586) rfl (hb hby at_586) (pn := 589) rfl (py := 593) (by decide) (fun hc => absurd rfl hc) (fun _ => ?_)
     refine k_iconst X99 hx (hb hby at_589) (pc' := 590) rfl (z := (1 : Int32)) rfl ?_
     refine k_goto X99 hx (hb hby at_590) (pc' := 594) (by decide) ?_
     refine k_istore X99 hx (hb hby at_594) (Ls' := #[.val (.long i0), .second, .val (.long i1), .second, .val (.long i2), .second, .val (.long i3), .second, .val (.long i4), .second, .val (.int i5), .val (.ref b1), .val (.ref b24), .val (.int (0 : Int32)), .val (.ref b49), .val (.ref b57), .val (.int (0 : Int32)), .val (.int (1 : Int32))]) rfl (pc' := 596) rfl ?_
     refine k_iload X99 hx (hb hby at_596) rfl (pc' := 598) rfl ?_
     refine k_if_eq X99 hx (hb hby at_598) (pn := 601) rfl (py := 610) (by decide) (fun _ => ?_) (fun hc => absurd (by decide) hc)
     refine k_iconst X99 hx (hb hby at_610) (pc' := 611) rfl (z := (0 : Int32)) rfl ?_
     exfalso
     have := rng64 v105
     have := rng64 v12
     have := rng64 i2
     have : (536870911 : Int64).toInt = 536870911 := (by decide)
     have q140 : v12.toInt = i2.toInt % 536870912 := (by rw [hv12]; exact c_maskL _ _ 29 (by decide) (by decide))
     have := rng64 v104
     have := rng64 v15
     have := rng64 v14
     have : (29 : Int32).toInt = 29 := (by decide)
     have q141 : v14.toInt = (i2.toInt % 18446744073709551616) / 536870912 := (by rw [hv14]; exact c_lushr _ _ 29 (by decide) (by decide))
     have q142 : v15.toInt = v14.toInt % 536870912 := (by rw [hv15]; exact c_maskL _ _ 29 (by decide) (by decide))
     have q143 : (v104.toInt - v15.toInt * 536870912) % 18446744073709551616 = 0 := (by rw [h113]; exact c_lshl _ _ 29 (by decide))
     have q144 := c_orL' v12 v104 29 (by decide) 536870912 rfl; rw [← h114] at q144
     have := rng64 v69
     have : (288230376151711743 : Int64).toInt = 288230376151711743 := (by decide)
     have q145 : v69.toInt = i2.toInt % 288230376151711744 := (by rw [hv69]; exact c_maskL _ _ 58 (by decide) (by decide))
     have q146 : ¬ v105.toInt = v69.toInt := fun q => hc139 (Int64.toInt_inj.mp q)
     omega
    ·
     refine k_aload X99 hx (hb hby at_418) rfl rfl (pc' := 420) rfl ?_
     refine k_iconst X99 hx (hb hby at_420) (pc' := 421) rfl (z := (3 : Int32)) rfl ?_
     refine k_laload X99 hx hZ rfl F120 ⟨by decide, by decide⟩ (v := (.long v107)) rfl (hb hby at_421) (pc' := 422) rfl ?_
     refine k_aload X99 hx (hb hby at_422) rfl rfl (pc' := 424) rfl ?_
     refine k_iconst X99 hx (hb hby at_424) (pc' := 425) rfl (z := (3 : Int32)) rfl ?_
     refine k_laload X99 hx hZ rfl F121 ⟨by decide, by decide⟩ (v := (.long v71)) rfl (hb hby at_425) (pc' := 426) rfl ?_
     refine k_lcif_ne X99 hx (hb hby at_426) (pm := 427) rfl (hb hby at_427) (pn := 430) rfl (py := 472) (by decide) (fun hc147 => ?_) (fun hc147 => ?_)
     ·
      refine k_iconst X99 hx (hb hby at_472) (pc' := 473) rfl (z := (0 : Int32)) rfl ?_
      refine k_istore X99 hx (hb hby at_473) (Ls' := #[.val (.long i0), .second, .val (.long i1), .second, .val (.long i2), .second, .val (.long i3), .second, .val (.long i4), .second, .val (.int i5), .val (.ref b1), .val (.ref b24), .val (.int (0 : Int32)), .val (.ref b49), .val (.ref b57), .val (.int (0 : Int32)), .unset]) rfl (pc' := 475) rfl ?_
      refine k_aload X99 hx (hb hby at_475) rfl rfl (pc' := 477) rfl ?_
      refine k_iconst X99 hx (hb hby at_477) (pc' := 478) rfl (z := (0 : Int32)) rfl ?_
      refine k_laload X99 hx hZ rfl F118 ⟨by decide, by decide⟩ (v := (.long v2)) rfl (hb hby at_478) (pc' := 479) rfl ?_
      refine k_aload X99 hx (hb hby at_479) rfl rfl (pc' := 481) rfl ?_
      refine k_iconst X99 hx (hb hby at_481) (pc' := 482) rfl (z := (0 : Int32)) rfl ?_
      refine k_laload X99 hx hZ rfl F119 ⟨by decide, by decide⟩ (v := (.long v2)) rfl (hb hby at_482) (pc' := 483) rfl ?_
      refine k_lcif_ne X99 hx (hb hby at_483) (pm := 484) rfl (hb hby at_484) (pn := 487) rfl (py := 593) (by decide) (fun hc => absurd rfl hc) (fun _ => ?_)
      refine k_aload X99 hx (hb hby at_487) rfl rfl (pc' := 489) rfl ?_
      refine k_iconst X99 hx (hb hby at_489) (pc' := 490) rfl (z := (1 : Int32)) rfl ?_
      refine k_laload X99 hx hZ rfl F118 ⟨by decide, by decide⟩ (v := (.long v5)) rfl (hb hby at_490) (pc' := 491) rfl ?_
      refine k_aload X99 hx (hb hby at_491) rfl rfl (pc' := 493) rfl ?_
      refine k_iconst X99 hx (hb hby at_493) (pc' := 494) rfl (z := (1 : Int32)) rfl ?_
      refine k_laload X99 hx hZ rfl F119 ⟨by decide, by decide⟩ (v := (.long v5)) rfl (hb hby at_494) (pc' := 495) rfl ?_
      refine k_lcif_ne X99 hx (hb hby at_495) (pm := 496) rfl (hb hby at_496) (pn := 499) rfl (py := 593) (by decide) (fun hc => absurd rfl hc) (fun _ => ?_)
      refine k_aload X99 hx (hb hby at_499) rfl rfl (pc' := 501) rfl ?_
      refine k_iconst X99 hx (hb hby at_501) (pc' := 502) rfl (z := (2 : Int32)) rfl ?_
      refine k_laload X99 hx hZ rfl F118 ⟨by decide, by decide⟩ (v := (.long v7)) rfl (hb hby at_502) (pc' := 503) rfl ?_
      refine k_aload X99 hx (hb hby at_503) rfl rfl (pc' := 505) rfl ?_
      refine k_iconst X99 hx (hb hby at_505) (pc' := 506) rfl (z := (2 : Int32)) rfl ?_
      refine k_laload X99 hx hZ rfl F119 ⟨by decide, by decide⟩ (v := (.long v7)) rfl (hb hby at_506) (pc' := 507) rfl ?_
      refine k_lcif_ne X99 hx (hb hby at_507) (pm := 508) rfl (hb hby at_508) (pn := 511) rfl (py := 593) (by decide) (fun hc => absurd rfl hc) (fun _ => ?_)
      refine k_aload X99 hx (hb hby at_511) rfl rfl (pc' := 513) rfl ?_
      refine k_iconst X99 hx (hb hby at_513) (pc' := 514) rfl (z := (3 : Int32)) rfl ?_
      refine k_laload X99 hx hZ rfl F118 ⟨by decide, by decide⟩ (v := (.long v10)) rfl (hb hby at_514) (pc' := 515) rfl ?_
      refine k_aload X99 hx (hb hby at_515) rfl rfl (pc' := 517) rfl ?_
      refine k_iconst X99 hx (hb hby at_517) (pc' := 518) rfl (z := (3 : Int32)) rfl ?_
      refine k_laload X99 hx hZ rfl F119 ⟨by decide, by decide⟩ (v := (.long v10)) rfl (hb hby at_518) (pc' := 519) rfl ?_
      refine k_lcif_ne X99 hx (hb hby at_519) (pm := 520) rfl (hb hby at_520) (pn := 523) rfl (py := 593) (by decide) (fun hc => absurd rfl hc) (fun _ => ?_)
      refine k_aload X99 hx (hb hby at_523) rfl rfl (pc' := 525) rfl ?_
      refine k_iconst X99 hx (hb hby at_525) (pc' := 526) rfl (z := (4 : Int32)) rfl ?_
      refine k_laload X99 hx hZ rfl F118 ⟨by decide, by decide⟩ (v := (.long v12)) rfl (hb hby at_526) (pc' := 527) rfl ?_
      refine k_aload X99 hx (hb hby at_527) rfl rfl (pc' := 529) rfl ?_
      refine k_iconst X99 hx (hb hby at_529) (pc' := 530) rfl (z := (4 : Int32)) rfl ?_
      refine k_laload X99 hx hZ rfl F119 ⟨by decide, by decide⟩ (v := (.long v12)) rfl (hb hby at_530) (pc' := 531) rfl ?_
      refine k_lcif_ne X99 hx (hb hby at_531) (pm := 532) rfl (hb hby at_532) (pn := 535) rfl (py := 593) (by decide) (fun hc => absurd rfl hc) (fun _ => ?_)
      refine k_aload X99 hx (hb hby at_535) rfl rfl (pc' := 537) rfl ?_
      refine k_iconst X99 hx (hb hby at_537) (pc' := 538) rfl (z := (5 : Int32)) rfl ?_
      refine k_laload X99 hx hZ rfl F118 ⟨by decide, by decide⟩ (v := (.long v15)) rfl (hb hby at_538) (pc' := 539) rfl ?_
      refine k_aload X99 hx (hb hby at_539) rfl rfl (pc' := 541) rfl ?_
      refine k_iconst X99 hx (hb hby at_541) (pc' := 542) rfl (z := (5 : Int32)) rfl ?_
      refine k_laload X99 hx hZ rfl F119 ⟨by decide, by decide⟩ (v := (.long v15)) rfl (hb hby at_542) (pc' := 543) rfl ?_
      refine k_lcif_ne X99 hx (hb hby at_543) (pm := 544) rfl (hb hby at_544) (pn := 547) rfl (py := 593) (by decide) (fun hc => absurd rfl hc) (fun _ => ?_)
      refine k_aload X99 hx (hb hby at_547) rfl rfl (pc' := 549) rfl ?_
      refine k_bipush X99 hx (hb hby at_549) (pc' := 551) rfl (z := (6 : Int32)) rfl ?_
      refine k_laload X99 hx hZ rfl F118 ⟨by decide, by decide⟩ (v := (.long v17)) rfl (hb hby at_551) (pc' := 552) rfl ?_
      refine k_aload X99 hx (hb hby at_552) rfl rfl (pc' := 554) rfl ?_
      refine k_bipush X99 hx (hb hby at_554) (pc' := 556) rfl (z := (6 : Int32)) rfl ?_
      refine k_laload X99 hx hZ rfl F119 ⟨by decide, by decide⟩ (v := (.long v17)) rfl (hb hby at_556) (pc' := 557) rfl ?_
      refine k_lcif_ne X99 hx (hb hby at_557) (pm := 558) rfl (hb hby at_558) (pn := 561) rfl (py := 593) (by decide) (fun hc => absurd rfl hc) (fun _ => ?_)
      refine k_aload X99 hx (hb hby at_561) rfl rfl (pc' := 563) rfl ?_
      refine k_bipush X99 hx (hb hby at_563) (pc' := 565) rfl (z := (7 : Int32)) rfl ?_
      refine k_laload X99 hx hZ rfl F118 ⟨by decide, by decide⟩ (v := (.long v20)) rfl (hb hby at_565) (pc' := 566) rfl ?_
      refine k_aload X99 hx (hb hby at_566) rfl rfl (pc' := 568) rfl ?_
      refine k_bipush X99 hx (hb hby at_568) (pc' := 570) rfl (z := (7 : Int32)) rfl ?_
      refine k_laload X99 hx hZ rfl F119 ⟨by decide, by decide⟩ (v := (.long v20)) rfl (hb hby at_570) (pc' := 571) rfl ?_
      refine k_lcif_ne X99 hx (hb hby at_571) (pm := 572) rfl (hb hby at_572) (pn := 575) rfl (py := 593) (by decide) (fun hc => absurd rfl hc) (fun _ => ?_)
      refine k_aload X99 hx (hb hby at_575) rfl rfl (pc' := 577) rfl ?_
      refine k_bipush X99 hx (hb hby at_577) (pc' := 579) rfl (z := (8 : Int32)) rfl ?_
      refine k_laload X99 hx hZ rfl F118 ⟨by decide, by decide⟩ (v := (.long v22)) rfl (hb hby at_579) (pc' := 580) rfl ?_
      refine k_aload X99 hx (hb hby at_580) rfl rfl (pc' := 582) rfl ?_
      refine k_bipush X99 hx (hb hby at_582) (pc' := 584) rfl (z := (8 : Int32)) rfl ?_
      refine k_laload X99 hx hZ rfl F119 ⟨by decide, by decide⟩ (v := (.long v22)) rfl (hb hby at_584) (pc' := 585) rfl ?_
      refine k_lcif_ne X99 hx (hb hby at_585) (pm := 586) rfl (hb hby at_586) (pn := 589) rfl (py := 593) (by decide) (fun hc => absurd rfl hc) (fun _ => ?_)
      refine k_iconst X99 hx (hb hby at_589) (pc' := 590) rfl (z := (1 : Int32)) rfl ?_
      refine k_goto X99 hx (hb hby at_590) (pc' := 594) (by decide) ?_
      refine k_istore X99 hx (hb hby at_594) (Ls' := #[.val (.long i0), .second, .val (.long i1), .second, .val (.long i2), .second, .val (.long i3), .second, .val (.long i4), .second, .val (.int i5), .val (.ref b1), .val (.ref b24), .val (.int (0 : Int32)), .val (.ref b49), .val (.ref b57), .val (.int (0 : Int32)), .val (.int (1 : Int32))]) rfl (pc' := 596) rfl ?_
      refine k_iload X99 hx (hb hby at_596) rfl (pc' := 598) rfl ?_
      refine k_if_eq X99 hx (hb hby at_598) (pn := 601) rfl (py := 610) (by decide) (fun _ => ?_) (fun hc => absurd (by decide) hc)
      refine k_iconst X99 hx (hb hby at_610) (pc' := 611) rfl (z := (0 : Int32)) rfl ?_
      exfalso
      have := rng64 v107
      have := rng64 v17
      have := rng64 i3
      have : (536870911 : Int64).toInt = 536870911 := (by decide)
      have q148 : v17.toInt = i3.toInt % 536870912 := (by rw [hv17]; exact c_maskL _ _ 29 (by decide) (by decide))
      have := rng64 v106
      have := rng64 v20
      have := rng64 v19
      have : (29 : Int32).toInt = 29 := (by decide)
      have q149 : v19.toInt = (i3.toInt % 18446744073709551616) / 536870912 := (by rw [hv19]; exact c_lushr _ _ 29 (by decide) (by decide))
      have q150 : v20.toInt = v19.toInt % 536870912 := (by rw [hv20]; exact c_maskL _ _ 29 (by decide) (by decide))
      have q151 : (v106.toInt - v20.toInt * 536870912) % 18446744073709551616 = 0 := (by rw [h115]; exact c_lshl _ _ 29 (by decide))
      have q152 := c_orL' v17 v106 29 (by decide) 536870912 rfl; rw [← h116] at q152
      have := rng64 v71
      have : (288230376151711743 : Int64).toInt = 288230376151711743 := (by decide)
      have q153 : v71.toInt = i3.toInt % 288230376151711744 := (by rw [hv71]; exact c_maskL _ _ 58 (by decide) (by decide))
      have q154 : ¬ v107.toInt = v71.toInt := fun q => hc147 (Int64.toInt_inj.mp q)
      omega
     ·
      refine k_aload X99 hx (hb hby at_430) rfl rfl (pc' := 432) rfl ?_
      refine k_iconst X99 hx (hb hby at_432) (pc' := 433) rfl (z := (4 : Int32)) rfl ?_
      refine k_laload X99 hx hZ rfl F120 ⟨by decide, by decide⟩ (v := (.long v108)) rfl (hb hby at_433) (pc' := 434) rfl ?_
      refine k_aload X99 hx (hb hby at_434) rfl rfl (pc' := 436) rfl ?_
      refine k_iconst X99 hx (hb hby at_436) (pc' := 437) rfl (z := (4 : Int32)) rfl ?_
      refine k_laload X99 hx hZ rfl F121 ⟨by decide, by decide⟩ (v := (.long v22)) rfl (hb hby at_437) (pc' := 438) rfl ?_
      refine k_lcif_ne X99 hx (hb hby at_438) (pm := 439) rfl (hb hby at_439) (pn := 442) rfl (py := 472) (by decide) (fun hc155 => ?_) (fun hc155 => ?_)
      ·
       refine k_iconst X99 hx (hb hby at_472) (pc' := 473) rfl (z := (0 : Int32)) rfl ?_
       refine k_istore X99 hx (hb hby at_473) (Ls' := #[.val (.long i0), .second, .val (.long i1), .second, .val (.long i2), .second, .val (.long i3), .second, .val (.long i4), .second, .val (.int i5), .val (.ref b1), .val (.ref b24), .val (.int (0 : Int32)), .val (.ref b49), .val (.ref b57), .val (.int (0 : Int32)), .unset]) rfl (pc' := 475) rfl ?_
       refine k_aload X99 hx (hb hby at_475) rfl rfl (pc' := 477) rfl ?_
       refine k_iconst X99 hx (hb hby at_477) (pc' := 478) rfl (z := (0 : Int32)) rfl ?_
       refine k_laload X99 hx hZ rfl F118 ⟨by decide, by decide⟩ (v := (.long v2)) rfl (hb hby at_478) (pc' := 479) rfl ?_
       refine k_aload X99 hx (hb hby at_479) rfl rfl (pc' := 481) rfl ?_
       refine k_iconst X99 hx (hb hby at_481) (pc' := 482) rfl (z := (0 : Int32)) rfl ?_
       refine k_laload X99 hx hZ rfl F119 ⟨by decide, by decide⟩ (v := (.long v2)) rfl (hb hby at_482) (pc' := 483) rfl ?_
       refine k_lcif_ne X99 hx (hb hby at_483) (pm := 484) rfl (hb hby at_484) (pn := 487) rfl (py := 593) (by decide) (fun hc => absurd rfl hc) (fun _ => ?_)
       refine k_aload X99 hx (hb hby at_487) rfl rfl (pc' := 489) rfl ?_
       refine k_iconst X99 hx (hb hby at_489) (pc' := 490) rfl (z := (1 : Int32)) rfl ?_
       refine k_laload X99 hx hZ rfl F118 ⟨by decide, by decide⟩ (v := (.long v5)) rfl (hb hby at_490) (pc' := 491) rfl ?_
       refine k_aload X99 hx (hb hby at_491) rfl rfl (pc' := 493) rfl ?_
       refine k_iconst X99 hx (hb hby at_493) (pc' := 494) rfl (z := (1 : Int32)) rfl ?_
       refine k_laload X99 hx hZ rfl F119 ⟨by decide, by decide⟩ (v := (.long v5)) rfl (hb hby at_494) (pc' := 495) rfl ?_
       refine k_lcif_ne X99 hx (hb hby at_495) (pm := 496) rfl (hb hby at_496) (pn := 499) rfl (py := 593) (by decide) (fun hc => absurd rfl hc) (fun _ => ?_)
       refine k_aload X99 hx (hb hby at_499) rfl rfl (pc' := 501) rfl ?_
       refine k_iconst X99 hx (hb hby at_501) (pc' := 502) rfl (z := (2 : Int32)) rfl ?_
       refine k_laload X99 hx hZ rfl F118 ⟨by decide, by decide⟩ (v := (.long v7)) rfl (hb hby at_502) (pc' := 503) rfl ?_
       refine k_aload X99 hx (hb hby at_503) rfl rfl (pc' := 505) rfl ?_
       refine k_iconst X99 hx (hb hby at_505) (pc' := 506) rfl (z := (2 : Int32)) rfl ?_
       refine k_laload X99 hx hZ rfl F119 ⟨by decide, by decide⟩ (v := (.long v7)) rfl (hb hby at_506) (pc' := 507) rfl ?_
       refine k_lcif_ne X99 hx (hb hby at_507) (pm := 508) rfl (hb hby at_508) (pn := 511) rfl (py := 593) (by decide) (fun hc => absurd rfl hc) (fun _ => ?_)
       refine k_aload X99 hx (hb hby at_511) rfl rfl (pc' := 513) rfl ?_
       refine k_iconst X99 hx (hb hby at_513) (pc' := 514) rfl (z := (3 : Int32)) rfl ?_
       refine k_laload X99 hx hZ rfl F118 ⟨by decide, by decide⟩ (v := (.long v10)) rfl (hb hby at_514) (pc' := 515) rfl ?_
       refine k_aload X99 hx (hb hby at_515) rfl rfl (pc' := 517) rfl ?_
       refine k_iconst X99 hx (hb hby at_517) (pc' := 518) rfl (z := (3 : Int32)) rfl ?_
       refine k_laload X99 hx hZ rfl F119 ⟨by decide, by decide⟩ (v := (.long v10)) rfl (hb hby at_518) (pc' := 519) rfl ?_
       refine k_lcif_ne X99 hx (hb hby at_519) (pm := 520) rfl (hb hby at_520) (pn := 523) rfl (py := 593) (by decide) (fun hc => absurd rfl hc) (fun _ => ?_)
       refine k_aload X99 hx (hb hby at_523) rfl rfl (pc' := 525) rfl ?_
       refine k_iconst X99 hx (hb hby at_525) (pc' := 526) rfl (z := (4 : Int32)) rfl ?_
       refine k_laload X99 hx hZ rfl F118 ⟨by decide, by decide⟩ (v := (.long v12)) rfl (hb hby at_526) (pc' := 527) rfl ?_
       refine k_aload X99 hx (hb hby at_527) rfl rfl (pc' := 529) rfl ?_
       refine k_iconst X99 hx (hb hby at_529) (pc' := 530) rfl (z := (4 : Int32)) rfl ?_
       refine k_laload X99 hx hZ rfl F119 ⟨by decide, by decide⟩ (v := (.long v12)) rfl (hb hby at_530) (pc' := 531) rfl ?_
       refine k_lcif_ne X99 hx (hb hby at_531) (pm := 532) rfl (hb hby at_532) (pn := 535) rfl (py := 593) (by decide) (fun hc => absurd rfl hc) (fun _ => ?_)
       refine k_aload X99 hx (hb hby at_535) rfl rfl (pc' := 537) rfl ?_
       refine k_iconst X99 hx (hb hby at_537) (pc' := 538) rfl (z := (5 : Int32)) rfl ?_
       refine k_laload X99 hx hZ rfl F118 ⟨by decide, by decide⟩ (v := (.long v15)) rfl (hb hby at_538) (pc' := 539) rfl ?_
       refine k_aload X99 hx (hb hby at_539) rfl rfl (pc' := 541) rfl ?_
       refine k_iconst X99 hx (hb hby at_541) (pc' := 542) rfl (z := (5 : Int32)) rfl ?_
       refine k_laload X99 hx hZ rfl F119 ⟨by decide, by decide⟩ (v := (.long v15)) rfl (hb hby at_542) (pc' := 543) rfl ?_
       refine k_lcif_ne X99 hx (hb hby at_543) (pm := 544) rfl (hb hby at_544) (pn := 547) rfl (py := 593) (by decide) (fun hc => absurd rfl hc) (fun _ => ?_)
       refine k_aload X99 hx (hb hby at_547) rfl rfl (pc' := 549) rfl ?_
       refine k_bipush X99 hx (hb hby at_549) (pc' := 551) rfl (z := (6 : Int32)) rfl ?_
       refine k_laload X99 hx hZ rfl F118 ⟨by decide, by decide⟩ (v := (.long v17)) rfl (hb hby at_551) (pc' := 552) rfl ?_
       refine k_aload X99 hx (hb hby at_552) rfl rfl (pc' := 554) rfl ?_
       refine k_bipush X99 hx (hb hby at_554) (pc' := 556) rfl (z := (6 : Int32)) rfl ?_
       refine k_laload X99 hx hZ rfl F119 ⟨by decide, by decide⟩ (v := (.long v17)) rfl (hb hby at_556) (pc' := 557) rfl ?_
       refine k_lcif_ne X99 hx (hb hby at_557) (pm := 558) rfl (hb hby at_558) (pn := 561) rfl (py := 593) (by decide) (fun hc => absurd rfl hc) (fun _ => ?_)
       refine k_aload X99 hx (hb hby at_561) rfl rfl (pc' := 563) rfl ?_
       refine k_bipush X99 hx (hb hby at_563) (pc' := 565) rfl (z := (7 : Int32)) rfl ?_
       refine k_laload X99 hx hZ rfl F118 ⟨by decide, by decide⟩ (v := (.long v20)) rfl (hb hby at_565) (pc' := 566) rfl ?_
       refine k_aload X99 hx (hb hby at_566) rfl rfl (pc' := 568) rfl ?_
       refine k_bipush X99 hx (hb hby at_568) (pc' := 570) rfl (z := (7 : Int32)) rfl ?_
       refine k_laload X99 hx hZ rfl F119 ⟨by decide, by decide⟩ (v := (.long v20)) rfl (hb hby at_570) (pc' := 571) rfl ?_
       refine k_lcif_ne X99 hx (hb hby at_571) (pm := 572) rfl (hb hby at_572) (pn := 575) rfl (py := 593) (by decide) (fun hc => absurd rfl hc) (fun _ => ?_)
       refine k_aload X99 hx (hb hby at_575) rfl rfl (pc' := 577) rfl ?_
       refine k_bipush X99 hx (hb hby at_577) (pc' := 579) rfl (z := (8 : Int32)) rfl ?_
       refine k_laload X99 hx hZ rfl F118 ⟨by decide, by decide⟩ (v := (.long v22)) rfl (hb hby at_579) (pc' := 580) rfl ?_
       refine k_aload X99 hx (hb hby at_580) rfl rfl (pc' := 582) rfl ?_
       refine k_bipush X99 hx (hb hby at_582) (pc' := 584) rfl (z := (8 : Int32)) rfl ?_
       refine k_laload X99 hx hZ rfl F119 ⟨by decide, by decide⟩ (v := (.long v22)) rfl (hb hby at_584) (pc' := 585) rfl ?_
       refine k_lcif_ne X99 hx (hb hby at_585) (pm := 586) rfl (hb hby at_586) (pn := 589) rfl (py := 593) (by decide) (fun hc => absurd rfl hc) (fun _ => ?_)
       refine k_iconst X99 hx (hb hby at_589) (pc' := 590) rfl (z := (1 : Int32)) rfl ?_
       refine k_goto X99 hx (hb hby at_590) (pc' := 594) (by decide) ?_
       refine k_istore X99 hx (hb hby at_594) (Ls' := #[.val (.long i0), .second, .val (.long i1), .second, .val (.long i2), .second, .val (.long i3), .second, .val (.long i4), .second, .val (.int i5), .val (.ref b1), .val (.ref b24), .val (.int (0 : Int32)), .val (.ref b49), .val (.ref b57), .val (.int (0 : Int32)), .val (.int (1 : Int32))]) rfl (pc' := 596) rfl ?_
       refine k_iload X99 hx (hb hby at_596) rfl (pc' := 598) rfl ?_
       refine k_if_eq X99 hx (hb hby at_598) (pn := 601) rfl (py := 610) (by decide) (fun _ => ?_) (fun hc => absurd (by decide) hc)
       refine k_iconst X99 hx (hb hby at_610) (pc' := 611) rfl (z := (0 : Int32)) rfl ?_
       exfalso
       have := rng64 v108
       have := rng64 v22
       have := rng64 i4
       have : (536870911 : Int64).toInt = 536870911 := (by decide)
       have q156 : v22.toInt = i4.toInt % 536870912 := (by rw [hv22]; exact c_maskL _ _ 29 (by decide) (by decide))
       have : (0 : Int64).toInt = 0 := (by decide)
       have q157 := c_orL' v22 (0 : Int64) 29 (by decide) 536870912 rfl; rw [← h117] at q157
       have q158 : ¬ v108.toInt = v22.toInt := fun q => hc155 (Int64.toInt_inj.mp q)
       omega
      ·
       refine k_aload X99 hx (hb hby at_442) rfl rfl (pc' := 444) rfl ?_
       refine k_iconst X99 hx (hb hby at_444) (pc' := 445) rfl (z := (5 : Int32)) rfl ?_
       refine k_laload X99 hx hZ rfl F120 ⟨by decide, by decide⟩ (v := (.long (-1 : Int64))) rfl (hb hby at_445) (pc' := 446) rfl ?_
       refine k_aload X99 hx (hb hby at_446) rfl rfl (pc' := 448) rfl ?_
       refine k_iconst X99 hx (hb hby at_448) (pc' := 449) rfl (z := (5 : Int32)) rfl ?_
       refine k_laload X99 hx hZ rfl F121 ⟨by decide, by decide⟩ (v := (.long (-1 : Int64))) rfl (hb hby at_449) (pc' := 450) rfl ?_
       refine k_lcif_ne X99 hx (hb hby at_450) (pm := 451) rfl (hb hby at_451) (pn := 454) rfl (py := 472) (by decide) (fun hc => absurd (by decide) hc) (fun _ => ?_)
       refine k_aload X99 hx (hb hby at_454) rfl rfl (pc' := 456) rfl ?_
       refine k_bipush X99 hx (hb hby at_456) (pc' := 458) rfl (z := (6 : Int32)) rfl ?_
       refine k_laload X99 hx hZ rfl F120 ⟨by decide, by decide⟩ (v := (.long (-1 : Int64))) rfl (hb hby at_458) (pc' := 459) rfl ?_
       refine k_aload X99 hx (hb hby at_459) rfl rfl (pc' := 461) rfl ?_
       refine k_bipush X99 hx (hb hby at_461) (pc' := 463) rfl (z := (6 : Int32)) rfl ?_
       refine k_laload X99 hx hZ rfl F121 ⟨by decide, by decide⟩ (v := (.long (-1 : Int64))) rfl (hb hby at_463) (pc' := 464) rfl ?_
       refine k_lcif_ne X99 hx (hb hby at_464) (pm := 465) rfl (hb hby at_465) (pn := 468) rfl (py := 472) (by decide) (fun hc => absurd (by decide) hc) (fun _ => ?_)
       refine k_iconst X99 hx (hb hby at_468) (pc' := 469) rfl (z := (1 : Int32)) rfl ?_
       refine k_goto X99 hx (hb hby at_469) (pc' := 473) (by decide) ?_
       refine k_istore X99 hx (hb hby at_473) (Ls' := #[.val (.long i0), .second, .val (.long i1), .second, .val (.long i2), .second, .val (.long i3), .second, .val (.long i4), .second, .val (.int i5), .val (.ref b1), .val (.ref b24), .val (.int (0 : Int32)), .val (.ref b49), .val (.ref b57), .val (.int (1 : Int32)), .unset]) rfl (pc' := 475) rfl ?_
       refine k_aload X99 hx (hb hby at_475) rfl rfl (pc' := 477) rfl ?_
       refine k_iconst X99 hx (hb hby at_477) (pc' := 478) rfl (z := (0 : Int32)) rfl ?_
       refine k_laload X99 hx hZ rfl F118 ⟨by decide, by decide⟩ (v := (.long v2)) rfl (hb hby at_478) (pc' := 479) rfl ?_
       refine k_aload X99 hx (hb hby at_479) rfl rfl (pc' := 481) rfl ?_
       refine k_iconst X99 hx (hb hby at_481) (pc' := 482) rfl (z := (0 : Int32)) rfl ?_
       refine k_laload X99 hx hZ rfl F119 ⟨by decide, by decide⟩ (v := (.long v2)) rfl (hb hby at_482) (pc' := 483) rfl ?_
       refine k_lcif_ne X99 hx (hb hby at_483) (pm := 484) rfl (hb hby at_484) (pn := 487) rfl (py := 593) (by decide) (fun hc => absurd rfl hc) (fun _ => ?_)
       refine k_aload X99 hx (hb hby at_487) rfl rfl (pc' := 489) rfl ?_
       refine k_iconst X99 hx (hb hby at_489) (pc' := 490) rfl (z := (1 : Int32)) rfl ?_
       refine k_laload X99 hx hZ rfl F118 ⟨by decide, by decide⟩ (v := (.long v5)) rfl (hb hby at_490) (pc' := 491) rfl ?_
       refine k_aload X99 hx (hb hby at_491) rfl rfl (pc' := 493) rfl ?_
       refine k_iconst X99 hx (hb hby at_493) (pc' := 494) rfl (z := (1 : Int32)) rfl ?_
       refine k_laload X99 hx hZ rfl F119 ⟨by decide, by decide⟩ (v := (.long v5)) rfl (hb hby at_494) (pc' := 495) rfl ?_
       refine k_lcif_ne X99 hx (hb hby at_495) (pm := 496) rfl (hb hby at_496) (pn := 499) rfl (py := 593) (by decide) (fun hc => absurd rfl hc) (fun _ => ?_)
       refine k_aload X99 hx (hb hby at_499) rfl rfl (pc' := 501) rfl ?_
       refine k_iconst X99 hx (hb hby at_501) (pc' := 502) rfl (z := (2 : Int32)) rfl ?_
       refine k_laload X99 hx hZ rfl F118 ⟨by decide, by decide⟩ (v := (.long v7)) rfl (hb hby at_502) (pc' := 503) rfl ?_
       refine k_aload X99 hx (hb hby at_503) rfl rfl (pc' := 505) rfl ?_
       refine k_iconst X99 hx (hb hby at_505) (pc' := 506) rfl (z := (2 : Int32)) rfl ?_
       refine k_laload X99 hx hZ rfl F119 ⟨by decide, by decide⟩ (v := (.long v7)) rfl (hb hby at_506) (pc' := 507) rfl ?_
       refine k_lcif_ne X99 hx (hb hby at_507) (pm := 508) rfl (hb hby at_508) (pn := 511) rfl (py := 593) (by decide) (fun hc => absurd rfl hc) (fun _ => ?_)
       refine k_aload X99 hx (hb hby at_511) rfl rfl (pc' := 513) rfl ?_
       refine k_iconst X99 hx (hb hby at_513) (pc' := 514) rfl (z := (3 : Int32)) rfl ?_
       refine k_laload X99 hx hZ rfl F118 ⟨by decide, by decide⟩ (v := (.long v10)) rfl (hb hby at_514) (pc' := 515) rfl ?_
       refine k_aload X99 hx (hb hby at_515) rfl rfl (pc' := 517) rfl ?_
       refine k_iconst X99 hx (hb hby at_517) (pc' := 518) rfl (z := (3 : Int32)) rfl ?_
       refine k_laload X99 hx hZ rfl F119 ⟨by decide, by decide⟩ (v := (.long v10)) rfl (hb hby at_518) (pc' := 519) rfl ?_
       refine k_lcif_ne X99 hx (hb hby at_519) (pm := 520) rfl (hb hby at_520) (pn := 523) rfl (py := 593) (by decide) (fun hc => absurd rfl hc) (fun _ => ?_)
       refine k_aload X99 hx (hb hby at_523) rfl rfl (pc' := 525) rfl ?_
       refine k_iconst X99 hx (hb hby at_525) (pc' := 526) rfl (z := (4 : Int32)) rfl ?_
       refine k_laload X99 hx hZ rfl F118 ⟨by decide, by decide⟩ (v := (.long v12)) rfl (hb hby at_526) (pc' := 527) rfl ?_
       refine k_aload X99 hx (hb hby at_527) rfl rfl (pc' := 529) rfl ?_
       refine k_iconst X99 hx (hb hby at_529) (pc' := 530) rfl (z := (4 : Int32)) rfl ?_
       refine k_laload X99 hx hZ rfl F119 ⟨by decide, by decide⟩ (v := (.long v12)) rfl (hb hby at_530) (pc' := 531) rfl ?_
       refine k_lcif_ne X99 hx (hb hby at_531) (pm := 532) rfl (hb hby at_532) (pn := 535) rfl (py := 593) (by decide) (fun hc => absurd rfl hc) (fun _ => ?_)
       refine k_aload X99 hx (hb hby at_535) rfl rfl (pc' := 537) rfl ?_
       refine k_iconst X99 hx (hb hby at_537) (pc' := 538) rfl (z := (5 : Int32)) rfl ?_
       refine k_laload X99 hx hZ rfl F118 ⟨by decide, by decide⟩ (v := (.long v15)) rfl (hb hby at_538) (pc' := 539) rfl ?_
       refine k_aload X99 hx (hb hby at_539) rfl rfl (pc' := 541) rfl ?_
       refine k_iconst X99 hx (hb hby at_541) (pc' := 542) rfl (z := (5 : Int32)) rfl ?_
       refine k_laload X99 hx hZ rfl F119 ⟨by decide, by decide⟩ (v := (.long v15)) rfl (hb hby at_542) (pc' := 543) rfl ?_
       refine k_lcif_ne X99 hx (hb hby at_543) (pm := 544) rfl (hb hby at_544) (pn := 547) rfl (py := 593) (by decide) (fun hc => absurd rfl hc) (fun _ => ?_)
       refine k_aload X99 hx (hb hby at_547) rfl rfl (pc' := 549) rfl ?_
       refine k_bipush X99 hx (hb hby at_549) (pc' := 551) rfl (z := (6 : Int32)) rfl ?_
       refine k_laload X99 hx hZ rfl F118 ⟨by decide, by decide⟩ (v := (.long v17)) rfl (hb hby at_551) (pc' := 552) rfl ?_
       refine k_aload X99 hx (hb hby at_552) rfl rfl (pc' := 554) rfl ?_
       refine k_bipush X99 hx (hb hby at_554) (pc' := 556) rfl (z := (6 : Int32)) rfl ?_
       refine k_laload X99 hx hZ rfl F119 ⟨by decide, by decide⟩ (v := (.long v17)) rfl (hb hby at_556) (pc' := 557) rfl ?_
       refine k_lcif_ne X99 hx (hb hby at_557) (pm := 558) rfl (hb hby at_558) (pn := 561) rfl (py := 593) (by decide) (fun hc => absurd rfl hc) (fun _ => ?_)
       refine k_aload X99 hx (hb hby at_561) rfl rfl (pc' := 563) rfl ?_
       refine k_bipush X99 hx (hb hby at_563) (pc' := 565) rfl (z := (7 : Int32)) rfl ?_
       refine k_laload X99 hx hZ rfl F118 ⟨by decide, by decide⟩ (v := (.long v20)) rfl (hb hby at_565) (pc' := 566) rfl ?_
       refine k_aload X99 hx (hb hby at_566) rfl rfl (pc' := 568) rfl ?_
       refine k_bipush X99 hx (hb hby at_568) (pc' := 570) rfl (z := (7 : Int32)) rfl ?_
       refine k_laload X99 hx hZ rfl F119 ⟨by decide, by decide⟩ (v := (.long v20)) rfl (hb hby at_570) (pc' := 571) rfl ?_
       refine k_lcif_ne X99 hx (hb hby at_571) (pm := 572) rfl (hb hby at_572) (pn := 575) rfl (py := 593) (by decide) (fun hc => absurd rfl hc) (fun _ => ?_)
       refine k_aload X99 hx (hb hby at_575) rfl rfl (pc' := 577) rfl ?_
       refine k_bipush X99 hx (hb hby at_577) (pc' := 579) rfl (z := (8 : Int32)) rfl ?_
       refine k_laload X99 hx hZ rfl F118 ⟨by decide, by decide⟩ (v := (.long v22)) rfl (hb hby at_579) (pc' := 580) rfl ?_
       refine k_aload X99 hx (hb hby at_580) rfl rfl (pc' := 582) rfl ?_
       refine k_bipush X99 hx (hb hby at_582) (pc' := 584) rfl (z := (8 : Int32)) rfl ?_
       refine k_laload X99 hx hZ rfl F119 ⟨by decide, by decide⟩ (v := (.long v22)) rfl (hb hby at_584) (pc' := 585) rfl ?_
       refine k_lcif_ne X99 hx (hb hby at_585) (pm := 586) rfl (hb hby at_586) (pn := 589) rfl (py := 593) (by decide) (fun hc => absurd rfl hc) (fun _ => ?_)
       refine k_iconst X99 hx (hb hby at_589) (pc' := 590) rfl (z := (1 : Int32)) rfl ?_
       refine k_goto X99 hx (hb hby at_590) (pc' := 594) (by decide) ?_
       refine k_istore X99 hx (hb hby at_594) (Ls' := #[.val (.long i0), .second, .val (.long i1), .second, .val (.long i2), .second, .val (.long i3), .second, .val (.long i4), .second, .val (.int i5), .val (.ref b1), .val (.ref b24), .val (.int (0 : Int32)), .val (.ref b49), .val (.ref b57), .val (.int (1 : Int32)), .val (.int (1 : Int32))]) rfl (pc' := 596) rfl ?_
       refine k_iload X99 hx (hb hby at_596) rfl (pc' := 598) rfl ?_
       refine k_if_eq X99 hx (hb hby at_598) (pn := 601) rfl (py := 610) (by decide) (fun hc => absurd hc (by decide)) (fun _ => ?_)
       refine k_iload X99 hx (hb hby at_601) rfl (pc' := 603) rfl ?_
       refine k_if_eq X99 hx (hb hby at_603) (pn := 606) rfl (py := 610) (by decide) (fun hc => absurd hc (by decide)) (fun _ => ?_)
       refine k_iconst X99 hx (hb hby at_606) (pc' := 607) rfl (z := (1 : Int32)) rfl ?_
       refine k_goto X99 hx (hb hby at_607) (pc' := 611) (by decide) ?_
       exact k_retN X99 hx (t := .boolean) Bd.returns (by simp) (hb hby at_611) hlk (by decide) (by decide) (z' := (1 : Int32)) rfl ⟨rfl, N99'⟩
 ·
  show KEnds p e below s _ _ _ T42 (mkF m 198 #[.val (.long i0), .second, .val (.long i1), .second, .val (.long i2), .second, .val (.long i3), .second, .val (.long i4), .second, .val (.int i5), .val (.ref b1), .val (.ref b24), .unset, .unset, .unset, .unset, .unset] [(.int (1 : Int32))])
  refine k_istore X42 hx (hb hby at_198) (Ls' := #[.val (.long i0), .second, .val (.long i1), .second, .val (.long i2), .second, .val (.long i3), .second, .val (.long i4), .second, .val (.int i5), .val (.ref b1), .val (.ref b24), .val (.int (1 : Int32)), .unset, .unset, .unset, .unset]) rfl (pc' := 200) rfl ?_
  refine k_bipush X42 hx (hb hby at_200) (pc' := 202) rfl (z := (7 : Int32)) rfl ?_
  refine k_newA X42 hx hZ (hw _ (List.mem_of_getElem? (i := 0) rfl)) e42 (hb hby at_202) (by decide) (cap := 7) (by decide) (by decide) (by decide) (by decide) (pc' := 204) rfl (fun T160 h160 b160 k160 g160 X160 e160 E160 V160 => ?_)
  have g_b160 : n0 ≤ b160 := Nat.le_trans Z42 (Nat.le_of_eq g160.symm)
  have lt_b160 : b24 < b160 := Nat.lt_of_lt_of_le Vw42.lt (Nat.le_of_eq g160.symm)
  have Z160 : n0 ≤ h160.size := Nat.le_trans Z42 E160.1
  have Vw160 : Arv Z h160 b160 k160 .long (7 : Int32) [(.long (0 : Int64)), (.long (0 : Int64)), (.long (0 : Int64)), (.long (0 : Int64)), (.long (0 : Int64)), (.long (0 : Int64)), (.long (0 : Int64))] (.long (0 : Int64)) := V160
  refine k_astore X160 hx (hb hby at_204) rfl (Ls' := #[.val (.long i0), .second, .val (.long i1), .second, .val (.long i2), .second, .val (.long i3), .second, .val (.long i4), .second, .val (.int i5), .val (.ref b1), .val (.ref b24), .val (.int (1 : Int32)), .val (.ref b160), .unset, .unset, .unset]) rfl (pc' := 206) rfl ?_
  refine k_aload X160 hx (hb hby at_206) rfl rfl (pc' := 208) rfl ?_
  refine k_iconst X160 hx (hb hby at_208) (pc' := 209) rfl (z := (0 : Int32)) rfl ?_
  refine k_ldcL X160 hx hZ hown (hw _ (List.mem_of_getElem? (i := 3) rfl)) (hb hby at_209) (pc' := 212) rfl ?_
  refine k_lastore X160 hx hZ e160 Vw160 ⟨by decide, by decide⟩ (i := 0) rfl (Nat.le_of_ble_eq_true rfl) (hb hby at_212) (pc' := 213) rfl (fun T161 h161 X161 e161 W161 V161 => ?_)
  have Vw161 : Arv Z h161 b160 k160 .long (7 : Int32) [(.long (-1 : Int64)), (.long (0 : Int64)), (.long (0 : Int64)), (.long (0 : Int64)), (.long (0 : Int64)), (.long (0 : Int64)), (.long (0 : Int64))] (.long (0 : Int64)) := V161
  have N161 := Fr.snoc X161 N42 g_b160
  have Z161 : n0 ≤ h161.size := Nat.le_trans Z160 (Nat.le_of_eq W161.size.symm)
  refine k_aload X161 hx (hb hby at_213) rfl rfl (pc' := 215) rfl ?_
  refine k_iconst X161 hx (hb hby at_215) (pc' := 216) rfl (z := (1 : Int32)) rfl ?_
  refine k_ldcL X161 hx hZ hown (hw _ (List.mem_of_getElem? (i := 3) rfl)) (hb hby at_216) (pc' := 219) rfl ?_
  refine k_lastore X161 hx hZ e161 Vw161 ⟨by decide, by decide⟩ (i := 1) rfl (Nat.le_of_ble_eq_true rfl) (hb hby at_219) (pc' := 220) rfl (fun T162 h162 X162 e162 W162 V162 => ?_)
  have Vw162 : Arv Z h162 b160 k160 .long (7 : Int32) [(.long (-1 : Int64)), (.long (-1 : Int64)), (.long (0 : Int64)), (.long (0 : Int64)), (.long (0 : Int64)), (.long (0 : Int64)), (.long (0 : Int64))] (.long (0 : Int64)) := V162
  have N162 := Fr.snoc X162 N161 g_b160
  have Z162 : n0 ≤ h162.size := Nat.le_trans Z161 (Nat.le_of_eq W162.size.symm)
  refine k_aload X162 hx (hb hby at_220) rfl rfl (pc' := 222) rfl ?_
  refine k_iconst X162 hx (hb hby at_222) (pc' := 223) rfl (z := (2 : Int32)) rfl ?_
  refine k_ldcL X162 hx hZ hown (hw _ (List.mem_of_getElem? (i := 3) rfl)) (hb hby at_223) (pc' := 226) rfl ?_
  refine k_lastore X162 hx hZ e162 Vw162 ⟨by decide, by decide⟩ (i := 2) rfl (Nat.le_of_ble_eq_true rfl) (hb hby at_226) (pc' := 227) rfl (fun T163 h163 X163 e163 W163 V163 => ?_)
  have Vw163 : Arv Z h163 b160 k160 .long (7 : Int32) [(.long (-1 : Int64)), (.long (-1 : Int64)), (.long (-1 : Int64)), (.long (0 : Int64)), (.long (0 : Int64)), (.long (0 : Int64)), (.long (0 : Int64))] (.long (0 : Int64)) := V163
  have N163 := Fr.snoc X163 N162 g_b160
  have Z163 : n0 ≤ h163.size := Nat.le_trans Z162 (Nat.le_of_eq W163.size.symm)
  refine k_aload X163 hx (hb hby at_227) rfl rfl (pc' := 229) rfl ?_
  refine k_iconst X163 hx (hb hby at_229) (pc' := 230) rfl (z := (3 : Int32)) rfl ?_
  refine k_ldcL X163 hx hZ hown (hw _ (List.mem_of_getElem? (i := 3) rfl)) (hb hby at_230) (pc' := 233) rfl ?_
  refine k_lastore X163 hx hZ e163 Vw163 ⟨by decide, by decide⟩ (i := 3) rfl (Nat.le_of_ble_eq_true rfl) (hb hby at_233) (pc' := 234) rfl (fun T164 h164 X164 e164 W164 V164 => ?_)
  have Vw164 : Arv Z h164 b160 k160 .long (7 : Int32) [(.long (-1 : Int64)), (.long (-1 : Int64)), (.long (-1 : Int64)), (.long (-1 : Int64)), (.long (0 : Int64)), (.long (0 : Int64)), (.long (0 : Int64))] (.long (0 : Int64)) := V164
  have N164 := Fr.snoc X164 N163 g_b160
  have Z164 : n0 ≤ h164.size := Nat.le_trans Z163 (Nat.le_of_eq W164.size.symm)
  refine k_aload X164 hx (hb hby at_234) rfl rfl (pc' := 236) rfl ?_
  refine k_iconst X164 hx (hb hby at_236) (pc' := 237) rfl (z := (4 : Int32)) rfl ?_
  refine k_ldcL X164 hx hZ hown (hw _ (List.mem_of_getElem? (i := 3) rfl)) (hb hby at_237) (pc' := 240) rfl ?_
  refine k_lastore X164 hx hZ e164 Vw164 ⟨by decide, by decide⟩ (i := 4) rfl (Nat.le_of_ble_eq_true rfl) (hb hby at_240) (pc' := 241) rfl (fun T165 h165 X165 e165 W165 V165 => ?_)
  have Vw165 : Arv Z h165 b160 k160 .long (7 : Int32) [(.long (-1 : Int64)), (.long (-1 : Int64)), (.long (-1 : Int64)), (.long (-1 : Int64)), (.long (-1 : Int64)), (.long (0 : Int64)), (.long (0 : Int64))] (.long (0 : Int64)) := V165
  have N165 := Fr.snoc X165 N164 g_b160
  have Z165 : n0 ≤ h165.size := Nat.le_trans Z164 (Nat.le_of_eq W165.size.symm)
  refine k_aload X165 hx (hb hby at_241) rfl rfl (pc' := 243) rfl ?_
  refine k_iconst X165 hx (hb hby at_243) (pc' := 244) rfl (z := (5 : Int32)) rfl ?_
  refine k_ldcL X165 hx hZ hown (hw _ (List.mem_of_getElem? (i := 3) rfl)) (hb hby at_244) (pc' := 247) rfl ?_
  refine k_lastore X165 hx hZ e165 Vw165 ⟨by decide, by decide⟩ (i := 5) rfl (Nat.le_of_ble_eq_true rfl) (hb hby at_247) (pc' := 248) rfl (fun T166 h166 X166 e166 W166 V166 => ?_)
  have Vw166 : Arv Z h166 b160 k160 .long (7 : Int32) [(.long (-1 : Int64)), (.long (-1 : Int64)), (.long (-1 : Int64)), (.long (-1 : Int64)), (.long (-1 : Int64)), (.long (-1 : Int64)), (.long (0 : Int64))] (.long (0 : Int64)) := V166
  have N166 := Fr.snoc X166 N165 g_b160
  have Z166 : n0 ≤ h166.size := Nat.le_trans Z165 (Nat.le_of_eq W166.size.symm)
  refine k_aload X166 hx (hb hby at_248) rfl rfl (pc' := 250) rfl ?_
  refine k_bipush X166 hx (hb hby at_250) (pc' := 252) rfl (z := (6 : Int32)) rfl ?_
  refine k_ldcL X166 hx hZ hown (hw _ (List.mem_of_getElem? (i := 3) rfl)) (hb hby at_252) (pc' := 255) rfl ?_
  refine k_lastore X166 hx hZ e166 Vw166 ⟨by decide, by decide⟩ (i := 6) rfl (Nat.le_of_ble_eq_true rfl) (hb hby at_255) (pc' := 256) rfl (fun T167 h167 X167 e167 W167 V167 => ?_)
  have Vw167 : Arv Z h167 b160 k160 .long (7 : Int32) [(.long (-1 : Int64)), (.long (-1 : Int64)), (.long (-1 : Int64)), (.long (-1 : Int64)), (.long (-1 : Int64)), (.long (-1 : Int64)), (.long (-1 : Int64))] (.long (0 : Int64)) := V167
  have N167 := Fr.snoc X167 N166 g_b160
  have Z167 : n0 ≤ h167.size := Nat.le_trans Z166 (Nat.le_of_eq W167.size.symm)
  refine k_bipush X167 hx (hb hby at_256) (pc' := 258) rfl (z := (7 : Int32)) rfl ?_
  refine k_newA X167 hx hZ (hw _ (List.mem_of_getElem? (i := 0) rfl)) e167 (hb hby at_258) (by decide) (cap := 7) (by decide) (by decide) (by decide) (by decide) (pc' := 260) rfl (fun T168 h168 b168 k168 g168 X168 e168 E168 V168 => ?_)
  have g_b168 : n0 ≤ b168 := Nat.le_trans Z167 (Nat.le_of_eq g168.symm)
  have lt_b168 : b160 < b168 := Nat.lt_of_lt_of_le Vw167.lt (Nat.le_of_eq g168.symm)
  have Z168 : n0 ≤ h168.size := Nat.le_trans Z167 E168.1
  have Vw168 : Arv Z h168 b168 k168 .long (7 : Int32) [(.long (0 : Int64)), (.long (0 : Int64)), (.long (0 : Int64)), (.long (0 : Int64)), (.long (0 : Int64)), (.long (0 : Int64)), (.long (0 : Int64))] (.long (0 : Int64)) := V168
  refine k_astore X168 hx (hb hby at_260) rfl (Ls' := #[.val (.long i0), .second, .val (.long i1), .second, .val (.long i2), .second, .val (.long i3), .second, .val (.long i4), .second, .val (.int i5), .val (.ref b1), .val (.ref b24), .val (.int (1 : Int32)), .val (.ref b160), .val (.ref b168), .unset, .unset]) rfl (pc' := 262) rfl ?_
  refine k_aload X168 hx (hb hby at_262) rfl rfl (pc' := 264) rfl ?_
  refine k_iconst X168 hx (hb hby at_264) (pc' := 265) rfl (z := (0 : Int32)) rfl ?_
  refine k_ldcL X168 hx hZ hown (hw _ (List.mem_of_getElem? (i := 3) rfl)) (hb hby at_265) (pc' := 268) rfl ?_
  refine k_lastore X168 hx hZ e168 Vw168 ⟨by decide, by decide⟩ (i := 0) rfl (Nat.le_of_ble_eq_true rfl) (hb hby at_268) (pc' := 269) rfl (fun T169 h169 X169 e169 W169 V169 => ?_)
  have Vw169 : Arv Z h169 b168 k168 .long (7 : Int32) [(.long (-1 : Int64)), (.long (0 : Int64)), (.long (0 : Int64)), (.long (0 : Int64)), (.long (0 : Int64)), (.long (0 : Int64)), (.long (0 : Int64))] (.long (0 : Int64)) := V169
  have N169 := Fr.snoc X169 N167 g_b168
  have Z169 : n0 ≤ h169.size := Nat.le_trans Z168 (Nat.le_of_eq W169.size.symm)
  refine k_aload X169 hx (hb hby at_269) rfl rfl (pc' := 271) rfl ?_
  refine k_iconst X169 hx (hb hby at_271) (pc' := 272) rfl (z := (1 : Int32)) rfl ?_
  refine k_ldcL X169 hx hZ hown (hw _ (List.mem_of_getElem? (i := 3) rfl)) (hb hby at_272) (pc' := 275) rfl ?_
  refine k_lastore X169 hx hZ e169 Vw169 ⟨by decide, by decide⟩ (i := 1) rfl (Nat.le_of_ble_eq_true rfl) (hb hby at_275) (pc' := 276) rfl (fun T170 h170 X170 e170 W170 V170 => ?_)
  have Vw170 : Arv Z h170 b168 k168 .long (7 : Int32) [(.long (-1 : Int64)), (.long (-1 : Int64)), (.long (0 : Int64)), (.long (0 : Int64)), (.long (0 : Int64)), (.long (0 : Int64)), (.long (0 : Int64))] (.long (0 : Int64)) := V170
  have N170 := Fr.snoc X170 N169 g_b168
  have Z170 : n0 ≤ h170.size := Nat.le_trans Z169 (Nat.le_of_eq W170.size.symm)
  refine k_aload X170 hx (hb hby at_276) rfl rfl (pc' := 278) rfl ?_
  refine k_iconst X170 hx (hb hby at_278) (pc' := 279) rfl (z := (2 : Int32)) rfl ?_
  refine k_ldcL X170 hx hZ hown (hw _ (List.mem_of_getElem? (i := 3) rfl)) (hb hby at_279) (pc' := 282) rfl ?_
  refine k_lastore X170 hx hZ e170 Vw170 ⟨by decide, by decide⟩ (i := 2) rfl (Nat.le_of_ble_eq_true rfl) (hb hby at_282) (pc' := 283) rfl (fun T171 h171 X171 e171 W171 V171 => ?_)
  have Vw171 : Arv Z h171 b168 k168 .long (7 : Int32) [(.long (-1 : Int64)), (.long (-1 : Int64)), (.long (-1 : Int64)), (.long (0 : Int64)), (.long (0 : Int64)), (.long (0 : Int64)), (.long (0 : Int64))] (.long (0 : Int64)) := V171
  have N171 := Fr.snoc X171 N170 g_b168
  have Z171 : n0 ≤ h171.size := Nat.le_trans Z170 (Nat.le_of_eq W171.size.symm)
  refine k_aload X171 hx (hb hby at_283) rfl rfl (pc' := 285) rfl ?_
  refine k_iconst X171 hx (hb hby at_285) (pc' := 286) rfl (z := (3 : Int32)) rfl ?_
  refine k_ldcL X171 hx hZ hown (hw _ (List.mem_of_getElem? (i := 3) rfl)) (hb hby at_286) (pc' := 289) rfl ?_
  refine k_lastore X171 hx hZ e171 Vw171 ⟨by decide, by decide⟩ (i := 3) rfl (Nat.le_of_ble_eq_true rfl) (hb hby at_289) (pc' := 290) rfl (fun T172 h172 X172 e172 W172 V172 => ?_)
  have Vw172 : Arv Z h172 b168 k168 .long (7 : Int32) [(.long (-1 : Int64)), (.long (-1 : Int64)), (.long (-1 : Int64)), (.long (-1 : Int64)), (.long (0 : Int64)), (.long (0 : Int64)), (.long (0 : Int64))] (.long (0 : Int64)) := V172
  have N172 := Fr.snoc X172 N171 g_b168
  have Z172 : n0 ≤ h172.size := Nat.le_trans Z171 (Nat.le_of_eq W172.size.symm)
  refine k_aload X172 hx (hb hby at_290) rfl rfl (pc' := 292) rfl ?_
  refine k_iconst X172 hx (hb hby at_292) (pc' := 293) rfl (z := (4 : Int32)) rfl ?_
  refine k_ldcL X172 hx hZ hown (hw _ (List.mem_of_getElem? (i := 3) rfl)) (hb hby at_293) (pc' := 296) rfl ?_
  refine k_lastore X172 hx hZ e172 Vw172 ⟨by decide, by decide⟩ (i := 4) rfl (Nat.le_of_ble_eq_true rfl) (hb hby at_296) (pc' := 297) rfl (fun T173 h173 X173 e173 W173 V173 => ?_)
  have Vw173 : Arv Z h173 b168 k168 .long (7 : Int32) [(.long (-1 : Int64)), (.long (-1 : Int64)), (.long (-1 : Int64)), (.long (-1 : Int64)), (.long (-1 : Int64)), (.long (0 : Int64)), (.long (0 : Int64))] (.long (0 : Int64)) := V173
  have N173 := Fr.snoc X173 N172 g_b168
  have Z173 : n0 ≤ h173.size := Nat.le_trans Z172 (Nat.le_of_eq W173.size.symm)
  refine k_aload X173 hx (hb hby at_297) rfl rfl (pc' := 299) rfl ?_
  refine k_iconst X173 hx (hb hby at_299) (pc' := 300) rfl (z := (5 : Int32)) rfl ?_
  refine k_ldcL X173 hx hZ hown (hw _ (List.mem_of_getElem? (i := 3) rfl)) (hb hby at_300) (pc' := 303) rfl ?_
  refine k_lastore X173 hx hZ e173 Vw173 ⟨by decide, by decide⟩ (i := 5) rfl (Nat.le_of_ble_eq_true rfl) (hb hby at_303) (pc' := 304) rfl (fun T174 h174 X174 e174 W174 V174 => ?_)
  have Vw174 : Arv Z h174 b168 k168 .long (7 : Int32) [(.long (-1 : Int64)), (.long (-1 : Int64)), (.long (-1 : Int64)), (.long (-1 : Int64)), (.long (-1 : Int64)), (.long (-1 : Int64)), (.long (0 : Int64))] (.long (0 : Int64)) := V174
  have N174 := Fr.snoc X174 N173 g_b168
  have Z174 : n0 ≤ h174.size := Nat.le_trans Z173 (Nat.le_of_eq W174.size.symm)
  refine k_aload X174 hx (hb hby at_304) rfl rfl (pc' := 306) rfl ?_
  refine k_bipush X174 hx (hb hby at_306) (pc' := 308) rfl (z := (6 : Int32)) rfl ?_
  refine k_ldcL X174 hx hZ hown (hw _ (List.mem_of_getElem? (i := 3) rfl)) (hb hby at_308) (pc' := 311) rfl ?_
  refine k_lastore X174 hx hZ e174 Vw174 ⟨by decide, by decide⟩ (i := 6) rfl (Nat.le_of_ble_eq_true rfl) (hb hby at_311) (pc' := 312) rfl (fun T175 h175 X175 e175 W175 V175 => ?_)
  have Vw175 : Arv Z h175 b168 k168 .long (7 : Int32) [(.long (-1 : Int64)), (.long (-1 : Int64)), (.long (-1 : Int64)), (.long (-1 : Int64)), (.long (-1 : Int64)), (.long (-1 : Int64)), (.long (-1 : Int64))] (.long (0 : Int64)) := V175
  have N175 := Fr.snoc X175 N174 g_b168
  have Z175 : n0 ≤ h175.size := Nat.le_trans Z174 (Nat.le_of_eq W175.size.symm)
  refine k_aload X175 hx (hb hby at_312) rfl rfl (pc' := 314) rfl ?_
  refine k_iload X175 hx (hb hby at_314) rfl (pc' := 316) rfl ?_
  refine k_lloadN X175 hx (hb hby at_316) rfl (pc' := 317) rfl ?_
  refine k_ldcL X175 hx hZ hown (hw _ (List.mem_of_getElem? (i := 4) rfl)) (hb hby at_317) (pc' := 320) rfl ?_
  refine k_land X175 hx (hb hby at_320) (pc' := 321) rfl (fun v176 hv176 => ?_)
  refine k_lastore X175 hx hZ e175 Vw175 ⟨by decide, by decide⟩ (i := 1) rfl (Nat.le_of_ble_eq_true rfl) (hb hby at_321) (pc' := 322) rfl (fun T177 h177 X177 e177 W177 V177 => ?_)
  have Vw177 : Arv Z h177 b168 k168 .long (7 : Int32) [(.long (-1 : Int64)), (.long v176), (.long (-1 : Int64)), (.long (-1 : Int64)), (.long (-1 : Int64)), (.long (-1 : Int64)), (.long (-1 : Int64))] (.long (0 : Int64)) := V177
  have N177 := Fr.snoc X177 N175 g_b168
  have Z177 : n0 ≤ h177.size := Nat.le_trans Z175 (Nat.le_of_eq W177.size.symm)
  refine k_aload X177 hx (hb hby at_322) rfl rfl (pc' := 324) rfl ?_
  refine k_iload X177 hx (hb hby at_324) rfl (pc' := 326) rfl ?_
  refine k_iconst X177 hx (hb hby at_326) (pc' := 327) rfl (z := (1 : Int32)) rfl ?_
  refine k_iaddL X177 hx (hb hby at_327) (pc' := 328) rfl (z := (2 : Int32)) (by decide) ?_
  refine k_lloadN X177 hx (hb hby at_328) rfl (pc' := 329) rfl ?_
  refine k_ldcL X177 hx hZ hown (hw _ (List.mem_of_getElem? (i := 4) rfl)) (hb hby at_329) (pc' := 332) rfl ?_
  refine k_land X177 hx (hb hby at_332) (pc' := 333) rfl (fun v178 hv178 => ?_)
  refine k_lastore X177 hx hZ e177 Vw177 ⟨by decide, by decide⟩ (i := 2) rfl (Nat.le_of_ble_eq_true rfl) (hb hby at_333) (pc' := 334) rfl (fun T179 h179 X179 e179 W179 V179 => ?_)
  have Vw179 : Arv Z h179 b168 k168 .long (7 : Int32) [(.long (-1 : Int64)), (.long v176), (.long v178), (.long (-1 : Int64)), (.long (-1 : Int64)), (.long (-1 : Int64)), (.long (-1 : Int64))] (.long (0 : Int64)) := V179
  have N179 := Fr.snoc X179 N177 g_b168
  have Z179 : n0 ≤ h179.size := Nat.le_trans Z177 (Nat.le_of_eq W179.size.symm)
  refine k_aload X179 hx (hb hby at_334) rfl rfl (pc' := 336) rfl ?_
  refine k_iload X179 hx (hb hby at_336) rfl (pc' := 338) rfl ?_
  refine k_iconst X179 hx (hb hby at_338) (pc' := 339) rfl (z := (2 : Int32)) rfl ?_
  refine k_iaddL X179 hx (hb hby at_339) (pc' := 340) rfl (z := (3 : Int32)) (by decide) ?_
  refine k_lload X179 hx (hb hby at_340) rfl (pc' := 342) rfl ?_
  refine k_ldcL X179 hx hZ hown (hw _ (List.mem_of_getElem? (i := 4) rfl)) (hb hby at_342) (pc' := 345) rfl ?_
  refine k_land X179 hx (hb hby at_345) (pc' := 346) rfl (fun v180 hv180 => ?_)
  refine k_lastore X179 hx hZ e179 Vw179 ⟨by decide, by decide⟩ (i := 3) rfl (Nat.le_of_ble_eq_true rfl) (hb hby at_346) (pc' := 347) rfl (fun T181 h181 X181 e181 W181 V181 => ?_)
  have Vw181 : Arv Z h181 b168 k168 .long (7 : Int32) [(.long (-1 : Int64)), (.long v176), (.long v178), (.long v180), (.long (-1 : Int64)), (.long (-1 : Int64)), (.long (-1 : Int64))] (.long (0 : Int64)) := V181
  have N181 := Fr.snoc X181 N179 g_b168
  have Z181 : n0 ≤ h181.size := Nat.le_trans Z179 (Nat.le_of_eq W181.size.symm)
  refine k_aload X181 hx (hb hby at_347) rfl rfl (pc' := 349) rfl ?_
  refine k_iload X181 hx (hb hby at_349) rfl (pc' := 351) rfl ?_
  refine k_iconst X181 hx (hb hby at_351) (pc' := 352) rfl (z := (3 : Int32)) rfl ?_
  refine k_iaddL X181 hx (hb hby at_352) (pc' := 353) rfl (z := (4 : Int32)) (by decide) ?_
  refine k_lload X181 hx (hb hby at_353) rfl (pc' := 355) rfl ?_
  refine k_ldcL X181 hx hZ hown (hw _ (List.mem_of_getElem? (i := 4) rfl)) (hb hby at_355) (pc' := 358) rfl ?_
  refine k_land X181 hx (hb hby at_358) (pc' := 359) rfl (fun v182 hv182 => ?_)
  refine k_lastore X181 hx hZ e181 Vw181 ⟨by decide, by decide⟩ (i := 4) rfl (Nat.le_of_ble_eq_true rfl) (hb hby at_359) (pc' := 360) rfl (fun T183 h183 X183 e183 W183 V183 => ?_)
  have Vw183 : Arv Z h183 b168 k168 .long (7 : Int32) [(.long (-1 : Int64)), (.long v176), (.long v178), (.long v180), (.long v182), (.long (-1 : Int64)), (.long (-1 : Int64))] (.long (0 : Int64)) := V183
  have N183 := Fr.snoc X183 N181 g_b168
  have Z183 : n0 ≤ h183.size := Nat.le_trans Z181 (Nat.le_of_eq W183.size.symm)
  refine k_aload X183 hx (hb hby at_360) rfl rfl (pc' := 362) rfl ?_
  refine k_iload X183 hx (hb hby at_362) rfl (pc' := 364) rfl ?_
  refine k_iconst X183 hx (hb hby at_364) (pc' := 365) rfl (z := (4 : Int32)) rfl ?_
  refine k_iaddL X183 hx (hb hby at_365) (pc' := 366) rfl (z := (5 : Int32)) (by decide) ?_
  refine k_lload X183 hx (hb hby at_366) rfl (pc' := 368) rfl ?_
  refine k_ldcL X183 hx hZ hown (hw _ (List.mem_of_getElem? (i := 1) rfl)) (hb hby at_368) (pc' := 371) rfl ?_
  refine k_landL X183 hx (hb hby at_371) (pc' := 372) rfl (z := v22) hv22.symm ?_
  refine k_lastore X183 hx hZ e183 Vw183 ⟨by decide, by decide⟩ (i := 5) rfl (Nat.le_of_ble_eq_true rfl) (hb hby at_372) (pc' := 373) rfl (fun T184 h184 X184 e184 W184 V184 => ?_)
  have Vw184 : Arv Z h184 b168 k168 .long (7 : Int32) [(.long (-1 : Int64)), (.long v176), (.long v178), (.long v180), (.long v182), (.long v22), (.long (-1 : Int64))] (.long (0 : Int64)) := V184
  have N184 := Fr.snoc X184 N183 g_b168
  have Z184 : n0 ≤ h184.size := Nat.le_trans Z183 (Nat.le_of_eq W184.size.symm)
  refine k_aload X184 hx (hb hby at_373) rfl rfl (pc' := 375) rfl ?_
  refine k_aload X184 hx (hb hby at_375) rfl rfl (pc' := 377) rfl ?_
  refine k_iload X184 hx (hb hby at_377) rfl (pc' := 379) rfl ?_
  have F185 := ((((((((((((((((((((((F41.other W42 (Nat.ne_of_lt lt_b24)).ext E160).other W161 (Nat.ne_of_lt (Nat.lt_trans lt_b24 lt_b160))).other W162 (Nat.ne_of_lt (Nat.lt_trans lt_b24 lt_b160))).other W163 (Nat.ne_of_lt (Nat.lt_trans lt_b24 lt_b160))).other W164 (Nat.ne_of_lt (Nat.lt_trans lt_b24 lt_b160))).other W165 (Nat.ne_of_lt (Nat.lt_trans lt_b24 lt_b160))).other W166 (Nat.ne_of_lt (Nat.lt_trans lt_b24 lt_b160))).other W167 (Nat.ne_of_lt (Nat.lt_trans lt_b24 lt_b160))).ext E168).other W169 (Nat.ne_of_lt (Nat.lt_trans (Nat.lt_trans lt_b24 lt_b160) lt_b168))).other W170 (Nat.ne_of_lt (Nat.lt_trans (Nat.lt_trans lt_b24 lt_b160) lt_b168))).other W171 (Nat.ne_of_lt (Nat.lt_trans (Nat.lt_trans lt_b24 lt_b160) lt_b168))).other W172 (Nat.ne_of_lt (Nat.lt_trans (Nat.lt_trans lt_b24 lt_b160) lt_b168))).other W173 (Nat.ne_of_lt (Nat.lt_trans (Nat.lt_trans lt_b24 lt_b160) lt_b168))).other W174 (Nat.ne_of_lt (Nat.lt_trans (Nat.lt_trans lt_b24 lt_b160) lt_b168))).other W175 (Nat.ne_of_lt (Nat.lt_trans (Nat.lt_trans lt_b24 lt_b160) lt_b168))).other W177 (Nat.ne_of_lt (Nat.lt_trans (Nat.lt_trans lt_b24 lt_b160) lt_b168))).other W179 (Nat.ne_of_lt (Nat.lt_trans (Nat.lt_trans lt_b24 lt_b160) lt_b168))).other W181 (Nat.ne_of_lt (Nat.lt_trans (Nat.lt_trans lt_b24 lt_b160) lt_b168))).other W183 (Nat.ne_of_lt (Nat.lt_trans (Nat.lt_trans lt_b24 lt_b160) lt_b168))).other W184 (Nat.ne_of_lt (Nat.lt_trans (Nat.lt_trans lt_b24 lt_b160) lt_b168)))
  have F186 := (((((((((((((((((((((Vw42.ext E160).other W161 (Nat.ne_of_lt lt_b160)).other W162 (Nat.ne_of_lt lt_b160)).other W163 (Nat.ne_of_lt lt_b160)).other W164 (Nat.ne_of_lt lt_b160)).other W165 (Nat.ne_of_lt lt_b160)).other W166 (Nat.ne_of_lt lt_b160)).other W167 (Nat.ne_of_lt lt_b160)).ext E168).other W169 (Nat.ne_of_lt (Nat.lt_trans lt_b160 lt_b168))).other W170 (Nat.ne_of_lt (Nat.lt_trans lt_b160 lt_b168))).other W171 (Nat.ne_of_lt (Nat.lt_trans lt_b160 lt_b168))).other W172 (Nat.ne_of_lt (Nat.lt_trans lt_b160 lt_b168))).other W173 (Nat.ne_of_lt (Nat.lt_trans lt_b160 lt_b168))).other W174 (Nat.ne_of_lt (Nat.lt_trans lt_b160 lt_b168))).other W175 (Nat.ne_of_lt (Nat.lt_trans lt_b160 lt_b168))).other W177 (Nat.ne_of_lt (Nat.lt_trans lt_b160 lt_b168))).other W179 (Nat.ne_of_lt (Nat.lt_trans lt_b160 lt_b168))).other W181 (Nat.ne_of_lt (Nat.lt_trans lt_b160 lt_b168))).other W183 (Nat.ne_of_lt (Nat.lt_trans lt_b160 lt_b168))).other W184 (Nat.ne_of_lt (Nat.lt_trans lt_b160 lt_b168)))
  have F187 := (((((((((((((Vw167.ext E168).other W169 (Nat.ne_of_lt lt_b168)).other W170 (Nat.ne_of_lt lt_b168)).other W171 (Nat.ne_of_lt lt_b168)).other W172 (Nat.ne_of_lt lt_b168)).other W173 (Nat.ne_of_lt lt_b168)).other W174 (Nat.ne_of_lt lt_b168)).other W175 (Nat.ne_of_lt lt_b168)).other W177 (Nat.ne_of_lt lt_b168)).other W179 (Nat.ne_of_lt lt_b168)).other W181 (Nat.ne_of_lt lt_b168)).other W183 (Nat.ne_of_lt lt_b168)).other W184 (Nat.ne_of_lt lt_b168))
  refine k_callS X184 hx hZ hown (hw _ (List.mem_of_getElem? (i := 5) rfl)) (hw _ (List.mem_of_getElem? (i := 6) rfl)) (hw _ (List.mem_of_getElem? (i := 7) rfl)) (hw _ (List.mem_of_getElem? (i := 8) rfl)) (by decide) (rm1_188 l Z a0 hw [] b1 b160 k1 v2 v5 v7 v10 v12 v15 v17 v20 v22 b24 k24 k160 b168 k168 v176 v178 v180 v182 h184 n0 Z184 F185 g_b1 F186 g_b24 F187 g_b160 Vw184 g_b168 lt_b24 lt_b160 lt_b168) (by decide) (by decide) e184 (by rw [hml]; rfl) (argsL := [(.ref b1), (.ref b160), (.int (1 : Int32))]) (rest := []) (lenOf pd_0 rfl) rfl (W := 0) (Nat.le_refl _) rfl (hb hby at_379) (by decide) (by decide) (pc' := 382) rfl (fun T210 L210 r210 X210 q210 => ?_)
  obtain ⟨N210, q210⟩ := q210
  have N210' := Fr.app N184 N210
  obtain ⟨v211, v212, v213, v214, v215, v216, v217, v218, v219, h220, h221, h222, h223, h224, h225, h226, h227, h228, rfl, F229, F230, F231, F232, Z233⟩ := q210
  show KEnds p e below s _ _ _ T210 (mkF m 382 #[.val (.long i0), .second, .val (.long i1), .second, .val (.long i2), .second, .val (.long i3), .second, .val (.long i4), .second, .val (.int i5), .val (.ref b1), .val (.ref b24), .val (.int (1 : Int32)), .val (.ref b160), .val (.ref b168), .unset, .unset] [])
  refine k_aload X210 hx (hb hby at_382) rfl rfl (pc' := 384) rfl ?_
  refine k_iconst X210 hx (hb hby at_384) (pc' := 385) rfl (z := (0 : Int32)) rfl ?_
  refine k_laload X210 hx hZ rfl F231 ⟨by decide, by decide⟩ (v := (.long (-1 : Int64))) rfl (hb hby at_385) (pc' := 386) rfl ?_
  refine k_aload X210 hx (hb hby at_386) rfl rfl (pc' := 388) rfl ?_
  refine k_iconst X210 hx (hb hby at_388) (pc' := 389) rfl (z := (0 : Int32)) rfl ?_
  refine k_laload X210 hx hZ rfl F232 ⟨by decide, by decide⟩ (v := (.long (-1 : Int64))) rfl (hb hby at_389) (pc' := 390) rfl ?_
  refine k_lcif_ne X210 hx (hb hby at_390) (pm := 391) rfl (hb hby at_391) (pn := 394) rfl (py := 472) (by decide) (fun hc => absurd (by decide) hc) (fun _ => ?_)
  refine k_aload X210 hx (hb hby at_394) rfl rfl (pc' := 396) rfl ?_
  refine k_iconst X210 hx (hb hby at_396) (pc' := 397) rfl (z := (1 : Int32)) rfl ?_
  refine k_laload X210 hx hZ rfl F231 ⟨by decide, by decide⟩ (v := (.long v212)) rfl (hb hby at_397) (pc' := 398) rfl ?_
  refine k_aload X210 hx (hb hby at_398) rfl rfl (pc' := 400) rfl ?_
  refine k_iconst X210 hx (hb hby at_400) (pc' := 401) rfl (z := (1 : Int32)) rfl ?_
  refine k_laload X210 hx hZ rfl F232 ⟨by decide, by decide⟩ (v := (.long v176)) rfl (hb hby at_401) (pc' := 402) rfl ?_
  refine k_lcif_ne X210 hx (hb hby at_402) (pm := 403) rfl (hb hby at_403) (pn := 406) rfl (py := 472) (by decide) (fun hc234 => ?_) (fun hc234 => ?_)
  ·
   refine k_iconst X210 hx (hb hby at_472) (pc' := 473) rfl (z := (0 : Int32)) rfl ?_
   refine k_istore X210 hx (hb hby at_473) (Ls' := #[.val (.long i0), .second, .val (.long i1), .second, .val (.long i2), .second, .val (.long i3), .second, .val (.long i4), .second, .val (.int i5), .val (.ref b1), .val (.ref b24), .val (.int (1 : Int32)), .val (.ref b160), .val (.ref b168), .val (.int (0 : Int32)), .unset]) rfl (pc' := 475) rfl ?_
   refine k_aload X210 hx (hb hby at_475) rfl rfl (pc' := 477) rfl ?_
   refine k_iconst X210 hx (hb hby at_477) (pc' := 478) rfl (z := (0 : Int32)) rfl ?_
   refine k_laload X210 hx hZ rfl F229 ⟨by decide, by decide⟩ (v := (.long v2)) rfl (hb hby at_478) (pc' := 479) rfl ?_
   refine k_aload X210 hx (hb hby at_479) rfl rfl (pc' := 481) rfl ?_
   refine k_iconst X210 hx (hb hby at_481) (pc' := 482) rfl (z := (0 : Int32)) rfl ?_
   refine k_laload X210 hx hZ rfl F230 ⟨by decide, by decide⟩ (v := (.long v2)) rfl (hb hby at_482) (pc' := 483) rfl ?_
   refine k_lcif_ne X210 hx (hb hby at_483) (pm := 484) rfl (hb hby at_484) (pn := 487) rfl (py := 593) (by decide) (fun hc => absurd rfl hc) (fun _ => ?_)
   refine k_aload X210 hx (hb hby at_487) rfl rfl (pc' := 489) rfl ?_
   refine k_iconst X210 hx (hb hby at_489) (pc' := 490) rfl (z := (1 : Int32)) rfl ?_
   refine k_laload X210 hx hZ rfl F229 ⟨by decide, by decide⟩ (v := (.long v5)) rfl (hb hby at_490) (pc' := 491) rfl ?_
   refine k_aload X210 hx (hb hby at_491) rfl rfl (pc' := 493) rfl ?_
   refine k_iconst X210 hx (hb hby at_493) (pc' := 494) rfl (z := (1 : Int32)) rfl ?_
   refine k_laload X210 hx hZ rfl F230 ⟨by decide, by decide⟩ (v := (.long v5)) rfl (hb hby at_494) (pc' := 495) rfl ?_
   refine k_lcif_ne X210 hx (hb hby at_495) (pm := 496) rfl (hb hby at_496) (pn := 499) rfl (py := 593) (by decide) (fun hc => absurd rfl hc) (fun _ => ?_)
   refine k_aload X210 hx (hb hby at_499) rfl rfl (pc' := 501) rfl ?_
   refine k_iconst X210 hx (hb hby at_501) (pc' := 502) rfl (z := (2 : Int32)) rfl ?_
   refine k_laload X210 hx hZ rfl F229 ⟨by decide, by decide⟩ (v := (.long v7)) rfl (hb hby at_502) (pc' := 503) rfl ?_
   refine k_aload X210 hx (hb hby at_503) rfl rfl (pc' := 505) rfl ?_
   refine k_iconst X210 hx (hb hby at_505) (pc' := 506) rfl (z := (2 : Int32)) rfl ?_
   refine k_laload X210 hx hZ rfl F230 ⟨by decide, by decide⟩ (v := (.long v7)) rfl (hb hby at_506) (pc' := 507) rfl ?_
   refine k_lcif_ne X210 hx (hb hby at_507) (pm := 508) rfl (hb hby at_508) (pn := 511) rfl (py := 593) (by decide) (fun hc => absurd rfl hc) (fun _ => ?_)
   refine k_aload X210 hx (hb hby at_511) rfl rfl (pc' := 513) rfl ?_
   refine k_iconst X210 hx (hb hby at_513) (pc' := 514) rfl (z := (3 : Int32)) rfl ?_
   refine k_laload X210 hx hZ rfl F229 ⟨by decide, by decide⟩ (v := (.long v10)) rfl (hb hby at_514) (pc' := 515) rfl ?_
   refine k_aload X210 hx (hb hby at_515) rfl rfl (pc' := 517) rfl ?_
   refine k_iconst X210 hx (hb hby at_517) (pc' := 518) rfl (z := (3 : Int32)) rfl ?_
   refine k_laload X210 hx hZ rfl F230 ⟨by decide, by decide⟩ (v := (.long v10)) rfl (hb hby at_518) (pc' := 519) rfl ?_
   refine k_lcif_ne X210 hx (hb hby at_519) (pm := 520) rfl (hb hby at_520) (pn := 523) rfl (py := 593) (by decide) (fun hc => absurd rfl hc) (fun _ => ?_)
   refine k_aload X210 hx (hb hby at_523) rfl rfl (pc' := 525) rfl ?_
   refine k_iconst X210 hx (hb hby at_525) (pc' := 526) rfl (z := (4 : Int32)) rfl ?_
   refine k_laload X210 hx hZ rfl F229 ⟨by decide, by decide⟩ (v := (.long v12)) rfl (hb hby at_526) (pc' := 527) rfl ?_
   refine k_aload X210 hx (hb hby at_527) rfl rfl (pc' := 529) rfl ?_
   refine k_iconst X210 hx (hb hby at_529) (pc' := 530) rfl (z := (4 : Int32)) rfl ?_
   refine k_laload X210 hx hZ rfl F230 ⟨by decide, by decide⟩ (v := (.long v12)) rfl (hb hby at_530) (pc' := 531) rfl ?_
   refine k_lcif_ne X210 hx (hb hby at_531) (pm := 532) rfl (hb hby at_532) (pn := 535) rfl (py := 593) (by decide) (fun hc => absurd rfl hc) (fun _ => ?_)
   refine k_aload X210 hx (hb hby at_535) rfl rfl (pc' := 537) rfl ?_
   refine k_iconst X210 hx (hb hby at_537) (pc' := 538) rfl (z := (5 : Int32)) rfl ?_
   refine k_laload X210 hx hZ rfl F229 ⟨by decide, by decide⟩ (v := (.long v15)) rfl (hb hby at_538) (pc' := 539) rfl ?_
   refine k_aload X210 hx (hb hby at_539) rfl rfl (pc' := 541) rfl ?_
   refine k_iconst X210 hx (hb hby at_541) (pc' := 542) rfl (z := (5 : Int32)) rfl ?_
   refine k_laload X210 hx hZ rfl F230 ⟨by decide, by decide⟩ (v := (.long v15)) rfl (hb hby at_542) (pc' := 543) rfl ?_
   refine k_lcif_ne X210 hx (hb hby at_543) (pm := 544) rfl (hb hby at_544) (pn := 547) rfl (py := 593) (by decide) (fun hc => absurd rfl hc) (fun _ => ?_)
   refine k_aload X210 hx (hb hby at_547) rfl rfl (pc' := 549) rfl ?_
   refine k_bipush X210 hx (hb hby at_549) (pc' := 551) rfl (z := (6 : Int32)) rfl ?_
   refine k_laload X210 hx hZ rfl F229 ⟨by decide, by decide⟩ (v := (.long v17)) rfl (hb hby at_551) (pc' := 552) rfl ?_
   refine k_aload X210 hx (hb hby at_552) rfl rfl (pc' := 554) rfl ?_
   refine k_bipush X210 hx (hb hby at_554) (pc' := 556) rfl (z := (6 : Int32)) rfl ?_
   refine k_laload X210 hx hZ rfl F230 ⟨by decide, by decide⟩ (v := (.long v17)) rfl (hb hby at_556) (pc' := 557) rfl ?_
   refine k_lcif_ne X210 hx (hb hby at_557) (pm := 558) rfl (hb hby at_558) (pn := 561) rfl (py := 593) (by decide) (fun hc => absurd rfl hc) (fun _ => ?_)
   refine k_aload X210 hx (hb hby at_561) rfl rfl (pc' := 563) rfl ?_
   refine k_bipush X210 hx (hb hby at_563) (pc' := 565) rfl (z := (7 : Int32)) rfl ?_
   refine k_laload X210 hx hZ rfl F229 ⟨by decide, by decide⟩ (v := (.long v20)) rfl (hb hby at_565) (pc' := 566) rfl ?_
   refine k_aload X210 hx (hb hby at_566) rfl rfl (pc' := 568) rfl ?_
   refine k_bipush X210 hx (hb hby at_568) (pc' := 570) rfl (z := (7 : Int32)) rfl ?_
   refine k_laload X210 hx hZ rfl F230 ⟨by decide, by decide⟩ (v := (.long v20)) rfl (hb hby at_570) (pc' := 571) rfl ?_
   refine k_lcif_ne X210 hx (hb hby at_571) (pm := 572) rfl (hb hby at_572) (pn := 575) rfl (py := 593) (by decide) (fun hc => absurd rfl hc) (fun _ => ?_)
   refine k_aload X210 hx (hb hby at_575) rfl rfl (pc' := 577) rfl ?_
   refine k_bipush X210 hx (hb hby at_577) (pc' := 579) rfl (z := (8 : Int32)) rfl ?_
   refine k_laload X210 hx hZ rfl F229 ⟨by decide, by decide⟩ (v := (.long v22)) rfl (hb hby at_579) (pc' := 580) rfl ?_
   refine k_aload X210 hx (hb hby at_580) rfl rfl (pc' := 582) rfl ?_
   refine k_bipush X210 hx (hb hby at_582) (pc' := 584) rfl (z := (8 : Int32)) rfl ?_
   refine k_laload X210 hx hZ rfl F230 ⟨by decide, by decide⟩ (v := (.long v22)) rfl (hb hby at_584) (pc' := 585) rfl ?_
   refine k_lcif_ne X210 hx (hb hby at_585) (pm := 586) rfl (hb hby at_586) (pn := 589) rfl (py := 593) (by decide) (fun hc => absurd rfl hc) (fun _ => ?_)
   refine k_iconst X210 hx (hb hby at_589) (pc' := 590) rfl (z := (1 : Int32)) rfl ?_
   refine k_goto X210 hx (hb hby at_590) (pc' := 594) (by decide) ?_
   refine k_istore X210 hx (hb hby at_594) (Ls' := #[.val (.long i0), .second, .val (.long i1), .second, .val (.long i2), .second, .val (.long i3), .second, .val (.long i4), .second, .val (.int i5), .val (.ref b1), .val (.ref b24), .val (.int (1 : Int32)), .val (.ref b160), .val (.ref b168), .val (.int (0 : Int32)), .val (.int (1 : Int32))]) rfl (pc' := 596) rfl ?_
   refine k_iload X210 hx (hb hby at_596) rfl (pc' := 598) rfl ?_
   refine k_if_eq X210 hx (hb hby at_598) (pn := 601) rfl (py := 610) (by decide) (fun _ => ?_) (fun hc => absurd (by decide) hc)
   refine k_iconst X210 hx (hb hby at_610) (pc' := 611) rfl (z := (0 : Int32)) rfl ?_
   exfalso
   have := rng64 v212
   have := rng64 v2
   have := rng64 i0
   have : (536870911 : Int64).toInt = 536870911 := (by decide)
   have q235 : v2.toInt = i0.toInt % 536870912 := (by rw [hv2]; exact c_maskL _ _ 29 (by decide) (by decide))
   have := rng64 v211
   have := rng64 v5
   have := rng64 v4
   have : (29 : Int32).toInt = 29 := (by decide)
   have q236 : v4.toInt = (i0.toInt % 18446744073709551616) / 536870912 := (by rw [hv4]; exact c_lushr _ _ 29 (by decide) (by decide))
   have q237 : v5.toInt = v4.toInt % 536870912 := (by rw [hv5]; exact c_maskL _ _ 29 (by decide) (by decide))
   have q238 : (v211.toInt - v5.toInt * 536870912) % 18446744073709551616 = 0 := (by rw [h220]; exact c_lshl _ _ 29 (by decide))
   have q239 := c_orL' v2 v211 29 (by decide) 536870912 rfl; rw [← h221] at q239
   have := rng64 v176
   have : (288230376151711743 : Int64).toInt = 288230376151711743 := (by decide)
   have q240 : v176.toInt = i0.toInt % 288230376151711744 := (by rw [hv176]; exact c_maskL _ _ 58 (by decide) (by decide))
   have q241 : ¬ v212.toInt = v176.toInt := fun q => hc234 (Int64.toInt_inj.mp q)
   omega
  ·
   refine k_aload X210 hx (hb hby at_406) rfl rfl (pc' := 408) rfl ?_
   refine k_iconst X210 hx (hb hby at_408) (pc' := 409) rfl (z := (2 : Int32)) rfl ?_
   refine k_laload X210 hx hZ rfl F231 ⟨by decide, by decide⟩ (v := (.long v214)) rfl (hb hby at_409) (pc' := 410) rfl ?_
   refine k_aload X210 hx (hb hby at_410) rfl rfl (pc' := 412) rfl ?_
   refine k_iconst X210 hx (hb hby at_412) (pc' := 413) rfl (z := (2 : Int32)) rfl ?_
   refine k_laload X210 hx hZ rfl F232 ⟨by decide, by decide⟩ (v := (.long v178)) rfl (hb hby at_413) (pc' := 414) rfl ?_
   refine k_lcif_ne X210 hx (hb hby at_414) (pm := 415) rfl (hb hby at_415) (pn := 418) rfl (py := 472) (by decide) (fun hc242 => ?_) (fun hc242 => ?_)
   ·
    refine k_iconst X210 hx (hb hby at_472) (pc' := 473) rfl (z := (0 : Int32)) rfl ?_
    refine k_istore X210 hx (hb hby at_473) (Ls' := #[.val (.long i0), .second, .val (.long i1), .second, .val (.long i2), .second, .val (.long i3), .second, .val (.long i4), .second, .val (.int i5), .val (.ref b1), .val (.ref b24), .val (.int (1 : Int32)), .val (.ref b160), .val (.ref b168), .val (.int (0 : Int32)), .unset]) rfl (pc' := 475) rfl ?_
    refine k_aload X210 hx (hb hby at_475) rfl rfl (pc' := 477) rfl ?_
    refine k_iconst X210 hx (hb hby at_477) (pc' := 478) rfl (z := (0 : Int32)) rfl ?_
    refine k_laload X210 hx hZ rfl F229 ⟨by decide, by decide⟩ (v := (.long v2)) rfl (hb hby at_478) (pc' := 479) rfl ?_
    refine k_aload X210 hx (hb hby at_479) rfl rfl (pc' := 481) rfl ?_
    refine k_iconst X210 hx (hb hby at_481) (pc' := 482) rfl (z := (0 : Int32)) rfl ?_
    refine k_laload X210 hx hZ rfl F230 ⟨by decide, by decide⟩ (v := (.long v2)) rfl (hb hby at_482) (pc' := 483) rfl ?_
    refine k_lcif_ne X210 hx (hb hby at_483) (pm := 484) rfl (hb hby at_484) (pn := 487) rfl (py := 593) (by decide) (fun hc => absurd rfl hc) (fun _ => ?_)
    refine k_aload X210 hx (hb hby at_487) rfl rfl (pc' := 489) rfl ?_
    refine k_iconst X210 hx (hb hby at_489) (pc' := 490) rfl (z := (1 : Int32)) rfl ?_
    refine k_laload X210 hx hZ rfl F229 ⟨by decide, by decide⟩ (v := (.long v5)) rfl (hb hby at_490) (pc' := 491) rfl ?_
    refine k_aload X210 hx (hb hby at_491) rfl rfl (pc' := 493) rfl ?_
    refine k_iconst X210 hx (hb hby at_493) (pc' := 494) rfl (z := (1 : Int32)) rfl ?_
    refine k_laload X210 hx hZ rfl F230 ⟨by decide, by decide⟩ (v := (.long v5)) rfl (hb hby at_494) (pc' := 495) rfl ?_
    refine k_lcif_ne X210 hx (hb hby at_495) (pm := 496) rfl (hb hby at_496) (pn := 499) rfl (py := 593) (by decide) (fun hc => absurd rfl hc) (fun _ => ?_)
    refine k_aload X210 hx (hb hby at_499) rfl rfl (pc' := 501) rfl ?_
    refine k_iconst X210 hx (hb hby at_501) (pc' := 502) rfl (z := (2 : Int32)) rfl ?_
    refine k_laload X210 hx hZ rfl F229 ⟨by decide, by decide⟩ (v := (.long v7)) rfl (hb hby at_502) (pc' := 503) rfl ?_
    refine k_aload X210 hx (hb hby at_503) rfl rfl (pc' := 505) rfl ?_
    refine k_iconst X210 hx (hb hby at_505) (pc' := 506) rfl (z := (2 : Int32)) rfl ?_
    refine k_laload X210 hx hZ rfl F230 ⟨by decide, by decide⟩ (v := (.long v7)) rfl (hb hby at_506) (pc' := 507) rfl ?_
    refine k_lcif_ne X210 hx (hb hby at_507) (pm := 508) rfl (hb hby at_508) (pn := 511) rfl (py := 593) (by decide) (fun hc => absurd rfl hc) (fun _ => ?_)
    refine k_aload X210 hx (hb hby at_511) rfl rfl (pc' := 513) rfl ?_
    refine k_iconst X210 hx (hb hby at_513) (pc' := 514) rfl (z := (3 : Int32)) rfl ?_
    refine k_laload X210 hx hZ rfl F229 ⟨by decide, by decide⟩ (v := (.long v10)) rfl (hb hby at_514) (pc' := 515) rfl ?_
    refine k_aload X210 hx (hb hby at_515) rfl rfl (pc' := 517) rfl ?_
    refine k_iconst X210 hx (hb hby at_517) (pc' := 518) rfl (z := (3 : Int32)) rfl ?_
    refine k_laload X210 hx hZ rfl F230 ⟨by decide, by decide⟩ (v := (.long v10)) rfl (hb hby at_518) (pc' := 519) rfl ?_
    refine k_lcif_ne X210 hx (hb hby at_519) (pm := 520) rfl (hb hby at_520) (pn := 523) rfl (py := 593) (by decide) (fun hc => absurd rfl hc) (fun _ => ?_)
    refine k_aload X210 hx (hb hby at_523) rfl rfl (pc' := 525) rfl ?_
    refine k_iconst X210 hx (hb hby at_525) (pc' := 526) rfl (z := (4 : Int32)) rfl ?_
    refine k_laload X210 hx hZ rfl F229 ⟨by decide, by decide⟩ (v := (.long v12)) rfl (hb hby at_526) (pc' := 527) rfl ?_
    refine k_aload X210 hx (hb hby at_527) rfl rfl (pc' := 529) rfl ?_
    refine k_iconst X210 hx (hb hby at_529) (pc' := 530) rfl (z := (4 : Int32)) rfl ?_
    refine k_laload X210 hx hZ rfl F230 ⟨by decide, by decide⟩ (v := (.long v12)) rfl (hb hby at_530) (pc' := 531) rfl ?_
    refine k_lcif_ne X210 hx (hb hby at_531) (pm := 532) rfl (hb hby at_532) (pn := 535) rfl (py := 593) (by decide) (fun hc => absurd rfl hc) (fun _ => ?_)
    refine k_aload X210 hx (hb hby at_535) rfl rfl (pc' := 537) rfl ?_
    refine k_iconst X210 hx (hb hby at_537) (pc' := 538) rfl (z := (5 : Int32)) rfl ?_
    refine k_laload X210 hx hZ rfl F229 ⟨by decide, by decide⟩ (v := (.long v15)) rfl (hb hby at_538) (pc' := 539) rfl ?_
    refine k_aload X210 hx (hb hby at_539) rfl rfl (pc' := 541) rfl ?_
    refine k_iconst X210 hx (hb hby at_541) (pc' := 542) rfl (z := (5 : Int32)) rfl ?_
    refine k_laload X210 hx hZ rfl F230 ⟨by decide, by decide⟩ (v := (.long v15)) rfl (hb hby at_542) (pc' := 543) rfl ?_
    refine k_lcif_ne X210 hx (hb hby at_543) (pm := 544) rfl (hb hby at_544) (pn := 547) rfl (py := 593) (by decide) (fun hc => absurd rfl hc) (fun _ => ?_)
    refine k_aload X210 hx (hb hby at_547) rfl rfl (pc' := 549) rfl ?_
    refine k_bipush X210 hx (hb hby at_549) (pc' := 551) rfl (z := (6 : Int32)) rfl ?_
    refine k_laload X210 hx hZ rfl F229 ⟨by decide, by decide⟩ (v := (.long v17)) rfl (hb hby at_551) (pc' := 552) rfl ?_
    refine k_aload X210 hx (hb hby at_552) rfl rfl (pc' := 554) rfl ?_
    refine k_bipush X210 hx (hb hby at_554) (pc' := 556) rfl (z := (6 : Int32)) rfl ?_
    refine k_laload X210 hx hZ rfl F230 ⟨by decide, by decide⟩ (v := (.long v17)) rfl (hb hby at_556) (pc' := 557) rfl ?_
    refine k_lcif_ne X210 hx (hb hby at_557) (pm := 558) rfl (hb hby at_558) (pn := 561) rfl (py := 593) (by decide) (fun hc => absurd rfl hc) (fun _ => ?_)
    refine k_aload X210 hx (hb hby at_561) rfl rfl (pc' := 563) rfl ?_
    refine k_bipush X210 hx (hb hby at_563) (pc' := 565) rfl (z := (7 : Int32)) rfl ?_
    refine k_laload X210 hx hZ rfl F229 ⟨by decide, by decide⟩ (v := (.long v20)) rfl (hb hby at_565) (pc' := 566) rfl ?_
    refine k_aload X210 hx (hb hby at_566) rfl rfl (pc' := 568) rfl ?_
    refine k_bipush X210 hx (hb hby at_568) (pc' := 570) rfl (z := (7 : Int32)) rfl ?_
    refine k_laload X210 hx hZ rfl F230 ⟨by decide, by decide⟩ (v := (.long v20)) rfl (hb hby at_570) (pc' := 571) rfl ?_
    refine k_lcif_ne X210 hx (hb hby at_571) (pm := 572) rfl (hb hby at_572) (pn := 575) rfl (py := 593) (by decide) (fun hc => absurd rfl hc) (fun _ => ?_)
    refine k_aload X210 hx (hb hby at_575) rfl rfl (pc' := 577) rfl ?_
    refine k_bipush X210 hx (hb hby at_577) (pc' := 579) rfl (z := (8 : Int32)) rfl ?_
    refine k_laload X210 hx hZ rfl F229 ⟨by decide, by decide⟩ (v := (.long v22)) rfl (hb hby at_579) (pc' := 580) rfl ?_
    refine k_aload X210 hx (hb hby at_580) rfl rfl (pc' := 582) rfl ?_
    refine k_bipush X210 hx (hb hby at_582) (pc' := 584) rfl (z := (8 : Int32)) rfl ?_
    refine k_laload X210 hx hZ rfl F230 ⟨by decide, by decide⟩ (v := (.long v22)) rfl (hb hby at_584) (pc' := 585) rfl ?_
    refine k_lcif_ne X210 hx (hb hby at_585) (pm := 586) rfl (hb hby at_586) (pn := 589) rfl (py := 593) (by decide) (fun hc => absurd rfl hc) (fun _ => ?_)
    refine k_iconst X210 hx (hb hby at_589) (pc' := 590) rfl (z := (1 : Int32)) rfl ?_
    refine k_goto X210 hx (hb hby at_590) (pc' := 594) (by decide) ?_
    refine k_istore X210 hx (hb hby at_594) (Ls' := #[.val (.long i0), .second, .val (.long i1), .second, .val (.long i2), .second, .val (.long i3), .second, .val (.long i4), .second, .val (.int i5), .val (.ref b1), .val (.ref b24), .val (.int (1 : Int32)), .val (.ref b160), .val (.ref b168), .val (.int (0 : Int32)), .val (.int (1 : Int32))]) rfl (pc' := 596) rfl ?_
    refine k_iload X210 hx (hb hby at_596) rfl (pc' := 598) rfl ?_
    refine k_if_eq X210 hx (hb hby at_598) (pn := 601) rfl (py := 610) (by decide) (fun _ => ?_) (fun hc => absurd (by decide) hc)
    refine k_iconst X210 hx (hb hby at_610) (pc' := 611) rfl (z := (0 : Int32)) rfl ?_
    exfalso
    have := rng64 v214
    have := rng64 v7
    have := rng64 i1
    have : (536870911 : Int64).toInt = 536870911 := (by decide)
    have q243 : v7.toInt = i1.toInt % 536870912 := (by rw [hv7]; exact c_maskL _ _ 29 (by decide) (by decide))
    have := rng64 v213
    have := rng64 v10
    have := rng64 v9
    have : (29 : Int32).toInt = 29 := (by decide)
    have q244 : v9.toInt = (i1.toInt % 18446744073709551616) / 536870912 := (by rw [hv9]; exact c_lushr _ _ 29 (by decide) (by decide))
    have q245 : v10.toInt = v9.toInt % 536870912 := (by rw [hv10]; exact c_maskL _ _ 29 (by decide) (by decide))
    have q246 : (v213.toInt - v10.toInt * 536870912) % 18446744073709551616 = 0 := (by rw [h222]; exact c_lshl _ _ 29 (by decide))
    have q247 := c_orL' v7 v213 29 (by decide) 536870912 rfl; rw [← h223] at q247
    have := rng64 v178
    have : (288230376151711743 : Int64).toInt = 288230376151711743 := (by decide)
    have q248 : v178.toInt = i1.toInt % 288230376151711744 := (by rw [hv178]; exact c_maskL _ _ 58 (by decide) (by decide))
    have q249 : ¬ v214.toInt = v178.toInt := fun q => hc242 (Int64.toInt_inj.mp q)
    omega
   ·
    refine k_aload X210 hx (hb hby at_418) rfl rfl (pc' := 420) rfl ?_
    refine k_iconst X210 hx (hb hby at_420) (pc' := 421) rfl (z := (3 : Int32)) rfl ?_
    refine k_laload X210 hx hZ rfl F231 ⟨by decide, by decide⟩ (v := (.long v216)) rfl (hb hby at_421) (pc' := 422) rfl ?_
    refine k_aload X210 hx (hb hby at_422) rfl rfl (pc' := 424) rfl ?_
    refine k_iconst X210 hx (hb hby at_424) (pc' := 425) rfl (z := (3 : Int32)) rfl ?_
    refine k_laload X210 hx hZ rfl F232 ⟨by decide, by decide⟩ (v := (.long v180)) rfl (hb hby at_425) (pc' := 426) rfl ?_
    refine k_lcif_ne X210 hx (hb hby at_426) (pm := 427) rfl (hb hby at_427) (pn := 430) rfl (py := 472) (by decide) (fun hc250 => ?_) (fun hc250 => ?_)
    ·
     refine k_iconst X210 hx (hb hby at_472) (pc' := 473) rfl (z := (0 : Int32)) rfl ?_
     refine k_istore X210 hx (hb hby at_473) (Ls' := #[.val (.long i0), .second, .val (.long i1), .second, .val (.long i2), .second, .val (.long i3), .second, .val (.long i4), .second, .val (.int i5), .val (.ref b1), .val (.ref b24), .val (.int (1 : Int32)), .val (.ref b160), .val (.ref b168), .val (.int (0 : Int32)), .unset]) rfl (pc' := 475) rfl ?_
     refine k_aload X210 hx (hb hby at_475) rfl rfl (pc' := 477) rfl ?_
     refine k_iconst X210 hx (hb hby at_477) (pc' := 478) rfl (z := (0 : Int32)) rfl ?_
     refine k_laload X210 hx hZ rfl F229 ⟨by decide, by decide⟩ (v := (.long v2)) rfl (hb hby at_478) (pc' := 479) rfl ?_
     refine k_aload X210 hx (hb hby at_479) rfl rfl (pc' := 481) rfl ?_
     refine k_iconst X210 hx (hb hby at_481) (pc' := 482) rfl (z := (0 : Int32)) rfl ?_
     refine k_laload X210 hx hZ rfl F230 ⟨by decide, by decide⟩ (v := (.long v2)) rfl (hb hby at_482) (pc' := 483) rfl ?_
     refine k_lcif_ne X210 hx (hb hby at_483) (pm := 484) rfl (hb hby at_484) (pn := 487) rfl (py := 593) (by decide) (fun hc => absurd rfl hc) (fun _ => ?_)
     refine k_aload X210 hx (hb hby at_487) rfl rfl (pc' := 489) rfl ?_
     refine k_iconst X210 hx (hb hby at_489) (pc' := 490) rfl (z := (1 : Int32)) rfl ?_
     refine k_laload X210 hx hZ rfl F229 ⟨by decide, by decide⟩ (v := (.long v5)) rfl (hb hby at_490) (pc' := 491) rfl ?_
     refine k_aload X210 hx (hb hby at_491) rfl rfl (pc' := 493) rfl ?_
     refine k_iconst X210 hx (hb hby at_493) (pc' := 494) rfl (z := (1 : Int32)) rfl ?_
     refine k_laload X210 hx hZ rfl F230 ⟨by decide, by decide⟩ (v := (.long v5)) rfl (hb hby at_494) (pc' := 495) rfl ?_
     refine k_lcif_ne X210 hx (hb hby at_495) (pm := 496) rfl (hb hby at_496) (pn := 499) rfl (py := 593) (by decide) (fun hc => absurd rfl hc) (fun _ => ?_)
     refine k_aload X210 hx (hb hby at_499) rfl rfl (pc' := 501) rfl ?_
     refine k_iconst X210 hx (hb hby at_501) (pc' := 502) rfl (z := (2 : Int32)) rfl ?_
     refine k_laload X210 hx hZ rfl F229 ⟨by decide, by decide⟩ (v := (.long v7)) rfl (hb hby at_502) (pc' := 503) rfl ?_
     refine k_aload X210 hx (hb hby at_503) rfl rfl (pc' := 505) rfl ?_
     refine k_iconst X210 hx (hb hby at_505) (pc' := 506) rfl (z := (2 : Int32)) rfl ?_
     refine k_laload X210 hx hZ rfl F230 ⟨by decide, by decide⟩ (v := (.long v7)) rfl (hb hby at_506) (pc' := 507) rfl ?_
     refine k_lcif_ne X210 hx (hb hby at_507) (pm := 508) rfl (hb hby at_508) (pn := 511) rfl (py := 593) (by decide) (fun hc => absurd rfl hc) (fun _ => ?_)
     refine k_aload X210 hx (hb hby at_511) rfl rfl (pc' := 513) rfl ?_
     refine k_iconst X210 hx (hb hby at_513) (pc' := 514) rfl (z := (3 : Int32)) rfl ?_
     refine k_laload X210 hx hZ rfl F229 ⟨by decide, by decide⟩ (v := (.long v10)) rfl (hb hby at_514) (pc' := 515) rfl ?_
     refine k_aload X210 hx (hb hby at_515) rfl rfl (pc' := 517) rfl ?_
     refine k_iconst X210 hx (hb hby at_517) (pc' := 518) rfl (z := (3 : Int32)) rfl ?_
     refine k_laload X210 hx hZ rfl F230 ⟨by decide, by decide⟩ (v := (.long v10)) rfl (hb hby at_518) (pc' := 519) rfl ?_
     refine k_lcif_ne X210 hx (hb hby at_519) (pm := 520) rfl (hb hby at_520) (pn := 523) rfl (py := 593) (by decide) (fun hc => absurd rfl hc) (fun _ => ?_)
     refine k_aload X210 hx (hb hby at_523) rfl rfl (pc' := 525) rfl ?_
     refine k_iconst X210 hx (hb hby at_525) (pc' := 526) rfl (z := (4 : Int32)) rfl ?_
     refine k_laload X210 hx hZ rfl F229 ⟨by decide, by decide⟩ (v := (.long v12)) rfl (hb hby at_526) (pc' := 527) rfl ?_
     refine k_aload X210 hx (hb hby at_527) rfl rfl (pc' := 529) rfl ?_
     refine k_iconst X210 hx (hb hby at_529) (pc' := 530) rfl (z := (4 : Int32)) rfl ?_
     refine k_laload X210 hx hZ rfl F230 ⟨by decide, by decide⟩ (v := (.long v12)) rfl (hb hby at_530) (pc' := 531) rfl ?_
     refine k_lcif_ne X210 hx (hb hby at_531) (pm := 532) rfl (hb hby at_532) (pn := 535) rfl (py := 593) (by decide) (fun hc => absurd rfl hc) (fun _ => ?_)
     refine k_aload X210 hx (hb hby at_535) rfl rfl (pc' := 537) rfl ?_
     refine k_iconst X210 hx (hb hby at_537) (pc' := 538) rfl (z := (5 : Int32)) rfl ?_
     refine k_laload X210 hx hZ rfl F229 ⟨by decide, by decide⟩ (v := (.long v15)) rfl (hb hby at_538) (pc' := 539) rfl ?_
     refine k_aload X210 hx (hb hby at_539) rfl rfl (pc' := 541) rfl ?_
     refine k_iconst X210 hx (hb hby at_541) (pc' := 542) rfl (z := (5 : Int32)) rfl ?_
     refine k_laload X210 hx hZ rfl F230 ⟨by decide, by decide⟩ (v := (.long v15)) rfl (hb hby at_542) (pc' := 543) rfl ?_
     refine k_lcif_ne X210 hx (hb hby at_543) (pm := 544) rfl (hb hby at_544) (pn := 547) rfl (py := 593) (by decide) (fun hc => absurd rfl hc) (fun _ => ?_)
     refine k_aload X210 hx (hb hby at_547) rfl rfl (pc' := 549) rfl ?_
     refine k_bipush X210 hx (hb hby at_549) (pc' := 551) rfl (z := (6 : Int32)) rfl ?_
     refine k_laload X210 hx hZ rfl F229 ⟨by decide, by decide⟩ (v := (.long v17)) rfl (hb hby at_551) (pc' := 552) rfl ?_
     refine k_aload X210 hx (hb hby at_552) rfl rfl (pc' := 554) rfl ?_
     refine k_bipush X210 hx (hb hby at_554) (pc' := 556) rfl (z := (6 : Int32)) rfl ?_
     refine k_laload X210 hx hZ rfl F230 ⟨by decide, by decide⟩ (v := (.long v17)) rfl (hb hby at_556) (pc' := 557) rfl ?_
     refine k_lcif_ne X210 hx (hb hby at_557) (pm := 558) rfl (hb hby at_558) (pn := 561) rfl (py := 593) (by decide) (fun hc => absurd rfl hc) (fun _ => ?_)
     refine k_aload X210 hx (hb hby at_561) rfl rfl (pc' := 563) rfl ?_
     refine k_bipush X210 hx (hb hby at_563) (pc' := 565) rfl (z := (7 : Int32)) rfl ?_
     refine k_laload X210 hx hZ rfl F229 ⟨by decide, by decide⟩ (v := (.long v20)) rfl (hb hby at_565) (pc' := 566) rfl ?_
     refine k_aload X210 hx (hb hby at_566) rfl rfl (pc' := 568) rfl ?_
     refine k_bipush X210 hx (hb hby at_568) (pc' := 570) rfl (z := (7 : Int32)) rfl ?_
     refine k_laload X210 hx hZ rfl F230 ⟨by decide, by decide⟩ (v := (.long v20)) rfl (hb hby at_570) (pc' := 571) rfl ?_
     refine k_lcif_ne X210 hx (hb hby at_571) (pm := 572) rfl (hb hby at_572) (pn := 575) rfl (py := 593) (by decide) (fun hc => absurd rfl hc) (fun _ => ?_)
     refine k_aload X210 hx (hb hby at_575) rfl rfl (pc' := 577) rfl ?_
     refine k_bipush X210 hx (hb hby at_577) (pc' := 579) rfl (z := (8 : Int32)) rfl ?_
     refine k_laload X210 hx hZ rfl F229 ⟨by decide, by decide⟩ (v := (.long v22)) rfl (hb hby at_579) (pc' := 580) rfl ?_
     refine k_aload X210 hx (hb hby at_580) rfl rfl (pc' := 582) rfl ?_
     refine k_bipush X210 hx (hb hby at_582) (pc' := 584) rfl (z := (8 : Int32)) rfl ?_
     refine k_laload X210 hx hZ rfl F230 ⟨by decide, by decide⟩ (v := (.long v22)) rfl (hb hby at_584) (pc' := 585) rfl ?_
     refine k_lcif_ne X210 hx (hb hby at_585) (pm := 586) rfl (hb hby at_586) (pn := 589) rfl (py := 593) (by decide) (fun hc => absurd rfl hc) (fun _ => ?_)
     refine k_iconst X210 hx (hb hby at_589) (pc' := 590) rfl (z := (1 : Int32)) rfl ?_
     refine k_goto X210 hx (hb hby at_590) (pc' := 594) (by decide) ?_
     refine k_istore X210 hx (hb hby at_594) (Ls' := #[.val (.long i0), .second, .val (.long i1), .second, .val (.long i2), .second, .val (.long i3), .second, .val (.long i4), .second, .val (.int i5), .val (.ref b1), .val (.ref b24), .val (.int (1 : Int32)), .val (.ref b160), .val (.ref b168), .val (.int (0 : Int32)), .val (.int (1 : Int32))]) rfl (pc' := 596) rfl ?_
     refine k_iload X210 hx (hb hby at_596) rfl (pc' := 598) rfl ?_
     refine k_if_eq X210 hx (hb hby at_598) (pn := 601) rfl (py := 610) (by decide) (fun _ => ?_) (fun hc => absurd (by decide) hc)
     refine k_iconst X210 hx (hb hby at_610) (pc' := 611) rfl (z := (0 : Int32)) rfl ?_
     exfalso
     have := rng64 v216
     have := rng64 v12
     have := rng64 i2
     have : (536870911 : Int64).toInt = 536870911 := (by decide)
     have q251 : v12.toInt = i2.toInt % 536870912 := (by rw [hv12]; exact c_maskL _ _ 29 (by decide) (by decide))
     have := rng64 v215
     have := rng64 v15
     have := rng64 v14
     have : (29 : Int32).toInt = 29 := (by decide)
     have q252 : v14.toInt = (i2.toInt % 18446744073709551616) / 536870912 := (by rw [hv14]; exact c_lushr _ _ 29 (by decide) (by decide))
     have q253 : v15.toInt = v14.toInt % 536870912 := (by rw [hv15]; exact c_maskL _ _ 29 (by decide) (by decide))
     have q254 : (v215.toInt - v15.toInt * 536870912) % 18446744073709551616 = 0 := (by rw [h224]; exact c_lshl _ _ 29 (by decide))
     have q255 := c_orL' v12 v215 29 (by decide) 536870912 rfl; rw [← h225] at q255
     have := rng64 v180
     have : (288230376151711743 : Int64).toInt = 288230376151711743 := (by decide)
     have q256 : v180.toInt = i2.toInt % 288230376151711744 := (by rw [hv180]; exact c_maskL _ _ 58 (by decide) (by decide))
     have q257 : ¬ v216.toInt = v180.toInt := fun q => hc250 (Int64.toInt_inj.mp q)
     omega
    ·
     refine k_aload X210 hx (hb hby at_430) rfl rfl (pc' := 432) rfl ?_
     refine k_iconst X210 hx (hb hby at_432) (pc' := 433) rfl (z := (4 : Int32)) rfl ?_
     refine k_laload X210 hx hZ rfl F231 ⟨by decide, by decide⟩ (v := (.long v218)) rfl (hb hby at_433) (pc' := 434) rfl ?_
     refine k_aload X210 hx (hb hby at_434) rfl rfl (pc' := 436) rfl ?_
     refine k_iconst X210 hx (hb hby at_436) (pc' := 437) rfl (z := (4 : Int32)) rfl ?_
     refine k_laload X210 hx hZ rfl F232 ⟨by decide, by decide⟩ (v := (.long v182)) rfl (hb hby at_437) (pc' := 438) rfl ?_
     refine k_lcif_ne X210 hx (hb hby at_438) (pm := 439) rfl (hb hby at_439) (pn := 442) rfl (py := 472) (by decide) (fun hc258 => ?_) (fun hc258 => ?_)
     ·
      refine k_iconst X210 hx (hb hby at_472) (pc' := 473) rfl (z := (0 : Int32)) rfl ?_
      refine k_istore X210 hx (hb hby at_473) (Ls' := #[.val (.long i0), .second, .val (.long i1), .second, .val (.long i2), .second, .val (.long i3), .second, .val (.long i4), .second, .val (.int i5), .val (.ref b1), .val (.ref b24), .val (.int (1 : Int32)), .val (.ref b160), .val (.ref b168), .val (.int (0 : Int32)), .unset]) rfl (pc' := 475) rfl ?_
      refine k_aload X210 hx (hb hby at_475) rfl rfl (pc' := 477) rfl ?_
      refine k_iconst X210 hx (hb hby at_477) (pc' := 478) rfl (z := (0 : Int32)) rfl ?_
      refine k_laload X210 hx hZ rfl F229 ⟨by decide, by decide⟩ (v := (.long v2)) rfl (hb hby at_478) (pc' := 479) rfl ?_
      refine k_aload X210 hx (hb hby at_479) rfl rfl (pc' := 481) rfl ?_
      refine k_iconst X210 hx (hb hby at_481) (pc' := 482) rfl (z := (0 : Int32)) rfl ?_
      refine k_laload X210 hx hZ rfl F230 ⟨by decide, by decide⟩ (v := (.long v2)) rfl (hb hby at_482) (pc' := 483) rfl ?_
      refine k_lcif_ne X210 hx (hb hby at_483) (pm := 484) rfl (hb hby at_484) (pn := 487) rfl (py := 593) (by decide) (fun hc => absurd rfl hc) (fun _ => ?_)
      refine k_aload X210 hx (hb hby at_487) rfl rfl (pc' := 489) rfl ?_
      refine k_iconst X210 hx (hb hby at_489) (pc' := 490) rfl (z := (1 : Int32)) rfl ?_
      refine k_laload X210 hx hZ rfl F229 ⟨by decide, by decide⟩ (v := (.long v5)) rfl (hb hby at_490) (pc' := 491) rfl ?_
      refine k_aload X210 hx (hb hby at_491) rfl rfl (pc' := 493) rfl ?_
      refine k_iconst X210 hx (hb hby at_493) (pc' := 494) rfl (z := (1 : Int32)) rfl ?_
      refine k_laload X210 hx hZ rfl F230 ⟨by decide, by decide⟩ (v := (.long v5)) rfl (hb hby at_494) (pc' := 495) rfl ?_
      refine k_lcif_ne X210 hx (hb hby at_495) (pm := 496) rfl (hb hby at_496) (pn := 499) rfl (py := 593) (by decide) (fun hc => absurd rfl hc) (fun _ => ?_)
      refine k_aload X210 hx (hb hby at_499) rfl rfl (pc' := 501) rfl ?_
      refine k_iconst X210 hx (hb hby at_501) (pc' := 502) rfl (z := (2 : Int32)) rfl ?_
      refine k_laload X210 hx hZ rfl F229 ⟨by decide, by decide⟩ (v := (.long v7)) rfl (hb hby at_502) (pc' := 503) rfl ?_
      refine k_aload X210 hx (hb hby at_503) rfl rfl (pc' := 505) rfl ?_
      refine k_iconst X210 hx (hb hby at_505) (pc' := 506) rfl (z := (2 : Int32)) rfl ?_
      refine k_laload X210 hx hZ rfl F230 ⟨by decide, by decide⟩ (v := (.long v7)) rfl (hb hby at_506) (pc' := 507) rfl ?_
      refine k_lcif_ne X210 hx (hb hby at_507) (pm := 508) rfl (hb hby at_508) (pn := 511) rfl (py := 593) (by decide) (fun hc => absurd rfl hc) (fun _ => ?_)
      refine k_aload X210 hx (hb hby at_511) rfl rfl (pc' := 513) rfl ?_
      refine k_iconst X210 hx (hb hby at_513) (pc' := 514) rfl (z := (3 : Int32)) rfl ?_
      refine k_laload X210 hx hZ rfl F229 ⟨by decide, by decide⟩ (v := (.long v10)) rfl (hb hby at_514) (pc' := 515) rfl ?_
      refine k_aload X210 hx (hb hby at_515) rfl rfl (pc' := 517) rfl ?_
      refine k_iconst X210 hx (hb hby at_517) (pc' := 518) rfl (z := (3 : Int32)) rfl ?_
      refine k_laload X210 hx hZ rfl F230 ⟨by decide, by decide⟩ (v := (.long v10)) rfl (hb hby at_518) (pc' := 519) rfl ?_
      refine k_lcif_ne X210 hx (hb hby at_519) (pm := 520) rfl (hb hby at_520) (pn := 523) rfl (py := 593) (by decide) (fun hc => absurd rfl hc) (fun _ => ?_)
      refine k_aload X210 hx (hb hby at_523) rfl rfl (pc' := 525) rfl ?_
      refine k_iconst X210 hx (hb hby at_525) (pc' := 526) rfl (z := (4 : Int32)) rfl ?_
      refine k_laload X210 hx hZ rfl F229 ⟨by decide, by decide⟩ (v := (.long v12)) rfl (hb hby at_526) (pc' := 527) rfl ?_
      refine k_aload X210 hx (hb hby at_527) rfl rfl (pc' := 529) rfl ?_
      refine k_iconst X210 hx (hb hby at_529) (pc' := 530) rfl (z := (4 : Int32)) rfl ?_
      refine k_laload X210 hx hZ rfl F230 ⟨by decide, by decide⟩ (v := (.long v12)) rfl (hb hby at_530) (pc' := 531) rfl ?_
      refine k_lcif_ne X210 hx (hb hby at_531) (pm := 532) rfl (hb hby at_532) (pn := 535) rfl (py := 593) (by decide) (fun hc => absurd rfl hc) (fun _ => ?_)
      refine k_aload X210 hx (hb hby at_535) rfl rfl (pc' := 537) rfl ?_
      refine k_iconst X210 hx (hb hby at_537) (pc' := 538) rfl (z := (5 : Int32)) rfl ?_
      refine k_laload X210 hx hZ rfl F229 ⟨by decide, by decide⟩ (v := (.long v15)) rfl (hb hby at_538) (pc' := 539) rfl ?_
      refine k_aload X210 hx (hb hby at_539) rfl rfl (pc' := 541) rfl ?_
      refine k_iconst X210 hx (hb hby at_541) (pc' := 542) rfl (z := (5 : Int32)) rfl ?_
      refine k_laload X210 hx hZ rfl F230 ⟨by decide, by decide⟩ (v := (.long v15)) rfl (hb hby at_542) (pc' := 543) rfl ?_
      refine k_lcif_ne X210 hx (hb hby at_543) (pm := 544) rfl (hb hby at_544) (pn := 547) rfl (py := 593) (by decide) (fun hc => absurd rfl hc) (fun _ => ?_)
      refine k_aload X210 hx (hb hby at_547) rfl rfl (pc' := 549) rfl ?_
      refine k_bipush X210 hx (hb hby at_549) (pc' := 551) rfl (z := (6 : Int32)) rfl ?_
      refine k_laload X210 hx hZ rfl F229 ⟨by decide, by decide⟩ (v := (.long v17)) rfl (hb hby at_551) (pc' := 552) rfl ?_
      refine k_aload X210 hx (hb hby at_552) rfl rfl (pc' := 554) rfl ?_
      refine k_bipush X210 hx (hb hby at_554) (pc' := 556) rfl (z := (6 : Int32)) rfl ?_
      refine k_laload X210 hx hZ rfl F230 ⟨by decide, by decide⟩ (v := (.long v17)) rfl (hb hby at_556) (pc' := 557) rfl ?_
      refine k_lcif_ne X210 hx (hb hby at_557) (pm := 558) rfl (hb hby at_558) (pn := 561) rfl (py := 593) (by decide) (fun hc => absurd rfl hc) (fun _ => ?_)
      refine k_aload X210 hx (hb hby at_561) rfl rfl (pc' := 563) rfl ?_
      refine k_bipush X210 hx (hb hby at_563) (pc' := 565) rfl (z := (7 : Int32)) rfl ?_
      refine k_laload X210 hx hZ rfl F229 ⟨by decide, by decide⟩ (v := (.long v20)) rfl (hb hby at_565) (pc' := 566) rfl ?_
      refine k_aload X210 hx (hb hby at_566) rfl rfl (pc' := 568) rfl ?_
      refine k_bipush X210 hx (hb hby at_568) (pc' := 570) rfl (z := (7 : Int32)) rfl ?_
      refine k_laload X210 hx hZ rfl F230 ⟨by decide, by decide⟩ (v := (.long v20)) rfl (hb hby at_570) (pc' := 571) rfl ?_
      refine k_lcif_ne X210 hx (hb hby at_571) (pm := 572) rfl (hb hby at_572) (pn := 575) rfl (py := 593) (by decide) (fun hc => absurd rfl hc) (fun _ => ?_)
      refine k_aload X210 hx (hb hby at_575) rfl rfl (pc' := 577) rfl ?_
      refine k_bipush X210 hx (hb hby at_577) (pc' := 579) rfl (z := (8 : Int32)) rfl ?_
      refine k_laload X210 hx hZ rfl F229 ⟨by decide, by decide⟩ (v := (.long v22)) rfl (hb hby at_579) (pc' := 580) rfl ?_
      refine k_aload X210 hx (hb hby at_580) rfl rfl (pc' := 582) rfl ?_
      refine k_bipush X210 hx (hb hby at_582) (pc' := 584) rfl (z := (8 : Int32)) rfl ?_
      refine k_laload X210 hx hZ rfl F230 ⟨by decide, by decide⟩ (v := (.long v22)) rfl (hb hby at_584) (pc' := 585) rfl ?_
      refine k_lcif_ne X210 hx (hb hby at_585) (pm := 586) rfl (hb hby at_586) (pn := 589) rfl (py := 593) (by decide) (fun hc => absurd rfl hc) (fun _ => ?_)
      refine k_iconst X210 hx (hb hby at_589) (pc' := 590) rfl (z := (1 : Int32)) rfl ?_
      refine k_goto X210 hx (hb hby at_590) (pc' := 594) (by decide) ?_
      refine k_istore X210 hx (hb hby at_594) (Ls' := #[.val (.long i0), .second, .val (.long i1), .second, .val (.long i2), .second, .val (.long i3), .second, .val (.long i4), .second, .val (.int i5), .val (.ref b1), .val (.ref b24), .val (.int (1 : Int32)), .val (.ref b160), .val (.ref b168), .val (.int (0 : Int32)), .val (.int (1 : Int32))]) rfl (pc' := 596) rfl ?_
      refine k_iload X210 hx (hb hby at_596) rfl (pc' := 598) rfl ?_
      refine k_if_eq X210 hx (hb hby at_598) (pn := 601) rfl (py := 610) (by decide) (fun _ => ?_) (fun hc => absurd (by decide) hc)
      refine k_iconst X210 hx (hb hby at_610) (pc' := 611) rfl (z := (0 : Int32)) rfl ?_
      exfalso
      have := rng64 v218
      have := rng64 v17
      have := rng64 i3
      have : (536870911 : Int64).toInt = 536870911 := (by decide)
      have q259 : v17.toInt = i3.toInt % 536870912 := (by rw [hv17]; exact c_maskL _ _ 29 (by decide) (by decide))
      have := rng64 v217
      have := rng64 v20
      have := rng64 v19
      have : (29 : Int32).toInt = 29 := (by decide)
      have q260 : v19.toInt = (i3.toInt % 18446744073709551616) / 536870912 := (by rw [hv19]; exact c_lushr _ _ 29 (by decide) (by decide))
      have q261 : v20.toInt = v19.toInt % 536870912 := (by rw [hv20]; exact c_maskL _ _ 29 (by decide) (by decide))
      have q262 : (v217.toInt - v20.toInt * 536870912) % 18446744073709551616 = 0 := (by rw [h226]; exact c_lshl _ _ 29 (by decide))
      have q263 := c_orL' v17 v217 29 (by decide) 536870912 rfl; rw [← h227] at q263
      have := rng64 v182
      have : (288230376151711743 : Int64).toInt = 288230376151711743 := (by decide)
      have q264 : v182.toInt = i3.toInt % 288230376151711744 := (by rw [hv182]; exact c_maskL _ _ 58 (by decide) (by decide))
      have q265 : ¬ v218.toInt = v182.toInt := fun q => hc258 (Int64.toInt_inj.mp q)
      omega
     ·
      refine k_aload X210 hx (hb hby at_442) rfl rfl (pc' := 444) rfl ?_
      refine k_iconst X210 hx (hb hby at_444) (pc' := 445) rfl (z := (5 : Int32)) rfl ?_
      refine k_laload X210 hx hZ rfl F231 ⟨by decide, by decide⟩ (v := (.long v219)) rfl (hb hby at_445) (pc' := 446) rfl ?_
      refine k_aload X210 hx (hb hby at_446) rfl rfl (pc' := 448) rfl ?_
      refine k_iconst X210 hx (hb hby at_448) (pc' := 449) rfl (z := (5 : Int32)) rfl ?_
      refine k_laload X210 hx hZ rfl F232 ⟨by decide, by decide⟩ (v := (.long v22)) rfl (hb hby at_449) (pc' := 450) rfl ?_
      refine k_lcif_ne X210 hx (hb hby at_450) (pm := 451) rfl (hb hby at_451) (pn := 454) rfl (py := 472) (by decide) (fun hc266 => ?_) (fun hc266 => ?_)
      ·
       refine k_iconst X210 hx (hb hby at_472) (pc' := 473) rfl (z := (0 : Int32)) rfl ?_
       refine k_istore X210 hx (hb hby at_473) (Ls' := #[.val (.long i0), .second, .val (.long i1), .second, .val (.long i2), .second, .val (.long i3), .second, .val (.long i4), .second, .val (.int i5), .val (.ref b1), .val (.ref b24), .val (.int (1 : Int32)), .val (.ref b160), .val (.ref b168), .val (.int (0 : Int32)), .unset]) rfl (pc' := 475) rfl ?_
       refine k_aload X210 hx (hb hby at_475) rfl rfl (pc' := 477) rfl ?_
       refine k_iconst X210 hx (hb hby at_477) (pc' := 478) rfl (z := (0 : Int32)) rfl ?_
       refine k_laload X210 hx hZ rfl F229 ⟨by decide, by decide⟩ (v := (.long v2)) rfl (hb hby at_478) (pc' := 479) rfl ?_
       refine k_aload X210 hx (hb hby at_479) rfl rfl (pc' := 481) rfl ?_
       refine k_iconst X210 hx (hb hby at_481) (pc' := 482) rfl (z := (0 : Int32)) rfl ?_
       refine k_laload X210 hx hZ rfl F230 ⟨by decide, by decide⟩ (v := (.long v2)) rfl (hb hby at_482) (pc' := 483) rfl ?_
       refine k_lcif_ne X210 hx (hb hby at_483) (pm := 484) rfl (hb hby at_484) (pn := 487) rfl (py := 593) (by decide) (fun hc => absurd rfl hc) (fun _ => ?_)
       refine k_aload X210 hx (hb hby at_487) rfl rfl (pc' := 489) rfl ?_
       refine k_iconst X210 hx (hb hby at_489) (pc' := 490) rfl (z := (1 : Int32)) rfl ?_
       refine k_laload X210 hx hZ rfl F229 ⟨by decide, by decide⟩ (v := (.long v5)) rfl (hb hby at_490) (pc' := 491) rfl ?_
       refine k_aload X210 hx (hb hby at_491) rfl rfl (pc' := 493) rfl ?_
       refine k_iconst X210 hx (hb hby at_493) (pc' := 494) rfl (z := (1 : Int32)) rfl ?_
       refine k_laload X210 hx hZ rfl F230 ⟨by decide, by decide⟩ (v := (.long v5)) rfl (hb hby at_494) (pc' := 495) rfl ?_
       refine k_lcif_ne X210 hx (hb hby at_495) (pm := 496) rfl (hb hby at_496) (pn := 499) rfl (py := 593) (by decide) (fun hc => absurd rfl hc) (fun _ => ?_)
       refine k_aload X210 hx (hb hby at_499) rfl rfl (pc' := 501) rfl ?_
       refine k_iconst X210 hx (hb hby at_501) (pc' := 502) rfl (z := (2 : Int32)) rfl ?_
       refine k_laload X210 hx hZ rfl F229 ⟨by decide, by decide⟩ (v := (.long v7)) rfl (hb hby at_502) (pc' := 503) rfl ?_
       refine k_aload X210 hx (hb hby at_503) rfl rfl (pc' := 505) rfl ?_
       refine k_iconst X210 hx (hb hby at_505) (pc' := 506) rfl (z := (2 : Int32)) rfl ?_
       refine k_laload X210 hx hZ rfl F230 ⟨by decide, by decide⟩ (v := (.long v7)) rfl (hb hby at_506) (pc' := 507) rfl ?_
       refine k_lcif_ne X210 hx (hb hby at_507) (pm := 508) rfl (hb hby at_508) (pn := 511) rfl (py := 593) (by decide) (fun hc => absurd rfl hc) (fun _ => ?_)
       refine k_aload X210 hx (hb hby at_511) rfl rfl (pc' := 513) rfl ?_
       refine k_iconst X210 hx (hb hby at_513) (pc' := 514) rfl (z := (3 : Int32)) rfl ?_
       refine k_laload X210 hx hZ rfl F229 ⟨by decide, by decide⟩ (v := (.long v10)) rfl (hb hby at_514) (pc' := 515) rfl ?_
       refine k_aload X210 hx (hb hby at_515) rfl rfl (pc' := 517) rfl ?_
       refine k_iconst X210 hx (hb hby at_517) (pc' := 518) rfl (z := (3 : Int32)) rfl ?_
       refine k_laload X210 hx hZ rfl F230 ⟨by decide, by decide⟩ (v := (.long v10)) rfl (hb hby at_518) (pc' := 519) rfl ?_
       refine k_lcif_ne X210 hx (hb hby at_519) (pm := 520) rfl (hb hby at_520) (pn := 523) rfl (py := 593) (by decide) (fun hc => absurd rfl hc) (fun _ => ?_)
       refine k_aload X210 hx (hb hby at_523) rfl rfl (pc' := 525) rfl ?_
       refine k_iconst X210 hx (hb hby at_525) (pc' := 526) rfl (z := (4 : Int32)) rfl ?_
       refine k_laload X210 hx hZ rfl F229 ⟨by decide, by decide⟩ (v := (.long v12)) rfl (hb hby at_526) (pc' := 527) rfl ?_
       refine k_aload X210 hx (hb hby at_527) rfl rfl (pc' := 529) rfl ?_
       refine k_iconst X210 hx (hb hby at_529) (pc' := 530) rfl (z := (4 : Int32)) rfl ?_
       refine k_laload X210 hx hZ rfl F230 ⟨by decide, by decide⟩ (v := (.long v12)) rfl (hb hby at_530) (pc' := 531) rfl ?_
       refine k_lcif_ne X210 hx (hb hby at_531) (pm := 532) rfl (hb hby at_532) (pn := 535) rfl (py := 593) (by decide) (fun hc => absurd rfl hc) (fun _ => ?_)
       refine k_aload X210 hx (hb hby at_535) rfl rfl (pc' := 537) rfl ?_
       refine k_iconst X210 hx (hb hby at_537) (pc' := 538) rfl (z := (5 : Int32)) rfl ?_
       refine k_laload X210 hx hZ rfl F229 ⟨by decide, by decide⟩ (v := (.long v15)) rfl (hb hby at_538) (pc' := 539) rfl ?_
       refine k_aload X210 hx (hb hby at_539) rfl rfl (pc' := 541) rfl ?_
       refine k_iconst X210 hx (hb hby at_541) (pc' := 542) rfl (z := (5 : Int32)) rfl ?_
       refine k_laload X210 hx hZ rfl F230 ⟨by decide, by decide⟩ (v := (.long v15)) rfl (hb hby at_542) (pc' := 543) rfl ?_
       refine k_lcif_ne X210 hx (hb hby at_543) (pm := 544) rfl (hb hby at_544) (pn := 547) rfl (py := 593) (by decide) (fun hc => absurd rfl hc) (fun _ => ?_)
       refine k_aload X210 hx (hb hby at_547) rfl rfl (pc' := 549) rfl ?_
       refine k_bipush X210 hx (hb hby at_549) (pc' := 551) rfl (z := (6 : Int32)) rfl ?_
       refine k_laload X210 hx hZ rfl F229 ⟨by decide, by decide⟩ (v := (.long v17)) rfl (hb hby at_551) (pc' := 552) rfl ?_
       refine k_aload X210 hx (hb hby at_552) rfl rfl (pc' := 554) rfl ?_
       refine k_bipush X210 hx (hb hby at_554) (pc' := 556) rfl (z := (6 : Int32)) rfl ?_
       refine k_laload X210 hx hZ rfl F230 ⟨by decide, by decide⟩ (v := (.long v17)) rfl (hb hby at_556) (pc' := 557) rfl ?_
       refine k_lcif_ne X210 hx (hb hby at_557) (pm := 558) rfl (hb hby at_558) (pn := 561) rfl (py := 593) (by decide) (fun hc => absurd rfl hc) (fun _ => ?_)
       refine k_aload X210 hx (hb hby at_561) rfl rfl (pc' := 563) rfl ?_
       refine k_bipush X210 hx (hb hby at_563) (pc' := 565) rfl (z := (7 : Int32)) rfl ?_
       refine k_laload X210 hx hZ rfl F229 ⟨by decide, by decide⟩ (v := (.long v20)) rfl (hb hby at_565) (pc' := 566) rfl ?_
       refine k_aload X210 hx (hb hby at_566) rfl rfl (pc' := 568) rfl ?_
       refine k_bipush X210 hx (hb hby at_568) (pc' := 570) rfl (z := (7 : Int32)) rfl ?_
       refine k_laload X210 hx hZ rfl F230 ⟨by decide, by decide⟩ (v := (.long v20)) rfl (hb hby at_570) (pc' := 571) rfl ?_
       refine k_lcif_ne X210 hx (hb hby at_571) (pm := 572) rfl (hb hby at_572) (pn := 575) rfl (py := 593) (by decide) (fun hc => absurd rfl hc) (fun _ => ?_)
       refine k_aload X210 hx (hb hby at_575) rfl rfl (pc' := 577) rfl ?_
       refine k_bipush X210 hx (hb hby at_577) (pc' := 579) rfl (z := (8 : Int32)) rfl ?_
       refine k_laload X210 hx hZ rfl F229 ⟨by decide, by decide⟩ (v := (.long v22)) rfl (hb hby at_579) (pc' := 580) rfl ?_
       refine k_aload X210 hx (hb hby at_580) rfl rfl (pc' := 582) rfl ?_
       refine k_bipush X210 hx (hb hby at_582) (pc' := 584) rfl (z := (8 : Int32)) rfl ?_
       refine k_laload X210 hx hZ rfl F230 ⟨by decide, by decide⟩ (v := (.long v22)) rfl (hb hby at_584) (pc' := 585) rfl ?_
       refine k_lcif_ne X210 hx (hb hby at_585) (pm := 586) rfl (hb hby at_586) (pn := 589) rfl (py := 593) (by decide) (fun hc => absurd rfl hc) (fun _ => ?_)
       refine k_iconst X210 hx (hb hby at_589) (pc' := 590) rfl (z := (1 : Int32)) rfl ?_
       refine k_goto X210 hx (hb hby at_590) (pc' := 594) (by decide) ?_
       refine k_istore X210 hx (hb hby at_594) (Ls' := #[.val (.long i0), .second, .val (.long i1), .second, .val (.long i2), .second, .val (.long i3), .second, .val (.long i4), .second, .val (.int i5), .val (.ref b1), .val (.ref b24), .val (.int (1 : Int32)), .val (.ref b160), .val (.ref b168), .val (.int (0 : Int32)), .val (.int (1 : Int32))]) rfl (pc' := 596) rfl ?_
       refine k_iload X210 hx (hb hby at_596) rfl (pc' := 598) rfl ?_
       refine k_if_eq X210 hx (hb hby at_598) (pn := 601) rfl (py := 610) (by decide) (fun _ => ?_) (fun hc => absurd (by decide) hc)
       refine k_iconst X210 hx (hb hby at_610) (pc' := 611) rfl (z := (0 : Int32)) rfl ?_
       exfalso
       have := rng64 v219
       have := rng64 v22
       have := rng64 i4
       have : (536870911 : Int64).toInt = 536870911 := (by decide)
       have q267 : v22.toInt = i4.toInt % 536870912 := (by rw [hv22]; exact c_maskL _ _ 29 (by decide) (by decide))
       have : (0 : Int64).toInt = 0 := (by decide)
       have q268 := c_orL' v22 (0 : Int64) 29 (by decide) 536870912 rfl; rw [← h228] at q268
       have q269 : ¬ v219.toInt = v22.toInt := fun q => hc266 (Int64.toInt_inj.mp q)
       omega
      ·
       refine k_aload X210 hx (hb hby at_454) rfl rfl (pc' := 456) rfl ?_
       refine k_bipush X210 hx (hb hby at_456) (pc' := 458) rfl (z := (6 : Int32)) rfl ?_
       refine k_laload X210 hx hZ rfl F231 ⟨by decide, by decide⟩ (v := (.long (-1 : Int64))) rfl (hb hby at_458) (pc' := 459) rfl ?_
       refine k_aload X210 hx (hb hby at_459) rfl rfl (pc' := 461) rfl ?_
       refine k_bipush X210 hx (hb hby at_461) (pc' := 463) rfl (z := (6 : Int32)) rfl ?_
       refine k_laload X210 hx hZ rfl F232 ⟨by decide, by decide⟩ (v := (.long (-1 : Int64))) rfl (hb hby at_463) (pc' := 464) rfl ?_
       refine k_lcif_ne X210 hx (hb hby at_464) (pm := 465) rfl (hb hby at_465) (pn := 468) rfl (py := 472) (by decide) (fun hc => absurd (by decide) hc) (fun _ => ?_)
       refine k_iconst X210 hx (hb hby at_468) (pc' := 469) rfl (z := (1 : Int32)) rfl ?_
       refine k_goto X210 hx (hb hby at_469) (pc' := 473) (by decide) ?_
       refine k_istore X210 hx (hb hby at_473) (Ls' := #[.val (.long i0), .second, .val (.long i1), .second, .val (.long i2), .second, .val (.long i3), .second, .val (.long i4), .second, .val (.int i5), .val (.ref b1), .val (.ref b24), .val (.int (1 : Int32)), .val (.ref b160), .val (.ref b168), .val (.int (1 : Int32)), .unset]) rfl (pc' := 475) rfl ?_
       refine k_aload X210 hx (hb hby at_475) rfl rfl (pc' := 477) rfl ?_
       refine k_iconst X210 hx (hb hby at_477) (pc' := 478) rfl (z := (0 : Int32)) rfl ?_
       refine k_laload X210 hx hZ rfl F229 ⟨by decide, by decide⟩ (v := (.long v2)) rfl (hb hby at_478) (pc' := 479) rfl ?_
       refine k_aload X210 hx (hb hby at_479) rfl rfl (pc' := 481) rfl ?_
       refine k_iconst X210 hx (hb hby at_481) (pc' := 482) rfl (z := (0 : Int32)) rfl ?_
       refine k_laload X210 hx hZ rfl F230 ⟨by decide, by decide⟩ (v := (.long v2)) rfl (hb hby at_482) (pc' := 483) rfl ?_
       refine k_lcif_ne X210 hx (hb hby at_483) (pm := 484) rfl (hb hby at_484) (pn := 487) rfl (py := 593) (by decide) (fun hc => absurd rfl hc) (fun _ => ?_)
       refine k_aload X210 hx (hb hby at_487) rfl rfl (pc' := 489) rfl ?_
       refine k_iconst X210 hx (hb hby at_489) (pc' := 490) rfl (z := (1 : Int32)) rfl ?_
       refine k_laload X210 hx hZ rfl F229 ⟨by decide, by decide⟩ (v := (.long v5)) rfl (hb hby at_490) (pc' := 491) rfl ?_
       refine k_aload X210 hx (hb hby at_491) rfl rfl (pc' := 493) rfl ?_
       refine k_iconst X210 hx (hb hby at_493) (pc' := 494) rfl (z := (1 : Int32)) rfl ?_
       refine k_laload X210 hx hZ rfl F230 ⟨by decide, by decide⟩ (v := (.long v5)) rfl (hb hby at_494) (pc' := 495) rfl ?_
       refine k_lcif_ne X210 hx (hb hby at_495) (pm := 496) rfl (hb hby at_496) (pn := 499) rfl (py := 593) (by decide) (fun hc => absurd rfl hc) (fun _ => ?_)
       refine k_aload X210 hx (hb hby at_499) rfl rfl (pc' := 501) rfl ?_
       refine k_iconst X210 hx (hb hby at_501) (pc' := 502) rfl (z := (2 : Int32)) rfl ?_
       refine k_laload X210 hx hZ rfl F229 ⟨by decide, by decide⟩ (v := (.long v7)) rfl (hb hby at_502) (pc' := 503) rfl ?_
       refine k_aload X210 hx (hb hby at_503) rfl rfl (pc' := 505) rfl ?_
       refine k_iconst X210 hx (hb hby at_505) (pc' := 506) rfl (z := (2 : Int32)) rfl ?_
       refine k_laload X210 hx hZ rfl F230 ⟨by decide, by decide⟩ (v := (.long v7)) rfl (hb hby at_506) (pc' := 507) rfl ?_
       refine k_lcif_ne X210 hx (hb hby at_507) (pm := 508) rfl (hb hby at_508) (pn := 511) rfl (py := 593) (by decide) (fun hc => absurd rfl hc) (fun _ => ?_)
       refine k_aload X210 hx (hb hby at_511) rfl rfl (pc' := 513) rfl ?_
       refine k_iconst X210 hx (hb hby at_513) (pc' := 514) rfl (z := (3 : Int32)) rfl ?_
       refine k_laload X210 hx hZ rfl F229 ⟨by decide, by decide⟩ (v := (.long v10)) rfl (hb hby at_514) (pc' := 515) rfl ?_
       refine k_aload X210 hx (hb hby at_515) rfl rfl (pc' := 517) rfl ?_
       refine k_iconst X210 hx (hb hby at_517) (pc' := 518) rfl (z := (3 : Int32)) rfl ?_
       refine k_laload X210 hx hZ rfl F230 ⟨by decide, by decide⟩ (v := (.long v10)) rfl (hb hby at_518) (pc' := 519) rfl ?_
       refine k_lcif_ne X210 hx (hb hby at_519) (pm := 520) rfl (hb hby at_520) (pn := 523) rfl (py := 593) (by decide) (fun hc => absurd rfl hc) (fun _ => ?_)
       refine k_aload X210 hx (hb hby at_523) rfl rfl (pc' := 525) rfl ?_
       refine k_iconst X210 hx (hb hby at_525) (pc' := 526) rfl (z := (4 : Int32)) rfl ?_
       refine k_laload X210 hx hZ rfl F229 ⟨by decide, by decide⟩ (v := (.long v12)) rfl (hb hby at_526) (pc' := 527) rfl ?_
       refine k_aload X210 hx (hb hby at_527) rfl rfl (pc' := 529) rfl ?_
       refine k_iconst X210 hx (hb hby at_529) (pc' := 530) rfl (z := (4 : Int32)) rfl ?_
       refine k_laload X210 hx hZ rfl F230 ⟨by decide, by decide⟩ (v := (.long v12)) rfl (hb hby at_530) (pc' := 531) rfl ?_
       refine k_lcif_ne X210 hx (hb hby at_531) (pm := 532) rfl (hb hby at_532) (pn := 535) rfl (py := 593) (by decide) (fun hc => absurd rfl hc) (fun _ => ?_)
       refine k_aload X210 hx (hb hby at_535) rfl rfl (pc' := 537) rfl ?_
       refine k_iconst X210 hx (hb hby at_537) (pc' := 538) rfl (z := (5 : Int32)) rfl ?_
       refine k_laload X210 hx hZ rfl F229 ⟨by decide, by decide⟩ (v := (.long v15)) rfl (hb hby at_538) (pc' := 539) rfl ?_
       refine k_aload X210 hx (hb hby at_539) rfl rfl (pc' := 541) rfl ?_
       refine k_iconst X210 hx (hb hby at_541) (pc' := 542) rfl (z := (5 : Int32)) rfl ?_
       refine k_laload X210 hx hZ rfl F230 ⟨by decide, by decide⟩ (v := (.long v15)) rfl (hb hby at_542) (pc' := 543) rfl ?_
       refine k_lcif_ne X210 hx (hb hby at_543) (pm := 544) rfl (hb hby at_544) (pn := 547) rfl (py := 593) (by decide) (fun hc => absurd rfl hc) (fun _ => ?_)
       refine k_aload X210 hx (hb hby at_547) rfl rfl (pc' := 549) rfl ?_
       refine k_bipush X210 hx (hb hby at_549) (pc' := 551) rfl (z := (6 : Int32)) rfl ?_
       refine k_laload X210 hx hZ rfl F229 ⟨by decide, by decide⟩ (v := (.long v17)) rfl (hb hby at_551) (pc' := 552) rfl ?_
       refine k_aload X210 hx (hb hby at_552) rfl rfl (pc' := 554) rfl ?_
       refine k_bipush X210 hx (hb hby at_554) (pc' := 556) rfl (z := (6 : Int32)) rfl ?_
       refine k_laload X210 hx hZ rfl F230 ⟨by decide, by decide⟩ (v := (.long v17)) rfl (hb hby at_556) (pc' := 557) rfl ?_
       refine k_lcif_ne X210 hx (hb hby at_557) (pm := 558) rfl (hb hby at_558) (pn := 561) rfl (py := 593) (by decide) (fun hc => absurd rfl hc) (fun _ => ?_)
       refine k_aload X210 hx (hb hby at_561) rfl rfl (pc' := 563) rfl ?_
       refine k_bipush X210 hx (hb hby at_563) (pc' := 565) rfl (z := (7 : Int32)) rfl ?_
       refine k_laload X210 hx hZ rfl F229 ⟨by decide, by decide⟩ (v := (.long v20)) rfl (hb hby at_565) (pc' := 566) rfl ?_
       refine k_aload X210 hx (hb hby at_566) rfl rfl (pc' := 568) rfl ?_
       refine k_bipush X210 hx (hb hby at_568) (pc' := 570) rfl (z := (7 : Int32)) rfl ?_
       refine k_laload X210 hx hZ rfl F230 ⟨by decide, by decide⟩ (v := (.long v20)) rfl (hb hby at_570) (pc' := 571) rfl ?_
       refine k_lcif_ne X210 hx (hb hby at_571) (pm := 572) rfl (hb hby at_572) (pn := 575) rfl (py := 593) (by decide) (fun hc => absurd rfl hc) (fun _ => ?_)
       refine k_aload X210 hx (hb hby at_575) rfl rfl (pc' := 577) rfl ?_
       refine k_bipush X210 hx (hb hby at_577) (pc' := 579) rfl (z := (8 : Int32)) rfl ?_
       refine k_laload X210 hx hZ rfl F229 ⟨by decide, by decide⟩ (v := (.long v22)) rfl (hb hby at_579) (pc' := 580) rfl ?_
       refine k_aload X210 hx (hb hby at_580) rfl rfl (pc' := 582) rfl ?_
       refine k_bipush X210 hx (hb hby at_582) (pc' := 584) rfl (z := (8 : Int32)) rfl ?_
       refine k_laload X210 hx hZ rfl F230 ⟨by decide, by decide⟩ (v := (.long v22)) rfl (hb hby at_584) (pc' := 585) rfl ?_
       refine k_lcif_ne X210 hx (hb hby at_585) (pm := 586) rfl (hb hby at_586) (pn := 589) rfl (py := 593) (by decide) (fun hc => absurd rfl hc) (fun _ => ?_)
       refine k_iconst X210 hx (hb hby at_589) (pc' := 590) rfl (z := (1 : Int32)) rfl ?_
       refine k_goto X210 hx (hb hby at_590) (pc' := 594) (by decide) ?_
       refine k_istore X210 hx (hb hby at_594) (Ls' := #[.val (.long i0), .second, .val (.long i1), .second, .val (.long i2), .second, .val (.long i3), .second, .val (.long i4), .second, .val (.int i5), .val (.ref b1), .val (.ref b24), .val (.int (1 : Int32)), .val (.ref b160), .val (.ref b168), .val (.int (1 : Int32)), .val (.int (1 : Int32))]) rfl (pc' := 596) rfl ?_
       refine k_iload X210 hx (hb hby at_596) rfl (pc' := 598) rfl ?_
       refine k_if_eq X210 hx (hb hby at_598) (pn := 601) rfl (py := 610) (by decide) (fun hc => absurd hc (by decide)) (fun _ => ?_)
       refine k_iload X210 hx (hb hby at_601) rfl (pc' := 603) rfl ?_
       refine k_if_eq X210 hx (hb hby at_603) (pn := 606) rfl (py := 610) (by decide) (fun hc => absurd hc (by decide)) (fun _ => ?_)
       refine k_iconst X210 hx (hb hby at_606) (pc' := 607) rfl (z := (1 : Int32)) rfl ?_
       refine k_goto X210 hx (hb hby at_607) (pc' := 611) (by decide) ?_
       exact k_retN X210 hx (t := .boolean) Bd.returns (by simp) (hb hby at_611) hlk (by decide) (by decide) (z' := (1 : Int32)) rfl ⟨rfl, N210'⟩
 ·
  show KEnds p e below s _ _ _ T42 (mkF m 198 #[.val (.long i0), .second, .val (.long i1), .second, .val (.long i2), .second, .val (.long i3), .second, .val (.long i4), .second, .val (.int i5), .val (.ref b1), .val (.ref b24), .unset, .unset, .unset, .unset, .unset] [(.int (2 : Int32))])
  refine k_istore X42 hx (hb hby at_198) (Ls' := #[.val (.long i0), .second, .val (.long i1), .second, .val (.long i2), .second, .val (.long i3), .second, .val (.long i4), .second, .val (.int i5), .val (.ref b1), .val (.ref b24), .val (.int (2 : Int32)), .unset, .unset, .unset, .unset]) rfl (pc' := 200) rfl ?_
  refine k_bipush X42 hx (hb hby at_200) (pc' := 202) rfl (z := (7 : Int32)) rfl ?_
  refine k_newA X42 hx hZ (hw _ (List.mem_of_getElem? (i := 0) rfl)) e42 (hb hby at_202) (by decide) (cap := 7) (by decide) (by decide) (by decide) (by decide) (pc' := 204) rfl (fun T271 h271 b271 k271 g271 X271 e271 E271 V271 => ?_)
  have g_b271 : n0 ≤ b271 := Nat.le_trans Z42 (Nat.le_of_eq g271.symm)
  have lt_b271 : b24 < b271 := Nat.lt_of_lt_of_le Vw42.lt (Nat.le_of_eq g271.symm)
  have Z271 : n0 ≤ h271.size := Nat.le_trans Z42 E271.1
  have Vw271 : Arv Z h271 b271 k271 .long (7 : Int32) [(.long (0 : Int64)), (.long (0 : Int64)), (.long (0 : Int64)), (.long (0 : Int64)), (.long (0 : Int64)), (.long (0 : Int64)), (.long (0 : Int64))] (.long (0 : Int64)) := V271
  refine k_astore X271 hx (hb hby at_204) rfl (Ls' := #[.val (.long i0), .second, .val (.long i1), .second, .val (.long i2), .second, .val (.long i3), .second, .val (.long i4), .second, .val (.int i5), .val (.ref b1), .val (.ref b24), .val (.int (2 : Int32)), .val (.ref b271), .unset, .unset, .unset]) rfl (pc' := 206) rfl ?_
  refine k_aload X271 hx (hb hby at_206) rfl rfl (pc' := 208) rfl ?_
  refine k_iconst X271 hx (hb hby at_208) (pc' := 209) rfl (z := (0 : Int32)) rfl ?_
  refine k_ldcL X271 hx hZ hown (hw _ (List.mem_of_getElem? (i := 3) rfl)) (hb hby at_209) (pc' := 212) rfl ?_
  refine k_lastore X271 hx hZ e271 Vw271 ⟨by decide, by decide⟩ (i := 0) rfl (Nat.le_of_ble_eq_true rfl) (hb hby at_212) (pc' := 213) rfl (fun T272 h272 X272 e272 W272 V272 => ?_)
  have Vw272 : Arv Z h272 b271 k271 .long (7 : Int32) [(.long (-1 : Int64)), (.long (0 : Int64)), (.long (0 : Int64)), (.long (0 : Int64)), (.long (0 : Int64)), (.long (0 : Int64)), (.long (0 : Int64))] (.long (0 : Int64)) := V272
  have N272 := Fr.snoc X272 N42 g_b271
  have Z272 : n0 ≤ h272.size := Nat.le_trans Z271 (Nat.le_of_eq W272.size.symm)
  refine k_aload X272 hx (hb hby at_213) rfl rfl (pc' := 215) rfl ?_
  refine k_iconst X272 hx (hb hby at_215) (pc' := 216) rfl (z := (1 : Int32)) rfl ?_
  refine k_ldcL X272 hx hZ hown (hw _ (List.mem_of_getElem? (i := 3) rfl)) (hb hby at_216) (pc' := 219) rfl ?_
  refine k_lastore X272 hx hZ e272 Vw272 ⟨by decide, by decide⟩ (i := 1) rfl (Nat.le_of_ble_eq_true rfl) (hb hby at_219) (pc' := 220) rfl (fun T273 h273 X273 e273 W273 V273 => ?_)
  have Vw273 : Arv Z h273 b271 k271 .long (7 : Int32) [(.long (-1 : Int64)), (.long (-1 : Int64)), (.long (0 : Int64)), (.long (0 : Int64)), (.long (0 : Int64)), (.long (0 : Int64)), (.long (0 : Int64))] (.long (0 : Int64)) := V273
  have N273 := Fr.snoc X273 N272 g_b271
  have Z273 : n0 ≤ h273.size := Nat.le_trans Z272 (Nat.le_of_eq W273.size.symm)
  refine k_aload X273 hx (hb hby at_220) rfl rfl (pc' := 222) rfl ?_
  refine k_iconst X273 hx (hb hby at_222) (pc' := 223) rfl (z := (2 : Int32)) rfl ?_
  refine k_ldcL X273 hx hZ hown (hw _ (List.mem_of_getElem? (i := 3) rfl)) (hb hby at_223) (pc' := 226) rfl ?_
  refine k_lastore X273 hx hZ e273 Vw273 ⟨by decide, by decide⟩ (i := 2) rfl (Nat.le_of_ble_eq_true rfl) (hb hby at_226) (pc' := 227) rfl (fun T274 h274 X274 e274 W274 V274 => ?_)
  have Vw274 : Arv Z h274 b271 k271 .long (7 : Int32) [(.long (-1 : Int64)), (.long (-1 : Int64)), (.long (-1 : Int64)), (.long (0 : Int64)), (.long (0 : Int64)), (.long (0 : Int64)), (.long (0 : Int64))] (.long (0 : Int64)) := V274
  have N274 := Fr.snoc X274 N273 g_b271
  have Z274 : n0 ≤ h274.size := Nat.le_trans Z273 (Nat.le_of_eq W274.size.symm)
  refine k_aload X274 hx (hb hby at_227) rfl rfl (pc' := 229) rfl ?_
  refine k_iconst X274 hx (hb hby at_229) (pc' := 230) rfl (z := (3 : Int32)) rfl ?_
  refine k_ldcL X274 hx hZ hown (hw _ (List.mem_of_getElem? (i := 3) rfl)) (hb hby at_230) (pc' := 233) rfl ?_
  refine k_lastore X274 hx hZ e274 Vw274 ⟨by decide, by decide⟩ (i := 3) rfl (Nat.le_of_ble_eq_true rfl) (hb hby at_233) (pc' := 234) rfl (fun T275 h275 X275 e275 W275 V275 => ?_)
  have Vw275 : Arv Z h275 b271 k271 .long (7 : Int32) [(.long (-1 : Int64)), (.long (-1 : Int64)), (.long (-1 : Int64)), (.long (-1 : Int64)), (.long (0 : Int64)), (.long (0 : Int64)), (.long (0 : Int64))] (.long (0 : Int64)) := V275
  have N275 := Fr.snoc X275 N274 g_b271
  have Z275 : n0 ≤ h275.size := Nat.le_trans Z274 (Nat.le_of_eq W275.size.symm)
  refine k_aload X275 hx (hb hby at_234) rfl rfl (pc' := 236) rfl ?_
  refine k_iconst X275 hx (hb hby at_236) (pc' := 237) rfl (z := (4 : Int32)) rfl ?_
  refine k_ldcL X275 hx hZ hown (hw _ (List.mem_of_getElem? (i := 3) rfl)) (hb hby at_237) (pc' := 240) rfl ?_
  refine k_lastore X275 hx hZ e275 Vw275 ⟨by decide, by decide⟩ (i := 4) rfl (Nat.le_of_ble_eq_true rfl) (hb hby at_240) (pc' := 241) rfl (fun T276 h276 X276 e276 W276 V276 => ?_)
  have Vw276 : Arv Z h276 b271 k271 .long (7 : Int32) [(.long (-1 : Int64)), (.long (-1 : Int64)), (.long (-1 : Int64)), (.long (-1 : Int64)), (.long (-1 : Int64)), (.long (0 : Int64)), (.long (0 : Int64))] (.long (0 : Int64)) := V276
  have N276 := Fr.snoc X276 N275 g_b271
  have Z276 : n0 ≤ h276.size := Nat.le_trans Z275 (Nat.le_of_eq W276.size.symm)
  refine k_aload X276 hx (hb hby at_241) rfl rfl (pc' := 243) rfl ?_
  refine k_iconst X276 hx (hb hby at_243) (pc' := 244) rfl (z := (5 : Int32)) rfl ?_
  refine k_ldcL X276 hx hZ hown (hw _ (List.mem_of_getElem? (i := 3) rfl)) (hb hby at_244) (pc' := 247) rfl ?_
  refine k_lastore X276 hx hZ e276 Vw276 ⟨by decide, by decide⟩ (i := 5) rfl (Nat.le_of_ble_eq_true rfl) (hb hby at_247) (pc' := 248) rfl (fun T277 h277 X277 e277 W277 V277 => ?_)
  have Vw277 : Arv Z h277 b271 k271 .long (7 : Int32) [(.long (-1 : Int64)), (.long (-1 : Int64)), (.long (-1 : Int64)), (.long (-1 : Int64)), (.long (-1 : Int64)), (.long (-1 : Int64)), (.long (0 : Int64))] (.long (0 : Int64)) := V277
  have N277 := Fr.snoc X277 N276 g_b271
  have Z277 : n0 ≤ h277.size := Nat.le_trans Z276 (Nat.le_of_eq W277.size.symm)
  refine k_aload X277 hx (hb hby at_248) rfl rfl (pc' := 250) rfl ?_
  refine k_bipush X277 hx (hb hby at_250) (pc' := 252) rfl (z := (6 : Int32)) rfl ?_
  refine k_ldcL X277 hx hZ hown (hw _ (List.mem_of_getElem? (i := 3) rfl)) (hb hby at_252) (pc' := 255) rfl ?_
  refine k_lastore X277 hx hZ e277 Vw277 ⟨by decide, by decide⟩ (i := 6) rfl (Nat.le_of_ble_eq_true rfl) (hb hby at_255) (pc' := 256) rfl (fun T278 h278 X278 e278 W278 V278 => ?_)
  have Vw278 : Arv Z h278 b271 k271 .long (7 : Int32) [(.long (-1 : Int64)), (.long (-1 : Int64)), (.long (-1 : Int64)), (.long (-1 : Int64)), (.long (-1 : Int64)), (.long (-1 : Int64)), (.long (-1 : Int64))] (.long (0 : Int64)) := V278
  have N278 := Fr.snoc X278 N277 g_b271
  have Z278 : n0 ≤ h278.size := Nat.le_trans Z277 (Nat.le_of_eq W278.size.symm)
  refine k_bipush X278 hx (hb hby at_256) (pc' := 258) rfl (z := (7 : Int32)) rfl ?_
  refine k_newA X278 hx hZ (hw _ (List.mem_of_getElem? (i := 0) rfl)) e278 (hb hby at_258) (by decide) (cap := 7) (by decide) (by decide) (by decide) (by decide) (pc' := 260) rfl (fun T279 h279 b279 k279 g279 X279 e279 E279 V279 => ?_)
  have g_b279 : n0 ≤ b279 := Nat.le_trans Z278 (Nat.le_of_eq g279.symm)
  have lt_b279 : b271 < b279 := Nat.lt_of_lt_of_le Vw278.lt (Nat.le_of_eq g279.symm)
  have Z279 : n0 ≤ h279.size := Nat.le_trans Z278 E279.1
  have Vw279 : Arv Z h279 b279 k279 .long (7 : Int32) [(.long (0 : Int64)), (.long (0 : Int64)), (.long (0 : Int64)), (.long (0 : Int64)), (.long (0 : Int64)), (.long (0 : Int64)), (.long (0 : Int64))] (.long (0 : Int64)) := V279
  refine k_astore X279 hx (hb hby at_260) rfl (Ls' := #[.val (.long i0), .second, .val (.long i1), .second, .val (.long i2), .second, .val (.long i3), .second, .val (.long i4), .second, .val (.int i5), .val (.ref b1), .val (.ref b24), .val (.int (2 : Int32)), .val (.ref b271), .val (.ref b279), .unset, .unset]) rfl (pc' := 262) rfl ?_
  refine k_aload X279 hx (hb hby at_262) rfl rfl (pc' := 264) rfl ?_
  refine k_iconst X279 hx (hb hby at_264) (pc' := 265) rfl (z := (0 : Int32)) rfl ?_
  refine k_ldcL X279 hx hZ hown (hw _ (List.mem_of_getElem? (i := 3) rfl)) (hb hby at_265) (pc' := 268) rfl ?_
  refine k_lastore X279 hx hZ e279 Vw279 ⟨by decide, by decide⟩ (i := 0) rfl (Nat.le_of_ble_eq_true rfl) (hb hby at_268) (pc' := 269) rfl (fun T280 h280 X280 e280 W280 V280 => ?_)
  have Vw280 : Arv Z h280 b279 k279 .long (7 : Int32) [(.long (-1 : Int64)), (.long (0 : Int64)), (.long (0 : Int64)), (.long (0 : Int64)), (.long (0 : Int64)), (.long (0 : Int64)), (.long (0 : Int64))] (.long (0 : Int64)) := V280
  have N280 := Fr.snoc X280 N278 g_b279
  have Z280 : n0 ≤ h280.size := Nat.le_trans Z279 (Nat.le_of_eq W280.size.symm)
  refine k_aload X280 hx (hb hby at_269) rfl rfl (pc' := 271) rfl ?_
  refine k_iconst X280 hx (hb hby at_271) (pc' := 272) rfl (z := (1 : Int32)) rfl ?_
  refine k_ldcL X280 hx hZ hown (hw _ (List.mem_of_getElem? (i := 3) rfl)) (hb hby at_272) (pc' := 275) rfl ?_
  refine k_lastore X280 hx hZ e280 Vw280 ⟨by decide, by decide⟩ (i := 1) rfl (Nat.le_of_ble_eq_true rfl) (hb hby at_275) (pc' := 276) rfl (fun T281 h281 X281 e281 W281 V281 => ?_)
  have Vw281 : Arv Z h281 b279 k279 .long (7 : Int32) [(.long (-1 : Int64)), (.long (-1 : Int64)), (.long (0 : Int64)), (.long (0 : Int64)), (.long (0 : Int64)), (.long (0 : Int64)), (.long (0 : Int64))] (.long (0 : Int64)) := V281
  have N281 := Fr.snoc X281 N280 g_b279
  have Z281 : n0 ≤ h281.size := Nat.le_trans Z280 (Nat.le_of_eq W281.size.symm)
  refine k_aload X281 hx (hb hby at_276) rfl rfl (pc' := 278) rfl ?_
  refine k_iconst X281 hx (hb hby at_278) (pc' := 279) rfl (z := (2 : Int32)) rfl ?_
  refine k_ldcL X281 hx hZ hown (hw _ (List.mem_of_getElem? (i := 3) rfl)) (hb hby at_279) (pc' := 282) rfl ?_
  refine k_lastore X281 hx hZ e281 Vw281 ⟨by decide, by decide⟩ (i := 2) rfl (Nat.le_of_ble_eq_true rfl) (hb hby at_282) (pc' := 283) rfl (fun T282 h282 X282 e282 W282 V282 => ?_)
  have Vw282 : Arv Z h282 b279 k279 .long (7 : Int32) [(.long (-1 : Int64)), (.long (-1 : Int64)), (.long (-1 : Int64)), (.long (0 : Int64)), (.long (0 : Int64)), (.long (0 : Int64)), (.long (0 : Int64))] (.long (0 : Int64)) := V282
  have N282 := Fr.snoc X282 N281 g_b279
  have Z282 : n0 ≤ h282.size := Nat.le_trans Z281 (Nat.le_of_eq W282.size.symm)
  refine k_aload X282 hx (hb hby at_283) rfl rfl (pc' := 285) rfl ?_
  refine k_iconst X282 hx (hb hby at_285) (pc' := 286) rfl (z := (3 : Int32)) rfl ?_
  refine k_ldcL X282 hx hZ hown (hw _ (List.mem_of_getElem? (i := 3) rfl)) (hb hby at_286) (pc' := 289) rfl ?_
  refine k_lastore X282 hx hZ e282 Vw282 ⟨by decide, by decide⟩ (i := 3) rfl (Nat.le_of_ble_eq_true rfl) (hb hby at_289) (pc' := 290) rfl (fun T283 h283 X283 e283 W283 V283 => ?_)
  have Vw283 : Arv Z h283 b279 k279 .long (7 : Int32) [(.long (-1 : Int64)), (.long (-1 : Int64)), (.long (-1 : Int64)), (.long (-1 : Int64)), (.long (0 : Int64)), (.long (0 : Int64)), (.long (0 : Int64))] (.long (0 : Int64)) := V283
  have N283 := Fr.snoc X283 N282 g_b279
  have Z283 : n0 ≤ h283.size := Nat.le_trans Z282 (Nat.le_of_eq W283.size.symm)
  refine k_aload X283 hx (hb hby at_290) rfl rfl (pc' := 292) rfl ?_
  refine k_iconst X283 hx (hb hby at_292) (pc' := 293) rfl (z := (4 : Int32)) rfl ?_
  refine k_ldcL X283 hx hZ hown (hw _ (List.mem_of_getElem? (i := 3) rfl)) (hb hby at_293) (pc' := 296) rfl ?_
  refine k_lastore X283 hx hZ e283 Vw283 ⟨by decide, by decide⟩ (i := 4) rfl (Nat.le_of_ble_eq_true rfl) (hb hby at_296) (pc' := 297) rfl (fun T284 h284 X284 e284 W284 V284 => ?_)
  have Vw284 : Arv Z h284 b279 k279 .long (7 : Int32) [(.long (-1 : Int64)), (.long (-1 : Int64)), (.long (-1 : Int64)), (.long (-1 : Int64)), (.long (-1 : Int64)), (.long (0 : Int64)), (.long (0 : Int64))] (.long (0 : Int64)) := V284
  have N284 := Fr.snoc X284 N283 g_b279
  have Z284 : n0 ≤ h284.size := Nat.le_trans Z283 (Nat.le_of_eq W284.size.symm)
  refine k_aload X284 hx (hb hby at_297) rfl rfl (pc' := 299) rfl ?_
  refine k_iconst X284 hx (hb hby at_299) (pc' := 300) rfl (z := (5 : Int32)) rfl ?_
  refine k_ldcL X284 hx hZ hown (hw _ (List.mem_of_getElem? (i := 3) rfl)) (hb hby at_300) (pc' := 303) rfl ?_
  refine k_lastore X284 hx hZ e284 Vw284 ⟨by decide, by decide⟩ (i := 5) rfl (Nat.le_of_ble_eq_true rfl) (hb hby at_303) (pc' := 304) rfl (fun T285 h285 X285 e285 W285 V285 => ?_)
  have Vw285 : Arv Z h285 b279 k279 .long (7 : Int32) [(.long (-1 : Int64)), (.long (-1 : Int64)), (.long (-1 : Int64)), (.long (-1 : Int64)), (.long (-1 : Int64)), (.long (-1 : Int64)), (.long (0 : Int64))] (.long (0 : Int64)) := V285
  have N285 := Fr.snoc X285 N284 g_b279
  have Z285 : n0 ≤ h285.size := Nat.le_trans Z284 (Nat.le_of_eq W285.size.symm)
  refine k_aload X285 hx (hb hby at_304) rfl rfl (pc' := 306) rfl ?_
  refine k_bipush X285 hx (hb hby at_306) (pc' := 308) rfl (z := (6 : Int32)) rfl ?_
  refine k_ldcL X285 hx hZ hown (hw _ (List.mem_of_getElem? (i := 3) rfl)) (hb hby at_308) (pc' := 311) rfl ?_
  refine k_lastore X285 hx hZ e285 Vw285 ⟨by decide, by decide⟩ (i := 6) rfl (Nat.le_of_ble_eq_true rfl) (hb hby at_311) (pc' := 312) rfl (fun T286 h286 X286 e286 W286 V286 => ?_)
  have Vw286 : Arv Z h286 b279 k279 .long (7 : Int32) [(.long (-1 : Int64)), (.long (-1 : Int64)), (.long (-1 : Int64)), (.long (-1 : Int64)), (.long (-1 : Int64)), (.long (-1 : Int64)), (.long (-1 : Int64))] (.long (0 : Int64)) := V286
  have N286 := Fr.snoc X286 N285 g_b279
  have Z286 : n0 ≤ h286.size := Nat.le_trans Z285 (Nat.le_of_eq W286.size.symm)
  refine k_aload X286 hx (hb hby at_312) rfl rfl (pc' := 314) rfl ?_
  refine k_iload X286 hx (hb hby at_314) rfl (pc' := 316) rfl ?_
  refine k_lloadN X286 hx (hb hby at_316) rfl (pc' := 317) rfl ?_
  refine k_ldcL X286 hx hZ hown (hw _ (List.mem_of_getElem? (i := 4) rfl)) (hb hby at_317) (pc' := 320) rfl ?_
  refine k_land X286 hx (hb hby at_320) (pc' := 321) rfl (fun v287 hv287 => ?_)
  refine k_lastore X286 hx hZ e286 Vw286 ⟨by decide, by decide⟩ (i := 2) rfl (Nat.le_of_ble_eq_true rfl) (hb hby at_321) (pc' := 322) rfl (fun T288 h288 X288 e288 W288 V288 => ?_)
  have Vw288 : Arv Z h288 b279 k279 .long (7 : Int32) [(.long (-1 : Int64)), (.long (-1 : Int64)), (.long v287), (.long (-1 : Int64)), (.long (-1 : Int64)), (.long (-1 : Int64)), (.long (-1 : Int64))] (.long (0 : Int64)) := V288
  have N288 := Fr.snoc X288 N286 g_b279
  have Z288 : n0 ≤ h288.size := Nat.le_trans Z286 (Nat.le_of_eq W288.size.symm)
  refine k_aload X288 hx (hb hby at_322) rfl rfl (pc' := 324) rfl ?_
  refine k_iload X288 hx (hb hby at_324) rfl (pc' := 326) rfl ?_
  refine k_iconst X288 hx (hb hby at_326) (pc' := 327) rfl (z := (1 : Int32)) rfl ?_
  refine k_iaddL X288 hx (hb hby at_327) (pc' := 328) rfl (z := (3 : Int32)) (by decide) ?_
  refine k_lloadN X288 hx (hb hby at_328) rfl (pc' := 329) rfl ?_
  refine k_ldcL X288 hx hZ hown (hw _ (List.mem_of_getElem? (i := 4) rfl)) (hb hby at_329) (pc' := 332) rfl ?_
  refine k_land X288 hx (hb hby at_332) (pc' := 333) rfl (fun v289 hv289 => ?_)
  refine k_lastore X288 hx hZ e288 Vw288 ⟨by decide, by decide⟩ (i := 3) rfl (Nat.le_of_ble_eq_true rfl) (hb hby at_333) (pc' := 334) rfl (fun T290 h290 X290 e290 W290 V290 => ?_)
  have Vw290 : Arv Z h290 b279 k279 .long (7 : Int32) [(.long (-1 : Int64)), (.long (-1 : Int64)), (.long v287), (.long v289), (.long (-1 : Int64)), (.long (-1 : Int64)), (.long (-1 : Int64))] (.long (0 : Int64)) := V290
  have N290 := Fr.snoc X290 N288 g_b279
  have Z290 : n0 ≤ h290.size := Nat.le_trans Z288 (Nat.le_of_eq W290.size.symm)
  refine k_aload X290 hx (hb hby at_334) rfl rfl (pc' := 336) rfl ?_
  refine k_iload X290 hx (hb hby at_336) rfl (pc' := 338) rfl ?_
  refine k_iconst X290 hx (hb hby at_338) (pc' := 339) rfl (z := (2 : Int32)) rfl ?_
  refine k_iaddL X290 hx (hb hby at_339) (pc' := 340) rfl (z := (4 : Int32)) (by decide) ?_
  refine k_lload X290 hx (hb hby at_340) rfl (pc' := 342) rfl ?_
  refine k_ldcL X290 hx hZ hown (hw _ (List.mem_of_getElem? (i := 4) rfl)) (hb hby at_342) (pc' := 345) rfl ?_
  refine k_land X290 hx (hb hby at_345) (pc' := 346) rfl (fun v291 hv291 => ?_)
  refine k_lastore X290 hx hZ e290 Vw290 ⟨by decide, by decide⟩ (i := 4) rfl (Nat.le_of_ble_eq_true rfl) (hb hby at_346) (pc' := 347) rfl (fun T292 h292 X292 e292 W292 V292 => ?_)
  have Vw292 : Arv Z h292 b279 k279 .long (7 : Int32) [(.long (-1 : Int64)), (.long (-1 : Int64)), (.long v287), (.long v289), (.long v291), (.long (-1 : Int64)), (.long (-1 : Int64))] (.long (0 : Int64)) := V292
  have N292 := Fr.snoc X292 N290 g_b279
  have Z292 : n0 ≤ h292.size := Nat.le_trans Z290 (Nat.le_of_eq W292.size.symm)
  refine k_aload X292 hx (hb hby at_347) rfl rfl (pc' := 349) rfl ?_
  refine k_iload X292 hx (hb hby at_349) rfl (pc' := 351) rfl ?_
  refine k_iconst X292 hx (hb hby at_351) (pc' := 352) rfl (z := (3 : Int32)) rfl ?_
  refine k_iaddL X292 hx (hb hby at_352) (pc' := 353) rfl (z := (5 : Int32)) (by decide) ?_
  refine k_lload X292 hx (hb hby at_353) rfl (pc' := 355) rfl ?_
  refine k_ldcL X292 hx hZ hown (hw _ (List.mem_of_getElem? (i := 4) rfl)) (hb hby at_355) (pc' := 358) rfl ?_
  refine k_land X292 hx (hb hby at_358) (pc' := 359) rfl (fun v293 hv293 => ?_)
  refine k_lastore X292 hx hZ e292 Vw292 ⟨by decide, by decide⟩ (i := 5) rfl (Nat.le_of_ble_eq_true rfl) (hb hby at_359) (pc' := 360) rfl (fun T294 h294 X294 e294 W294 V294 => ?_)
  have Vw294 : Arv Z h294 b279 k279 .long (7 : Int32) [(.long (-1 : Int64)), (.long (-1 : Int64)), (.long v287), (.long v289), (.long v291), (.long v293), (.long (-1 : Int64))] (.long (0 : Int64)) := V294
  have N294 := Fr.snoc X294 N292 g_b279
  have Z294 : n0 ≤ h294.size := Nat.le_trans Z292 (Nat.le_of_eq W294.size.symm)
  refine k_aload X294 hx (hb hby at_360) rfl rfl (pc' := 362) rfl ?_
  refine k_iload X294 hx (hb hby at_362) rfl (pc' := 364) rfl ?_
  refine k_iconst X294 hx (hb hby at_364) (pc' := 365) rfl (z := (4 : Int32)) rfl ?_
  refine k_iaddL X294 hx (hb hby at_365) (pc' := 366) rfl (z := (6 : Int32)) (by decide) ?_
  refine k_lload X294 hx (hb hby at_366) rfl (pc' := 368) rfl ?_
  refine k_ldcL X294 hx hZ hown (hw _ (List.mem_of_getElem? (i := 1) rfl)) (hb hby at_368) (pc' := 371) rfl ?_
  refine k_landL X294 hx (hb hby at_371) (pc' := 372) rfl (z := v22) hv22.symm ?_
  refine k_lastore X294 hx hZ e294 Vw294 ⟨by decide, by decide⟩ (i := 6) rfl (Nat.le_of_ble_eq_true rfl) (hb hby at_372) (pc' := 373) rfl (fun T295 h295 X295 e295 W295 V295 => ?_)
  have Vw295 : Arv Z h295 b279 k279 .long (7 : Int32) [(.long (-1 : Int64)), (.long (-1 : Int64)), (.long v287), (.long v289), (.long v291), (.long v293), (.long v22)] (.long (0 : Int64)) := V295
  have N295 := Fr.snoc X295 N294 g_b279
  have Z295 : n0 ≤ h295.size := Nat.le_trans Z294 (Nat.le_of_eq W295.size.symm)
  refine k_aload X295 hx (hb hby at_373) rfl rfl (pc' := 375) rfl ?_
  refine k_aload X295 hx (hb hby at_375) rfl rfl (pc' := 377) rfl ?_
  refine k_iload X295 hx (hb hby at_377) rfl (pc' := 379) rfl ?_
  have F296 := ((((((((((((((((((((((F41.other W42 (Nat.ne_of_lt lt_b24)).ext E271).other W272 (Nat.ne_of_lt (Nat.lt_trans lt_b24 lt_b271))).other W273 (Nat.ne_of_lt (Nat.lt_trans lt_b24 lt_b271))).other W274 (Nat.ne_of_lt (Nat.lt_trans lt_b24 lt_b271))).other W275 (Nat.ne_of_lt (Nat.lt_trans lt_b24 lt_b271))).other W276 (Nat.ne_of_lt (Nat.lt_trans lt_b24 lt_b271))).other W277 (Nat.ne_of_lt (Nat.lt_trans lt_b24 lt_b271))).other W278 (Nat.ne_of_lt (Nat.lt_trans lt_b24 lt_b271))).ext E279).other W280 (Nat.ne_of_lt (Nat.lt_trans (Nat.lt_trans lt_b24 lt_b271) lt_b279))).other W281 (Nat.ne_of_lt (Nat.lt_trans (Nat.lt_trans lt_b24 lt_b271) lt_b279))).other W282 (Nat.ne_of_lt (Nat.lt_trans (Nat.lt_trans lt_b24 lt_b271) lt_b279))).other W283 (Nat.ne_of_lt (Nat.lt_trans (Nat.lt_trans lt_b24 lt_b271) lt_b279))).other W284 (Nat.ne_of_lt (Nat.lt_trans (Nat.lt_trans lt_b24 lt_b271) lt_b279))).other W285 (Nat.ne_of_lt (Nat.lt_trans (Nat.lt_trans lt_b24 lt_b271) lt_b279))).other W286 (Nat.ne_of_lt (Nat.lt_trans (Nat.lt_trans lt_b24 lt_b271) lt_b279))).other W288 (Nat.ne_of_lt (Nat.lt_trans (Nat.lt_trans lt_b24 lt_b271) lt_b279))).other W290 (Nat.ne_of_lt (Nat.lt_trans (Nat.lt_trans lt_b24 lt_b271) lt_b279))).other W292 (Nat.ne_of_lt (Nat.lt_trans (Nat.lt_trans lt_b24 lt_b271) lt_b279))).other W294 (Nat.ne_of_lt (Nat.lt_trans (Nat.lt_trans lt_b24 lt_b271) lt_b279))).other W295 (Nat.ne_of_lt (Nat.lt_trans (Nat.lt_trans lt_b24 lt_b271) lt_b279)))
  have F297 := (((((((((((((((((((((Vw42.ext E271).other W272 (Nat.ne_of_lt lt_b271)).other W273 (Nat.ne_of_lt lt_b271)).other W274 (Nat.ne_of_lt lt_b271)).other W275 (Nat.ne_of_lt lt_b271)).other W276 (Nat.ne_of_lt lt_b271)).other W277 (Nat.ne_of_lt lt_b271)).other W278 (Nat.ne_of_lt lt_b271)).ext E279).other W280 (Nat.ne_of_lt (Nat.lt_trans lt_b271 lt_b279))).other W281 (Nat.ne_of_lt (Nat.lt_trans lt_b271 lt_b279))).other W282 (Nat.ne_of_lt (Nat.lt_trans lt_b271 lt_b279))).other W283 (Nat.ne_of_lt (Nat.lt_trans lt_b271 lt_b279))).other W284 (Nat.ne_of_lt (Nat.lt_trans lt_b271 lt_b279))).other W285 (Nat.ne_of_lt (Nat.lt_trans lt_b271 lt_b279))).other W286 (Nat.ne_of_lt (Nat.lt_trans lt_b271 lt_b279))).other W288 (Nat.ne_of_lt (Nat.lt_trans lt_b271 lt_b279))).other W290 (Nat.ne_of_lt (Nat.lt_trans lt_b271 lt_b279))).other W292 (Nat.ne_of_lt (Nat.lt_trans lt_b271 lt_b279))).other W294 (Nat.ne_of_lt (Nat.lt_trans lt_b271 lt_b279))).other W295 (Nat.ne_of_lt (Nat.lt_trans lt_b271 lt_b279)))
  have F298 := (((((((((((((Vw278.ext E279).other W280 (Nat.ne_of_lt lt_b279)).other W281 (Nat.ne_of_lt lt_b279)).other W282 (Nat.ne_of_lt lt_b279)).other W283 (Nat.ne_of_lt lt_b279)).other W284 (Nat.ne_of_lt lt_b279)).other W285 (Nat.ne_of_lt lt_b279)).other W286 (Nat.ne_of_lt lt_b279)).other W288 (Nat.ne_of_lt lt_b279)).other W290 (Nat.ne_of_lt lt_b279)).other W292 (Nat.ne_of_lt lt_b279)).other W294 (Nat.ne_of_lt lt_b279)).other W295 (Nat.ne_of_lt lt_b279))
  refine k_callS X295 hx hZ hown (hw _ (List.mem_of_getElem? (i := 5) rfl)) (hw _ (List.mem_of_getElem? (i := 6) rfl)) (hw _ (List.mem_of_getElem? (i := 7) rfl)) (hw _ (List.mem_of_getElem? (i := 8) rfl)) (by decide) (rm1_299 l Z a0 hw [] b1 b271 k1 v2 v5 v7 v10 v12 v15 v17 v20 v22 b24 k24 k271 b279 k279 v287 v289 v291 v293 h295 n0 Z295 F296 g_b1 F297 g_b24 F298 g_b271 Vw295 g_b279 lt_b24 lt_b271 lt_b279) (by decide) (by decide) e295 (by rw [hml]; rfl) (argsL := [(.ref b1), (.ref b271), (.int (2 : Int32))]) (rest := []) (lenOf pd_0 rfl) rfl (W := 0) (Nat.le_refl _) rfl (hb hby at_379) (by decide) (by decide) (pc' := 382) rfl (fun T321 L321 r321 X321 q321 => ?_)
  obtain ⟨N321, q321⟩ := q321
  have N321' := Fr.app N295 N321
  obtain ⟨v322, v323, v324, v325, v326, v327, v328, v329, v330, h331, h332, h333, h334, h335, h336, h337, h338, h339, rfl, F340, F341, F342, F343, Z344⟩ := q321
  show KEnds p e below s _ _ _ T321 (mkF m 382 #[.val (.long i0), .second, .val (.long i1), .second, .val (.long i2), .second, .val (.long i3), .second, .val (.long i4), .second, .val (.int i5), .val (.ref b1), .val (.ref b24), .val (.int (2 : Int32)), .val (.ref b271), .val (.ref b279), .unset, .unset] [])
  refine k_aload X321 hx (hb hby at_382) rfl rfl (pc' := 384) rfl ?_
  refine k_iconst X321 hx (hb hby at_384) (pc' := 385) rfl (z := (0 : Int32)) rfl ?_
  refine k_laload X321 hx hZ rfl F342 ⟨by decide, by decide⟩ (v := (.long (-1 : Int64))) rfl (hb hby at_385) (pc' := 386) rfl ?_
  refine k_aload X321 hx (hb hby at_386) rfl rfl (pc' := 388) rfl ?_
  refine k_iconst X321 hx (hb hby at_388) (pc' := 389) rfl (z := (0 : Int32)) rfl ?_
  refine k_laload X321 hx hZ rfl F343 ⟨by decide, by decide⟩ (v := (.long (-1 : Int64))) rfl (hb hby at_389) (pc' := 390) rfl ?_
  refine k_lcif_ne X321 hx (hb hby at_390) (pm := 391) rfl (hb hby at_391) (pn := 394) rfl (py := 472) (by decide) (fun hc => absurd (by decide) hc) (fun _ => ?_)
  refine k_aload X321 hx (hb hby at_394) rfl rfl (pc' := 396) rfl ?_
  refine k_iconst X321 hx (hb hby at_396) (pc' := 397) rfl (z := (1 : Int32)) rfl ?_
  refine k_laload X321 hx hZ rfl F342 ⟨by decide, by decide⟩ (v := (.long (-1 : Int64))) rfl (hb hby at_397) (pc' := 398) rfl ?_
  refine k_aload X321 hx (hb hby at_398) rfl rfl (pc' := 400) rfl ?_
  refine k_iconst X321 hx (hb hby at_400) (pc' := 401) rfl (z := (1 : Int32)) rfl ?_
  refine k_laload X321 hx hZ rfl F343 ⟨by decide, by decide⟩ (v := (.long (-1 : Int64))) rfl (hb hby at_401) (pc' := 402) rfl ?_
  refine k_lcif_ne X321 hx (hb hby at_402) (pm := 403) rfl (hb hby at_403) (pn := 406) rfl (py := 472) (by decide) (fun hc => absurd (by decide) hc) (fun _ => ?_)
  refine k_aload X321 hx (hb hby at_406) rfl rfl (pc' := 408) rfl ?_
  refine k_iconst X321 hx (hb hby at_408) (pc' := 409) rfl (z := (2 : Int32)) rfl ?_
  refine k_laload X321 hx hZ rfl F342 ⟨by decide, by decide⟩ (v := (.long v323)) rfl (hb hby at_409) (pc' := 410) rfl ?_
  refine k_aload X321 hx (hb hby at_410) rfl rfl (pc' := 412) rfl ?_
  refine k_iconst X321 hx (hb hby at_412) (pc' := 413) rfl (z := (2 : Int32)) rfl ?_
  refine k_laload X321 hx hZ rfl F343 ⟨by decide, by decide⟩ (v := (.long v287)) rfl (hb hby at_413) (pc' := 414) rfl ?_
  refine k_lcif_ne X321 hx (hb hby at_414) (pm := 415) rfl (hb hby at_415) (pn := 418) rfl (py := 472) (by decide) (fun hc345 => ?_) (fun hc345 => ?_)
  ·
   refine k_iconst X321 hx (hb hby at_472) (pc' := 473) rfl (z := (0 : Int32)) rfl ?_
   refine k_istore X321 hx (hb hby at_473) (Ls' := #[.val (.long i0), .second, .val (.long i1), .second, .val (.long i2), .second, .val (.long i3), .second, .val (.long i4), .second, .val (.int i5), .val (.ref b1), .val (.ref b24), .val (.int (2 : Int32)), .val (.ref b271), .val (.ref b279), .val (.int (0 : Int32)), .unset]) rfl (pc' := 475) rfl ?_
   refine k_aload X321 hx (hb hby at_475) rfl rfl (pc' := 477) rfl ?_
   refine k_iconst X321 hx (hb hby at_477) (pc' := 478) rfl (z := (0 : Int32)) rfl ?_
   refine k_laload X321 hx hZ rfl F340 ⟨by decide, by decide⟩ (v := (.long v2)) rfl (hb hby at_478) (pc' := 479) rfl ?_
   refine k_aload X321 hx (hb hby at_479) rfl rfl (pc' := 481) rfl ?_
   refine k_iconst X321 hx (hb hby at_481) (pc' := 482) rfl (z := (0 : Int32)) rfl ?_
   refine k_laload X321 hx hZ rfl F341 ⟨by decide, by decide⟩ (v := (.long v2)) rfl (hb hby at_482) (pc' := 483) rfl ?_
   refine k_lcif_ne X321 hx (hb hby at_483) (pm := 484) rfl (hb hby at_484) (pn := 487) rfl (py := 593) (by decide) (fun hc => absurd rfl hc) (fun _ => ?_)
   refine k_aload X321 hx (hb hby at_487) rfl rfl (pc' := 489) rfl ?_
   refine k_iconst X321 hx (hb hby at_489) (pc' := 490) rfl (z := (1 : Int32)) rfl ?_
   refine k_laload X321 hx hZ rfl F340 ⟨by decide, by decide⟩ (v := (.long v5)) rfl (hb hby at_490) (pc' := 491) rfl ?_
   refine k_aload X321 hx (hb hby at_491) rfl rfl (pc' := 493) rfl ?_
   refine k_iconst X321 hx (hb hby at_493) (pc' := 494) rfl (z := (1 : Int32)) rfl ?_
   refine k_laload X321 hx hZ rfl F341 ⟨by decide, by decide⟩ (v := (.long v5)) rfl (hb hby at_494) (pc' := 495) rfl ?_
   refine k_lcif_ne X321 hx (hb hby at_495) (pm := 496) rfl (hb hby at_496) (pn := 499) rfl (py := 593) (by decide) (fun hc => absurd rfl hc) (fun _ => ?_)
   refine k_aload X321 hx (hb hby at_499) rfl rfl (pc' := 501) rfl ?_
   refine k_iconst X321 hx (hb hby at_501) (pc' := 502) rfl (z := (2 : Int32)) rfl ?_
   refine k_laload X321 hx hZ rfl F340 ⟨by decide, by decide⟩ (v := (.long v7)) rfl (hb hby at_502) (pc' := 503) rfl ?_
   refine k_aload X321 hx (hb hby at_503) rfl rfl (pc' := 505) rfl ?_
   refine k_iconst X321 hx (hb hby at_505) (pc' := 506) rfl (z := (2 : Int32)) rfl ?_
   refine k_laload X321 hx hZ rfl F341 ⟨by decide, by decide⟩ (v := (.long v7)) rfl (hb hby at_506) (pc' := 507) rfl ?_
   refine k_lcif_ne X321 hx (hb hby at_507) (pm := 508) rfl (hb hby at_508) (pn := 511) rfl (py := 593) (by decide) (fun hc => absurd rfl hc) (fun _ => ?_)
   refine k_aload X321 hx (hb hby at_511) rfl rfl (pc' := 513) rfl ?_
   refine k_iconst X321 hx (hb hby at_513) (pc' := 514) rfl (z := (3 : Int32)) rfl ?_
   refine k_laload X321 hx hZ rfl F340 ⟨by decide, by decide⟩ (v := (.long v10)) rfl (hb hby at_514) (pc' := 515) rfl ?_
   refine k_aload X321 hx (hb hby at_515) rfl rfl (pc' := 517) rfl ?_
   refine k_iconst X321 hx (hb hby at_517) (pc' := 518) rfl (z := (3 : Int32)) rfl ?_
   refine k_laload X321 hx hZ rfl F341 ⟨by decide, by decide⟩ (v := (.long v10)) rfl (hb hby at_518) (pc' := 519) rfl ?_
   refine k_lcif_ne X321 hx (hb hby at_519) (pm := 520) rfl (hb hby at_520) (pn := 523) rfl (py := 593) (by decide) (fun hc => absurd rfl hc) (fun _ => ?_)
   refine k_aload X321 hx (hb hby at_523) rfl rfl (pc' := 525) rfl ?_
   refine k_iconst X321 hx (hb hby at_525) (pc' := 526) rfl (z := (4 : Int32)) rfl ?_
   refine k_laload X321 hx hZ rfl F340 ⟨by decide, by decide⟩ (v := (.long v12)) rfl (hb hby at_526) (pc' := 527) rfl ?_
   refine k_aload X321 hx (hb hby at_527) rfl rfl (pc' := 529) rfl ?_
   refine k_iconst X321 hx (hb hby at_529) (pc' := 530) rfl (z := (4 : Int32)) rfl ?_
   refine k_laload X321 hx hZ rfl F341 ⟨by decide, by decide⟩ (v := (.long v12)) rfl (hb hby at_530) (pc' := 531) rfl ?_
   refine k_lcif_ne X321 hx (hb hby at_531) (pm := 532) rfl (hb hby at_532) (pn := 535) rfl (py := 593) (by decide) (fun hc => absurd rfl hc) (fun _ => ?_)
   refine k_aload X321 hx (hb hby at_535) rfl rfl (pc' := 537) rfl ?_
   refine k_iconst X321 hx (hb hby at_537) (pc' := 538) rfl (z := (5 : Int32)) rfl ?_
   refine k_laload X321 hx hZ rfl F340 ⟨by decide, by decide⟩ (v := (.long v15)) rfl (hb hby at_538) (pc' := 539) rfl ?_
   refine k_aload X321 hx (hb hby at_539) rfl rfl (pc' := 541) rfl ?_
   refine k_iconst X321 hx (hb hby at_541) (pc' := 542) rfl (z := (5 : Int32)) rfl ?_
   refine k_laload X321 hx hZ rfl F341 ⟨by decide, by decide⟩ (v := (.long v15)) rfl (hb hby at_542) (pc' := 543) rfl ?_
   refine k_lcif_ne X321 hx (hb hby at_543) (pm := 544) rfl (hb hby at_544) (pn := 547) rfl (py := 593) (by decide) (fun hc => absurd rfl hc) (fun _ => ?_)
   refine k_aload X321 hx (hb hby at_547) rfl rfl (pc' := 549) rfl ?_
   refine k_bipush X321 hx (hb hby at_549) (pc' := 551) rfl (z := (6 : Int32)) rfl ?_
   refine k_laload X321 hx hZ rfl F340 ⟨by decide, by decide⟩ (v := (.long v17)) rfl (hb hby at_551) (pc' := 552) rfl ?_
   refine k_aload X321 hx (hb hby at_552) rfl rfl (pc' := 554) rfl ?_
   refine k_bipush X321 hx (hb hby at_554) (pc' := 556) rfl (z := (6 : Int32)) rfl ?_
   refine k_laload X321 hx hZ rfl F341 ⟨by decide, by decide⟩ (v := (.long v17)) rfl (hb hby at_556) (pc' := 557) rfl ?_
   refine k_lcif_ne X321 hx (hb hby at_557) (pm := 558) rfl (hb hby at_558) (pn := 561) rfl (py := 593) (by decide) (fun hc => absurd rfl hc) (fun _ => ?_)
   refine k_aload X321 hx (hb hby at_561) rfl rfl (pc' := 563) rfl ?_
   refine k_bipush X321 hx (hb hby at_563) (pc' := 565) rfl (z := (7 : Int32)) rfl ?_
   refine k_laload X321 hx hZ rfl F340 ⟨by decide, by decide⟩ (v := (.long v20)) rfl (hb hby at_565) (pc' := 566) rfl ?_
   refine k_aload X321 hx (hb hby at_566) rfl rfl (pc' := 568) rfl ?_
   refine k_bipush X321 hx (hb hby at_568) (pc' := 570) rfl (z := (7 : Int32)) rfl ?_
   refine k_laload X321 hx hZ rfl F341 ⟨by decide, by decide⟩ (v := (.long v20)) rfl (hb hby at_570) (pc' := 571) rfl ?_
   refine k_lcif_ne X321 hx (hb hby at_571) (pm := 572) rfl (hb hby at_572) (pn := 575) rfl (py := 593) (by decide) (fun hc => absurd rfl hc) (fun _ => ?_)
   refine k_aload X321 hx (hb hby at_575) rfl rfl (pc' := 577) rfl ?_
   refine k_bipush X321 hx (hb hby at_577) (pc' := 579) rfl (z := (8 : Int32)) rfl ?_
   refine k_laload X321 hx hZ rfl F340 ⟨by decide, by decide⟩ (v := (.long v22)) rfl (hb hby at_579) (pc' := 580) rfl ?_
   refine k_aload X321 hx (hb hby at_580) rfl rfl (pc' := 582) rfl ?_
   refine k_bipush X321 hx (hb hby at_582) (pc' := 584) rfl (z := (8 : Int32)) rfl ?_
   refine k_laload X321 hx hZ rfl F341 ⟨by decide, by decide⟩ (v := (.long v22)) rfl (hb hby at_584) (pc' := 585) rfl ?_
   refine k_lcif_ne X321 hx (hb hby at_585) (pm := 586) rfl (hb hby at_586) (pn := 589) rfl (py := 593) (by decide) (fun hc => absurd rfl hc) (fun _ => ?_)
   refine k_iconst X321 hx (hb hby at_589) (pc' := 590) rfl (z := (1 : Int32)) rfl ?_
   refine k_goto X321 hx (hb hby at_590) (pc' := 594) (by decide) ?_
   refine k_istore X321 hx (hb hby at_594) (Ls' := #[.val (.long i0), .second, .val (.long i1), .second, .val (.long i2), .second, .val (.long i3), .second, .val (.long i4), .second, .val (.int i5), .val (.ref b1), .val (.ref b24), .val (.int (2 : Int32)), .val (.ref b271), .val (.ref b279), .val (.int (0 : Int32)), .val (.int (1 : Int32))]) rfl (pc' := 596) rfl ?_
   refine k_iload X321 hx (hb hby at_596) rfl (pc' := 598) rfl ?_
   refine k_if_eq X321 hx (hb hby at_598) (pn := 601) rfl (py := 610) (by decide) (fun _ => ?_) (fun hc => absurd (by decide) hc)
   refine k_iconst X321 hx (hb hby at_610) (pc' := 611) rfl (z := (0 : Int32)) rfl ?_
   exfalso
   have := rng64 v323
   have := rng64 v2
   have := rng64 i0
   have : (536870911 : Int64).toInt = 536870911 := (by decide)
   have q346 : v2.toInt = i0.toInt % 536870912 := (by rw [hv2]; exact c_maskL _ _ 29 (by decide) (by decide))
   have := rng64 v322
   have := rng64 v5
   have := rng64 v4
   have : (29 : Int32).toInt = 29 := (by decide)
   have q347 : v4.toInt = (i0.toInt % 18446744073709551616) / 536870912 := (by rw [hv4]; exact c_lushr _ _ 29 (by decide) (by decide))
   have q348 : v5.toInt = v4.toInt % 536870912 := (by rw [hv5]; exact c_maskL _ _ 29 (by decide) (by decide))
   have q349 : (v322.toInt - v5.toInt * 536870912) % 18446744073709551616 = 0 := (by rw [h331]; exact c_lshl _ _ 29 (by decide))
   have q350 := c_orL' v2 v322 29 (by decide) 536870912 rfl; rw [← h332] at q350
   have := rng64 v287
   have : (288230376151711743 : Int64).toInt = 288230376151711743 := (by decide)
   have q351 : v287.toInt = i0.toInt % 288230376151711744 := (by rw [hv287]; exact c_maskL _ _ 58 (by decide) (by decide))
   have q352 : ¬ v323.toInt = v287.toInt := fun q => hc345 (Int64.toInt_inj.mp q)
   omega
  ·
   refine k_aload X321 hx (hb hby at_418) rfl rfl (pc' := 420) rfl ?_
   refine k_iconst X321 hx (hb hby at_420) (pc' := 421) rfl (z := (3 : Int32)) rfl ?_
   refine k_laload X321 hx hZ rfl F342 ⟨by decide, by decide⟩ (v := (.long v325)) rfl (hb hby at_421) (pc' := 422) rfl ?_
   refine k_aload X321 hx (hb hby at_422) rfl rfl (pc' := 424) rfl ?_
   refine k_iconst X321 hx (hb hby at_424) (pc' := 425) rfl (z := (3 : Int32)) rfl ?_
   refine k_laload X321 hx hZ rfl F343 ⟨by decide, by decide⟩ (v := (.long v289)) rfl (hb hby at_425) (pc' := 426) rfl ?_
   refine k_lcif_ne X321 hx (hb hby at_426) (pm := 427) rfl (hb hby at_427) (pn := 430) rfl (py := 472) (by decide) (fun hc353 => ?_) (fun hc353 => ?_)
   ·
    refine k_iconst X321 hx (hb hby at_472) (pc' := 473) rfl (z := (0 : Int32)) rfl ?_
    refine k_istore X321 hx (hb hby at_473) (Ls' := #[.val (.long i0), .second, .val (.long i1), .second, .val (.long i2), .second, .val (.long i3), .second, .val (.long i4), .second, .val (.int i5), .val (.ref b1), .val (.ref b24), .val (.int (2 : Int32)), .val (.ref b271), .val (.ref b279), .val (.int (0 : Int32)), .unset]) rfl (pc' := 475) rfl ?_
    refine k_aload X321 hx (hb hby at_475) rfl rfl (pc' := 477) rfl ?_
    refine k_iconst X321 hx (hb hby at_477) (pc' := 478) rfl (z := (0 : Int32)) rfl ?_
    refine k_laload X321 hx hZ rfl F340 ⟨by decide, by decide⟩ (v := (.long v2)) rfl (hb hby at_478) (pc' := 479) rfl ?_
    refine k_aload X321 hx (hb hby at_479) rfl rfl (pc' := 481) rfl ?_
    refine k_iconst X321 hx (hb hby at_481) (pc' := 482) rfl (z := (0 : Int32)) rfl ?_
    refine k_laload X321 hx hZ rfl F341 ⟨by decide, by decide⟩ (v := (.long v2)) rfl (hb hby at_482) (pc' := 483) rfl ?_
    refine k_lcif_ne X321 hx (hb hby at_483) (pm := 484) rfl (hb hby at_484) (pn := 487) rfl (py := 593) (by decide) (fun hc => absurd rfl hc) (fun _ => ?_)
    refine k_aload X321 hx (hb hby at_487) rfl rfl (pc' := 489) rfl ?_
    refine k_iconst X321 hx (hb hby at_489) (pc' := 490) rfl (z := (1 : Int32)) rfl ?_
    refine k_laload X321 hx hZ rfl F340 ⟨by decide, by decide⟩ (v := (.long v5)) rfl (hb hby at_490) (pc' := 491) rfl ?_
    refine k_aload X321 hx (hb hby at_491) rfl rfl (pc' := 493) rfl ?_
    refine k_iconst X321 hx (hb hby at_493) (pc' := 494) rfl (z := (1 : Int32)) rfl ?_
    refine k_laload X321 hx hZ rfl F341 ⟨by decide, by decide⟩ (v := (.long v5)) rfl (hb hby at_494) (pc' := 495) rfl ?_
    refine k_lcif_ne X321 hx (hb hby at_495) (pm := 496) rfl (hb hby at_496) (pn := 499) rfl (py := 593) (by decide) (fun hc => absurd rfl hc) (fun _ => ?_)
    refine k_aload X321 hx (hb hby at_499) rfl rfl (pc' := 501) rfl ?_
    refine k_iconst X321 hx (hb hby at_501) (pc' := 502) rfl (z := (2 : Int32)) rfl ?_
    refine k_laload X321 hx hZ rfl F340 ⟨by decide, by decide⟩ (v := (.long v7)) rfl (hb hby at_502) (pc' := 503) rfl ?_
    refine k_aload X321 hx (hb hby at_503) rfl rfl (pc' := 505) rfl ?_
    refine k_iconst X321 hx (hb hby at_505) (pc' := 506) rfl (z := (2 : Int32)) rfl ?_
    refine k_laload X321 hx hZ rfl F341 ⟨by decide, by decide⟩ (v := (.long v7)) rfl (hb hby at_506) (pc' := 507) rfl ?_
    refine k_lcif_ne X321 hx (hb hby at_507) (pm := 508) rfl (hb hby at_508) (pn := 511) rfl (py := 593) (by decide) (fun hc => absurd rfl hc) (fun _ => ?_)
    refine k_aload X321 hx (hb hby at_511) rfl rfl (pc' := 513) rfl ?_
    refine k_iconst X321 hx (hb hby at_513) (pc' := 514) rfl (z := (3 : Int32)) rfl ?_
    refine k_laload X321 hx hZ rfl F340 ⟨by decide, by decide⟩ (v := (.long v10)) rfl (hb hby at_514) (pc' := 515) rfl ?_
    refine k_aload X321 hx (hb hby at_515) rfl rfl (pc' := 517) rfl ?_
    refine k_iconst X321 hx (hb hby at_517) (pc' := 518) rfl (z := (3 : Int32)) rfl ?_
    refine k_laload X321 hx hZ rfl F341 ⟨by decide, by decide⟩ (v := (.long v10)) rfl (hb hby at_518) (pc' := 519) rfl ?_
    refine k_lcif_ne X321 hx (hb hby at_519) (pm := 520) rfl (hb hby at_520) (pn := 523) rfl (py := 593) (by decide) (fun hc => absurd rfl hc) (fun _ => ?_)
    refine k_aload X321 hx (hb hby at_523) rfl rfl (pc' := 525) rfl ?_
    refine k_iconst X321 hx (hb hby at_525) (pc' := 526) rfl (z := (4 : Int32)) rfl ?_
    refine k_laload X321 hx hZ rfl F340 ⟨by decide, by decide⟩ (v := (.long v12)) rfl (hb hby at_526) (pc' := 527) rfl ?_
    refine k_aload X321 hx (hb hby at_527) rfl rfl (pc' := 529) rfl ?_
    refine k_iconst X321 hx (hb hby at_529) (pc' := 530) rfl (z := (4 : Int32)) rfl ?_
    refine k_laload X321 hx hZ rfl F341 ⟨by decide, by decide⟩ (v := (.long v12)) rfl (hb hby at_530) (pc' := 531) rfl ?_
    refine k_lcif_ne X321 hx (hb hby at_531) (pm := 532) rfl (hb hby at_532) (pn := 535) rfl (py := 593) (by decide) (fun hc => absurd rfl hc) (fun _ => ?_)
    refine k_aload X321 hx (hb hby at_535) rfl rfl (pc' := 537) rfl ?_
    refine k_iconst X321 hx (hb hby at_537) (pc' := 538) rfl (z := (5 : Int32)) rfl ?_
    refine k_laload X321 hx hZ rfl F340 ⟨by decide, by decide⟩ (v := (.long v15)) rfl (hb hby at_538) (pc' := 539) rfl ?_
    refine k_aload X321 hx (hb hby at_539) rfl rfl (pc' := 541) rfl ?_
    refine k_iconst X321 hx (hb hby at_541) (pc' := 542) rfl (z := (5 : Int32)) rfl ?_
    refine k_laload X321 hx hZ rfl F341 ⟨by decide, by decide⟩ (v := (.long v15)) rfl (hb hby at_542) (pc' := 543) rfl ?_
    refine k_lcif_ne X321 hx (hb hby at_543) (pm := 544) rfl (hb hby at_544) (pn := 547) rfl (py := 593) (by decide) (fun hc => absurd rfl hc) (fun _ => ?_)
    refine k_aload X321 hx (hb hby at_547) rfl rfl (pc' := 549) rfl ?_
    refine k_bipush X321 hx (hb hby at_549) (pc' := 551) rfl (z := (6 : Int32)) rfl ?_
    refine k_laload X321 hx hZ rfl F340 ⟨by decide, by decide⟩ (v := (.long v17)) rfl (hb hby at_551) (pc' := 552) rfl ?_
    refine k_aload X321 hx (hb hby at_552) rfl rfl (pc' := 554) rfl ?_
    refine k_bipush X321 hx (hb hby at_554) (pc' := 556) rfl (z := (6 : Int32)) rfl ?_
    refine k_laload X321 hx hZ rfl F341 ⟨by decide, by decide⟩ (v := (.long v17)) rfl (hb hby at_556) (pc' := 557) rfl ?_
    refine k_lcif_ne X321 hx (hb hby at_557) (pm := 558) rfl (hb hby at_558) (pn := 561) rfl (py := 593) (by decide) (fun hc => absurd rfl hc) (fun _ => ?_)
    refine k_aload X321 hx (hb hby at_561) rfl rfl (pc' := 563) rfl ?_
    refine k_bipush X321 hx (hb hby at_563) (pc' := 565) rfl (z := (7 : Int32)) rfl ?_
    refine k_laload X321 hx hZ rfl F340 ⟨by decide, by decide⟩ (v := (.long v20)) rfl (hb hby at_565) (pc' := 566) rfl ?_
    refine k_aload X321 hx (hb hby at_566) rfl rfl (pc' := 568) rfl ?_
    refine k_bipush X321 hx (hb hby at_568) (pc' := 570) rfl (z := (7 : Int32)) rfl ?_
    refine k_laload X321 hx hZ rfl F341 ⟨by decide, by decide⟩ (v := (.long v20)) rfl (hb hby at_570) (pc' := 571) rfl ?_
    refine k_lcif_ne X321 hx (hb hby at_571) (pm := 572) rfl (hb hby at_572) (pn := 575) rfl (py := 593) (by decide) (fun hc => absurd rfl hc) (fun _ => ?_)
    refine k_aload X321 hx (hb hby at_575) rfl rfl (pc' := 577) rfl ?_
    refine k_bipush X321 hx (hb hby at_577) (pc' := 579) rfl (z := (8 : Int32)) rfl ?_
    refine k_laload X321 hx hZ rfl F340 ⟨by decide, by decide⟩ (v := (.long v22)) rfl (hb hby at_579) (pc' := 580) rfl ?_
    refine k_aload X321 hx (hb hby at_580) rfl rfl (pc' := 582) rfl ?_
    refine k_bipush X321 hx (hb hby at_582) (pc' := 584) rfl (z := (8 : Int32)) rfl ?_
    refine k_laload X321 hx hZ rfl F341 ⟨by decide, by decide⟩ (v := (.long v22)) rfl (hb hby at_584) (pc' := 585) rfl ?_
    refine k_lcif_ne X321 hx (hb hby at_585) (pm := 586) rfl (hb hby at_586) (pn := 589) rfl (py := 593) (by decide) (fun hc => absurd rfl hc) (fun _ => ?_)
    refine k_iconst X321 hx (hb hby at_589) (pc' := 590) rfl (z := (1 : Int32)) rfl ?_
    refine k_goto X321 hx (hb hby at_590) (pc' := 594) (by decide) ?_
    refine k_istore X321 hx (hb hby at_594) (Ls' := #[.val (.long i0), .second, .val (.long i1), .second, .val (.long i2), .second, .val (.long i3), .second, .val (.long i4), .second, .val (.int i5), .val (.ref b1), .val (.ref b24), .val (.int (2 : Int32)), .val (.ref b271), .val (.ref b279), .val (.int (0 : Int32)), .val (.int (1 : Int32))]) rfl (pc' := 596) rfl ?_
    refine k_iload X321 hx (hb hby at_596) rfl (pc' := 598) rfl ?_
    refine k_if_eq X321 hx (hb hby at_598) (pn := 601) rfl (py := 610) (by decide) (fun _ => ?_) (fun hc => absurd (by decide) hc)
    refine k_iconst X321 hx (hb hby at_610) (pc' := 611) rfl (z := (0 : Int32)) rfl ?_
    exfalso
    have := rng64 v325
    have := rng64 v7
    have := rng64 i1
    have : (536870911 : Int64).toInt = 536870911 := (by decide)
    have q354 : v7.toInt = i1.toInt % 536870912 := (by rw [hv7]; exact c_maskL _ _ 29 (by decide) (by decide))
    have := rng64 v324
    have := rng64 v10
    have := rng64 v9
    have : (29 : Int32).toInt = 29 := (by decide)
    have q355 : v9.toInt = (i1.toInt % 18446744073709551616) / 536870912 := (by rw [hv9]; exact c_lushr _ _ 29 (by decide) (by decide))
    have q356 : v10.toInt = v9.toInt % 536870912 := (by rw [hv10]; exact c_maskL _ _ 29 (by decide) (by decide))
    have q357 : (v324.toInt - v10.toInt * 536870912) % 18446744073709551616 = 0 := (by rw [h333]; exact c_lshl _ _ 29 (by decide))
    have q358 := c_orL' v7 v324 29 (by decide) 536870912 rfl; rw [← h334] at q358
    have := rng64 v289
    have : (288230376151711743 : Int64).toInt = 288230376151711743 := (by decide)
    have q359 : v289.toInt = i1.toInt % 288230376151711744 := (by rw [hv289]; exact c_maskL _ _ 58 (by decide) (by decide))
    have q360 : ¬ v325.toInt = v289.toInt := fun q => hc353 (Int64.toInt_inj.mp q)
    omega
   ·
    refine k_aload X321 hx (hb hby at_430) rfl rfl (pc' := 432) rfl ?_
    refine k_iconst X321 hx (hb hby at_432) (pc' := 433) rfl (z := (4 : Int32)) rfl ?_
    refine k_laload X321 hx hZ rfl F342 ⟨by decide, by decide⟩ (v := (.long v327)) rfl (hb hby at_433) (pc' := 434) rfl ?_
    refine k_aload X321 hx (hb hby at_434) rfl rfl (pc' := 436) rfl ?_
    refine k_iconst X321 hx (hb hby at_436) (pc' := 437) rfl (z := (4 : Int32)) rfl ?_
    refine k_laload X321 hx hZ rfl F343 ⟨by decide, by decide⟩ (v := (.long v291)) rfl (hb hby at_437) (pc' := 438) rfl ?_
    refine k_lcif_ne X321 hx (hb hby at_438) (pm := 439) rfl (hb hby at_439) (pn := 442) rfl (py := 472) (by decide) (fun hc361 => ?_) (fun hc361 => ?_)
    ·
     refine k_iconst X321 hx (hb hby at_472) (pc' := 473) rfl (z := (0 : Int32)) rfl ?_
     refine k_istore X321 hx (hb hby at_473) (Ls' := #[.val (.long i0), .second, .val (.long i1), .second, .val (.long i2), .second, .val (.long i3), .second, .val (.long i4), .second, .val (.int i5), .val (.ref b1), .val (.ref b24), .val (.int (2 : Int32)), .val (.ref b271), .val (.ref b279), .val (.int (0 : Int32)), .unset]) rfl (pc' := 475) rfl ?_
     refine k_aload X321 hx (hb hby at_475) rfl rfl (pc' := 477) rfl ?_
     refine k_iconst X321 hx (hb hby at_477) (pc' := 478) rfl (z := (0 : Int32)) rfl ?_
     refine k_laload X321 hx hZ rfl F340 ⟨by decide, by decide⟩ (v := (.long v2)) rfl (hb hby at_478) (pc' := 479) rfl ?_
     refine k_aload X321 hx (hb hby at_479) rfl rfl (pc' := 481) rfl ?_
     refine k_iconst X321 hx (hb hby at_481) (pc' := 482) rfl (z := (0 : Int32)) rfl ?_
     refine k_laload X321 hx hZ rfl F341 ⟨by decide, by decide⟩ (v := (.long v2)) rfl (hb hby at_482) (pc' := 483) rfl ?_
     refine k_lcif_ne X321 hx (hb hby at_483) (pm := 484) rfl (hb hby at_484) (pn := 487) rfl (py := 593) (by decide) (fun hc => absurd rfl hc) (fun _ => ?_)
     refine k_aload X321 hx (hb hby at_487) rfl rfl (pc' := 489) rfl ?_
     refine k_iconst X321 hx (hb hby at_489) (pc' := 490) rfl (z := (1 : Int32)) rfl ?_
     refine k_laload X321 hx hZ rfl F340 ⟨by decide, by decide⟩ (v := (.long v5)) rfl (hb hby at_490) (pc' := 491) rfl ?_
     refine k_aload X321 hx (hb hby at_491) rfl rfl (pc' := 493) rfl ?_
     refine k_iconst X321 hx (hb hby at_493) (pc' := 494) rfl (z := (1 : Int32)) rfl ?_
     refine k_laload X321 hx hZ rfl F341 ⟨by decide, by decide⟩ (v := (.long v5)) rfl (hb hby at_494) (pc' := 495) rfl ?_
     refine k_lcif_ne X321 hx (hb hby at_495) (pm := 496) rfl (hb hby at_496) (pn := 499) rfl (py := 593) (by decide) (fun hc => absurd rfl hc) (fun _ => ?_)
     refine k_aload X321 hx (hb hby at_499) rfl rfl (pc' := 501) rfl ?_
     refine k_iconst X321 hx (hb hby at_501) (pc' := 502) rfl (z := (2 : Int32)) rfl ?_
     refine k_laload X321 hx hZ rfl F340 ⟨by decide, by decide⟩ (v := (.long v7)) rfl (hb hby at_502) (pc' := 503) rfl ?_
     refine k_aload X321 hx (hb hby at_503) rfl rfl (pc' := 505) rfl ?_
     refine k_iconst X321 hx (hb hby at_505) (pc' := 506) rfl (z := (2 : Int32)) rfl ?_
     refine k_laload X321 hx hZ rfl F341 ⟨by decide, by decide⟩ (v := (.long v7)) rfl (hb hby at_506) (pc' := 507) rfl ?_
     refine k_lcif_ne X321 hx (hb hby at_507) (pm := 508) rfl (hb hby at_508) (pn := 511) rfl (py := 593) (by decide) (fun hc => absurd rfl hc) (fun _ => ?_)
     refine k_aload X321 hx (hb hby at_511) rfl rfl (pc' := 513) rfl ?_
     refine k_iconst X321 hx (hb hby at_513) (pc' := 514) rfl (z := (3 : Int32)) rfl ?_
     refine k_laload X321 hx hZ rfl F340 ⟨by decide, by decide⟩ (v := (.long v10)) rfl (hb hby at_514) (pc' := 515) rfl ?_
     refine k_aload X321 hx (hb hby at_515) rfl rfl (pc' := 517) rfl ?_
     refine k_iconst X321 hx (hb hby at_517) (pc' := 518) rfl (z := (3 : Int32)) rfl ?_
     refine k_laload X321 hx hZ rfl F341 ⟨by decide, by decide⟩ (v := (.long v10)) rfl (hb hby at_518) (pc' := 519) rfl ?_
     refine k_lcif_ne X321 hx (hb hby at_519) (pm := 520) rfl (hb hby at_520) (pn := 523) rfl (py := 593) (by decide) (fun hc => absurd rfl hc) (fun _ => ?_)
     refine k_aload X321 hx (hb hby at_523) rfl rfl (pc' := 525) rfl ?_
     refine k_iconst X321 hx (hb hby at_525) (pc' := 526) rfl (z := (4 : Int32)) rfl ?_
     refine k_laload X321 hx hZ rfl F340 ⟨by decide, by decide⟩ (v := (.long v12)) rfl (hb hby at_526) (pc' := 527) rfl ?_
     refine k_aload X321 hx (hb hby at_527) rfl rfl (pc' := 529) rfl ?_
     refine k_iconst X321 hx (hb hby at_529) (pc' := 530) rfl (z := (4 : Int32)) rfl ?_
     refine k_laload X321 hx hZ rfl F341 ⟨by decide, by decide⟩ (v := (.long v12)) rfl (hb hby at_530) (pc' := 531) rfl ?_
     refine k_lcif_ne X321 hx (hb hby at_531) (pm := 532) rfl (hb hby at_532) (pn := 535) rfl (py := 593) (by decide) (fun hc => absurd rfl hc) (fun _ => ?_)
     refine k_aload X321 hx (hb hby at_535) rfl rfl (pc' := 537) rfl ?_
     refine k_iconst X321 hx (hb hby at_537) (pc' := 538) rfl (z := (5 : Int32)) rfl ?_
     refine k_laload X321 hx hZ rfl F340 ⟨by decide, by decide⟩ (v := (.long v15)) rfl (hb hby at_538) (pc' := 539) rfl ?_
     refine k_aload X321 hx (hb hby at_539) rfl rfl (pc' := 541) rfl ?_
     refine k_iconst X321 hx (hb hby at_541) (pc' := 542) rfl (z := (5 : Int32)) rfl ?_
     refine k_laload X321 hx hZ rfl F341 ⟨by decide, by decide⟩ (v := (.long v15)) rfl (hb hby at_542) (pc' := 543) rfl ?_
     refine k_lcif_ne X321 hx (hb hby at_543) (pm := 544) rfl (hb hby at_544) (pn := 547) rfl (py := 593) (by decide) (fun hc => absurd rfl hc) (fun _ => ?_)
     refine k_aload X321 hx (hb hby at_547) rfl rfl (pc' := 549) rfl ?_
     refine k_bipush X321 hx (hb hby at_549) (pc' := 551) rfl (z := (6 : Int32)) rfl ?_
     refine k_laload X321 hx hZ rfl F340 ⟨by decide, by decide⟩ (v := (.long v17)) rfl (hb hby at_551) (pc' := 552) rfl ?_
     refine k_aload X321 hx (hb hby at_552) rfl rfl (pc' := 554) rfl ?_
     refine k_bipush X321 hx (hb hby at_554) (pc' := 556) rfl (z := (6 : Int32)) rfl ?_
     refine k_laload X321 hx hZ rfl F341 ⟨by decide, by decide⟩ (v := (.long v17)) rfl (hb hby at_556) (pc' := 557) rfl ?_
     refine k_lcif_ne X321 hx (hb hby at_557) (pm := 558) rfl (hb hby at_558) (pn := 561) rfl (py := 593) (by decide) (fun hc => absurd rfl hc) (fun _ => ?_)
     refine k_aload X321 hx (hb hby at_561) rfl rfl (pc' := 563) rfl ?_
     refine k_bipush X321 hx (hb hby at_563) (pc' := 565) rfl (z := (7 : Int32)) rfl ?_
     refine k_laload X321 hx hZ rfl F340 ⟨by decide, by decide⟩ (v := (.long v20)) rfl (hb hby at_565) (pc' := 566) rfl ?_
     refine k_aload X321 hx (hb hby at_566) rfl rfl (pc' := 568) rfl ?_
     refine k_bipush X321 hx (hb hby at_568) (pc' := 570) rfl (z := (7 : Int32)) rfl ?_
     refine k_laload X321 hx hZ rfl F341 ⟨by decide, by decide⟩ (v := (.long v20)) rfl (hb hby at_570) (pc' := 571) rfl ?_
     refine k_lcif_ne X321 hx (hb hby at_571) (pm := 572) rfl (hb hby at_572) (pn := 575) rfl (py := 593) (by decide) (fun hc => absurd rfl hc) (fun _ => ?_)
     refine k_aload X321 hx (hb hby at_575) rfl rfl (pc' := 577) rfl ?_
     refine k_bipush X321 hx (hb hby at_577) (pc' := 579) rfl (z := (8 : Int32)) rfl ?_
     refine k_laload X321 hx hZ rfl F340 ⟨by decide, by decide⟩ (v := (.long v22)) rfl (hb hby at_579) (pc' := 580) rfl ?_
     refine k_aload X321 hx (hb hby at_580) rfl rfl (pc' := 582) rfl ?_
     refine k_bipush X321 hx (hb hby at_582) (pc' := 584) rfl (z := (8 : Int32)) rfl ?_
     refine k_laload X321 hx hZ rfl F341 ⟨by decide, by decide⟩ (v := (.long v22)) rfl (hb hby at_584) (pc' := 585) rfl ?_
     refine k_lcif_ne X321 hx (hb hby at_585) (pm := 586) rfl (hb hby at_586) (pn := 589) rfl (py := 593) (by decide) (fun hc => absurd rfl hc) (fun _ => ?_)
     refine k_iconst X321 hx (hb hby at_589) (pc' := 590) rfl (z := (1 : Int32)) rfl ?_
     refine k_goto X321 hx (hb hby at_590) (pc' := 594) (by decide) ?_
     refine k_istore X321 hx (hb hby at_594) (Ls' := #[.val (.long i0), .second, .val (.long i1), .second, .val (.long i2), .second, .val (.long i3), .second, .val (.long i4), .second, .val (.int i5), .val (.ref b1), .val (.ref b24), .val (.int (2 : Int32)), .val (.ref b271), .val (.ref b279), .val (.int (0 : Int32)), .val (.int (1 : Int32))]) rfl (pc' := 596) rfl ?_
     refine k_iload X321 hx (hb hby at_596) rfl (pc' := 598) rfl ?_
     refine k_if_eq X321 hx (hb hby at_598) (pn := 601) rfl (py := 610) (by decide) (fun _ => ?_) (fun hc => absurd (by decide) hc)
     refine k_iconst X321 hx (hb hby at_610) (pc' := 611) rfl (z := (0 : Int32)) rfl ?_
     exfalso
     have := rng64 v327
     have := rng64 v12
     have := rng64 i2
     have : (536870911 : Int64).toInt = 536870911 := (by decide)
     have q362 : v12.toInt = i2.toInt % 536870912 := (by rw [hv12]; exact c_maskL _ _ 29 (by decide) (by decide))
     have := rng64 v326
     have := rng64 v15
     have := rng64 v14
     have : (29 : Int32).toInt = 29 := (by decide)
     have q363 : v14.toInt = (i2.toInt % 18446744073709551616) / 536870912 := (by rw [hv14]; exact c_lushr _ _ 29 (by decide) (by decide))
     have q364 : v15.toInt = v14.toInt % 536870912 := (by rw [hv15]; exact c_maskL _ _ 29 (by decide) (by decide))
     have q365 : (v326.toInt - v15.toInt * 536870912) % 18446744073709551616 = 0 := (by rw [h335]; exact c_lshl _ _ 29 (by decide))
     have q366 := c_orL' v12 v326 29 (by decide) 536870912 rfl; rw [← h336] at q366
     have := rng64 v291
     have : (288230376151711743 : Int64).toInt = 288230376151711743 := (by decide)
     have q367 : v291.toInt = i2.toInt % 288230376151711744 := (by rw [hv291]; exact c_maskL _ _ 58 (by decide) (by decide))
     have q368 : ¬ v327.toInt = v291.toInt := fun q => hc361 (Int64.toInt_inj.mp q)
     omega
    ·
     refine k_aload X321 hx (hb hby at_442) rfl rfl (pc' := 444) rfl ?_
     refine k_iconst X321 hx (hb hby at_444) (pc' := 445) rfl (z := (5 : Int32)) rfl ?_
     refine k_laload X321 hx hZ rfl F342 ⟨by decide, by decide⟩ (v := (.long v329)) rfl (hb hby at_445) (pc' := 446) rfl ?_
     refine k_aload X321 hx (hb hby at_446) rfl rfl (pc' := 448) rfl ?_
     refine k_iconst X321 hx (hb hby at_448) (pc' := 449) rfl (z := (5 : Int32)) rfl ?_
     refine k_laload X321 hx hZ rfl F343 ⟨by decide, by decide⟩ (v := (.long v293)) rfl (hb hby at_449) (pc' := 450) rfl ?_
     refine k_lcif_ne X321 hx (hb hby at_450) (pm := 451) rfl (hb hby at_451) (pn := 454) rfl (py := 472) (by decide) (fun hc369 => ?_) (fun hc369 => ?_)
     ·
      refine k_iconst X321 hx (hb hby at_472) (pc' := 473) rfl (z := (0 : Int32)) rfl ?_
      refine k_istore X321 hx (hb hby at_473) (Ls' := #[.val (.long i0), .second, .val (.long i1), .second, .val (.long i2), .second, .val (.long i3), .second, .val (.long i4), .second, .val (.int i5), .val (.ref b1), .val (.ref b24), .val (.int (2 : Int32)), .val (.ref b271), .val (.ref b279), .val (.int (0 : Int32)), .unset]) rfl (pc' := 475) rfl ?_
      refine k_aload X321 hx (hb hby at_475) rfl rfl (pc' := 477) rfl ?_
      refine k_iconst X321 hx (hb hby at_477) (pc' := 478) rfl (z := (0 : Int32)) rfl ?_
      refine k_laload X321 hx hZ rfl F340 ⟨by decide, by decide⟩ (v := (.long v2)) rfl (hb hby at_478) (pc' := 479) rfl ?_
      refine k_aload X321 hx (hb hby at_479) rfl rfl (pc' := 481) rfl ?_
      refine k_iconst X321 hx (hb hby at_481) (pc' := 482) rfl (z := (0 : Int32)) rfl ?_
      refine k_laload X321 hx hZ rfl F341 ⟨by decide, by decide⟩ (v := (.long v2)) rfl (hb hby at_482) (pc' := 483) rfl ?_
      refine k_lcif_ne X321 hx (hb hby at_483) (pm := 484) rfl (hb hby at_484) (pn := 487) rfl (py := 593) (by decide) (fun hc => absurd rfl hc) (fun _ => ?_)
      refine k_aload X321 hx (hb hby at_487) rfl rfl (pc' := 489) rfl ?_
      refine k_iconst X321 hx (hb hby at_489) (pc' := 490) rfl (z := (1 : Int32)) rfl ?_
      refine k_laload X321 hx hZ rfl F340 ⟨by decide, by decide⟩ (v := (.long v5)) rfl (hb hby at_490) (pc' := 491) rfl ?_
      refine k_aload X321 hx (hb hby at_491) rfl rfl (pc' := 493) rfl ?_
      refine k_iconst X321 hx (hb hby at_493) (pc' := 494) rfl (z := (1 : Int32)) rfl ?_
      refine k_laload X321 hx hZ rfl F341 ⟨by decide, by decide⟩ (v := (.long v5)) rfl (hb hby at_494) (pc' := 495) rfl ?_
      refine k_lcif_ne X321 hx (hb hby at_495) (pm := 496) rfl (hb hby at_496) (pn := 499) rfl (py := 593) (by decide) (fun hc => absurd rfl hc) (fun _ => ?_)
      refine k_aload X321 hx (hb hby at_499) rfl rfl (pc' := 501) rfl ?_
      refine k_iconst X321 hx (hb hby at_501) (pc' := 502) rfl (z := (2 : Int32)) rfl ?_
      refine k_laload X321 hx hZ rfl F340 ⟨by decide, by decide⟩ (v := (.long v7)) rfl (hb hby at_502) (pc' := 503) rfl ?_
      refine k_aload X321 hx (hb hby at_503) rfl rfl (pc' := 505) rfl ?_
      refine k_iconst X321 hx (hb hby at_505) (pc' := 506) rfl (z := (2 : Int32)) rfl ?_
      refine k_laload X321 hx hZ rfl F341 ⟨by decide, by decide⟩ (v := (.long v7)) rfl (hb hby at_506) (pc' := 507) rfl ?_
      refine k_lcif_ne X321 hx (hb hby at_507) (pm := 508) rfl (hb hby at_508) (pn := 511) rfl (py := 593) (by decide) (fun hc => absurd rfl hc) (fun _ => ?_)
      refine k_aload X321 hx (hb hby at_511) rfl rfl (pc' := 513) rfl ?_
      refine k_iconst X321 hx (hb hby at_513) (pc' := 514) rfl (z := (3 : Int32)) rfl ?_
      refine k_laload X321 hx hZ rfl F340 ⟨by decide, by decide⟩ (v := (.long v10)) rfl (hb hby at_514) (pc' := 515) rfl ?_
      refine k_aload X321 hx (hb hby at_515) rfl rfl (pc' := 517) rfl ?_
      refine k_iconst X321 hx (hb hby at_517) (pc' := 518) rfl (z := (3 : Int32)) rfl ?_
      refine k_laload X321 hx hZ rfl F341 ⟨by decide, by decide⟩ (v := (.long v10)) rfl (hb hby at_518) (pc' := 519) rfl ?_
      refine k_lcif_ne X321 hx (hb hby at_519) (pm := 520) rfl (hb hby at_520) (pn := 523) rfl (py := 593) (by decide) (fun hc => absurd rfl hc) (fun _ => ?_)
      refine k_aload X321 hx (hb hby at_523) rfl rfl (pc' := 525) rfl ?_
      refine k_iconst X321 hx (hb hby at_525) (pc' := 526) rfl (z := (4 : Int32)) rfl ?_
      refine k_laload X321 hx hZ rfl F340 ⟨by decide, by decide⟩ (v := (.long v12)) rfl (hb hby at_526) (pc' := 527) rfl ?_
      refine k_aload X321 hx (hb hby at_527) rfl rfl (pc' := 529) rfl ?_
      refine k_iconst X321 hx (hb hby at_529) (pc' := 530) rfl (z := (4 : Int32)) rfl ?_
      refine k_laload X321 hx hZ rfl F341 ⟨by decide, by decide⟩ (v := (.long v12)) rfl (hb hby at_530) (pc' := 531) rfl ?_
      refine k_lcif_ne X321 hx (hb hby at_531) (pm := 532) rfl (hb hby at_532) (pn := 535) rfl (py := 593) (by decide) (fun hc => absurd rfl hc) (fun _ => ?_)
      refine k_aload X321 hx (hb hby at_535) rfl rfl (pc' := 537) rfl ?_
      refine k_iconst X321 hx (hb hby at_537) (pc' := 538) rfl (z := (5 : Int32)) rfl ?_
      refine k_laload X321 hx hZ rfl F340 ⟨by decide, by decide⟩ (v := (.long v15)) rfl (hb hby at_538) (pc' := 539) rfl ?_
      refine k_aload X321 hx (hb hby at_539) rfl rfl (pc' := 541) rfl ?_
      refine k_iconst X321 hx (hb hby at_541) (pc' := 542) rfl (z := (5 : Int32)) rfl ?_
      refine k_laload X321 hx hZ rfl F341 ⟨by decide, by decide⟩ (v := (.long v15)) rfl (hb hby at_542) (pc' := 543) rfl ?_
      refine k_lcif_ne X321 hx (hb hby at_543) (pm := 544) rfl (hb hby at_544) (pn := 547) rfl (py := 593) (by decide) (fun hc => absurd rfl hc) (fun _ => ?_)
      refine k_aload X321 hx (hb hby at_547) rfl rfl (pc' := 549) rfl ?_
      refine k_bipush X321 hx (hb hby at_549) (pc' := 551) rfl (z := (6 : Int32)) rfl ?_
      refine k_laload X321 hx hZ rfl F340 ⟨by decide, by decide⟩ (v := (.long v17)) rfl (hb hby at_551) (pc' := 552) rfl ?_
      refine k_aload X321 hx (hb hby at_552) rfl rfl (pc' := 554) rfl ?_
      refine k_bipush X321 hx (hb hby at_554) (pc' := 556) rfl (z := (6 : Int32)) rfl ?_
      refine k_laload X321 hx hZ rfl F341 ⟨by decide, by decide⟩ (v := (.long v17)) rfl (hb hby at_556) (pc' := 557) rfl ?_
      refine k_lcif_ne X321 hx (hb hby at_557) (pm := 558) rfl (hb hby at_558) (pn := 561) rfl (py := 593) (by decide) (fun hc => absurd rfl hc) (fun _ => ?_)
      refine k_aload X321 hx (hb hby at_561) rfl rfl (pc' := 563) rfl ?_
      refine k_bipush X321 hx (hb hby at_563) (pc' := 565) rfl (z := (7 : Int32)) rfl ?_
      refine k_laload X321 hx hZ rfl F340 ⟨by decide, by decide⟩ (v := (.long v20)) rfl (hb hby at_565) (pc' := 566) rfl ?_
      refine k_aload X321 hx (hb hby at_566) rfl rfl (pc' := 568) rfl ?_
      refine k_bipush X321 hx (hb hby at_568) (pc' := 570) rfl (z := (7 : Int32)) rfl ?_
      refine k_laload X321 hx hZ rfl F341 ⟨by decide, by decide⟩ (v := (.long v20)) rfl (hb hby at_570) (pc' := 571) rfl ?_
      refine k_lcif_ne X321 hx (hb hby at_571) (pm := 572) rfl (hb hby at_572) (pn := 575) rfl (py := 593) (by decide) (fun hc => absurd rfl hc) (fun _ => ?_)
      refine k_aload X321 hx (hb hby at_575) rfl rfl (pc' := 577) rfl ?_
      refine k_bipush X321 hx (hb hby at_577) (pc' := 579) rfl (z := (8 : Int32)) rfl ?_
      refine k_laload X321 hx hZ rfl F340 ⟨by decide, by decide⟩ (v := (.long v22)) rfl (hb hby at_579) (pc' := 580) rfl ?_
      refine k_aload X321 hx (hb hby at_580) rfl rfl (pc' := 582) rfl ?_
      refine k_bipush X321 hx (hb hby at_582) (pc' := 584) rfl (z := (8 : Int32)) rfl ?_
      refine k_laload X321 hx hZ rfl F341 ⟨by decide, by decide⟩ (v := (.long v22)) rfl (hb hby at_584) (pc' := 585) rfl ?_
      refine k_lcif_ne X321 hx (hb hby at_585) (pm := 586) rfl (hb hby at_586) (pn := 589) rfl (py := 593) (by decide) (fun hc => absurd rfl hc) (fun _ => ?_)
      refine k_iconst X321 hx (hb hby at_589) (pc' := 590) rfl (z := (1 : Int32)) rfl ?_
      refine k_goto X321 hx (hb hby at_590) (pc' := 594) (by decide) ?_
      refine k_istore X321 hx (hb hby at_594) (Ls' := #[.val (.long i0), .second, .val (.long i1), .second, .val (.long i2), .second, .val (.long i3), .second, .val (.long i4), .second, .val (.int i5), .val (.ref b1), .val (.ref b24), .val (.int (2 : Int32)), .val (.ref b271), .val (.ref b279), .val (.int (0 : Int32)), .val (.int (1 : Int32))]) rfl (pc' := 596) rfl ?_
      refine k_iload X321 hx (hb hby at_596) rfl (pc' := 598) rfl ?_
      refine k_if_eq X321 hx (hb hby at_598) (pn := 601) rfl (py := 610) (by decide) (fun _ => ?_) (fun hc => absurd (by decide) hc)
      refine k_iconst X321 hx (hb hby at_610) (pc' := 611) rfl (z := (0 : Int32)) rfl ?_
      exfalso
      have := rng64 v329
      have := rng64 v17
      have := rng64 i3
      have : (536870911 : Int64).toInt = 536870911 := (by decide)
      have q370 : v17.toInt = i3.toInt % 536870912 := (by rw [hv17]; exact c_maskL _ _ 29 (by decide) (by decide))
      have := rng64 v328
      have := rng64 v20
      have := rng64 v19
      have : (29 : Int32).toInt = 29 := (by decide)
      have q371 : v19.toInt = (i3.toInt % 18446744073709551616) / 536870912 := (by rw [hv19]; exact c_lushr _ _ 29 (by decide) (by decide))
      have q372 : v20.toInt = v19.toInt % 536870912 := (by rw [hv20]; exact c_maskL _ _ 29 (by decide) (by decide))
      have q373 : (v328.toInt - v20.toInt * 536870912) % 18446744073709551616 = 0 := (by rw [h337]; exact c_lshl _ _ 29 (by decide))
      have q374 := c_orL' v17 v328 29 (by decide) 536870912 rfl; rw [← h338] at q374
      have := rng64 v293
      have : (288230376151711743 : Int64).toInt = 288230376151711743 := (by decide)
      have q375 : v293.toInt = i3.toInt % 288230376151711744 := (by rw [hv293]; exact c_maskL _ _ 58 (by decide) (by decide))
      have q376 : ¬ v329.toInt = v293.toInt := fun q => hc369 (Int64.toInt_inj.mp q)
      omega
     ·
      refine k_aload X321 hx (hb hby at_454) rfl rfl (pc' := 456) rfl ?_
      refine k_bipush X321 hx (hb hby at_456) (pc' := 458) rfl (z := (6 : Int32)) rfl ?_
      refine k_laload X321 hx hZ rfl F342 ⟨by decide, by decide⟩ (v := (.long v330)) rfl (hb hby at_458) (pc' := 459) rfl ?_
      refine k_aload X321 hx (hb hby at_459) rfl rfl (pc' := 461) rfl ?_
      refine k_bipush X321 hx (hb hby at_461) (pc' := 463) rfl (z := (6 : Int32)) rfl ?_
      refine k_laload X321 hx hZ rfl F343 ⟨by decide, by decide⟩ (v := (.long v22)) rfl (hb hby at_463) (pc' := 464) rfl ?_
      refine k_lcif_ne X321 hx (hb hby at_464) (pm := 465) rfl (hb hby at_465) (pn := 468) rfl (py := 472) (by decide) (fun hc377 => ?_) (fun hc377 => ?_)
      ·
       refine k_iconst X321 hx (hb hby at_472) (pc' := 473) rfl (z := (0 : Int32)) rfl ?_
       refine k_istore X321 hx (hb hby at_473) (Ls' := #[.val (.long i0), .second, .val (.long i1), .second, .val (.long i2), .second, .val (.long i3), .second, .val (.long i4), .second, .val (.int i5), .val (.ref b1), .val (.ref b24), .val (.int (2 : Int32)), .val (.ref b271), .val (.ref b279), .val (.int (0 : Int32)), .unset]) rfl (pc' := 475) rfl ?_
       refine k_aload X321 hx (hb hby at_475) rfl rfl (pc' := 477) rfl ?_
       refine k_iconst X321 hx (hb hby at_477) (pc' := 478) rfl (z := (0 : Int32)) rfl ?_
       refine k_laload X321 hx hZ rfl F340 ⟨by decide, by decide⟩ (v := (.long v2)) rfl (hb hby at_478) (pc' := 479) rfl ?_
       refine k_aload X321 hx (hb hby at_479) rfl rfl (pc' := 481) rfl ?_
       refine k_iconst X321 hx (hb hby at_481) (pc' := 482) rfl (z := (0 : Int32)) rfl ?_
       refine k_laload X321 hx hZ rfl F341 ⟨by decide, by decide⟩ (v := (.long v2)) rfl (hb hby at_482) (pc' := 483) rfl ?_
       refine k_lcif_ne X321 hx (hb hby at_483) (pm := 484) rfl (hb hby at_484) (pn := 487) rfl (py := 593) (by decide) (fun hc => absurd rfl hc) (fun _ => ?_)
       refine k_aload X321 hx (hb hby at_487) rfl rfl (pc' := 489) rfl ?_
       refine k_iconst X321 hx (hb hby at_489) (pc' := 490) rfl (z := (1 : Int32)) rfl ?_
       refine k_laload X321 hx hZ rfl F340 ⟨by decide, by decide⟩ (v := (.long v5)) rfl (hb hby at_490) (pc' := 491) rfl ?_
       refine k_aload X321 hx (hb hby at_491) rfl rfl (pc' := 493) rfl ?_
       refine k_iconst X321 hx (hb hby at_493) (pc' := 494) rfl (z := (1 : Int32)) rfl ?_
       refine k_laload X321 hx hZ rfl F341 ⟨by decide, by decide⟩ (v := (.long v5)) rfl (hb hby at_494) (pc' := 495) rfl ?_
       refine k_lcif_ne X321 hx (hb hby at_495) (pm := 496) rfl (hb hby at_496) (pn := 499) rfl (py := 593) (by decide) (fun hc => absurd rfl hc) (fun _ => ?_)
       refine k_aload X321 hx (hb hby at_499) rfl rfl (pc' := 501) rfl ?_
       refine k_iconst X321 hx (hb hby at_501) (pc' := 502) rfl (z := (2 : Int32)) rfl ?_
       refine k_laload X321 hx hZ rfl F340 ⟨by decide, by decide⟩ (v := (.long v7)) rfl (hb hby at_502) (pc' := 503) rfl ?_
       refine k_aload X321 hx (hb hby at_503) rfl rfl (pc' := 505) rfl ?_
       refine k_iconst X321 hx (hb hby at_505) (pc' := 506) rfl (z := (2 : Int32)) rfl ?_
       refine k_laload X321 hx hZ rfl F341 ⟨by decide, by decide⟩ (v := (.long v7)) rfl (hb hby at_506) (pc' := 507) rfl ?_
       refine k_lcif_ne X321 hx (hb hby at_507) (pm := 508) rfl (hb hby at_508) (pn := 511) rfl (py := 593) (by decide) (fun hc => absurd rfl hc) (fun _ => ?_)
       refine k_aload X321 hx (hb hby at_511) rfl rfl (pc' := 513) rfl ?_
       refine k_iconst X321 hx (hb hby at_513) (pc' := 514) rfl (z := (3 : Int32)) rfl ?_
       refine k_laload X321 hx hZ rfl F340 ⟨by decide, by decide⟩ (v := (.long v10)) rfl (hb hby at_514) (pc' := 515) rfl ?_
       refine k_aload X321 hx (hb hby at_515) rfl rfl (pc' := 517) rfl ?_
       refine k_iconst X321 hx (hb hby at_517) (pc' := 518) rfl (z := (3 : Int32)) rfl ?_
       refine k_laload X321 hx hZ rfl F341 ⟨by decide, by decide⟩ (v := (.long v10)) rfl (hb hby at_518) (pc' := 519) rfl ?_
       refine k_lcif_ne X321 hx (hb hby at_519) (pm := 520) rfl (hb hby at_520) (pn := 523) rfl (py := 593) (by decide) (fun hc => absurd rfl hc) (fun _ => ?_)
       refine k_aload X321 hx (hb hby at_523) rfl rfl (pc' := 525) rfl ?_
       refine k_iconst X321 hx (hb hby at_525) (pc' := 526) rfl (z := (4 : Int32)) rfl ?_
       refine k_laload X321 hx hZ rfl F340 ⟨by decide, by decide⟩ (v := (.long v12)) rfl (hb hby at_526) (pc' := 527) rfl ?_
       refine k_aload X321 hx (hb hby at_527) rfl rfl (pc' := 529) rfl ?_
       refine k_iconst X321 hx (hb hby at_529) (pc' := 530) rfl (z := (4 : Int32)) rfl ?_
       refine k_laload X321 hx hZ rfl F341 ⟨by decide, by decide⟩ (v := (.long v12)) rfl (hb hby at_530) (pc' := 531) rfl ?_
       refine k_lcif_ne X321 hx (hb hby at_531) (pm := 532) rfl (hb hby at_532) (pn := 535) rfl (py := 593) (by decide) (fun hc => absurd rfl hc) (fun _ => ?_)
       refine k_aload X321 hx (hb hby at_535) rfl rfl (pc' := 537) rfl ?_
       refine k_iconst X321 hx (hb hby at_537) (pc' := 538) rfl (z := (5 : Int32)) rfl ?_
       refine k_laload X321 hx hZ rfl F340 ⟨by decide, by decide⟩ (v := (.long v15)) rfl (hb hby at_538) (pc' := 539) rfl ?_
       refine k_aload X321 hx (hb hby at_539) rfl rfl (pc' := 541) rfl ?_
       refine k_iconst X321 hx (hb hby at_541) (pc' := 542) rfl (z := (5 : Int32)) rfl ?_
       refine k_laload X321 hx hZ rfl F341 ⟨by decide, by decide⟩ (v := (.long v15)) rfl (hb hby at_542) (pc' := 543) rfl ?_
       refine k_lcif_ne X321 hx (hb hby at_543) (pm := 544) rfl (hb hby at_544) (pn := 547) rfl (py := 593) (by decide) (fun hc => absurd rfl hc) (fun _ => ?_)
       refine k_aload X321 hx (hb hby at_547) rfl rfl (pc' := 549) rfl ?_
       refine k_bipush X321 hx (hb hby at_549) (pc' := 551) rfl (z := (6 : Int32)) rfl ?_
       refine k_laload X321 hx hZ rfl F340 ⟨by decide, by decide⟩ (v := (.long v17)) rfl (hb hby at_551) (pc' := 552) rfl ?_
       refine k_aload X321 hx (hb hby at_552) rfl rfl (pc' := 554) rfl ?_
       refine k_bipush X321 hx (hb hby at_554) (pc' := 556) rfl (z := (6 : Int32)) rfl ?_
       refine k_laload X321 hx hZ rfl F341 ⟨by decide, by decide⟩ (v := (.long v17)) rfl (hb hby at_556) (pc' := 557) rfl ?_
       refine k_lcif_ne X321 hx (hb hby at_557) (pm := 558) rfl (hb hby at_558) (pn := 561) rfl (py := 593) (by decide) (fun hc => absurd rfl hc) (fun _ => ?_)
       refine k_aload X321 hx (hb hby at_561) rfl rfl (pc' := 563) rfl ?_
       refine k_bipush X321 hx (hb hby at_563) (pc' := 565) rfl (z := (7 : Int32)) rfl ?_
       refine k_laload X321 hx hZ rfl F340 ⟨by decide, by decide⟩ (v := (.long v20)) rfl (hb hby at_565) (pc' := 566) rfl ?_
       refine k_aload X321 hx (hb hby at_566) rfl rfl (pc' := 568) rfl ?_
       refine k_bipush X321 hx (hb hby at_568) (pc' := 570) rfl (z := (7 : Int32)) rfl ?_
       refine k_laload X321 hx hZ rfl F341 ⟨by decide, by decide⟩ (v := (.long v20)) rfl (hb hby at_570) (pc' := 571) rfl ?_
       refine k_lcif_ne X321 hx (hb hby at_571) (pm := 572) rfl (hb hby at_572) (pn := 575) rfl (py := 593) (by decide) (fun hc => absurd rfl hc) (fun _ => ?_)
       refine k_aload X321 hx (hb hby at_575) rfl rfl (pc' := 577) rfl ?_
       refine k_bipush X321 hx (hb hby at_577) (pc' := 579) rfl (z := (8 : Int32)) rfl ?_
       refine k_laload X321 hx hZ rfl F340 ⟨by decide, by decide⟩ (v := (.long v22)) rfl (hb hby at_579) (pc' := 580) rfl ?_
       refine k_aload X321 hx (hb hby at_580) rfl rfl (pc' := 582) rfl ?_
       refine k_bipush X321 hx (hb hby at_582) (pc' := 584) rfl (z := (8 : Int32)) rfl ?_
       refine k_laload X321 hx hZ rfl F341 ⟨by decide, by decide⟩ (v := (.long v22)) rfl (hb hby at_584) (pc' := 585) rfl ?_
       refine k_lcif_ne X321 hx (hb hby at_585) (pm := 586) rfl (hb hby at_586) (pn := 589) rfl (py := 593) (by decide) (fun hc => absurd rfl hc) (fun _ => ?_)
       refine k_iconst X321 hx (hb hby at_589) (pc' := 590) rfl (z := (1 : Int32)) rfl ?_
       refine k_goto X321 hx (hb hby at_590) (pc' := 594) (by decide) ?_
       refine k_istore X321 hx (hb hby at_594) (Ls' := #[.val (.long i0), .second, .val (.long i1), .second, .val (.long i2), .second, .val (.long i3), .second, .val (.long i4), .second, .val (.int i5), .val (.ref b1), .val (.ref b24), .val (.int (2 : Int32)), .val (.ref b271), .val (.ref b279), .val (.int (0 : Int32)), .val (.int (1 : Int32))]) rfl (pc' := 596) rfl ?_
       refine k_iload X321 hx (hb hby at_596) rfl (pc' := 598) rfl ?_
       refine k_if_eq X321 hx (hb hby at_598) (pn := 601) rfl (py := 610) (by decide) (fun _ => ?_) (fun hc => absurd (by decide) hc)
       refine k_iconst X321 hx (hb hby at_610) (pc' := 611) rfl (z := (0 : Int32)) rfl ?_
       exfalso
       have := rng64 v330
       have := rng64 v22
       have := rng64 i4
       have : (536870911 : Int64).toInt = 536870911 := (by decide)
       have q378 : v22.toInt = i4.toInt % 536870912 := (by rw [hv22]; exact c_maskL _ _ 29 (by decide) (by decide))
       have : (0 : Int64).toInt = 0 := (by decide)
       have q379 := c_orL' v22 (0 : Int64) 29 (by decide) 536870912 rfl; rw [← h339] at q379
       have q380 : ¬ v330.toInt = v22.toInt := fun q => hc377 (Int64.toInt_inj.mp q)
       omega
      ·
       refine k_iconst X321 hx (hb hby at_468) (pc' := 469) rfl (z := (1 : Int32)) rfl ?_
       refine k_goto X321 hx (hb hby at_469) (pc' := 473) (by decide) ?_
       refine k_istore X321 hx (hb hby at_473) (Ls' := #[.val (.long i0), .second, .val (.long i1), .second, .val (.long i2), .second, .val (.long i3), .second, .val (.long i4), .second, .val (.int i5), .val (.ref b1), .val (.ref b24), .val (.int (2 : Int32)), .val (.ref b271), .val (.ref b279), .val (.int (1 : Int32)), .unset]) rfl (pc' := 475) rfl ?_
       refine k_aload X321 hx (hb hby at_475) rfl rfl (pc' := 477) rfl ?_
       refine k_iconst X321 hx (hb hby at_477) (pc' := 478) rfl (z := (0 : Int32)) rfl ?_
       refine k_laload X321 hx hZ rfl F340 ⟨by decide, by decide⟩ (v := (.long v2)) rfl (hb hby at_478) (pc' := 479) rfl ?_
       refine k_aload X321 hx (hb hby at_479) rfl rfl (pc' := 481) rfl ?_
       refine k_iconst X321 hx (hb hby at_481) (pc' := 482) rfl (z := (0 : Int32)) rfl ?_
       refine k_laload X321 hx hZ rfl F341 ⟨by decide, by decide⟩ (v := (.long v2)) rfl (hb hby at_482) (pc' := 483) rfl ?_
       refine k_lcif_ne X321 hx (hb hby at_483) (pm := 484) rfl (hb hby at_484) (pn := 487) rfl (py := 593) (by decide) (fun hc => absurd rfl hc) (fun _ => ?_)
       refine k_aload X321 hx (hb hby at_487) rfl rfl (pc' := 489) rfl ?_
       refine k_iconst X321 hx (hb hby at_489) (pc' := 490) rfl (z := (1 : Int32)) rfl ?_
       refine k_laload X321 hx hZ rfl F340 ⟨by decide, by decide⟩ (v := (.long v5)) rfl (hb hby at_490) (pc' := 491) rfl ?_
       refine k_aload X321 hx (hb hby at_491) rfl rfl (pc' := 493) rfl ?_
       refine k_iconst X321 hx (hb hby at_493) (pc' := 494) rfl (z := (1 : Int32)) rfl ?_
       refine k_laload X321 hx hZ rfl F341 ⟨by decide, by decide⟩ (v := (.long v5)) rfl (hb hby at_494) (pc' := 495) rfl ?_
       refine k_lcif_ne X321 hx (hb hby at_495) (pm := 496) rfl (hb hby at_496) (pn := 499) rfl (py := 593) (by decide) (fun hc => absurd rfl hc) (fun _ => ?_)
       refine k_aload X321 hx (hb hby at_499) rfl rfl (pc' := 501) rfl ?_
       refine k_iconst X321 hx (hb hby at_501) (pc' := 502) rfl (z := (2 : Int32)) rfl ?_
       refine k_laload X321 hx hZ rfl F340 ⟨by decide, by decide⟩ (v := (.long v7)) rfl (hb hby at_502) (pc' := 503) rfl ?_
       refine k_aload X321 hx (hb hby at_503) rfl rfl (pc' := 505) rfl ?_
       refine k_iconst X321 hx (hb hby at_505) (pc' := 506) rfl (z := (2 : Int32)) rfl ?_
       refine k_laload X321 hx hZ rfl F341 ⟨by decide, by decide⟩ (v := (.long v7)) rfl (hb hby at_506) (pc' := 507) rfl ?_
       refine k_lcif_ne X321 hx (hb hby at_507) (pm := 508) rfl (hb hby at_508) (pn := 511) rfl (py := 593) (by decide) (fun hc => absurd rfl hc) (fun _ => ?_)
       refine k_aload X321 hx (hb hby at_511) rfl rfl (pc' := 513) rfl ?_
       refine k_iconst X321 hx (hb hby at_513) (pc' := 514) rfl (z := (3 : Int32)) rfl ?_
       refine k_laload X321 hx hZ rfl F340 ⟨by decide, by decide⟩ (v := (.long v10)) rfl (hb hby at_514) (pc' := 515) rfl ?_
       refine k_aload X321 hx (hb hby at_515) rfl rfl (pc' := 517) rfl ?_
       refine k_iconst X321 hx (hb hby at_517) (pc' := 518) rfl (z := (3 : Int32)) rfl ?_
       refine k_laload X321 hx hZ rfl F341 ⟨by decide, by decide⟩ (v := (.long v10)) rfl (hb hby at_518) (pc' := 519) rfl ?_
       refine k_lcif_ne X321 hx (hb hby at_519) (pm := 520) rfl (hb hby at_520) (pn := 523) rfl (py := 593) (by decide) (fun hc => absurd rfl hc) (fun _ => ?_)
       refine k_aload X321 hx (hb hby at_523) rfl rfl (pc' := 525) rfl ?_
       refine k_iconst X321 hx (hb hby at_525) (pc' := 526) rfl (z := (4 : Int32)) rfl ?_
       refine k_laload X321 hx hZ rfl F340 ⟨by decide, by decide⟩ (v := (.long v12)) rfl (hb hby at_526) (pc' := 527) rfl ?_
       refine k_aload X321 hx (hb hby at_527) rfl rfl (pc' := 529) rfl ?_
       refine k_iconst X321 hx (hb hby at_529) (pc' := 530) rfl (z := (4 : Int32)) rfl ?_
       refine k_laload X321 hx hZ rfl F341 ⟨by decide, by decide⟩ (v := (.long v12)) rfl (hb hby at_530) (pc' := 531) rfl ?_
       refine k_lcif_ne X321 hx (hb hby at_531) (pm := 532) rfl (hb hby at_532) (pn := 535) rfl (py := 593) (by decide) (fun hc => absurd rfl hc) (fun _ => ?_)
       refine k_aload X321 hx (hb hby at_535) rfl rfl (pc' := 537) rfl ?_
       refine k_iconst X321 hx (hb hby at_537) (pc' := 538) rfl (z := (5 : Int32)) rfl ?_
       refine k_laload X321 hx hZ rfl F340 ⟨by decide, by decide⟩ (v := (.long v15)) rfl (hb hby at_538) (pc' := 539) rfl ?_
       refine k_aload X321 hx (hb hby at_539) rfl rfl (pc' := 541) rfl ?_
       refine k_iconst X321 hx (hb hby at_541) (pc' := 542) rfl (z := (5 : Int32)) rfl ?_
       refine k_laload X321 hx hZ rfl F341 ⟨by decide, by decide⟩ (v := (.long v15)) rfl (hb hby at_542) (pc' := 543) rfl ?_
       refine k_lcif_ne X321 hx (hb hby at_543) (pm := 544) rfl (hb hby at_544) (pn := 547) rfl (py := 593) (by decide) (fun hc => absurd rfl hc) (fun _ => ?_)
       refine k_aload X321 hx (hb hby at_547) rfl rfl (pc' := 549) rfl ?_
       refine k_bipush X321 hx (hb hby at_549) (pc' := 551) rfl (z := (6 : Int32)) rfl ?_
       refine k_laload X321 hx hZ rfl F340 ⟨by decide, by decide⟩ (v := (.long v17)) rfl (hb hby at_551) (pc' := 552) rfl ?_
       refine k_aload X321 hx (hb hby at_552) rfl rfl (pc' := 554) rfl ?_
       refine k_bipush X321 hx (hb hby at_554) (pc' := 556) rfl (z := (6 : Int32)) rfl ?_
       refine k_laload X321 hx hZ rfl F341 ⟨by decide, by decide⟩ (v := (.long v17)) rfl (hb hby at_556) (pc' := 557) rfl ?_
       refine k_lcif_ne X321 hx (hb hby at_557) (pm := 558) rfl (hb hby at_558) (pn := 561) rfl (py := 593) (by decide) (fun hc => absurd rfl hc) (fun _ => ?_)
       refine k_aload X321 hx (hb hby at_561) rfl rfl (pc' := 563) rfl ?_
       refine k_bipush X321 hx (hb hby at_563) (pc' := 565) rfl (z := (7 : Int32)) rfl ?_
       refine k_laload X321 hx hZ rfl F340 ⟨by decide, by decide⟩ (v := (.long v20)) rfl (hb hby at_565) (pc' := 566) rfl ?_
       refine k_aload X321 hx (hb hby at_566) rfl rfl (pc' := 568) rfl ?_
       refine k_bipush X321 hx (hb hby at_568) (pc' := 570) rfl (z := (7 : Int32)) rfl ?_
       refine k_laload X321 hx hZ rfl F341 ⟨by decide, by decide⟩ (v := (.long v20)) rfl (hb hby at_570) (pc' := 571) rfl ?_
       refine k_lcif_ne X321 hx (hb hby at_571) (pm := 572) rfl (hb hby at_572) (pn := 575) rfl (py := 593) (by decide) (fun hc => absurd rfl hc) (fun _ => ?_)
       refine k_aload X321 hx (hb hby at_575) rfl rfl (pc' := 577) rfl ?_
       refine k_bipush X321 hx (hb hby at_577) (pc' := 579) rfl (z := (8 : Int32)) rfl ?_
       refine k_laload X321 hx hZ rfl F340 ⟨by decide, by decide⟩ (v := (.long v22)) rfl (hb hby at_579) (pc' := 580) rfl ?_
       refine k_aload X321 hx (hb hby at_580) rfl rfl (pc' := 582) rfl ?_
       refine k_bipush X321 hx (hb hby at_582) (pc' := 584) rfl (z := (8 : Int32)) rfl ?_
       refine k_laload X321 hx hZ rfl F341 ⟨by decide, by decide⟩ (v := (.long v22)) rfl (hb hby at_584) (pc' := 585) rfl ?_
       refine k_lcif_ne X321 hx (hb hby at_585) (pm := 586) rfl (hb hby at_586) (pn := 589) rfl (py := 593) (by decide) (fun hc => absurd rfl hc) (fun _ => ?_)
       refine k_iconst X321 hx (hb hby at_589) (pc' := 590) rfl (z := (1 : Int32)) rfl ?_
       refine k_goto X321 hx (hb hby at_590) (pc' := 594) (by decide) ?_
       refine k_istore X321 hx (hb hby at_594) (Ls' := #[.val (.long i0), .second, .val (.long i1), .second, .val (.long i2), .second, .val (.long i3), .second, .val (.long i4), .second, .val (.int i5), .val (.ref b1), .val (.ref b24), .val (.int (2 : Int32)), .val (.ref b271), .val (.ref b279), .val (.int (1 : Int32)), .val (.int (1 : Int32))]) rfl (pc' := 596) rfl ?_
       refine k_iload X321 hx (hb hby at_596) rfl (pc' := 598) rfl ?_
       refine k_if_eq X321 hx (hb hby at_598) (pn := 601) rfl (py := 610) (by decide) (fun hc => absurd hc (by decide)) (fun _ => ?_)
       refine k_iload X321 hx (hb hby at_601) rfl (pc' := 603) rfl ?_
       refine k_if_eq X321 hx (hb hby at_603) (pn := 606) rfl (py := 610) (by decide) (fun hc => absurd hc (by decide)) (fun _ => ?_)
       refine k_iconst X321 hx (hb hby at_606) (pc' := 607) rfl (z := (1 : Int32)) rfl ?_
       refine k_goto X321 hx (hb hby at_607) (pc' := 611) (by decide) ?_
       exact k_retN X321 hx (t := .boolean) Bd.returns (by simp) (hb hby at_611) hlk (by decide) (by decide) (z' := (1 : Int32)) rfl ⟨rfl, N321'⟩
set_option maxRecDepth 65536 in
set_option maxHeartbeats 40000000 in
theorem comes_1 {Post : Tables → Env → Array Value → State → Outcome → State → Prop} (hpost : ∀ tb e args s v u, (limb_1_1.after args s (.returned v) u = true ∧ limb_1_2.after args s (.returned v) u = true ∧ True) → FrameEnd s (.returned v) u (Jvm.fieldLocs frame_1_writes args s ++ Jvm.arrayLocs frame_1_arrays args s ++ Jvm.staticLocs frame_1_statics s) 16 128 → Post tb e args s (.returned v) u) :
    ArmFor flags0 classFile x code maxLocals ret World_1 tables_1 room_1 Calls_1 rest_1 Pre_1 Post := by
  intro l hfl _ _ p e ha hc hk s m args below hf hA hF happ hP
  obtain ⟨hcalls, hrest, hpre⟩ := hP
  obtain ⟨-, -, -, hnamed, -, -, -, hat⟩ := (Spec.applies_iff hf).mp happ
  obtain ⟨hg, hn⟩ := and_e (Cond.before_iff.mp (show (Jvm.Cond.and given_1 narrow_1).before args s = true from hpre))
  obtain ⟨g381, g382⟩ := and_e hg
  obtain ⟨g383, g384⟩ := and_e g382
  obtain ⟨g385, g386⟩ := and_e g384
  obtain ⟨g387, g388⟩ := and_e g386
  obtain ⟨g389, g390⟩ := and_e g388
  obtain ⟨g391, g392⟩ := and_e g390
  obtain ⟨w0, w1, w2, w3, w4, w5, rfl⟩ : ∃ w0 w1 w2 w3 w4 w5 : Value, args = #[w0, w1, w2, w3, w4, w5] := by
    have hs : args.size = 6 := by simpa [Cond.value, given_1] using g381
    obtain ⟨L⟩ := args
    match L, hs with
    | [w0, w1, w2, w3, w4, w5], _ => exact ⟨w0, w1, w2, w3, w4, w5, rfl⟩
  have hw := fun d (hd : d ∈ tables_1) => atoms_spec (ws := Jvm.Cond.code x code maxLocals ret :: tables_1) hat d (List.mem_cons_of_mem _ hd)
  obtain ⟨i0, ei0⟩ := isL_v g383
  obtain rfl : w0 = (.long i0) := Option.some.inj ei0
  obtain ⟨i1, ei1⟩ := isL_v g385
  obtain rfl : w1 = (.long i1) := Option.some.inj ei1
  obtain ⟨i2, ei2⟩ := isL_v g387
  obtain rfl : w2 = (.long i2) := Option.some.inj ei2
  obtain ⟨i3, ei3⟩ := isL_v g389
  obtain rfl : w3 = (.long i3) := Option.some.inj ei3
  obtain ⟨i4, ei4⟩ := isL_v g391
  obtain rfl : w4 = (.long i4) := Option.some.inj ei4
  obtain ⟨i5, ei5⟩ := is_v g392
  obtain rfl : w5 = (.int i5) := Option.some.inj ei5
  obtain ⟨n, o, h1, h2, h3, _, L, rfl, ⟨rfl, N⟩, hq⟩ := rm0 l s _ hw tables_1 i0 i1 i2 i3 i4 i5 s.heap s.heap.size (Nat.le_refl _) p e ha hc hk s m _ below hf ((Spec.applies_iff_loose hf).mp happ).1 ⟨rfl, State.Warmed39.refl s, rfl⟩ trivial
  refine ⟨n, _, h1, h2, h3, hpost _ _ _ _ _ _ ⟨Cond.after_iff.mpr rfl, Cond.after_iff.mpr (eq_i res_at (Term.int_eval (1)) rfl), trivial⟩ ⟨hq.1, hq.2.1, (hq.2.2.sift fun y hy => Or.inr (N y hy)).mono (by decide) (by decide)⟩⟩
theorem main_1_1 : Claimed_1_1 := comes_1 fun _ _ _ _ _ _ h hF => ⟨h.1, hF⟩
theorem main_1_2 : Claimed_1_2 := comes_1 fun _ _ _ _ _ _ h hF => ⟨h.2.1, hF⟩
end Jvm.Pilot.@@N@@
namespace Jvm.Pilot.@@N@@
open Jvm Jvm.ClassFile Sem Op Lib Jvm.Free Jvm.Stand Jvm.Pilot.@@N@@.Jvm.D
/-! MADE BY PROGRAM (witnessworld.py) out of the Statement's table words and the real class files: 11 classes; the members and pool entries that the words name. The judged class is class 1, her method 1. -/
namespace start1
open Jvm.ClassFile
def u (s : String) : CpInfo := .utf8 (stringToUtf16 s)
/-- a pool by its gaps: so many unusable entries, then the entry; so many at the end -/
def gap : Nat → List CpInfo → List CpInfo
  | 0, r => r
  | n + 1, r => .unusable :: gap n r
def poolList (es : List (Nat × CpInfo)) (last : Nat) : List CpInfo := es.foldr (fun e r => gap e.1 (e.2 :: r)) (gap last [])
def pool (es : List (Nat × CpInfo)) (last : Nat) : Array CpInfo := ⟨poolList es last⟩
def fileOf (pool : Array CpInfo) (this : Nat) (attrs : Array Attribute := #[]) (ms : Array MethodInfo := #[]) (fl : Nat := 33) (sup : Nat := 0) (ifs : Array Nat := #[]) (fds : Array FieldInfo := #[]) : ClassFile where
  minorVersion := 0
  majorVersion := 65
  constantPool := pool
  accessFlags := fl
  thisClass := this
  superClass := sup
  interfaces := ifs
  fields := fds
  methods := ms
  attributes := attrs
def plain (name : String) (sup : Option ClassId) : Class where
  name := name
  kind := .ordinary
  loader := none
  accessFlags := 33
  super := sup
  interfaces := #[]
  cf := none
  fields := #[]
  methods := #[]
  instanceTypes := #[]
  staticTypes := #[]
  resolved := #[]
  callSites := []
  init := .initialized
  statics := none
  mirror := none

def pool0 : Array CpInfo := pool [(5, u "<init>"), (0, u "()V"), (1, .class_ 10), (1, u "java/lang/Object")] 113

def k0m0 : Method := { name := "<init>", desc := "()V", sig := { parameters := [], returnType := none }, accessFlags := 1, code := none }
/-- java/lang/Object -/
def k0 : Class := { plain "java/lang/Object" none with
  accessFlags := 33
  interfaces := #[]
  cf := some (fileOf pool0 8 #[] #[{ accessFlags := 1, nameIndex := 5, descriptorIndex := 6, attributes := #[] }] 33 0 #[] #[])
  fields := #[]
  methods := #[k0m0]
  instanceTypes := #[]
  staticTypes := #[]
  resolved := Array.replicate 124 none
  statics := none }

def pool1 : Array CpInfo := pool [(2, .class_ 4), (1, u "java/lang/Object"), (0, u "<init>"), (0, u "()V"), (0, .long 536870911), (1, .integer 2147483647), (0, .long 18446744073709551615), (1, .long 288230376151711743), (1, .methodref 15 16), (0, .class_ 17), (0, .nameAndType 18 19), (0, u "com/example/portcullis/portcullis/protocol/Field"), (0, u "pack"), (0, u "([J[JI)V"), (0, .class_ 21), (0, u "com/example/portcullis/portcullis/protocol/FieldPackPinLaw"), (2, u "law"), (0, u "(JJJJJI)Z")] 5

def k1m0 : Method := { name := "<init>", desc := "()V", sig := { parameters := [], returnType := none }, accessFlags := 1, code := none }
def k1c1 : Code := { maxStack := 6, maxLocals := 18, code := code, exceptionTable := #[], attributes := #[] }
def k1m1 : Method := { name := "law", desc := "(JJJJJI)Z", sig := { parameters := [.long, .long, .long, .long, .long, .int], returnType := some .boolean }, accessFlags := 9, code := some k1c1 }
/-- com/example/portcullis/portcullis/protocol/FieldPackPinLaw -/
def k1 : Class := { plain "com/example/portcullis/portcullis/protocol/FieldPackPinLaw" (some 0) with
  accessFlags := 49
  interfaces := #[]
  cf := some (fileOf pool1 20 #[] #[{ accessFlags := 1, nameIndex := 5, descriptorIndex := 6, attributes := #[] }, { accessFlags := 9, nameIndex := 24, descriptorIndex := 25, attributes := #[] }] 49 2 #[] #[])
  fields := #[]
  methods := #[k1m0, k1m1]
  instanceTypes := #[]
  staticTypes := #[]
  resolved := Array.replicate 31 none
  statics := none }

def pool2 : Array CpInfo := pool [(1, .class_ 2), (0, u "com/example/portcullis/portcullis/protocol/Field"), (1, .class_ 6), (1, u "java/lang/Object"), (4, u "modulus"), (0, u "Ljava/math/BigInteger;"), (6, u "limbs"), (0, u "[J"), (8, u "twice"), (17, u "inverse"), (0, u "J"), (2, u "SPARSE_PRIME"), (6, u "sparse"), (0, u "Z"), (2, u "RADIX"), (8, u "radixSquared"), (2, u "one"), (12, u "inverter"), (0, u "[I"), (76, u "P"), (0, u "Lcom/example/portcullis/portcullis/protocol/Field;"), (8, u "N"), (0, u "LIMBS"), (0, u "I"), (2, u "BYTES"), (1, u "PACKED"), (1, u "BITS"), (1, u "MASK"), (10, u "pack"), (0, u "([J[JI)V")] 11

def k2c0 : Code := { maxStack := 6, maxLocals := 6, code := prog_3_method_10_code, exceptionTable := #[], attributes := #[] }
def k2m0 : Method := { name := "pack", desc := "([J[JI)V", sig := { parameters := [(.array .long), (.array .long), .int], returnType := none }, accessFlags := 8, code := some k2c0 }
/-- com/example/portcullis/portcullis/protocol/Field -/
def k2 : Class := { plain "com/example/portcullis/portcullis/protocol/Field" (some 0) with
  accessFlags := 48
  interfaces := #[]
  cf := some (fileOf pool2 1 #[] #[{ accessFlags := 8, nameIndex := 197, descriptorIndex := 198, attributes := #[] }] 48 4 #[] #[{ accessFlags := 24, nameIndex := 176, descriptorIndex := 177, attributes := #[] }, { accessFlags := 24, nameIndex := 180, descriptorIndex := 177, attributes := #[] }, { accessFlags := 24, nameIndex := 182, descriptorIndex := 177, attributes := #[] }, { accessFlags := 26, nameIndex := 184, descriptorIndex := 177, attributes := #[] }, { accessFlags := 26, nameIndex := 186, descriptorIndex := 48, attributes := #[] }, { accessFlags := 26, nameIndex := 62, descriptorIndex := 12, attributes := #[] }, { accessFlags := 26, nameIndex := 51, descriptorIndex := 12, attributes := #[] }, { accessFlags := 24, nameIndex := 165, descriptorIndex := 166, attributes := #[] }, { accessFlags := 24, nameIndex := 175, descriptorIndex := 166, attributes := #[] }, { accessFlags := 18, nameIndex := 11, descriptorIndex := 12, attributes := #[] }, { accessFlags := 18, nameIndex := 19, descriptorIndex := 20, attributes := #[] }, { accessFlags := 18, nameIndex := 29, descriptorIndex := 20, attributes := #[] }, { accessFlags := 18, nameIndex := 47, descriptorIndex := 48, attributes := #[] }, { accessFlags := 18, nameIndex := 58, descriptorIndex := 59, attributes := #[] }, { accessFlags := 18, nameIndex := 71, descriptorIndex := 20, attributes := #[] }, { accessFlags := 18, nameIndex := 74, descriptorIndex := 20, attributes := #[] }, { accessFlags := 18, nameIndex := 87, descriptorIndex := 88, attributes := #[] }])
  fields := #[{ name := "LIMBS", type := .int, accessFlags := 24, slot := 0, constantValue := 0 }, { name := "BYTES", type := .int, accessFlags := 24, slot := 1, constantValue := 0 }, { name := "PACKED", type := .int, accessFlags := 24, slot := 2, constantValue := 0 }, { name := "BITS", type := .int, accessFlags := 26, slot := 3, constantValue := 0 }, { name := "MASK", type := .long, accessFlags := 26, slot := 4, constantValue := 0 }, { name := "RADIX", type := (.object "java/math/BigInteger"), accessFlags := 26, slot := 5, constantValue := 0 }, { name := "SPARSE_PRIME", type := (.object "java/math/BigInteger"), accessFlags := 26, slot := 6, constantValue := 0 }, { name := "P", type := (.object "com/example/portcullis/portcullis/protocol/Field"), accessFlags := 24, slot := 7, constantValue := 0 }, { name := "N", type := (.object "com/example/portcullis/portcullis/protocol/Field"), accessFlags := 24, slot := 8, constantValue := 0 }, { name := "modulus", type := (.object "java/math/BigInteger"), accessFlags := 18, slot := 0, constantValue := 0 }, { name := "limbs", type := (.array .long), accessFlags := 18, slot := 1, constantValue := 0 }, { name := "twice", type := (.array .long), accessFlags := 18, slot := 2, constantValue := 0 }, { name := "inverse", type := .long, accessFlags := 18, slot := 3, constantValue := 0 }, { name := "sparse", type := .boolean, accessFlags := 18, slot := 4, constantValue := 0 }, { name := "radixSquared", type := (.array .long), accessFlags := 18, slot := 5, constantValue := 0 }, { name := "one", type := (.array .long), accessFlags := 18, slot := 6, constantValue := 0 }, { name := "inverter", type := (.array .int), accessFlags := 18, slot := 7, constantValue := 0 }]
  methods := #[k2m0]
  instanceTypes := #[(.object "java/math/BigInteger"), (.array .long), (.array .long), .long, .boolean, (.array .long), (.array .long), (.array .int)]
  staticTypes := #[.int, .int, .int, .int, .long, (.object "java/math/BigInteger"), (.object "java/math/BigInteger"), (.object "com/example/portcullis/portcullis/protocol/Field"), (.object "com/example/portcullis/portcullis/protocol/Field")]
  resolved := Array.replicate 210 none
  statics := none }

def pool3 : Array CpInfo := pool [(1, u "java/lang/Cloneable"), (0, .class_ 1), (0, u "java/lang/Object"), (0, .class_ 3)] 3

/-- java/lang/Cloneable -/
def k3 : Class := { plain "java/lang/Cloneable" (some 0) with
  accessFlags := 1537
  interfaces := #[]
  cf := some (fileOf pool3 2 #[] #[] 1537 4 #[] #[])
  fields := #[]
  methods := #[]
  instanceTypes := #[]
  staticTypes := #[]
  resolved := Array.replicate 8 none
  statics := none }

def pool4 : Array CpInfo := pool [(1, u "java/io/Serializable"), (0, .class_ 1), (0, u "java/lang/Object"), (0, .class_ 3)] 3

/-- java/io/Serializable -/
def k4 : Class := { plain "java/io/Serializable" (some 0) with
  accessFlags := 1537
  interfaces := #[]
  cf := some (fileOf pool4 2 #[] #[] 1537 4 #[] #[])
  fields := #[]
  methods := #[]
  instanceTypes := #[]
  staticTypes := #[]
  resolved := Array.replicate 8 none
  statics := none }

/-- the primitive byte -/
def k5 : Class := { plain "byte" none with kind := .primitive 'B', accessFlags := 0x411 }
/-- [B -/
def k6 : Class := { plain "[B" (some 0) with kind := .array 5 .byte, interfaces := #[3, 4], accessFlags := 1041 }

/-- the primitive int -/
def k7 : Class := { plain "int" none with kind := .primitive 'I', accessFlags := 0x411 }
/-- [I -/
def k8 : Class := { plain "[I" (some 0) with kind := .array 7 .int, interfaces := #[3, 4], accessFlags := 1041 }

/-- the primitive long -/
def k9 : Class := { plain "long" none with kind := .primitive 'J', accessFlags := 0x411 }
/-- [J -/
def k10 : Class := { plain "[J" (some 0) with kind := .array 9 .long, interfaces := #[3, 4], accessFlags := 1041 }

def heap : Heap := #[]
def classes : Array Class := #[k0, k1, k2, k3, k4, k5, k6, k7, k8, k9, k10]
def interned : List (Array UInt16 × Addr) := []
def slotsUsed : Nat := 0
def theMethod : MethodId := ⟨1, 1⟩
def args0 : Array Value := #[.long 5, .long 7, .long 1, .long 3, .long 2, .int 1]
def aboutOver (below : List Frame) : State where
  vm := { classes := classes, interned := interned.toArray }
  heap := heap
  slotsUsed := slotsUsed
  threads := #[{ frames := .invoking theMethod args0 :: below }]
def below0 : List Frame := [.native { method := ⟨0, 0⟩, args := #[] }]
def about1 : State := aboutOver below0
def p0 : Program := .bare "" "" ""
def e0 : Env := launch0.env 0 0 0
theorem w_frames : about1.frames = Frame.invoking theMethod args0 :: below0 := rfl
set_option maxRecDepth 65536 in
theorem w_args : argsFit about1.vm theMethod args0 = true := by decide +kernel
set_option maxRecDepth 65536 in
theorem w_heap : heapFits about1 = true := by decide +kernel
set_option maxRecDepth 65536 in
theorem w_runnable : about1.curStatus? = some .runnable := by decide +kernel
set_option maxRecDepth 65536 in
theorem w_alone : about1.alone = true := by decide +kernel
set_option maxRecDepth 65536 in
theorem w_named : about1.methodNamed? x = some theMethod := by decide +kernel
set_option maxRecDepth 65536 in
theorem w_hears : about1.hears theMethod below0 = true := by decide +kernel
set_option maxRecDepth 65536 in
theorem w_ripe : about1.ripe theMethod args0 below0 = true := by decide +kernel
theorem w_running : about1.status = .running := rfl
set_option maxRecDepth 65536 in
theorem w_room : about1.hasRoom e0.platform room_1 = true :=
  launch0.hasRoom_least _ room_1 (by decide +kernel) (by decide +kernel) (by decide +kernel) (by decide +kernel) (by decide +kernel) (by decide +kernel)
theorem allAtoms_all (ts : List Jvm.Cond) (a : Array Jvm.Value) (st : Jvm.State) : (allAtoms ts).before a st = ts.all (fun c => c.before a st) := by
  induction ts with
  | nil => rfl
  | cons c t ih =>
    show (Jvm.Cond.and c (allAtoms t)).before a st = _
    rw [Jvm.Cond.before_and, ih, List.all_cons]
def words1 : List Jvm.Cond := Jvm.Cond.code x code maxLocals ret :: tables_1
/-- a 'code' word, met by the world's own term for the bytes: nothing is compared byte by byte -/
theorem code_word {y : MethodName} {bytes : ByteArray} {mx : Nat} {rt : Option FieldType} {a : Array Value} {s : State} {m : MethodId} {meth : Method} {c : Code} (h1 : s.methodNamed? y = some m) (h2 : s.vm.method? m = some meth) (h3 : meth.code = some c) (h4 : c.code = bytes)
    (h5 : (c.maxLocals == mx && c.exceptionTable.isEmpty && decide (c.maxStack ≤ mostOperands) && decide (meth.sig.returnType = rt) && !meth.locks && decide (parseMethodDescriptor y.desc = some meth.sig)) = true) : (Jvm.Cond.code y bytes mx rt).before a s = true := by
  simp only [Bool.and_eq_true, beq_iff_eq, Bool.not_eq_true', decide_eq_true_eq] at h5
  obtain ⟨⟨⟨⟨⟨g1, g2⟩, g3⟩, g4⟩, g5⟩, g6⟩ := h5
  simp [Cond.before, Cond.holds, Cond.value, h1, h2, h3, h4, g1, g2, g3, g4, g5, g6]
def isCode : Jvm.Cond → Bool
  | .code _ _ _ _ => true
  | _ => false
theorem all_split {L : List Jvm.Cond} {P : Jvm.Cond → Bool} (h1 : L.all (fun c => isCode c || P c) = true) (h2 : ∀ c ∈ L.filter isCode, P c = true) : L.all P = true := by
  refine List.all_eq_true.mpr fun c hc => ?_
  have h := List.all_eq_true.mp h1 c hc
  rcases Bool.eq_false_or_eq_true (isCode c) with hi | hi
  · exact h2 c (List.mem_filter.mpr ⟨hc, hi⟩)
  · simpa [hi] using h
set_option maxRecDepth 65536 in
theorem w_c0 : (Jvm.Cond.code x code maxLocals ret).before args0 about1 = true := code_word (m := ⟨1, 1⟩) (meth := k1m1) (c := k1c1) (by decide +kernel) rfl rfl rfl (by decide +kernel)
set_option maxRecDepth 65536 in
theorem w_c1 : (Jvm.Cond.code ({ cls := "com/example/portcullis/portcullis/protocol/Field", name := "pack", desc := "([J[JI)V" } : Jvm.MethodName) prog_3_method_10_code (6 : Nat) (Option.none : Option Jvm.ClassFile.FieldType)).before args0 about1 = true := code_word (m := ⟨2, 0⟩) (meth := k2m0) (c := k2c0) (by decide +kernel) rfl rfl rfl (by decide +kernel)
def codes1 : List Jvm.Cond := [Jvm.Cond.code x code maxLocals ret, Jvm.Cond.code ({ cls := "com/example/portcullis/portcullis/protocol/Field", name := "pack", desc := "([J[JI)V" } : Jvm.MethodName) prog_3_method_10_code (6 : Nat) (Option.none : Option Jvm.ClassFile.FieldType)]
set_option maxRecDepth 65536 in
theorem codes_eq : words1.filter isCode = codes1 := rfl
theorem w_codes : ∀ c ∈ words1.filter isCode, c.before args0 about1 = true := by
  rw [codes_eq]
  intro c hc
  simp only [codes1, List.mem_cons, List.not_mem_nil, or_false] at hc
  rcases hc with rfl | rfl
  · exact w_c0
  · exact w_c1
set_option maxRecDepth 65536 in
theorem w_t1 : words1.all (fun c => isCode c || c.before args0 about1) = true := by decide +kernel
theorem w_tables : (allAtoms (Jvm.Cond.code x code maxLocals ret :: tables_1)).before args0 about1 = true := by
  rw [allAtoms_all]
  show words1.all (fun c => c.before args0 about1) = true
  refine all_split ?_ w_codes
  rw [w_t1]
set_option maxRecDepth 65536 in
theorem w_case : (Jvm.Cond.and given_1 narrow_1).before args0 about1 = true := by decide +kernel
theorem w_applies : (headSpec (Jvm.Cond.code x code maxLocals ret :: tables_1) room_1).applies x e0.platform about1 = true :=
  (Spec.applies_iff w_frames).mpr ⟨w_running, w_runnable, w_alone, w_named, w_hears, w_ripe, w_room, w_tables⟩
theorem atStart : AtStart classFile x code maxLocals ret World_1 tables_1 room_1 Calls_1 rest_1 Pre_1 launch0 p0 e0 about1 theMethod args0 below0 :=
  ⟨lists_1, trivial, launch0.admits_env _ _ _, launch0.least_env, fairChoices_fair.cas, fairChoices_fair.clock, w_frames, w_args, w_heap, w_applies, trivial, trivial, w_case⟩
end start1
theorem witness_1 : WitnessClaimed_1 := ⟨start1.p0, start1.e0, start1.about1, start1.theMethod, start1.args0, start1.below0, start1.atStart⟩
end Jvm.Pilot.@@N@@
