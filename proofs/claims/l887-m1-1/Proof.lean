import JvmDerived
import JvmDerived.Pilot.@@N@@Statement
import JvmDerived.Pilot.@@N@@Code
set_option linter.unusedVariables false
set_option linter.unusedSimpArgs false
namespace Jvm.OwnK
open Sem ClassFile Op Lib Jvm.Stand Jvm.Free Jvm.LawKit Jvm.RoadKit
section
variable {p : Program} {l : Launch} {e : Env} {R : Room} {s : State} {m : MethodId} {args : Array Value} {below : List Frame} {meth : Method} {c : Code} {T : State} {locs : List Loc} {cells slots : Nat} {Cn Sn : Nat} {Q : Option Value → Heap → List Loc → Prop}
/-- from the frame f the run comes to an end that Q takes -/
def KEnds (p : Program) (e : Env) (below : List Frame) (s : State) (Cn Sn : Nat) (Q : Option Value → Heap → List Loc → Prop) (T : State) (f : JFrame) : Prop :=
  ∃ s₂ o, Steps p.tables e below (T.setTop f) s₂ ∧ s₂.status = .running ∧ Ended s₂ below o ∧ ∃ v L, o = .returned v ∧ Q v s₂.heap L ∧ FrameEnd s o s₂ L Cn Sn
theorem k_via {T' : State} {f f' : JFrame} (st : ∀ t, Steps p.tables e below (T'.setTop f') t → Steps p.tables e below (T.setTop f) t) (k : KEnds p e below s Cn Sn Q T' f') : KEnds p e below s Cn Sn Q T f := by
  obtain ⟨s₂, o, h, r⟩ := k
  exact ⟨s₂, o, st _ h, r⟩
theorem k_iloadN (X : Stand p l e R s m args below meth c T locs cells slots) (hx : p.tables.exec = Jvm.exec) {pc pc' : Nat} {Ls : Array Slot} {St : List Value} {i : Fin 4} {v : Int32} (hd : decode c.code pc = .ok (.iload_n i, 1)) (hl : Ls[i.val]? = some (.val (.int v))) (hpc : pc + 1 = pc') (k : KEnds p e below s Cn Sn Q T (mkF m pc' Ls (.int v :: St))) : KEnds p e below s Cn Sn Q T (mkF m pc Ls (St)) := by
  subst hpc; exact k_via (fun t h => XS.iloadN X.here hx rfl hd hl h) k
theorem k_iload (X : Stand p l e R s m args below meth c T locs cells slots) (hx : p.tables.exec = Jvm.exec) {pc pc' : Nat} {Ls : Array Slot} {St : List Value} {i : Nat} {v : Int32} (hd : decode c.code pc = .ok (.iload i, 2)) (hl : Ls[i]? = some (.val (.int v))) (hpc : pc + 2 = pc') (k : KEnds p e below s Cn Sn Q T (mkF m pc' Ls (.int v :: St))) : KEnds p e below s Cn Sn Q T (mkF m pc Ls (St)) := by
  subst hpc; exact k_via (fun t h => XS.iload X.here hx rfl hd hl h) k
theorem k_istoreN (X : Stand p l e R s m args below meth c T locs cells slots) (hx : p.tables.exec = Jvm.exec) {pc pc' : Nat} {Ls : Array Slot} {St : List Value} {i : Fin 4} {v : Int32} {Ls' : Array Slot} (hd : decode c.code pc = .ok (.istore_n i, 1)) (hl : storeLocals Ls i.val (.int v) = some Ls') (hpc : pc + 1 = pc') (k : KEnds p e below s Cn Sn Q T (mkF m pc' Ls' (St))) : KEnds p e below s Cn Sn Q T (mkF m pc Ls (.int v :: St)) := by
  subst hpc; exact k_via (fun t h => XS.istoreN X.here hx rfl hd rfl hl h) k
theorem k_istore (X : Stand p l e R s m args below meth c T locs cells slots) (hx : p.tables.exec = Jvm.exec) {pc pc' : Nat} {Ls : Array Slot} {St : List Value} {i : Nat} {v : Int32} {Ls' : Array Slot} (hd : decode c.code pc = .ok (.istore i, 2)) (hl : storeLocals Ls i (.int v) = some Ls') (hpc : pc + 2 = pc') (k : KEnds p e below s Cn Sn Q T (mkF m pc' Ls' (St))) : KEnds p e below s Cn Sn Q T (mkF m pc Ls (.int v :: St)) := by
  subst hpc; exact k_via (fun t h => XS.istore X.here hx rfl hd rfl hl h) k
theorem k_aloadN (X : Stand p l e R s m args below meth c T locs cells slots) (hx : p.tables.exec = Jvm.exec) {pc pc' : Nat} {Ls : Array Slot} {St : List Value} {i : Fin 4} {v : Value} (hd : decode c.code pc = .ok (.aload_n i, 1)) (hl : Ls[i.val]? = some (.val v)) (hv : v.isRef = true) (hpc : pc + 1 = pc') (k : KEnds p e below s Cn Sn Q T (mkF m pc' Ls (v :: St))) : KEnds p e below s Cn Sn Q T (mkF m pc Ls (St)) := by
  subst hpc; exact k_via (fun t h => XS.aloadN X.here hx rfl hd hl hv h) k
theorem k_aload (X : Stand p l e R s m args below meth c T locs cells slots) (hx : p.tables.exec = Jvm.exec) {pc pc' : Nat} {Ls : Array Slot} {St : List Value} {i : Nat} {v : Value} (hd : decode c.code pc = .ok (.aload i, 2)) (hl : Ls[i]? = some (.val v)) (hv : v.isRef = true) (hpc : pc + 2 = pc') (k : KEnds p e below s Cn Sn Q T (mkF m pc' Ls (v :: St))) : KEnds p e below s Cn Sn Q T (mkF m pc Ls (St)) := by
  subst hpc; exact k_via (fun t h => XS.aload X.here hx rfl hd hl hv h) k
theorem k_astore (X : Stand p l e R s m args below meth c T locs cells slots) (hx : p.tables.exec = Jvm.exec) {pc pc' : Nat} {Ls : Array Slot} {St : List Value} {i : Nat} {v : Value} {Ls' : Array Slot} (hd : decode c.code pc = .ok (.astore i, 2)) (hv : v.isRef = true) (hl : storeLocals Ls i v = some Ls') (hpc : pc + 2 = pc') (k : KEnds p e below s Cn Sn Q T (mkF m pc' Ls' (St))) : KEnds p e below s Cn Sn Q T (mkF m pc Ls (v :: St)) := by
  subst hpc; exact k_via (fun t h => XS.astore X.here hx rfl hd rfl hv hl h) k
theorem k_iconst (X : Stand p l e R s m args below meth c T locs cells slots) (hx : p.tables.exec = Jvm.exec) {pc pc' : Nat} {Ls : Array Slot} {St : List Value} {i : Int} {z : Int32} (hd : decode c.code pc = .ok (.iconst i, 1)) (hpc : pc + 1 = pc') (hz : Int32.ofInt i = z) (k : KEnds p e below s Cn Sn Q T (mkF m pc' Ls (.int z :: St))) : KEnds p e below s Cn Sn Q T (mkF m pc Ls St) := by
  subst hpc hz; exact k_via (fun t h => XS.iconst X.here hx rfl hd h) k
theorem k_iaddL (X : Stand p l e R s m args below meth c T locs cells slots) (hx : p.tables.exec = Jvm.exec) {pc pc' : Nat} {Ls : Array Slot} {St : List Value} {x y : Int32} {z : Int32} (hd : decode c.code pc = .ok (.iadd, 1))  (hpc : pc + 1 = pc') (hz : x + y = z) (k : KEnds p e below s Cn Sn Q T (mkF m pc' Ls (.int z :: St))) : KEnds p e below s Cn Sn Q T (mkF m pc Ls (.int y :: .int x :: St)) := by
  subst hpc hz; exact k_via (fun t h => XS.iadd X.here hx rfl hd rfl h) k
theorem k_iadd (X : Stand p l e R s m args below meth c T locs cells slots) (hx : p.tables.exec = Jvm.exec) {pc pc' : Nat} {Ls : Array Slot} {St : List Value} {x y : Int32} (hd : decode c.code pc = .ok (.iadd, 1))  (hpc : pc + 1 = pc') (k : ∀ z : Int32, z = x + y → KEnds p e below s Cn Sn Q T (mkF m pc' Ls (.int z :: St))) : KEnds p e below s Cn Sn Q T (mkF m pc Ls (.int y :: .int x :: St)) := by
  subst hpc; exact k_via (fun t h => XS.iadd X.here hx rfl hd rfl h) (k _ rfl)
theorem k_isubL (X : Stand p l e R s m args below meth c T locs cells slots) (hx : p.tables.exec = Jvm.exec) {pc pc' : Nat} {Ls : Array Slot} {St : List Value} {x y : Int32} {z : Int32} (hd : decode c.code pc = .ok (.isub, 1))  (hpc : pc + 1 = pc') (hz : x - y = z) (k : KEnds p e below s Cn Sn Q T (mkF m pc' Ls (.int z :: St))) : KEnds p e below s Cn Sn Q T (mkF m pc Ls (.int y :: .int x :: St)) := by
  subst hpc hz; exact k_via (fun t h => XS.isub X.here hx rfl hd rfl h) k
theorem k_isub (X : Stand p l e R s m args below meth c T locs cells slots) (hx : p.tables.exec = Jvm.exec) {pc pc' : Nat} {Ls : Array Slot} {St : List Value} {x y : Int32} (hd : decode c.code pc = .ok (.isub, 1))  (hpc : pc + 1 = pc') (k : ∀ z : Int32, z = x - y → KEnds p e below s Cn Sn Q T (mkF m pc' Ls (.int z :: St))) : KEnds p e below s Cn Sn Q T (mkF m pc Ls (.int y :: .int x :: St)) := by
  subst hpc; exact k_via (fun t h => XS.isub X.here hx rfl hd rfl h) (k _ rfl)
theorem k_iand (X : Stand p l e R s m args below meth c T locs cells slots) (hx : p.tables.exec = Jvm.exec) {pc pc' : Nat} {Ls : Array Slot} {St : List Value} {x y : Int32} (hd : decode c.code pc = .ok (.iand, 1))  (hpc : pc + 1 = pc') (k : ∀ z : Int32, z = x &&& y → KEnds p e below s Cn Sn Q T (mkF m pc' Ls (.int z :: St))) : KEnds p e below s Cn Sn Q T (mkF m pc Ls (.int y :: .int x :: St)) := by
  subst hpc; exact k_via (fun t h => XS.iand X.here hx rfl hd rfl h) (k _ rfl)
theorem k_ishr (X : Stand p l e R s m args below meth c T locs cells slots) (hx : p.tables.exec = Jvm.exec) {pc pc' : Nat} {Ls : Array Slot} {St : List Value} {x y : Int32} (hd : decode c.code pc = .ok (.ishr, 1))  (hpc : pc + 1 = pc') (k : ∀ z : Int32, z = x >>> (y &&& 31) → KEnds p e below s Cn Sn Q T (mkF m pc' Ls (.int z :: St))) : KEnds p e below s Cn Sn Q T (mkF m pc Ls (.int y :: .int x :: St)) := by
  subst hpc; exact k_via (fun t h => XS.ishr X.here hx rfl hd rfl h) (k _ rfl)
theorem k_iinc (X : Stand p l e R s m args below meth c T locs cells slots) (hx : p.tables.exec = Jvm.exec) {pc pc' : Nat} {Ls : Array Slot} {St : List Value} {i : Nat} {cst : Int} {x z : Int32} {Ls' : Array Slot} (hd : decode c.code pc = .ok (.iinc i cst, 3)) (hl : Ls[i]? = some (.val (.int x))) (hpc : pc + 3 = pc') (hz : x + Int32.ofInt cst = z) (hl' : storeLocals Ls i (.int z) = some Ls') (k : KEnds p e below s Cn Sn Q T (mkF m pc' Ls' St)) : KEnds p e below s Cn Sn Q T (mkF m pc Ls St) := by
  subst hpc hz; exact k_via (fun t h => XS.iinc X.here hx rfl hd hl hl' h) k
theorem k_dup (X : Stand p l e R s m args below meth c T locs cells slots) (hx : p.tables.exec = Jvm.exec) {pc pc' : Nat} {Ls : Array Slot} {St : List Value} {v : Value} (hd : decode c.code pc = .ok (.dup, 1)) (hv : v.category = 1) (hpc : pc + 1 = pc') (k : KEnds p e below s Cn Sn Q T (mkF m pc' Ls (v :: v :: St))) : KEnds p e below s Cn Sn Q T (mkF m pc Ls (v :: St)) := by
  subst hpc; exact k_via (fun t h => XS.dup X.here hx rfl hd rfl hv h) k
theorem k_dup2 (X : Stand p l e R s m args below meth c T locs cells slots) (hx : p.tables.exec = Jvm.exec) {pc pc' : Nat} {Ls : Array Slot} {St : List Value} {v w : Value} (hd : decode c.code pc = .ok (.dup2, 1)) (hv : v.category = 1) (hw : w.category = 1) (hpc : pc + 1 = pc') (k : KEnds p e below s Cn Sn Q T (mkF m pc' Ls (v :: w :: v :: w :: St))) : KEnds p e below s Cn Sn Q T (mkF m pc Ls (v :: w :: St)) := by
  subst hpc; exact k_via (fun t h => XT.dup2 X.here hx rfl hd rfl hv hw h) k
theorem k_goto (X : Stand p l e R s m args below meth c T locs cells slots) (hx : p.tables.exec = Jvm.exec) {pc pc' : Nat} {Ls : Array Slot} {St : List Value} {o : Int} (hd : decode c.code pc = .ok (.goto o, 3)) (hp : (pc : Int) + o = (pc' : Int)) (k : KEnds p e below s Cn Sn Q T (mkF m pc' Ls St)) : KEnds p e below s Cn Sn Q T (mkF m pc Ls St) :=
  k_via (fun t h => XS.goto X.here hx rfl (pc0 := pc) rfl hd (by omega) (by omega) h) k
theorem k_icmp_lt (X : Stand p l e R s m args below meth c T locs cells slots) (hx : p.tables.exec = Jvm.exec) {pc pn py : Nat} {Ls : Array Slot} {St : List Value} {x y : Int32} {o : Int} (hd : decode c.code pc = .ok (.if_icmp .lt o, 3)) (hn : pc + 3 = pn) (hp : (pc : Int) + o = (py : Int)) (ky : x < y → KEnds p e below s Cn Sn Q T (mkF m py Ls St)) (kn : ¬ x < y → KEnds p e below s Cn Sn Q T (mkF m pn Ls St)) : KEnds p e below s Cn Sn Q T (mkF m pc Ls (.int y :: .int x :: St)) := by
  subst hn
  by_cases hc : x < y
  · exact k_via (fun t h => XS.icmpYes X.here hx rfl (pc0 := pc) rfl hd rfl (tlt hc).1 (by omega) (by omega) h) (ky hc)
  · exact k_via (fun t h => XS.icmpNo X.here hx rfl hd rfl (flt hc).1 h) (kn hc)
theorem k_if_lt (X : Stand p l e R s m args below meth c T locs cells slots) (hx : p.tables.exec = Jvm.exec) {pc pn py : Nat} {Ls : Array Slot} {St : List Value} {x : Int32} {o : Int} (hd : decode c.code pc = .ok (.ifCond .lt o, 3)) (hn : pc + 3 = pn) (hp : (pc : Int) + o = (py : Int)) (ky : x < (0 : Int32) → KEnds p e below s Cn Sn Q T (mkF m py Ls St)) (kn : ¬ x < (0 : Int32) → KEnds p e below s Cn Sn Q T (mkF m pn Ls St)) : KEnds p e below s Cn Sn Q T (mkF m pc Ls (.int x :: St)) := by
  subst hn
  by_cases hc : x < (0 : Int32)
  · exact k_via (fun t h => XS.ifYes X.here hx rfl (pc0 := pc) rfl hd rfl ((if0 _ _).trans (tlt hc).1) (by omega) (by omega) h) (ky hc)
  · exact k_via (fun t h => XS.ifNo X.here hx rfl hd rfl ((if0 _ _).trans (flt hc).1) h) (kn hc)
theorem k_icmp_ge (X : Stand p l e R s m args below meth c T locs cells slots) (hx : p.tables.exec = Jvm.exec) {pc pn py : Nat} {Ls : Array Slot} {St : List Value} {x y : Int32} {o : Int} (hd : decode c.code pc = .ok (.if_icmp .ge o, 3)) (hn : pc + 3 = pn) (hp : (pc : Int) + o = (py : Int)) (ky : ¬ x < y → KEnds p e below s Cn Sn Q T (mkF m py Ls St)) (kn : x < y → KEnds p e below s Cn Sn Q T (mkF m pn Ls St)) : KEnds p e below s Cn Sn Q T (mkF m pc Ls (.int y :: .int x :: St)) := by
  subst hn
  by_cases hc : x < y
  · exact k_via (fun t h => XS.icmpNo X.here hx rfl hd rfl (tlt hc).2.1 h) (kn hc)
  · exact k_via (fun t h => XS.icmpYes X.here hx rfl (pc0 := pc) rfl hd rfl (flt hc).2.1 (by omega) (by omega) h) (ky hc)
theorem k_if_ge (X : Stand p l e R s m args below meth c T locs cells slots) (hx : p.tables.exec = Jvm.exec) {pc pn py : Nat} {Ls : Array Slot} {St : List Value} {x : Int32} {o : Int} (hd : decode c.code pc = .ok (.ifCond .ge o, 3)) (hn : pc + 3 = pn) (hp : (pc : Int) + o = (py : Int)) (ky : ¬ x < (0 : Int32) → KEnds p e below s Cn Sn Q T (mkF m py Ls St)) (kn : x < (0 : Int32) → KEnds p e below s Cn Sn Q T (mkF m pn Ls St)) : KEnds p e below s Cn Sn Q T (mkF m pc Ls (.int x :: St)) := by
  subst hn
  by_cases hc : x < (0 : Int32)
  · exact k_via (fun t h => XS.ifNo X.here hx rfl hd rfl ((if0 _ _).trans (tlt hc).2.1) h) (kn hc)
  · exact k_via (fun t h => XS.ifYes X.here hx rfl (pc0 := pc) rfl hd rfl ((if0 _ _).trans (flt hc).2.1) (by omega) (by omega) h) (ky hc)
theorem k_if_eq (X : Stand p l e R s m args below meth c T locs cells slots) (hx : p.tables.exec = Jvm.exec) {pc pn py : Nat} {Ls : Array Slot} {St : List Value} {x : Int32} {o : Int} (hd : decode c.code pc = .ok (.ifCond .eq o, 3)) (hn : pc + 3 = pn) (hp : (pc : Int) + o = (py : Int)) (ky : x = (0 : Int32) → KEnds p e below s Cn Sn Q T (mkF m py Ls St)) (kn : ¬ x = (0 : Int32) → KEnds p e below s Cn Sn Q T (mkF m pn Ls St)) : KEnds p e below s Cn Sn Q T (mkF m pc Ls (.int x :: St)) := by
  subst hn
  by_cases hc : x = (0 : Int32)
  · exact k_via (fun t h => XS.ifYes X.here hx rfl (pc0 := pc) rfl hd rfl ((if0 _ _).trans (teq hc).1) (by omega) (by omega) h) (ky hc)
  · exact k_via (fun t h => XS.ifNo X.here hx rfl hd rfl ((if0 _ _).trans (feq hc).1) h) (kn hc)
theorem k_icmp_ne (X : Stand p l e R s m args below meth c T locs cells slots) (hx : p.tables.exec = Jvm.exec) {pc pn py : Nat} {Ls : Array Slot} {St : List Value} {x y : Int32} {o : Int} (hd : decode c.code pc = .ok (.if_icmp .ne o, 3)) (hn : pc + 3 = pn) (hp : (pc : Int) + o = (py : Int)) (ky : ¬ x = y → KEnds p e below s Cn Sn Q T (mkF m py Ls St)) (kn : x = y → KEnds p e below s Cn Sn Q T (mkF m pn Ls St)) : KEnds p e below s Cn Sn Q T (mkF m pc Ls (.int y :: .int x :: St)) := by
  subst hn
  by_cases hc : x = y
  · exact k_via (fun t h => XS.icmpNo X.here hx rfl hd rfl (teq hc).2 h) (kn hc)
  · exact k_via (fun t h => XS.icmpYes X.here hx rfl (pc0 := pc) rfl hd rfl (feq hc).2 (by omega) (by omega) h) (ky hc)
theorem k_if_ne (X : Stand p l e R s m args below meth c T locs cells slots) (hx : p.tables.exec = Jvm.exec) {pc pn py : Nat} {Ls : Array Slot} {St : List Value} {x : Int32} {o : Int} (hd : decode c.code pc = .ok (.ifCond .ne o, 3)) (hn : pc + 3 = pn) (hp : (pc : Int) + o = (py : Int)) (ky : ¬ x = (0 : Int32) → KEnds p e below s Cn Sn Q T (mkF m py Ls St)) (kn : x = (0 : Int32) → KEnds p e below s Cn Sn Q T (mkF m pn Ls St)) : KEnds p e below s Cn Sn Q T (mkF m pc Ls (.int x :: St)) := by
  subst hn
  by_cases hc : x = (0 : Int32)
  · exact k_via (fun t h => XS.ifNo X.here hx rfl hd rfl ((if0 _ _).trans (teq hc).2) h) (kn hc)
  · exact k_via (fun t h => XS.ifYes X.here hx rfl (pc0 := pc) rfl hd rfl ((if0 _ _).trans (feq hc).2) (by omega) (by omega) h) (ky hc)
theorem k_retN (X : Stand p l e R s m args below meth c T locs cells slots) (hx : p.tables.exec = Jvm.exec) {pc : Nat} {Ls : Array Slot} {St : List Value} {t : FieldType} {z z' : Int32} (hret : meth.sig.returnType = some t) (ht : t = .boolean ∨ t = .byte ∨ t = .char ∨ t = .short) (hd : decode c.code pc = .ok (.ireturn, 1)) (hlk : meth.locks = false) (hC : cells ≤ Cn) (hS : slots ≤ Sn) (hz : nar t z = z') (q : Q (some (.int z')) T.heap locs) : KEnds p e below s Cn Sn Q T (mkF m pc Ls (.int z :: St)) := by
  subst hz
  obtain ⟨fs, hr, hrun, hended, hW, hsame⟩ := X.leave (v := some (.int (nar t z))) (fun h => by rw [hret] at h; cases h) hlk
  exact ⟨_, _, retN X hx hret ht hd hr, hrun, hended, _, _, rfl, q, ⟨_, rfl⟩, hW, hsame.mono hC hS⟩
theorem k_retA (X : Stand p l e R s m args below meth c T locs cells slots) (hx : p.tables.exec = Jvm.exec) {pc : Nat} {Ls : Array Slot} {St : List Value} {t : FieldType} {a : Addr} (hret : meth.sig.returnType = some t) (ht : t.isReference = true) (hn : narrow t (.ref a) = .ref a) (hd : decode c.code pc = .ok (.areturn, 1)) (hlk : meth.locks = false) (hC : cells ≤ Cn) (hS : slots ≤ Sn) (q : Q (some (.ref a)) T.heap locs) : KEnds p e below s Cn Sn Q T (mkF m pc Ls (.ref a :: St)) := by
  obtain ⟨fs, hr, hrun, hended, hW, hsame⟩ := X.leave (v := some (.ref a)) (fun h => by rw [hret] at h; cases h) hlk
  exact ⟨_, _, retOut X hx hret hn (Or.inr (Or.inr (Or.inr (Or.inr ⟨rfl, ht, rfl⟩)))) hd hr, hrun, hended, _, _, rfl, q, ⟨_, rfl⟩, hW, hsame.mono hC hS⟩
variable {Z : State} {a0 : Array Value} {h : Heap} {own : String}
theorem k_ldc (X : Stand p l e R s m args below meth c T locs cells slots) (hx : p.tables.exec = Jvm.exec) (hZ : Z.Warmed39 s.vm) (hown : s.vm.findClass own = some m.cls) {pc pc' : Nat} {Ls : Array Slot} {St : List Value} {index : Nat} {v : Int32} (w : (Cond.constant own index v).before a0 Z = true) (hd : decode c.code pc = .ok (.ldc index, 2)) (hpc : pc + 2 = pc') (k : KEnds p e below s Cn Sn Q T (mkF m pc' Ls (.int v :: St))) : KEnds p e below s Cn Sn Q T (mkF m pc Ls St) := by
  subst hpc; exact k_via (X.ldcInt hx hown (mvT hZ w) (g := mkF m pc Ls St) rfl hd) k
theorem k_newA (X : Stand p l e R s m args below meth c T locs cells slots) (hx : p.tables.exec = Jvm.exec) (hZ : Z.Warmed39 s.vm) {pc pc' : Nat} {Ls : Array Slot} {St : List Value} {aty : ArrayType} (w : (Cond.arrayClass (newarray.typeOf aty)).before a0 Z = true) (eT : T.heap = h) (hd : decode c.code pc = .ok (.newarray aty, 2)) {n : Int32} (hn : ¬ n < 0) {cap : Nat} (hcap : n.toNatClampNeg ≤ cap) (hb : cap * 8 ≤ 536870912) (hc : cells + 1 ≤ R.cells) (hl : slots + cap ≤ R.slots) (hpc : pc + 2 = pc') (k : ∀ T' h' a cA, a = h.size → Stand p l e R s m args below meth c T' locs (cells + 1) (slots + cap) → T'.heap = h' → Ext h h' → Arv Z h' a cA (newarray.typeOf aty) n (List.replicate cap (defaultValue (newarray.typeOf aty))) (defaultValue (newarray.typeOf aty)) → KEnds p e below s Cn Sn Q T' (mkF m pc' Ls (.ref a :: St))) : KEnds p e below s Cn Sn Q T (mkF m pc Ls (.int n :: St)) := by
  subst hpc
  obtain ⟨T', h', cA, X', e', E', A', st⟩ := newP X hx hZ w eT (g := mkF m pc Ls (.int n :: St)) rfl hd rfl hn hcap hb hc hl
  exact k_via st (k T' h' _ cA rfl X' e' E' ((Arv.new A' hn).pad (pad_rep [] _ cap)))
theorem k_iastore (X : Stand p l e R s m args below meth c T locs cells slots) (hx : p.tables.exec = Jvm.exec) (hZ : Z.Warmed39 s.vm) {pc pc' : Nat} {Ls : Array Slot} {St : List Value} (eT : T.heap = h) {a : Addr} {kA : ClassId} {z j : Int32} {x : Int32} {vs : List Value} {dv : Value} (F : Arv Z h a kA .int z vs dv) (hj : ¬ j < 0 ∧ j < z) {i : Nat} (hi : j.toNatClampNeg = i) (hil : i < vs.length) (hd : decode c.code pc = .ok (.iastore, 1)) (hpc : pc + 1 = pc') (k : ∀ T' h', Stand p l e R s m args below meth c T' (locs ++ [⟨a, j.toNatClampNeg⟩]) cells slots → T'.heap = h' → Wr h h' a j.toNatClampNeg (.int (x)) → Arv Z h' a kA .int z (vs.set i (.int (x))) dv → KEnds p e below s Cn Sn Q T' (mkF m pc' Ls St)) : KEnds p e below s Cn Sn Q T (mkF m pc Ls (.int x :: .int j :: .ref a :: St)) := by
  subst hpc
  obtain ⟨cl, A, q1, S, N, H, G⟩ := F
  obtain ⟨T', h', X', e', W', st⟩ := stI X hx hZ eT A (inb_of S hj) (g := mkF m pc Ls (.int x :: .int j :: .ref a :: St)) rfl rfl hd
  exact k_via st (k T' h' X' e' W' (Arv.set A q1 S N H G rfl W' i hi hil))
theorem k_iaload (X : Stand p l e R s m args below meth c T locs cells slots) (hx : p.tables.exec = Jvm.exec) (hZ : Z.Warmed39 s.vm) {pc pc' : Nat} {Ls : Array Slot} {St : List Value} (eT : T.heap = h) {a : Addr} {kA : ClassId} {z j : Int32} {v : Value} {vs : List Value} {dv : Value} (F : Arv Z h a kA .int z vs dv) (hj : ¬ j < 0 ∧ j < z) (hv : vs.getD j.toNatClampNeg dv = v) (hd : decode c.code pc = .ok (.iaload, 1)) (hpc : pc + 1 = pc') (k : KEnds p e below s Cn Sn Q T (mkF m pc' Ls (v :: St))) : KEnds p e below s Cn Sn Q T (mkF m pc Ls (.int j :: .ref a :: St)) := by
  subst hpc
  obtain ⟨cl, A, q1, S, N, H, G⟩ := F
  exact k_via (fun t hs => X.iaload hx (by rw [eT]; exact A.1) (State.isArrayOf_alike hZ.alike A.2.1) A.2.2 (inb_of S hj) (H.at (inb_of S hj) hv) (g := mkF m pc Ls (.int j :: .ref a :: St)) rfl rfl hd t hs) k
theorem k_alen (X : Stand p l e R s m args below meth c T locs cells slots) (hx : p.tables.exec = Jvm.exec) (hZ : Z.Warmed39 s.vm) {pc pc' : Nat} {Ls : Array Slot} {St : List Value} (eT : T.heap = h) {a : Addr} {kA : ClassId} {ty : FieldType} {z : Int32} {vs : List Value} {dv : Value} (F : Arv Z h a kA ty z vs dv) (hd : decode c.code pc = .ok (.arraylength, 1)) (hpc : pc + 1 = pc') (k : KEnds p e below s Cn Sn Q T (mkF m pc' Ls (.int z :: St))) : KEnds p e below s Cn Sn Q T (mkF m pc Ls (.ref a :: St)) := by
  subst hpc
  obtain ⟨cl, A, q1, S, N, H, G⟩ := F
  refine k_via (fun t hs => X.arraylength hx (by rw [eT]; exact A.1) (State.isArrayOf_alike hZ.alike A.2.1) (g := mkF m pc Ls (.ref a :: St)) rfl rfl hd t ?_) k
  rw [len_of S N]; exact hs
theorem k_callS (X : Stand p l e R s m args below meth c T locs cells slots) (hx : p.tables.exec = Jvm.exec) (hZ : Z.Warmed39 s.vm) (hown : s.vm.findClass own = some m.cls) {pc pc' : Nat} {Ls : Array Slot} {St : List Value} {y : MethodName} {bytes : ByteArray} {maxL : Nat} {ret : Option FieldType} {rm : Room} {index W : Nat} {as' : Array Value} {Q' : Option Value → Heap → List Loc → Prop} (w1 : (Cond.methodLink own index y).before a0 Z = true) (w2 : (Cond.static y).before a0 Z = true) (w3 : (Cond.initialized y.cls).before a0 Z = true) (w4 : (Cond.code y bytes maxL ret).before a0 Z = true) (hy : y.cls ≠ "java/lang/invoke/MethodHandle" ∧ y.cls ≠ "java/lang/invoke/VarHandle") (hM : MetFree l y (head1 [Cond.code y bytes maxL ret] rm) (fun a U => a = as' ∧ Z.Warmed39 U.vm ∧ U.heap = h) (fun _ _ _ _ _ => True) (fun _ U o U' => ∃ v L, o = .returned v ∧ Q' v U'.heap L ∧ FrameEnd U o U' L rm.cells rm.slots)) (hf : rm.frames + 1 ≤ R.frames) (hl : W + (maxL + 11) + rm.locals ≤ R.locals) (eT : T.heap = h) (hsize : Ls.size = c.maxLocals) {argsL rest : List Value} (hlen : ∀ sig, parseMethodDescriptor y.desc = some sig → argsL.length = sig.parameters.length) (hst : St = argsL.reverse ++ rest) (hW : (rest.map fun v => v.category).sum ≤ W) (has : argsL.toArray = as') (hd : decode c.code pc = .ok (.invokestatic index, 3)) (hce : cells + rm.cells ≤ R.cells) (hsl : slots + rm.slots ≤ R.slots) (hpc : pc + 3 = pc') (k : ∀ T' L v, Stand p l e R s m args below meth c T' (locs ++ L) (cells + rm.cells) (slots + rm.slots) → Q' v T'.heap L → KEnds p e below s Cn Sn Q T' (mkF m pc' Ls (v.toList ++ rest))) : KEnds p e below s Cn Sn Q T (mkF m pc Ls St) := by
  subst hpc
  obtain ⟨v, _, ⟨T', L', k', n'⟩, -, X', ⟨Lc, hQ, l', y', z'⟩, st⟩ := Jvm.LawKit.callS X hx (y := y) hown (mvT hZ w1) (mvT hZ w2) (mvT hZ w3) (mvT hZ w4) hy (backOf (W := W) hM hZ w4 w3 hf hl) (g := mkF m pc Ls St) rfl hsize hlen hst (by show 2 * 0 + _ ≤ _; omega) hd (fun _ _ => ⟨has, eT, hce, hsl⟩)
  dsimp only [Pt.U, Pt.locs, Pt.cells, Pt.slots] at X' l' y' z' st hQ
  subst l' y' z'
  exact k_via st (k T' Lc v X' hQ)
end
end Jvm.OwnK
namespace Jvm.Pilot.@@N@@
open Jvm Jvm.ClassFile Sem Op Lib Jvm.Free Jvm.Stand Jvm.LawKit Jvm.RoadKit Jvm.OwnK Bundle Jvm.Pilot.@@N@@.Jvm.D
theorem d1_0 : decode method_3_code 0 = .ok (.iload_n 0, 1) := by decide +kernel
theorem d1_1 : decode method_3_code 1 = .ok (.ifCond .ne 7, 3) := by decide +kernel
theorem d1_4 : decode method_3_code 4 = .ok (.iconst 0, 1) := by decide +kernel
theorem d1_5 : decode method_3_code 5 = .ok (.newarray .int, 2) := by decide +kernel
theorem d1_7 : decode method_3_code 7 = .ok (.areturn, 1) := by decide +kernel
abbrev R1_42 : Room := { frames := 0, cells := 1, slots := 0, locals := 0 }
def Q1_42 (Z : State) (p1 : Int32) (p2 : Int32) (p3 : Int32) (a4 : Addr) (k5 : ClassId) (p6 : Int32) (p7 : Int32) (p8 : Int32) (h0 : Heap) (n0 : Nat) (v : Option Value) (h : Heap) (L : List Loc) : Prop := Fr n0 L ∧ ((∃ (b43 : Addr) (k43 : ClassId), v = some (.ref b43) ∧ Arv Z h a4 k5 .int (4 : Int32) [(.int p1), (.int p6), (.int p7), (.int p8)] (.int (0 : Int32)) ∧ Arv Z h b43 k43 .int (0 : Int32) [] (.int (0 : Int32)) ∧ n0 ≤ b43 ∧ a4 < b43 ∧ n0 ≤ h.size))
theorem ef1_42 (m : MethodId) (x1 : Int32) (x2 : Int32) (x3 : Int32) : entryFrame m #[(.int (0 : Int32)), (.int x1), (.int x2), (.int x3)] 4 = mkF m 0 #[.val (.int (0 : Int32)), .val (.int x1), .val (.int x2), .val (.int x3)] [] := by first | (simp [entryFrame, mkF, argsToLocals, Value.category]; done) | rfl
theorem pn_0 : plainName "com/example/kallimachos/kallimachos/subsets/CombinationsNextPinLaw" = true := by first | (simp [plainName, overriddenIn]; done) | decide +kernel
set_option maxRecDepth 65536 in
set_option maxHeartbeats 40000000 in
theorem rm1_42 (l : Launch) (Z : State) (a0 : Array Value) (hw : ∀ d ∈ tables_1, d.before a0 Z = true) (ws : List Jvm.Cond) (p1 : Int32) (p2 : Int32) (p3 : Int32) (a4 : Addr) (k5 : ClassId) (p6 : Int32) (p7 : Int32) (p8 : Int32) (h0 : Heap) (n0 : Nat) (Z0 : n0 ≤ h0.size) (F0_0 : Arv Z h0 a4 k5 .int (4 : Int32) [(.int p1), (.int p6), (.int p7), (.int p8)] (.int (0 : Int32))) (g_a4 : n0 ≤ a4) :
    MetFree l (⟨"com/example/kallimachos/kallimachos/subsets/CombinationsNextPinLaw", "make", "(IIII)[I"⟩ : MethodName) (head1 (Jvm.Cond.code (⟨"com/example/kallimachos/kallimachos/subsets/CombinationsNextPinLaw", "make", "(IIII)[I"⟩ : MethodName) method_3_code 4 (some (.array .int)) :: ws) R1_42) (fun a U => a = #[(.int (0 : Int32)), (.int p1), (.int p2), (.int p3)] ∧ Z.Warmed39 U.vm ∧ U.heap = h0) (fun _ _ _ _ _ => True) (fun _ U o U' => ∃ v L, o = .returned v ∧ Q1_42 Z p1 p2 p3 a4 k5 p6 p7 p8 h0 n0 v U'.heap L ∧ FrameEnd U o U' L R1_42.cells R1_42.slots) := by
 refine MetFree.of_bodySF (plainFor_of_name pn_0) hisR ?_
 intro p e s m args below meth c s₁ Bd hml0 hP hK
 obtain ⟨rfl, hZ, hh⟩ := hP
 have hx := Bd.exec
 have hby := Bd.bytes
 have hml : c.maxLocals = 4 := hml0
 have hlk : meth.locks = false := Bd.notSynchronized
 have hown : s.vm.findClass "com/example/kallimachos/kallimachos/subsets/CombinationsNextPinLaw" = some m.cls := findClass_of_methodNamed Bd.named
 have hnm := (name_of_methodNamed Bd.named Bd.method).1
 have X0 : Stand p l e R1_42 s m #[(.int (0 : Int32)), (.int p1), (.int p2), (.int p3)] below meth c s₁ [] 0 0 := Stand.of_body Bd
 have e0 : s₁.heap = h0 := by rw [← hh, Bd.state]; rfl
 have N0 := Fr.nil n0
 rw [ef1_42 m p1 p2 p3]
 show KEnds p e below s R1_42.cells R1_42.slots (Q1_42 Z p1 p2 p3 a4 k5 p6 p7 p8 h0 n0) s₁ (mkF m 0 #[.val (.int (0 : Int32)), .val (.int p1), .val (.int p2), .val (.int p3)] [])
 refine k_iloadN X0 hx (hb hby d1_0) rfl (pc' := 1) rfl ?_
 refine k_if_ne X0 hx (hb hby d1_1) (pn := 4) rfl (py := 8) (by decide) (fun hc => absurd (by decide) hc) (fun _ => ?_)
 refine k_iconst X0 hx (hb hby d1_4) (pc' := 5) rfl (z := (0 : Int32)) rfl ?_
 refine k_newA X0 hx hZ (hw _ (List.mem_of_getElem? (i := 0) rfl)) e0 (hb hby d1_5) (by decide) (cap := 0) (by decide) (by decide) (by decide) (by decide) (pc' := 7) rfl (fun T43 h43 b43 k43 g43 X43 e43 E43 V43 => ?_)
 have g_b43 : n0 ≤ b43 := Nat.le_trans Z0 (Nat.le_of_eq g43.symm)
 have lt_b43 : a4 < b43 := Nat.lt_of_lt_of_le F0_0.lt (Nat.le_of_eq g43.symm)
 have Z43 : n0 ≤ h43.size := Nat.le_trans Z0 E43.1
 have Vw43 : Arv Z h43 b43 k43 .int (0 : Int32) [] (.int (0 : Int32)) := V43
 have F44 := (F0_0.ext E43)
 exact k_retA X43 hx Bd.returns rfl rfl (hb hby d1_7) hlk (by decide) (by decide) (by rw [e43]; exact ⟨N0, ⟨b43, k43, rfl, F44, Vw43, g_b43, lt_b43, Z43⟩⟩)
theorem pd_0 : parseMethodDescriptor "(IIII)[I" = some ⟨[.int, .int, .int, .int], some (.array .int)⟩ := by decide +kernel
theorem d2_0 : decode prog_31_method_3_code 0 = .ok (.aload_n 0, 1) := by decide +kernel
theorem d2_1 : decode prog_31_method_3_code 1 = .ok (.arraylength, 1) := by decide +kernel
theorem d2_2 : decode prog_31_method_3_code 2 = .ok (.iconst 1, 1) := by decide +kernel
theorem d2_3 : decode prog_31_method_3_code 3 = .ok (.isub, 1) := by decide +kernel
theorem d2_4 : decode prog_31_method_3_code 4 = .ok (.istore_n 2, 1) := by decide +kernel
theorem d2_5 : decode prog_31_method_3_code 5 = .ok (.iload_n 2, 1) := by decide +kernel
theorem d2_6 : decode prog_31_method_3_code 6 = .ok (.ifCond .lt 21, 3) := by decide +kernel
theorem d2_27 : decode prog_31_method_3_code 27 = .ok (.iload_n 2, 1) := by decide +kernel
theorem d2_28 : decode prog_31_method_3_code 28 = .ok (.ifCond .ge 5, 3) := by decide +kernel
theorem d2_31 : decode prog_31_method_3_code 31 = .ok (.iconst 0, 1) := by decide +kernel
theorem d2_32 : decode prog_31_method_3_code 32 = .ok (.ireturn, 1) := by decide +kernel
abbrev R2_52 : Room := { frames := 0, cells := 0, slots := 0, locals := 0 }
def Q2_52 (Z : State) (a1 : Addr) (p2 : Int32) (a3 : Addr) (k4 : ClassId) (p5 : Int32) (p6 : Int32) (p7 : Int32) (k8 : ClassId) (h0 : Heap) (n0 : Nat) (v : Option Value) (h : Heap) (L : List Loc) : Prop := Fr n0 L ∧ ((v = some (.int (0 : Int32)) ∧ Arv Z h a3 k4 .int (4 : Int32) [(.int p2), (.int p5), (.int p6), (.int p7)] (.int (0 : Int32)) ∧ Arv Z h a1 k8 .int (0 : Int32) [] (.int (0 : Int32)) ∧ n0 ≤ h.size))
theorem ef2_52 (m : MethodId) (x0 : Addr) (x1 : Int32) : entryFrame m #[(.ref x0), (.int x1)] 4 = mkF m 0 #[.val (.ref x0), .val (.int x1), .unset, .unset] [] := by first | (simp [entryFrame, mkF, argsToLocals, Value.category]; done) | rfl
theorem pn_1 : plainName "com/example/kallimachos/kallimachos/subsets/Combinations" = true := by first | (simp [plainName, overriddenIn]; done) | decide +kernel
set_option maxRecDepth 65536 in
set_option maxHeartbeats 40000000 in
theorem rm2_52 (l : Launch) (Z : State) (a0 : Array Value) (hw : ∀ d ∈ tables_1, d.before a0 Z = true) (ws : List Jvm.Cond) (a1 : Addr) (p2 : Int32) (a3 : Addr) (k4 : ClassId) (p5 : Int32) (p6 : Int32) (p7 : Int32) (k8 : ClassId) (h0 : Heap) (n0 : Nat) (Z0 : n0 ≤ h0.size) (F0_0 : Arv Z h0 a3 k4 .int (4 : Int32) [(.int p2), (.int p5), (.int p6), (.int p7)] (.int (0 : Int32))) (g_a3 : n0 ≤ a3) (F0_2 : Arv Z h0 a1 k8 .int (0 : Int32) [] (.int (0 : Int32))) (g_a1 : n0 ≤ a1) (lt0_0 : a3 < a1) :
    MetFree l (⟨"com/example/kallimachos/kallimachos/subsets/Combinations", "next", "([II)Z"⟩ : MethodName) (head1 (Jvm.Cond.code (⟨"com/example/kallimachos/kallimachos/subsets/Combinations", "next", "([II)Z"⟩ : MethodName) prog_31_method_3_code 4 (some .boolean) :: ws) R2_52) (fun a U => a = #[(.ref a1), (.int p2)] ∧ Z.Warmed39 U.vm ∧ U.heap = h0) (fun _ _ _ _ _ => True) (fun _ U o U' => ∃ v L, o = .returned v ∧ Q2_52 Z a1 p2 a3 k4 p5 p6 p7 k8 h0 n0 v U'.heap L ∧ FrameEnd U o U' L R2_52.cells R2_52.slots) := by
 refine MetFree.of_bodySF (plainFor_of_name pn_1) hisR ?_
 intro p e s m args below meth c s₁ Bd hml0 hP hK
 obtain ⟨rfl, hZ, hh⟩ := hP
 have hx := Bd.exec
 have hby := Bd.bytes
 have hml : c.maxLocals = 4 := hml0
 have hlk : meth.locks = false := Bd.notSynchronized
 have hown : s.vm.findClass "com/example/kallimachos/kallimachos/subsets/Combinations" = some m.cls := findClass_of_methodNamed Bd.named
 have hnm := (name_of_methodNamed Bd.named Bd.method).1
 have X0 : Stand p l e R2_52 s m #[(.ref a1), (.int p2)] below meth c s₁ [] 0 0 := Stand.of_body Bd
 have e0 : s₁.heap = h0 := by rw [← hh, Bd.state]; rfl
 have N0 := Fr.nil n0
 rw [ef2_52 m a1 p2]
 show KEnds p e below s R2_52.cells R2_52.slots (Q2_52 Z a1 p2 a3 k4 p5 p6 p7 k8 h0 n0) s₁ (mkF m 0 #[.val (.ref a1), .val (.int p2), .unset, .unset] [])
 refine k_aloadN X0 hx (hb hby d2_0) rfl rfl (pc' := 1) rfl ?_
 refine k_alen X0 hx hZ e0 F0_2 (hb hby d2_1) (pc' := 2) rfl ?_
 refine k_iconst X0 hx (hb hby d2_2) (pc' := 3) rfl (z := (1 : Int32)) rfl ?_
 refine k_isubL X0 hx (hb hby d2_3) (pc' := 4) rfl (z := (-1 : Int32)) (by decide) ?_
 refine k_istoreN X0 hx (hb hby d2_4) (Ls' := #[.val (.ref a1), .val (.int p2), .val (.int (-1 : Int32)), .unset]) rfl (pc' := 5) rfl ?_
 refine k_iloadN X0 hx (hb hby d2_5) rfl (pc' := 6) rfl ?_
 refine k_if_lt X0 hx (hb hby d2_6) (pn := 9) rfl (py := 27) (by decide) (fun _ => ?_) (fun hc => absurd (by decide) hc)
 refine k_iloadN X0 hx (hb hby d2_27) rfl (pc' := 28) rfl ?_
 refine k_if_ge X0 hx (hb hby d2_28) (pn := 31) rfl (py := 33) (by decide) (fun hc => absurd (by decide) hc) (fun _ => ?_)
 refine k_iconst X0 hx (hb hby d2_31) (pc' := 32) rfl (z := (0 : Int32)) rfl ?_
 exact k_retN X0 hx (t := .boolean) Bd.returns (by simp) (hb hby d2_32) hlk (by decide) (by decide) (z' := (0 : Int32)) rfl (by rw [e0]; exact ⟨N0, ⟨rfl, F0_0, F0_2, Z0⟩⟩)
theorem pd_1 : parseMethodDescriptor "([II)Z" = some ⟨[(.array .int), .int], some .boolean⟩ := by decide +kernel
theorem d3_0 : decode method_4_code 0 = .ok (.aload_n 0, 1) := by decide +kernel
theorem d3_1 : decode method_4_code 1 = .ok (.arraylength, 1) := by decide +kernel
theorem d3_2 : decode method_4_code 2 = .ok (.iload_n 1, 1) := by decide +kernel
theorem d3_3 : decode method_4_code 3 = .ok (.if_icmp .ne 44, 3) := by decide +kernel
theorem d3_6 : decode method_4_code 6 = .ok (.iload_n 1, 1) := by decide +kernel
theorem d3_7 : decode method_4_code 7 = .ok (.iconst 1, 1) := by decide +kernel
theorem d3_8 : decode method_4_code 8 = .ok (.if_icmp .lt 10, 3) := by decide +kernel
theorem d3_18 : decode method_4_code 18 = .ok (.iload_n 1, 1) := by decide +kernel
theorem d3_19 : decode method_4_code 19 = .ok (.iconst 2, 1) := by decide +kernel
theorem d3_20 : decode method_4_code 20 = .ok (.if_icmp .lt 10, 3) := by decide +kernel
theorem d3_30 : decode method_4_code 30 = .ok (.iload_n 1, 1) := by decide +kernel
theorem d3_31 : decode method_4_code 31 = .ok (.iconst 3, 1) := by decide +kernel
theorem d3_32 : decode method_4_code 32 = .ok (.if_icmp .lt 11, 3) := by decide +kernel
theorem d3_43 : decode method_4_code 43 = .ok (.iconst 1, 1) := by decide +kernel
theorem d3_44 : decode method_4_code 44 = .ok (.goto 4, 3) := by decide +kernel
theorem d3_48 : decode method_4_code 48 = .ok (.ireturn, 1) := by decide +kernel
abbrev R3_57 : Room := { frames := 0, cells := 0, slots := 0, locals := 0 }
def Q3_57 (Z : State) (a1 : Addr) (p2 : Int32) (p3 : Int32) (p4 : Int32) (k5 : ClassId) (h0 : Heap) (n0 : Nat) (v : Option Value) (h : Heap) (L : List Loc) : Prop := Fr n0 L ∧ h = h0 ∧ ((v = some (.int (1 : Int32))))
theorem ef3_57 (m : MethodId) (x0 : Addr) (x2 : Int32) (x3 : Int32) (x4 : Int32) : entryFrame m #[(.ref x0), (.int (0 : Int32)), (.int x2), (.int x3), (.int x4)] 5 = mkF m 0 #[.val (.ref x0), .val (.int (0 : Int32)), .val (.int x2), .val (.int x3), .val (.int x4)] [] := by first | (simp [entryFrame, mkF, argsToLocals, Value.category]; done) | rfl
set_option maxRecDepth 65536 in
set_option maxHeartbeats 40000000 in
theorem rm3_57 (l : Launch) (Z : State) (a0 : Array Value) (hw : ∀ d ∈ tables_1, d.before a0 Z = true) (ws : List Jvm.Cond) (a1 : Addr) (p2 : Int32) (p3 : Int32) (p4 : Int32) (k5 : ClassId) (h0 : Heap) (n0 : Nat) (Z0 : n0 ≤ h0.size) (F0_0 : Arv Z h0 a1 k5 .int (0 : Int32) [] (.int (0 : Int32))) :
    MetFree l (⟨"com/example/kallimachos/kallimachos/subsets/CombinationsNextPinLaw", "same", "([IIIII)Z"⟩ : MethodName) (head1 (Jvm.Cond.code (⟨"com/example/kallimachos/kallimachos/subsets/CombinationsNextPinLaw", "same", "([IIIII)Z"⟩ : MethodName) method_4_code 5 (some .boolean) :: ws) R3_57) (fun a U => a = #[(.ref a1), (.int (0 : Int32)), (.int p2), (.int p3), (.int p4)] ∧ Z.Warmed39 U.vm ∧ U.heap = h0) (fun _ _ _ _ _ => True) (fun _ U o U' => ∃ v L, o = .returned v ∧ Q3_57 Z a1 p2 p3 p4 k5 h0 n0 v U'.heap L ∧ FrameEnd U o U' L R3_57.cells R3_57.slots) := by
 refine MetFree.of_bodySF (plainFor_of_name pn_0) hisR ?_
 intro p e s m args below meth c s₁ Bd hml0 hP hK
 obtain ⟨rfl, hZ, hh⟩ := hP
 have hx := Bd.exec
 have hby := Bd.bytes
 have hml : c.maxLocals = 5 := hml0
 have hlk : meth.locks = false := Bd.notSynchronized
 have hown : s.vm.findClass "com/example/kallimachos/kallimachos/subsets/CombinationsNextPinLaw" = some m.cls := findClass_of_methodNamed Bd.named
 have hnm := (name_of_methodNamed Bd.named Bd.method).1
 have X0 : Stand p l e R3_57 s m #[(.ref a1), (.int (0 : Int32)), (.int p2), (.int p3), (.int p4)] below meth c s₁ [] 0 0 := Stand.of_body Bd
 have e0 : s₁.heap = h0 := by rw [← hh, Bd.state]; rfl
 have N0 := Fr.nil n0
 rw [ef3_57 m a1 p2 p3 p4]
 show KEnds p e below s R3_57.cells R3_57.slots (Q3_57 Z a1 p2 p3 p4 k5 h0 n0) s₁ (mkF m 0 #[.val (.ref a1), .val (.int (0 : Int32)), .val (.int p2), .val (.int p3), .val (.int p4)] [])
 refine k_aloadN X0 hx (hb hby d3_0) rfl rfl (pc' := 1) rfl ?_
 refine k_alen X0 hx hZ e0 F0_0 (hb hby d3_1) (pc' := 2) rfl ?_
 refine k_iloadN X0 hx (hb hby d3_2) rfl (pc' := 3) rfl ?_
 refine k_icmp_ne X0 hx (hb hby d3_3) (pn := 6) rfl (py := 47) (by decide) (fun hc => absurd (by decide) hc) (fun _ => ?_)
 refine k_iloadN X0 hx (hb hby d3_6) rfl (pc' := 7) rfl ?_
 refine k_iconst X0 hx (hb hby d3_7) (pc' := 8) rfl (z := (1 : Int32)) rfl ?_
 refine k_icmp_lt X0 hx (hb hby d3_8) (pn := 11) rfl (py := 18) (by decide) (fun _ => ?_) (fun hc => absurd (by decide) hc)
 refine k_iloadN X0 hx (hb hby d3_18) rfl (pc' := 19) rfl ?_
 refine k_iconst X0 hx (hb hby d3_19) (pc' := 20) rfl (z := (2 : Int32)) rfl ?_
 refine k_icmp_lt X0 hx (hb hby d3_20) (pn := 23) rfl (py := 30) (by decide) (fun _ => ?_) (fun hc => absurd (by decide) hc)
 refine k_iloadN X0 hx (hb hby d3_30) rfl (pc' := 31) rfl ?_
 refine k_iconst X0 hx (hb hby d3_31) (pc' := 32) rfl (z := (3 : Int32)) rfl ?_
 refine k_icmp_lt X0 hx (hb hby d3_32) (pn := 35) rfl (py := 43) (by decide) (fun _ => ?_) (fun hc => absurd (by decide) hc)
 refine k_iconst X0 hx (hb hby d3_43) (pc' := 44) rfl (z := (1 : Int32)) rfl ?_
 refine k_goto X0 hx (hb hby d3_44) (pc' := 48) (by decide) ?_
 exact k_retN X0 hx (t := .boolean) Bd.returns (by simp) (hb hby d3_48) hlk (by decide) (by decide) (z' := (1 : Int32)) rfl ⟨N0, e0, rfl⟩
theorem pd_2 : parseMethodDescriptor "([IIIII)Z" = some ⟨[(.array .int), .int, .int, .int, .int], some .boolean⟩ := by decide +kernel
theorem d1_8 : decode method_3_code 8 = .ok (.iload_n 0, 1) := by decide +kernel
theorem d1_9 : decode method_3_code 9 = .ok (.iconst 1, 1) := by decide +kernel
theorem d1_10 : decode method_3_code 10 = .ok (.if_icmp .ne 11, 3) := by decide +kernel
theorem d1_13 : decode method_3_code 13 = .ok (.iconst 1, 1) := by decide +kernel
theorem d1_14 : decode method_3_code 14 = .ok (.newarray .int, 2) := by decide +kernel
theorem d1_16 : decode method_3_code 16 = .ok (.dup, 1) := by decide +kernel
theorem d1_17 : decode method_3_code 17 = .ok (.iconst 0, 1) := by decide +kernel
theorem d1_18 : decode method_3_code 18 = .ok (.iload_n 1, 1) := by decide +kernel
theorem d1_19 : decode method_3_code 19 = .ok (.iastore, 1) := by decide +kernel
theorem d1_20 : decode method_3_code 20 = .ok (.areturn, 1) := by decide +kernel
abbrev R1_97 : Room := { frames := 0, cells := 1, slots := 1, locals := 0 }
def Q1_97 (Z : State) (p1 : Int32) (p2 : Int32) (p3 : Int32) (a4 : Addr) (k5 : ClassId) (p6 : Int32) (p7 : Int32) (p8 : Int32) (h0 : Heap) (n0 : Nat) (v : Option Value) (h : Heap) (L : List Loc) : Prop := Fr n0 L ∧ ((∃ (b98 : Addr) (k98 : ClassId), v = some (.ref b98) ∧ Arv Z h a4 k5 .int (4 : Int32) [(.int p1), (.int p6), (.int p7), (.int p8)] (.int (0 : Int32)) ∧ Arv Z h b98 k98 .int (1 : Int32) [(.int p1)] (.int (0 : Int32)) ∧ n0 ≤ b98 ∧ a4 < b98 ∧ n0 ≤ h.size))
theorem ef1_97 (m : MethodId) (x1 : Int32) (x2 : Int32) (x3 : Int32) : entryFrame m #[(.int (1 : Int32)), (.int x1), (.int x2), (.int x3)] 4 = mkF m 0 #[.val (.int (1 : Int32)), .val (.int x1), .val (.int x2), .val (.int x3)] [] := by first | (simp [entryFrame, mkF, argsToLocals, Value.category]; done) | rfl
set_option maxRecDepth 65536 in
set_option maxHeartbeats 40000000 in
theorem rm1_97 (l : Launch) (Z : State) (a0 : Array Value) (hw : ∀ d ∈ tables_1, d.before a0 Z = true) (ws : List Jvm.Cond) (p1 : Int32) (p2 : Int32) (p3 : Int32) (a4 : Addr) (k5 : ClassId) (p6 : Int32) (p7 : Int32) (p8 : Int32) (h0 : Heap) (n0 : Nat) (Z0 : n0 ≤ h0.size) (F0_0 : Arv Z h0 a4 k5 .int (4 : Int32) [(.int p1), (.int p6), (.int p7), (.int p8)] (.int (0 : Int32))) (g_a4 : n0 ≤ a4) :
    MetFree l (⟨"com/example/kallimachos/kallimachos/subsets/CombinationsNextPinLaw", "make", "(IIII)[I"⟩ : MethodName) (head1 (Jvm.Cond.code (⟨"com/example/kallimachos/kallimachos/subsets/CombinationsNextPinLaw", "make", "(IIII)[I"⟩ : MethodName) method_3_code 4 (some (.array .int)) :: ws) R1_97) (fun a U => a = #[(.int (1 : Int32)), (.int p1), (.int p2), (.int p3)] ∧ Z.Warmed39 U.vm ∧ U.heap = h0) (fun _ _ _ _ _ => True) (fun _ U o U' => ∃ v L, o = .returned v ∧ Q1_97 Z p1 p2 p3 a4 k5 p6 p7 p8 h0 n0 v U'.heap L ∧ FrameEnd U o U' L R1_97.cells R1_97.slots) := by
 refine MetFree.of_bodySF (plainFor_of_name pn_0) hisR ?_
 intro p e s m args below meth c s₁ Bd hml0 hP hK
 obtain ⟨rfl, hZ, hh⟩ := hP
 have hx := Bd.exec
 have hby := Bd.bytes
 have hml : c.maxLocals = 4 := hml0
 have hlk : meth.locks = false := Bd.notSynchronized
 have hown : s.vm.findClass "com/example/kallimachos/kallimachos/subsets/CombinationsNextPinLaw" = some m.cls := findClass_of_methodNamed Bd.named
 have hnm := (name_of_methodNamed Bd.named Bd.method).1
 have X0 : Stand p l e R1_97 s m #[(.int (1 : Int32)), (.int p1), (.int p2), (.int p3)] below meth c s₁ [] 0 0 := Stand.of_body Bd
 have e0 : s₁.heap = h0 := by rw [← hh, Bd.state]; rfl
 have N0 := Fr.nil n0
 rw [ef1_97 m p1 p2 p3]
 show KEnds p e below s R1_97.cells R1_97.slots (Q1_97 Z p1 p2 p3 a4 k5 p6 p7 p8 h0 n0) s₁ (mkF m 0 #[.val (.int (1 : Int32)), .val (.int p1), .val (.int p2), .val (.int p3)] [])
 refine k_iloadN X0 hx (hb hby d1_0) rfl (pc' := 1) rfl ?_
 refine k_if_ne X0 hx (hb hby d1_1) (pn := 4) rfl (py := 8) (by decide) (fun _ => ?_) (fun hc => absurd hc (by decide))
 refine k_iloadN X0 hx (hb hby d1_8) rfl (pc' := 9) rfl ?_
 refine k_iconst X0 hx (hb hby d1_9) (pc' := 10) rfl (z := (1 : Int32)) rfl ?_
 refine k_icmp_ne X0 hx (hb hby d1_10) (pn := 13) rfl (py := 21) (by decide) (fun hc => absurd (by decide) hc) (fun _ => ?_)
 refine k_iconst X0 hx (hb hby d1_13) (pc' := 14) rfl (z := (1 : Int32)) rfl ?_
 refine k_newA X0 hx hZ (hw _ (List.mem_of_getElem? (i := 0) rfl)) e0 (hb hby d1_14) (by decide) (cap := 1) (by decide) (by decide) (by decide) (by decide) (pc' := 16) rfl (fun T98 h98 b98 k98 g98 X98 e98 E98 V98 => ?_)
 have g_b98 : n0 ≤ b98 := Nat.le_trans Z0 (Nat.le_of_eq g98.symm)
 have lt_b98 : a4 < b98 := Nat.lt_of_lt_of_le F0_0.lt (Nat.le_of_eq g98.symm)
 have Z98 : n0 ≤ h98.size := Nat.le_trans Z0 E98.1
 have Vw98 : Arv Z h98 b98 k98 .int (1 : Int32) [(.int (0 : Int32))] (.int (0 : Int32)) := V98
 refine k_dup X98 hx (hb hby d1_16) rfl (pc' := 17) rfl ?_
 refine k_iconst X98 hx (hb hby d1_17) (pc' := 18) rfl (z := (0 : Int32)) rfl ?_
 refine k_iloadN X98 hx (hb hby d1_18) rfl (pc' := 19) rfl ?_
 refine k_iastore X98 hx hZ e98 Vw98 ⟨by decide, by decide⟩ (i := 0) rfl (Nat.le_of_ble_eq_true rfl) (hb hby d1_19) (pc' := 20) rfl (fun T99 h99 X99 e99 W99 V99 => ?_)
 have Vw99 : Arv Z h99 b98 k98 .int (1 : Int32) [(.int p1)] (.int (0 : Int32)) := V99
 have N99 := Fr.snoc X99 N0 g_b98
 have Z99 : n0 ≤ h99.size := Nat.le_trans Z98 (Nat.le_of_eq W99.size.symm)
 have F100 := ((F0_0.ext E98).other W99 (Nat.ne_of_lt lt_b98))
 exact k_retA X99 hx Bd.returns rfl rfl (hb hby d1_20) hlk (by decide) (by decide) (by rw [e99]; exact ⟨N99, ⟨b98, k98, rfl, F100, Vw99, g_b98, lt_b98, Z99⟩⟩)
theorem d2_9 : decode prog_31_method_3_code 9 = .ok (.aload_n 0, 1) := by decide +kernel
theorem d2_10 : decode prog_31_method_3_code 10 = .ok (.iload_n 2, 1) := by decide +kernel
theorem d2_11 : decode prog_31_method_3_code 11 = .ok (.iaload, 1) := by decide +kernel
theorem d2_12 : decode prog_31_method_3_code 12 = .ok (.iload_n 1, 1) := by decide +kernel
theorem d2_13 : decode prog_31_method_3_code 13 = .ok (.aload_n 0, 1) := by decide +kernel
theorem d2_14 : decode prog_31_method_3_code 14 = .ok (.arraylength, 1) := by decide +kernel
theorem d2_15 : decode prog_31_method_3_code 15 = .ok (.isub, 1) := by decide +kernel
theorem d2_16 : decode prog_31_method_3_code 16 = .ok (.iload_n 2, 1) := by decide +kernel
theorem d2_17 : decode prog_31_method_3_code 17 = .ok (.iadd, 1) := by decide +kernel
theorem d2_18 : decode prog_31_method_3_code 18 = .ok (.if_icmp .ne 9, 3) := by decide +kernel
theorem d2_33 : decode prog_31_method_3_code 33 = .ok (.aload_n 0, 1) := by decide +kernel
theorem d2_34 : decode prog_31_method_3_code 34 = .ok (.iload_n 2, 1) := by decide +kernel
theorem d2_35 : decode prog_31_method_3_code 35 = .ok (.dup2, 1) := by decide +kernel
theorem d2_36 : decode prog_31_method_3_code 36 = .ok (.iaload, 1) := by decide +kernel
theorem d2_37 : decode prog_31_method_3_code 37 = .ok (.iconst 1, 1) := by decide +kernel
theorem d2_38 : decode prog_31_method_3_code 38 = .ok (.iadd, 1) := by decide +kernel
theorem d2_39 : decode prog_31_method_3_code 39 = .ok (.iastore, 1) := by decide +kernel
theorem d2_40 : decode prog_31_method_3_code 40 = .ok (.iload_n 2, 1) := by decide +kernel
theorem d2_41 : decode prog_31_method_3_code 41 = .ok (.iconst 1, 1) := by decide +kernel
theorem d2_42 : decode prog_31_method_3_code 42 = .ok (.iadd, 1) := by decide +kernel
theorem d2_43 : decode prog_31_method_3_code 43 = .ok (.istore_n 3, 1) := by decide +kernel
theorem d2_44 : decode prog_31_method_3_code 44 = .ok (.iload_n 3, 1) := by decide +kernel
theorem d2_45 : decode prog_31_method_3_code 45 = .ok (.aload_n 0, 1) := by decide +kernel
theorem d2_46 : decode prog_31_method_3_code 46 = .ok (.arraylength, 1) := by decide +kernel
theorem d2_47 : decode prog_31_method_3_code 47 = .ok (.if_icmp .ge 19, 3) := by decide +kernel
theorem d2_66 : decode prog_31_method_3_code 66 = .ok (.iconst 1, 1) := by decide +kernel
theorem d2_67 : decode prog_31_method_3_code 67 = .ok (.ireturn, 1) := by decide +kernel
theorem d2_21 : decode prog_31_method_3_code 21 = .ok (.iinc 2 (-1), 3) := by decide +kernel
theorem d2_24 : decode prog_31_method_3_code 24 = .ok (.goto (-19), 3) := by decide +kernel
abbrev R2_108 : Room := { frames := 0, cells := 0, slots := 0, locals := 0 }
def Q2_108 (Z : State) (a1 : Addr) (p2 : Int32) (a3 : Addr) (k4 : ClassId) (p5 : Int32) (p6 : Int32) (p7 : Int32) (p8 : Int32) (k9 : ClassId) (h0 : Heap) (n0 : Nat) (v : Option Value) (h : Heap) (L : List Loc) : Prop := Fr n0 L ∧ ((∃ (v109 : Int32) (v111 : Int32), v109 = p2 - (1 : Int32) ∧ v111 = p5 + (1 : Int32) ∧ ¬ p5 = v109 ∧ v = some (.int (1 : Int32)) ∧ Arv Z h a3 k4 .int (4 : Int32) [(.int p5), (.int p6), (.int p7), (.int p8)] (.int (0 : Int32)) ∧ Arv Z h a1 k9 .int (1 : Int32) [(.int v111)] (.int (0 : Int32)) ∧ n0 ≤ h.size) ∨ (∃ (v109 : Int32), v109 = p2 - (1 : Int32) ∧ p5 = v109 ∧ v = some (.int (0 : Int32)) ∧ Arv Z h a3 k4 .int (4 : Int32) [(.int p5), (.int p6), (.int p7), (.int p8)] (.int (0 : Int32)) ∧ Arv Z h a1 k9 .int (1 : Int32) [(.int p5)] (.int (0 : Int32)) ∧ n0 ≤ h.size))
theorem ef2_108 (m : MethodId) (x0 : Addr) (x1 : Int32) : entryFrame m #[(.ref x0), (.int x1)] 4 = mkF m 0 #[.val (.ref x0), .val (.int x1), .unset, .unset] [] := by first | (simp [entryFrame, mkF, argsToLocals, Value.category]; done) | rfl
set_option maxRecDepth 65536 in
set_option maxHeartbeats 40000000 in
theorem rm2_108 (l : Launch) (Z : State) (a0 : Array Value) (hw : ∀ d ∈ tables_1, d.before a0 Z = true) (ws : List Jvm.Cond) (a1 : Addr) (p2 : Int32) (a3 : Addr) (k4 : ClassId) (p5 : Int32) (p6 : Int32) (p7 : Int32) (p8 : Int32) (k9 : ClassId) (h0 : Heap) (n0 : Nat) (Z0 : n0 ≤ h0.size) (F0_0 : Arv Z h0 a3 k4 .int (4 : Int32) [(.int p5), (.int p6), (.int p7), (.int p8)] (.int (0 : Int32))) (g_a3 : n0 ≤ a3) (F0_2 : Arv Z h0 a1 k9 .int (1 : Int32) [(.int p5)] (.int (0 : Int32))) (g_a1 : n0 ≤ a1) (lt0_0 : a3 < a1) :
    MetFree l (⟨"com/example/kallimachos/kallimachos/subsets/Combinations", "next", "([II)Z"⟩ : MethodName) (head1 (Jvm.Cond.code (⟨"com/example/kallimachos/kallimachos/subsets/Combinations", "next", "([II)Z"⟩ : MethodName) prog_31_method_3_code 4 (some .boolean) :: ws) R2_108) (fun a U => a = #[(.ref a1), (.int p2)] ∧ Z.Warmed39 U.vm ∧ U.heap = h0) (fun _ _ _ _ _ => True) (fun _ U o U' => ∃ v L, o = .returned v ∧ Q2_108 Z a1 p2 a3 k4 p5 p6 p7 p8 k9 h0 n0 v U'.heap L ∧ FrameEnd U o U' L R2_108.cells R2_108.slots) := by
 refine MetFree.of_bodySF (plainFor_of_name pn_1) hisR ?_
 intro p e s m args below meth c s₁ Bd hml0 hP hK
 obtain ⟨rfl, hZ, hh⟩ := hP
 have hx := Bd.exec
 have hby := Bd.bytes
 have hml : c.maxLocals = 4 := hml0
 have hlk : meth.locks = false := Bd.notSynchronized
 have hown : s.vm.findClass "com/example/kallimachos/kallimachos/subsets/Combinations" = some m.cls := findClass_of_methodNamed Bd.named
 have hnm := (name_of_methodNamed Bd.named Bd.method).1
 have X0 : Stand p l e R2_108 s m #[(.ref a1), (.int p2)] below meth c s₁ [] 0 0 := Stand.of_body Bd
 have e0 : s₁.heap = h0 := by rw [← hh, Bd.state]; rfl
 have N0 := Fr.nil n0
 rw [ef2_108 m a1 p2]
 show KEnds p e below s R2_108.cells R2_108.slots (Q2_108 Z a1 p2 a3 k4 p5 p6 p7 p8 k9 h0 n0) s₁ (mkF m 0 #[.val (.ref a1), .val (.int p2), .unset, .unset] [])
 refine k_aloadN X0 hx (hb hby d2_0) rfl rfl (pc' := 1) rfl ?_
 refine k_alen X0 hx hZ e0 F0_2 (hb hby d2_1) (pc' := 2) rfl ?_
 refine k_iconst X0 hx (hb hby d2_2) (pc' := 3) rfl (z := (1 : Int32)) rfl ?_
 refine k_isubL X0 hx (hb hby d2_3) (pc' := 4) rfl (z := (0 : Int32)) (by decide) ?_
 refine k_istoreN X0 hx (hb hby d2_4) (Ls' := #[.val (.ref a1), .val (.int p2), .val (.int (0 : Int32)), .unset]) rfl (pc' := 5) rfl ?_
 refine k_iloadN X0 hx (hb hby d2_5) rfl (pc' := 6) rfl ?_
 refine k_if_lt X0 hx (hb hby d2_6) (pn := 9) rfl (py := 27) (by decide) (fun hc => absurd hc (by decide)) (fun _ => ?_)
 refine k_aloadN X0 hx (hb hby d2_9) rfl rfl (pc' := 10) rfl ?_
 refine k_iloadN X0 hx (hb hby d2_10) rfl (pc' := 11) rfl ?_
 refine k_iaload X0 hx hZ e0 F0_2 ⟨by decide, by decide⟩ (v := (.int p5)) rfl (hb hby d2_11) (pc' := 12) rfl ?_
 refine k_iloadN X0 hx (hb hby d2_12) rfl (pc' := 13) rfl ?_
 refine k_aloadN X0 hx (hb hby d2_13) rfl rfl (pc' := 14) rfl ?_
 refine k_alen X0 hx hZ e0 F0_2 (hb hby d2_14) (pc' := 15) rfl ?_
 refine k_isub X0 hx (hb hby d2_15) (pc' := 16) rfl (fun v109 hv109 => ?_)
 refine k_iloadN X0 hx (hb hby d2_16) rfl (pc' := 17) rfl ?_
 refine k_iaddL X0 hx (hb hby d2_17) (pc' := 18) rfl (z := v109) (Int32.add_zero _) ?_
 refine k_icmp_ne X0 hx (hb hby d2_18) (pn := 21) rfl (py := 27) (by decide) (fun hc110 => ?_) (fun hc110 => ?_)
 ·
  refine k_iloadN X0 hx (hb hby d2_27) rfl (pc' := 28) rfl ?_
  refine k_if_ge X0 hx (hb hby d2_28) (pn := 31) rfl (py := 33) (by decide) (fun _ => ?_) (fun hc => absurd hc (by decide))
  refine k_aloadN X0 hx (hb hby d2_33) rfl rfl (pc' := 34) rfl ?_
  refine k_iloadN X0 hx (hb hby d2_34) rfl (pc' := 35) rfl ?_
  refine k_dup2 X0 hx (hb hby d2_35) rfl rfl (pc' := 36) rfl ?_
  refine k_iaload X0 hx hZ e0 F0_2 ⟨by decide, by decide⟩ (v := (.int p5)) rfl (hb hby d2_36) (pc' := 37) rfl ?_
  refine k_iconst X0 hx (hb hby d2_37) (pc' := 38) rfl (z := (1 : Int32)) rfl ?_
  refine k_iadd X0 hx (hb hby d2_38) (pc' := 39) rfl (fun v111 hv111 => ?_)
  refine k_iastore X0 hx hZ e0 F0_2 ⟨by decide, by decide⟩ (i := 0) rfl (Nat.le_of_ble_eq_true rfl) (hb hby d2_39) (pc' := 40) rfl (fun T112 h112 X112 e112 W112 V112 => ?_)
  have Vw112 : Arv Z h112 a1 k9 .int (1 : Int32) [(.int v111)] (.int (0 : Int32)) := V112
  have N112 := Fr.snoc X112 N0 g_a1
  have Z112 : n0 ≤ h112.size := Nat.le_trans Z0 (Nat.le_of_eq W112.size.symm)
  refine k_iloadN X112 hx (hb hby d2_40) rfl (pc' := 41) rfl ?_
  refine k_iconst X112 hx (hb hby d2_41) (pc' := 42) rfl (z := (1 : Int32)) rfl ?_
  refine k_iaddL X112 hx (hb hby d2_42) (pc' := 43) rfl (z := (1 : Int32)) (by decide) ?_
  refine k_istoreN X112 hx (hb hby d2_43) (Ls' := #[.val (.ref a1), .val (.int p2), .val (.int (0 : Int32)), .val (.int (1 : Int32))]) rfl (pc' := 44) rfl ?_
  refine k_iloadN X112 hx (hb hby d2_44) rfl (pc' := 45) rfl ?_
  refine k_aloadN X112 hx (hb hby d2_45) rfl rfl (pc' := 46) rfl ?_
  refine k_alen X112 hx hZ e112 Vw112 (hb hby d2_46) (pc' := 47) rfl ?_
  refine k_icmp_ge X112 hx (hb hby d2_47) (pn := 50) rfl (py := 66) (by decide) (fun _ => ?_) (fun hc => absurd hc (by decide))
  refine k_iconst X112 hx (hb hby d2_66) (pc' := 67) rfl (z := (1 : Int32)) rfl ?_
  have F113 := (F0_0.other W112 (Nat.ne_of_lt lt0_0))
  exact k_retN X112 hx (t := .boolean) Bd.returns (by simp) (hb hby d2_67) hlk (by decide) (by decide) (z' := (1 : Int32)) rfl (by rw [e112]; exact ⟨N112, (Or.inl ⟨v109, v111, hv109, hv111, hc110, rfl, F113, Vw112, Z112⟩)⟩)
 ·
  refine k_iinc X0 hx (hb hby d2_21) rfl (pc' := 24) rfl (z := (-1 : Int32)) (by decide) (Ls' := #[.val (.ref a1), .val (.int p2), .val (.int (-1 : Int32)), .unset]) rfl ?_
  refine k_goto X0 hx (hb hby d2_24) (pc' := 5) (by decide) ?_
  refine k_iloadN X0 hx (hb hby d2_5) rfl (pc' := 6) rfl ?_
  refine k_if_lt X0 hx (hb hby d2_6) (pn := 9) rfl (py := 27) (by decide) (fun _ => ?_) (fun hc => absurd (by decide) hc)
  refine k_iloadN X0 hx (hb hby d2_27) rfl (pc' := 28) rfl ?_
  refine k_if_ge X0 hx (hb hby d2_28) (pn := 31) rfl (py := 33) (by decide) (fun hc => absurd (by decide) hc) (fun _ => ?_)
  refine k_iconst X0 hx (hb hby d2_31) (pc' := 32) rfl (z := (0 : Int32)) rfl ?_
  exact k_retN X0 hx (t := .boolean) Bd.returns (by simp) (hb hby d2_32) hlk (by decide) (by decide) (z' := (0 : Int32)) rfl (by rw [e0]; exact ⟨N0, (Or.inr ⟨v109, hv109, hc110, rfl, F0_0, F0_2, Z0⟩)⟩)
theorem d3_11 : decode method_4_code 11 = .ok (.aload_n 0, 1) := by decide +kernel
theorem d3_12 : decode method_4_code 12 = .ok (.iconst 0, 1) := by decide +kernel
theorem d3_13 : decode method_4_code 13 = .ok (.iaload, 1) := by decide +kernel
theorem d3_14 : decode method_4_code 14 = .ok (.iload_n 2, 1) := by decide +kernel
theorem d3_15 : decode method_4_code 15 = .ok (.if_icmp .ne 32, 3) := by decide +kernel
abbrev R3_157 : Room := { frames := 0, cells := 0, slots := 0, locals := 0 }
def Q3_157 (Z : State) (a1 : Addr) (p2 : Int32) (p3 : Int32) (p4 : Int32) (k5 : ClassId) (h0 : Heap) (n0 : Nat) (v : Option Value) (h : Heap) (L : List Loc) : Prop := Fr n0 L ∧ h = h0 ∧ ((v = some (.int (1 : Int32))))
theorem ef3_157 (m : MethodId) (x0 : Addr) (x2 : Int32) (x3 : Int32) (x4 : Int32) : entryFrame m #[(.ref x0), (.int (1 : Int32)), (.int x2), (.int x3), (.int x4)] 5 = mkF m 0 #[.val (.ref x0), .val (.int (1 : Int32)), .val (.int x2), .val (.int x3), .val (.int x4)] [] := by first | (simp [entryFrame, mkF, argsToLocals, Value.category]; done) | rfl
set_option maxRecDepth 65536 in
set_option maxHeartbeats 40000000 in
theorem rm3_157 (l : Launch) (Z : State) (a0 : Array Value) (hw : ∀ d ∈ tables_1, d.before a0 Z = true) (ws : List Jvm.Cond) (a1 : Addr) (p2 : Int32) (p3 : Int32) (p4 : Int32) (k5 : ClassId) (h0 : Heap) (n0 : Nat) (Z0 : n0 ≤ h0.size) (F0_0 : Arv Z h0 a1 k5 .int (1 : Int32) [(.int p2)] (.int (0 : Int32))) :
    MetFree l (⟨"com/example/kallimachos/kallimachos/subsets/CombinationsNextPinLaw", "same", "([IIIII)Z"⟩ : MethodName) (head1 (Jvm.Cond.code (⟨"com/example/kallimachos/kallimachos/subsets/CombinationsNextPinLaw", "same", "([IIIII)Z"⟩ : MethodName) method_4_code 5 (some .boolean) :: ws) R3_157) (fun a U => a = #[(.ref a1), (.int (1 : Int32)), (.int p2), (.int p3), (.int p4)] ∧ Z.Warmed39 U.vm ∧ U.heap = h0) (fun _ _ _ _ _ => True) (fun _ U o U' => ∃ v L, o = .returned v ∧ Q3_157 Z a1 p2 p3 p4 k5 h0 n0 v U'.heap L ∧ FrameEnd U o U' L R3_157.cells R3_157.slots) := by
 refine MetFree.of_bodySF (plainFor_of_name pn_0) hisR ?_
 intro p e s m args below meth c s₁ Bd hml0 hP hK
 obtain ⟨rfl, hZ, hh⟩ := hP
 have hx := Bd.exec
 have hby := Bd.bytes
 have hml : c.maxLocals = 5 := hml0
 have hlk : meth.locks = false := Bd.notSynchronized
 have hown : s.vm.findClass "com/example/kallimachos/kallimachos/subsets/CombinationsNextPinLaw" = some m.cls := findClass_of_methodNamed Bd.named
 have hnm := (name_of_methodNamed Bd.named Bd.method).1
 have X0 : Stand p l e R3_157 s m #[(.ref a1), (.int (1 : Int32)), (.int p2), (.int p3), (.int p4)] below meth c s₁ [] 0 0 := Stand.of_body Bd
 have e0 : s₁.heap = h0 := by rw [← hh, Bd.state]; rfl
 have N0 := Fr.nil n0
 rw [ef3_157 m a1 p2 p3 p4]
 show KEnds p e below s R3_157.cells R3_157.slots (Q3_157 Z a1 p2 p3 p4 k5 h0 n0) s₁ (mkF m 0 #[.val (.ref a1), .val (.int (1 : Int32)), .val (.int p2), .val (.int p3), .val (.int p4)] [])
 refine k_aloadN X0 hx (hb hby d3_0) rfl rfl (pc' := 1) rfl ?_
 refine k_alen X0 hx hZ e0 F0_0 (hb hby d3_1) (pc' := 2) rfl ?_
 refine k_iloadN X0 hx (hb hby d3_2) rfl (pc' := 3) rfl ?_
 refine k_icmp_ne X0 hx (hb hby d3_3) (pn := 6) rfl (py := 47) (by decide) (fun hc => absurd (by decide) hc) (fun _ => ?_)
 refine k_iloadN X0 hx (hb hby d3_6) rfl (pc' := 7) rfl ?_
 refine k_iconst X0 hx (hb hby d3_7) (pc' := 8) rfl (z := (1 : Int32)) rfl ?_
 refine k_icmp_lt X0 hx (hb hby d3_8) (pn := 11) rfl (py := 18) (by decide) (fun hc => absurd hc (by decide)) (fun _ => ?_)
 refine k_aloadN X0 hx (hb hby d3_11) rfl rfl (pc' := 12) rfl ?_
 refine k_iconst X0 hx (hb hby d3_12) (pc' := 13) rfl (z := (0 : Int32)) rfl ?_
 refine k_iaload X0 hx hZ e0 F0_0 ⟨by decide, by decide⟩ (v := (.int p2)) rfl (hb hby d3_13) (pc' := 14) rfl ?_
 refine k_iloadN X0 hx (hb hby d3_14) rfl (pc' := 15) rfl ?_
 refine k_icmp_ne X0 hx (hb hby d3_15) (pn := 18) rfl (py := 47) (by decide) (fun hc => absurd rfl hc) (fun _ => ?_)
 refine k_iloadN X0 hx (hb hby d3_18) rfl (pc' := 19) rfl ?_
 refine k_iconst X0 hx (hb hby d3_19) (pc' := 20) rfl (z := (2 : Int32)) rfl ?_
 refine k_icmp_lt X0 hx (hb hby d3_20) (pn := 23) rfl (py := 30) (by decide) (fun _ => ?_) (fun hc => absurd (by decide) hc)
 refine k_iloadN X0 hx (hb hby d3_30) rfl (pc' := 31) rfl ?_
 refine k_iconst X0 hx (hb hby d3_31) (pc' := 32) rfl (z := (3 : Int32)) rfl ?_
 refine k_icmp_lt X0 hx (hb hby d3_32) (pn := 35) rfl (py := 43) (by decide) (fun _ => ?_) (fun hc => absurd (by decide) hc)
 refine k_iconst X0 hx (hb hby d3_43) (pc' := 44) rfl (z := (1 : Int32)) rfl ?_
 refine k_goto X0 hx (hb hby d3_44) (pc' := 48) (by decide) ?_
 exact k_retN X0 hx (t := .boolean) Bd.returns (by simp) (hb hby d3_48) hlk (by decide) (by decide) (z' := (1 : Int32)) rfl ⟨N0, e0, rfl⟩
theorem d1_21 : decode method_3_code 21 = .ok (.iload_n 0, 1) := by decide +kernel
theorem d1_22 : decode method_3_code 22 = .ok (.iconst 2, 1) := by decide +kernel
theorem d1_23 : decode method_3_code 23 = .ok (.if_icmp .ne 15, 3) := by decide +kernel
theorem d1_26 : decode method_3_code 26 = .ok (.iconst 2, 1) := by decide +kernel
theorem d1_27 : decode method_3_code 27 = .ok (.newarray .int, 2) := by decide +kernel
theorem d1_29 : decode method_3_code 29 = .ok (.dup, 1) := by decide +kernel
theorem d1_30 : decode method_3_code 30 = .ok (.iconst 0, 1) := by decide +kernel
theorem d1_31 : decode method_3_code 31 = .ok (.iload_n 1, 1) := by decide +kernel
theorem d1_32 : decode method_3_code 32 = .ok (.iastore, 1) := by decide +kernel
theorem d1_33 : decode method_3_code 33 = .ok (.dup, 1) := by decide +kernel
theorem d1_34 : decode method_3_code 34 = .ok (.iconst 1, 1) := by decide +kernel
theorem d1_35 : decode method_3_code 35 = .ok (.iload_n 2, 1) := by decide +kernel
theorem d1_36 : decode method_3_code 36 = .ok (.iastore, 1) := by decide +kernel
theorem d1_37 : decode method_3_code 37 = .ok (.areturn, 1) := by decide +kernel
abbrev R1_224 : Room := { frames := 0, cells := 1, slots := 2, locals := 0 }
def Q1_224 (Z : State) (p1 : Int32) (p2 : Int32) (p3 : Int32) (a4 : Addr) (k5 : ClassId) (p6 : Int32) (p7 : Int32) (p8 : Int32) (h0 : Heap) (n0 : Nat) (v : Option Value) (h : Heap) (L : List Loc) : Prop := Fr n0 L ∧ ((∃ (b225 : Addr) (k225 : ClassId), v = some (.ref b225) ∧ Arv Z h a4 k5 .int (4 : Int32) [(.int p1), (.int p6), (.int p7), (.int p8)] (.int (0 : Int32)) ∧ Arv Z h b225 k225 .int (2 : Int32) [(.int p1), (.int p2)] (.int (0 : Int32)) ∧ n0 ≤ b225 ∧ a4 < b225 ∧ n0 ≤ h.size))
theorem ef1_224 (m : MethodId) (x1 : Int32) (x2 : Int32) (x3 : Int32) : entryFrame m #[(.int (2 : Int32)), (.int x1), (.int x2), (.int x3)] 4 = mkF m 0 #[.val (.int (2 : Int32)), .val (.int x1), .val (.int x2), .val (.int x3)] [] := by first | (simp [entryFrame, mkF, argsToLocals, Value.category]; done) | rfl
set_option maxRecDepth 65536 in
set_option maxHeartbeats 40000000 in
theorem rm1_224 (l : Launch) (Z : State) (a0 : Array Value) (hw : ∀ d ∈ tables_1, d.before a0 Z = true) (ws : List Jvm.Cond) (p1 : Int32) (p2 : Int32) (p3 : Int32) (a4 : Addr) (k5 : ClassId) (p6 : Int32) (p7 : Int32) (p8 : Int32) (h0 : Heap) (n0 : Nat) (Z0 : n0 ≤ h0.size) (F0_0 : Arv Z h0 a4 k5 .int (4 : Int32) [(.int p1), (.int p6), (.int p7), (.int p8)] (.int (0 : Int32))) (g_a4 : n0 ≤ a4) :
    MetFree l (⟨"com/example/kallimachos/kallimachos/subsets/CombinationsNextPinLaw", "make", "(IIII)[I"⟩ : MethodName) (head1 (Jvm.Cond.code (⟨"com/example/kallimachos/kallimachos/subsets/CombinationsNextPinLaw", "make", "(IIII)[I"⟩ : MethodName) method_3_code 4 (some (.array .int)) :: ws) R1_224) (fun a U => a = #[(.int (2 : Int32)), (.int p1), (.int p2), (.int p3)] ∧ Z.Warmed39 U.vm ∧ U.heap = h0) (fun _ _ _ _ _ => True) (fun _ U o U' => ∃ v L, o = .returned v ∧ Q1_224 Z p1 p2 p3 a4 k5 p6 p7 p8 h0 n0 v U'.heap L ∧ FrameEnd U o U' L R1_224.cells R1_224.slots) := by
 refine MetFree.of_bodySF (plainFor_of_name pn_0) hisR ?_
 intro p e s m args below meth c s₁ Bd hml0 hP hK
 obtain ⟨rfl, hZ, hh⟩ := hP
 have hx := Bd.exec
 have hby := Bd.bytes
 have hml : c.maxLocals = 4 := hml0
 have hlk : meth.locks = false := Bd.notSynchronized
 have hown : s.vm.findClass "com/example/kallimachos/kallimachos/subsets/CombinationsNextPinLaw" = some m.cls := findClass_of_methodNamed Bd.named
 have hnm := (name_of_methodNamed Bd.named Bd.method).1
 have X0 : Stand p l e R1_224 s m #[(.int (2 : Int32)), (.int p1), (.int p2), (.int p3)] below meth c s₁ [] 0 0 := Stand.of_body Bd
 have e0 : s₁.heap = h0 := by rw [← hh, Bd.state]; rfl
 have N0 := Fr.nil n0
 rw [ef1_224 m p1 p2 p3]
 show KEnds p e below s R1_224.cells R1_224.slots (Q1_224 Z p1 p2 p3 a4 k5 p6 p7 p8 h0 n0) s₁ (mkF m 0 #[.val (.int (2 : Int32)), .val (.int p1), .val (.int p2), .val (.int p3)] [])
 refine k_iloadN X0 hx (hb hby d1_0) rfl (pc' := 1) rfl ?_
 refine k_if_ne X0 hx (hb hby d1_1) (pn := 4) rfl (py := 8) (by decide) (fun _ => ?_) (fun hc => absurd hc (by decide))
 refine k_iloadN X0 hx (hb hby d1_8) rfl (pc' := 9) rfl ?_
 refine k_iconst X0 hx (hb hby d1_9) (pc' := 10) rfl (z := (1 : Int32)) rfl ?_
 refine k_icmp_ne X0 hx (hb hby d1_10) (pn := 13) rfl (py := 21) (by decide) (fun _ => ?_) (fun hc => absurd hc (by decide))
 refine k_iloadN X0 hx (hb hby d1_21) rfl (pc' := 22) rfl ?_
 refine k_iconst X0 hx (hb hby d1_22) (pc' := 23) rfl (z := (2 : Int32)) rfl ?_
 refine k_icmp_ne X0 hx (hb hby d1_23) (pn := 26) rfl (py := 38) (by decide) (fun hc => absurd (by decide) hc) (fun _ => ?_)
 refine k_iconst X0 hx (hb hby d1_26) (pc' := 27) rfl (z := (2 : Int32)) rfl ?_
 refine k_newA X0 hx hZ (hw _ (List.mem_of_getElem? (i := 0) rfl)) e0 (hb hby d1_27) (by decide) (cap := 2) (by decide) (by decide) (by decide) (by decide) (pc' := 29) rfl (fun T225 h225 b225 k225 g225 X225 e225 E225 V225 => ?_)
 have g_b225 : n0 ≤ b225 := Nat.le_trans Z0 (Nat.le_of_eq g225.symm)
 have lt_b225 : a4 < b225 := Nat.lt_of_lt_of_le F0_0.lt (Nat.le_of_eq g225.symm)
 have Z225 : n0 ≤ h225.size := Nat.le_trans Z0 E225.1
 have Vw225 : Arv Z h225 b225 k225 .int (2 : Int32) [(.int (0 : Int32)), (.int (0 : Int32))] (.int (0 : Int32)) := V225
 refine k_dup X225 hx (hb hby d1_29) rfl (pc' := 30) rfl ?_
 refine k_iconst X225 hx (hb hby d1_30) (pc' := 31) rfl (z := (0 : Int32)) rfl ?_
 refine k_iloadN X225 hx (hb hby d1_31) rfl (pc' := 32) rfl ?_
 refine k_iastore X225 hx hZ e225 Vw225 ⟨by decide, by decide⟩ (i := 0) rfl (Nat.le_of_ble_eq_true rfl) (hb hby d1_32) (pc' := 33) rfl (fun T226 h226 X226 e226 W226 V226 => ?_)
 have Vw226 : Arv Z h226 b225 k225 .int (2 : Int32) [(.int p1), (.int (0 : Int32))] (.int (0 : Int32)) := V226
 have N226 := Fr.snoc X226 N0 g_b225
 have Z226 : n0 ≤ h226.size := Nat.le_trans Z225 (Nat.le_of_eq W226.size.symm)
 refine k_dup X226 hx (hb hby d1_33) rfl (pc' := 34) rfl ?_
 refine k_iconst X226 hx (hb hby d1_34) (pc' := 35) rfl (z := (1 : Int32)) rfl ?_
 refine k_iloadN X226 hx (hb hby d1_35) rfl (pc' := 36) rfl ?_
 refine k_iastore X226 hx hZ e226 Vw226 ⟨by decide, by decide⟩ (i := 1) rfl (Nat.le_of_ble_eq_true rfl) (hb hby d1_36) (pc' := 37) rfl (fun T227 h227 X227 e227 W227 V227 => ?_)
 have Vw227 : Arv Z h227 b225 k225 .int (2 : Int32) [(.int p1), (.int p2)] (.int (0 : Int32)) := V227
 have N227 := Fr.snoc X227 N226 g_b225
 have Z227 : n0 ≤ h227.size := Nat.le_trans Z226 (Nat.le_of_eq W227.size.symm)
 have F228 := (((F0_0.ext E225).other W226 (Nat.ne_of_lt lt_b225)).other W227 (Nat.ne_of_lt lt_b225))
 exact k_retA X227 hx Bd.returns rfl rfl (hb hby d1_37) hlk (by decide) (by decide) (by rw [e227]; exact ⟨N227, ⟨b225, k225, rfl, F228, Vw227, g_b225, lt_b225, Z227⟩⟩)
theorem d2_50 : decode prog_31_method_3_code 50 = .ok (.aload_n 0, 1) := by decide +kernel
theorem d2_51 : decode prog_31_method_3_code 51 = .ok (.iload_n 3, 1) := by decide +kernel
theorem d2_52 : decode prog_31_method_3_code 52 = .ok (.aload_n 0, 1) := by decide +kernel
theorem d2_53 : decode prog_31_method_3_code 53 = .ok (.iload_n 3, 1) := by decide +kernel
theorem d2_54 : decode prog_31_method_3_code 54 = .ok (.iconst 1, 1) := by decide +kernel
theorem d2_55 : decode prog_31_method_3_code 55 = .ok (.isub, 1) := by decide +kernel
theorem d2_56 : decode prog_31_method_3_code 56 = .ok (.iaload, 1) := by decide +kernel
theorem d2_57 : decode prog_31_method_3_code 57 = .ok (.iconst 1, 1) := by decide +kernel
theorem d2_58 : decode prog_31_method_3_code 58 = .ok (.iadd, 1) := by decide +kernel
theorem d2_59 : decode prog_31_method_3_code 59 = .ok (.iastore, 1) := by decide +kernel
theorem d2_60 : decode prog_31_method_3_code 60 = .ok (.iinc 3 1, 3) := by decide +kernel
theorem d2_63 : decode prog_31_method_3_code 63 = .ok (.goto (-19), 3) := by decide +kernel
abbrev R2_236 : Room := { frames := 0, cells := 0, slots := 0, locals := 0 }
def Q2_236 (Z : State) (a1 : Addr) (p2 : Int32) (a3 : Addr) (k4 : ClassId) (p5 : Int32) (p6 : Int32) (p7 : Int32) (p8 : Int32) (k9 : ClassId) (p10 : Int32) (h0 : Heap) (n0 : Nat) (v : Option Value) (h : Heap) (L : List Loc) : Prop := Fr n0 L ∧ ((∃ (v237 : Int32) (v238 : Int32) (v240 : Int32), v237 = p2 - (2 : Int32) ∧ v238 = v237 + (1 : Int32) ∧ v240 = p10 + (1 : Int32) ∧ ¬ p10 = v238 ∧ v = some (.int (1 : Int32)) ∧ Arv Z h a3 k4 .int (4 : Int32) [(.int p5), (.int p6), (.int p7), (.int p8)] (.int (0 : Int32)) ∧ Arv Z h a1 k9 .int (2 : Int32) [(.int p5), (.int v240)] (.int (0 : Int32)) ∧ n0 ≤ h.size) ∨ (∃ (v237 : Int32) (v238 : Int32) (v243 : Int32) (v245 : Int32), v237 = p2 - (2 : Int32) ∧ v238 = v237 + (1 : Int32) ∧ v243 = p5 + (1 : Int32) ∧ v245 = v243 + (1 : Int32) ∧ p10 = v238 ∧ ¬ p5 = v237 ∧ v = some (.int (1 : Int32)) ∧ Arv Z h a3 k4 .int (4 : Int32) [(.int p5), (.int p6), (.int p7), (.int p8)] (.int (0 : Int32)) ∧ Arv Z h a1 k9 .int (2 : Int32) [(.int v243), (.int v245)] (.int (0 : Int32)) ∧ n0 ≤ h.size) ∨ (∃ (v237 : Int32) (v238 : Int32), v237 = p2 - (2 : Int32) ∧ v238 = v237 + (1 : Int32) ∧ p10 = v238 ∧ p5 = v237 ∧ v = some (.int (0 : Int32)) ∧ Arv Z h a3 k4 .int (4 : Int32) [(.int p5), (.int p6), (.int p7), (.int p8)] (.int (0 : Int32)) ∧ Arv Z h a1 k9 .int (2 : Int32) [(.int p5), (.int p10)] (.int (0 : Int32)) ∧ n0 ≤ h.size))
theorem ef2_236 (m : MethodId) (x0 : Addr) (x1 : Int32) : entryFrame m #[(.ref x0), (.int x1)] 4 = mkF m 0 #[.val (.ref x0), .val (.int x1), .unset, .unset] [] := by first | (simp [entryFrame, mkF, argsToLocals, Value.category]; done) | rfl
set_option maxRecDepth 65536 in
set_option maxHeartbeats 40000000 in
theorem rm2_236 (l : Launch) (Z : State) (a0 : Array Value) (hw : ∀ d ∈ tables_1, d.before a0 Z = true) (ws : List Jvm.Cond) (a1 : Addr) (p2 : Int32) (a3 : Addr) (k4 : ClassId) (p5 : Int32) (p6 : Int32) (p7 : Int32) (p8 : Int32) (k9 : ClassId) (p10 : Int32) (h0 : Heap) (n0 : Nat) (Z0 : n0 ≤ h0.size) (F0_0 : Arv Z h0 a3 k4 .int (4 : Int32) [(.int p5), (.int p6), (.int p7), (.int p8)] (.int (0 : Int32))) (g_a3 : n0 ≤ a3) (F0_2 : Arv Z h0 a1 k9 .int (2 : Int32) [(.int p5), (.int p10)] (.int (0 : Int32))) (g_a1 : n0 ≤ a1) (lt0_0 : a3 < a1) :
    MetFree l (⟨"com/example/kallimachos/kallimachos/subsets/Combinations", "next", "([II)Z"⟩ : MethodName) (head1 (Jvm.Cond.code (⟨"com/example/kallimachos/kallimachos/subsets/Combinations", "next", "([II)Z"⟩ : MethodName) prog_31_method_3_code 4 (some .boolean) :: ws) R2_236) (fun a U => a = #[(.ref a1), (.int p2)] ∧ Z.Warmed39 U.vm ∧ U.heap = h0) (fun _ _ _ _ _ => True) (fun _ U o U' => ∃ v L, o = .returned v ∧ Q2_236 Z a1 p2 a3 k4 p5 p6 p7 p8 k9 p10 h0 n0 v U'.heap L ∧ FrameEnd U o U' L R2_236.cells R2_236.slots) := by
 refine MetFree.of_bodySF (plainFor_of_name pn_1) hisR ?_
 intro p e s m args below meth c s₁ Bd hml0 hP hK
 obtain ⟨rfl, hZ, hh⟩ := hP
 have hx := Bd.exec
 have hby := Bd.bytes
 have hml : c.maxLocals = 4 := hml0
 have hlk : meth.locks = false := Bd.notSynchronized
 have hown : s.vm.findClass "com/example/kallimachos/kallimachos/subsets/Combinations" = some m.cls := findClass_of_methodNamed Bd.named
 have hnm := (name_of_methodNamed Bd.named Bd.method).1
 have X0 : Stand p l e R2_236 s m #[(.ref a1), (.int p2)] below meth c s₁ [] 0 0 := Stand.of_body Bd
 have e0 : s₁.heap = h0 := by rw [← hh, Bd.state]; rfl
 have N0 := Fr.nil n0
 rw [ef2_236 m a1 p2]
 show KEnds p e below s R2_236.cells R2_236.slots (Q2_236 Z a1 p2 a3 k4 p5 p6 p7 p8 k9 p10 h0 n0) s₁ (mkF m 0 #[.val (.ref a1), .val (.int p2), .unset, .unset] [])
 refine k_aloadN X0 hx (hb hby d2_0) rfl rfl (pc' := 1) rfl ?_
 refine k_alen X0 hx hZ e0 F0_2 (hb hby d2_1) (pc' := 2) rfl ?_
 refine k_iconst X0 hx (hb hby d2_2) (pc' := 3) rfl (z := (1 : Int32)) rfl ?_
 refine k_isubL X0 hx (hb hby d2_3) (pc' := 4) rfl (z := (1 : Int32)) (by decide) ?_
 refine k_istoreN X0 hx (hb hby d2_4) (Ls' := #[.val (.ref a1), .val (.int p2), .val (.int (1 : Int32)), .unset]) rfl (pc' := 5) rfl ?_
 refine k_iloadN X0 hx (hb hby d2_5) rfl (pc' := 6) rfl ?_
 refine k_if_lt X0 hx (hb hby d2_6) (pn := 9) rfl (py := 27) (by decide) (fun hc => absurd hc (by decide)) (fun _ => ?_)
 refine k_aloadN X0 hx (hb hby d2_9) rfl rfl (pc' := 10) rfl ?_
 refine k_iloadN X0 hx (hb hby d2_10) rfl (pc' := 11) rfl ?_
 refine k_iaload X0 hx hZ e0 F0_2 ⟨by decide, by decide⟩ (v := (.int p10)) rfl (hb hby d2_11) (pc' := 12) rfl ?_
 refine k_iloadN X0 hx (hb hby d2_12) rfl (pc' := 13) rfl ?_
 refine k_aloadN X0 hx (hb hby d2_13) rfl rfl (pc' := 14) rfl ?_
 refine k_alen X0 hx hZ e0 F0_2 (hb hby d2_14) (pc' := 15) rfl ?_
 refine k_isub X0 hx (hb hby d2_15) (pc' := 16) rfl (fun v237 hv237 => ?_)
 refine k_iloadN X0 hx (hb hby d2_16) rfl (pc' := 17) rfl ?_
 refine k_iadd X0 hx (hb hby d2_17) (pc' := 18) rfl (fun v238 hv238 => ?_)
 refine k_icmp_ne X0 hx (hb hby d2_18) (pn := 21) rfl (py := 27) (by decide) (fun hc239 => ?_) (fun hc239 => ?_)
 ·
  refine k_iloadN X0 hx (hb hby d2_27) rfl (pc' := 28) rfl ?_
  refine k_if_ge X0 hx (hb hby d2_28) (pn := 31) rfl (py := 33) (by decide) (fun _ => ?_) (fun hc => absurd hc (by decide))
  refine k_aloadN X0 hx (hb hby d2_33) rfl rfl (pc' := 34) rfl ?_
  refine k_iloadN X0 hx (hb hby d2_34) rfl (pc' := 35) rfl ?_
  refine k_dup2 X0 hx (hb hby d2_35) rfl rfl (pc' := 36) rfl ?_
  refine k_iaload X0 hx hZ e0 F0_2 ⟨by decide, by decide⟩ (v := (.int p10)) rfl (hb hby d2_36) (pc' := 37) rfl ?_
  refine k_iconst X0 hx (hb hby d2_37) (pc' := 38) rfl (z := (1 : Int32)) rfl ?_
  refine k_iadd X0 hx (hb hby d2_38) (pc' := 39) rfl (fun v240 hv240 => ?_)
  refine k_iastore X0 hx hZ e0 F0_2 ⟨by decide, by decide⟩ (i := 1) rfl (Nat.le_of_ble_eq_true rfl) (hb hby d2_39) (pc' := 40) rfl (fun T241 h241 X241 e241 W241 V241 => ?_)
  have Vw241 : Arv Z h241 a1 k9 .int (2 : Int32) [(.int p5), (.int v240)] (.int (0 : Int32)) := V241
  have N241 := Fr.snoc X241 N0 g_a1
  have Z241 : n0 ≤ h241.size := Nat.le_trans Z0 (Nat.le_of_eq W241.size.symm)
  refine k_iloadN X241 hx (hb hby d2_40) rfl (pc' := 41) rfl ?_
  refine k_iconst X241 hx (hb hby d2_41) (pc' := 42) rfl (z := (1 : Int32)) rfl ?_
  refine k_iaddL X241 hx (hb hby d2_42) (pc' := 43) rfl (z := (2 : Int32)) (by decide) ?_
  refine k_istoreN X241 hx (hb hby d2_43) (Ls' := #[.val (.ref a1), .val (.int p2), .val (.int (1 : Int32)), .val (.int (2 : Int32))]) rfl (pc' := 44) rfl ?_
  refine k_iloadN X241 hx (hb hby d2_44) rfl (pc' := 45) rfl ?_
  refine k_aloadN X241 hx (hb hby d2_45) rfl rfl (pc' := 46) rfl ?_
  refine k_alen X241 hx hZ e241 Vw241 (hb hby d2_46) (pc' := 47) rfl ?_
  refine k_icmp_ge X241 hx (hb hby d2_47) (pn := 50) rfl (py := 66) (by decide) (fun _ => ?_) (fun hc => absurd hc (by decide))
  refine k_iconst X241 hx (hb hby d2_66) (pc' := 67) rfl (z := (1 : Int32)) rfl ?_
  have F247 := (F0_0.other W241 (Nat.ne_of_lt lt0_0))
  exact k_retN X241 hx (t := .boolean) Bd.returns (by simp) (hb hby d2_67) hlk (by decide) (by decide) (z' := (1 : Int32)) rfl (by rw [e241]; exact ⟨N241, (Or.inl ⟨v237, v238, v240, hv237, hv238, hv240, hc239, rfl, F247, Vw241, Z241⟩)⟩)
 ·
  refine k_iinc X0 hx (hb hby d2_21) rfl (pc' := 24) rfl (z := (0 : Int32)) (by decide) (Ls' := #[.val (.ref a1), .val (.int p2), .val (.int (0 : Int32)), .unset]) rfl ?_
  refine k_goto X0 hx (hb hby d2_24) (pc' := 5) (by decide) ?_
  refine k_iloadN X0 hx (hb hby d2_5) rfl (pc' := 6) rfl ?_
  refine k_if_lt X0 hx (hb hby d2_6) (pn := 9) rfl (py := 27) (by decide) (fun hc => absurd hc (by decide)) (fun _ => ?_)
  refine k_aloadN X0 hx (hb hby d2_9) rfl rfl (pc' := 10) rfl ?_
  refine k_iloadN X0 hx (hb hby d2_10) rfl (pc' := 11) rfl ?_
  refine k_iaload X0 hx hZ e0 F0_2 ⟨by decide, by decide⟩ (v := (.int p5)) rfl (hb hby d2_11) (pc' := 12) rfl ?_
  refine k_iloadN X0 hx (hb hby d2_12) rfl (pc' := 13) rfl ?_
  refine k_aloadN X0 hx (hb hby d2_13) rfl rfl (pc' := 14) rfl ?_
  refine k_alen X0 hx hZ e0 F0_2 (hb hby d2_14) (pc' := 15) rfl ?_
  refine k_isubL X0 hx (hb hby d2_15) (pc' := 16) rfl (z := v237) hv237.symm ?_
  refine k_iloadN X0 hx (hb hby d2_16) rfl (pc' := 17) rfl ?_
  refine k_iaddL X0 hx (hb hby d2_17) (pc' := 18) rfl (z := v237) (Int32.add_zero _) ?_
  refine k_icmp_ne X0 hx (hb hby d2_18) (pn := 21) rfl (py := 27) (by decide) (fun hc242 => ?_) (fun hc242 => ?_)
  ·
   refine k_iloadN X0 hx (hb hby d2_27) rfl (pc' := 28) rfl ?_
   refine k_if_ge X0 hx (hb hby d2_28) (pn := 31) rfl (py := 33) (by decide) (fun _ => ?_) (fun hc => absurd hc (by decide))
   refine k_aloadN X0 hx (hb hby d2_33) rfl rfl (pc' := 34) rfl ?_
   refine k_iloadN X0 hx (hb hby d2_34) rfl (pc' := 35) rfl ?_
   refine k_dup2 X0 hx (hb hby d2_35) rfl rfl (pc' := 36) rfl ?_
   refine k_iaload X0 hx hZ e0 F0_2 ⟨by decide, by decide⟩ (v := (.int p5)) rfl (hb hby d2_36) (pc' := 37) rfl ?_
   refine k_iconst X0 hx (hb hby d2_37) (pc' := 38) rfl (z := (1 : Int32)) rfl ?_
   refine k_iadd X0 hx (hb hby d2_38) (pc' := 39) rfl (fun v243 hv243 => ?_)
   refine k_iastore X0 hx hZ e0 F0_2 ⟨by decide, by decide⟩ (i := 0) rfl (Nat.le_of_ble_eq_true rfl) (hb hby d2_39) (pc' := 40) rfl (fun T244 h244 X244 e244 W244 V244 => ?_)
   have Vw244 : Arv Z h244 a1 k9 .int (2 : Int32) [(.int v243), (.int p10)] (.int (0 : Int32)) := V244
   have N244 := Fr.snoc X244 N0 g_a1
   have Z244 : n0 ≤ h244.size := Nat.le_trans Z0 (Nat.le_of_eq W244.size.symm)
   refine k_iloadN X244 hx (hb hby d2_40) rfl (pc' := 41) rfl ?_
   refine k_iconst X244 hx (hb hby d2_41) (pc' := 42) rfl (z := (1 : Int32)) rfl ?_
   refine k_iaddL X244 hx (hb hby d2_42) (pc' := 43) rfl (z := (1 : Int32)) (by decide) ?_
   refine k_istoreN X244 hx (hb hby d2_43) (Ls' := #[.val (.ref a1), .val (.int p2), .val (.int (0 : Int32)), .val (.int (1 : Int32))]) rfl (pc' := 44) rfl ?_
   refine k_iloadN X244 hx (hb hby d2_44) rfl (pc' := 45) rfl ?_
   refine k_aloadN X244 hx (hb hby d2_45) rfl rfl (pc' := 46) rfl ?_
   refine k_alen X244 hx hZ e244 Vw244 (hb hby d2_46) (pc' := 47) rfl ?_
   refine k_icmp_ge X244 hx (hb hby d2_47) (pn := 50) rfl (py := 66) (by decide) (fun hc => absurd (by decide) hc) (fun _ => ?_)
   refine k_aloadN X244 hx (hb hby d2_50) rfl rfl (pc' := 51) rfl ?_
   refine k_iloadN X244 hx (hb hby d2_51) rfl (pc' := 52) rfl ?_
   refine k_aloadN X244 hx (hb hby d2_52) rfl rfl (pc' := 53) rfl ?_
   refine k_iloadN X244 hx (hb hby d2_53) rfl (pc' := 54) rfl ?_
   refine k_iconst X244 hx (hb hby d2_54) (pc' := 55) rfl (z := (1 : Int32)) rfl ?_
   refine k_isubL X244 hx (hb hby d2_55) (pc' := 56) rfl (z := (0 : Int32)) (by decide) ?_
   refine k_iaload X244 hx hZ e244 Vw244 ⟨by decide, by decide⟩ (v := (.int v243)) rfl (hb hby d2_56) (pc' := 57) rfl ?_
   refine k_iconst X244 hx (hb hby d2_57) (pc' := 58) rfl (z := (1 : Int32)) rfl ?_
   refine k_iadd X244 hx (hb hby d2_58) (pc' := 59) rfl (fun v245 hv245 => ?_)
   refine k_iastore X244 hx hZ e244 Vw244 ⟨by decide, by decide⟩ (i := 1) rfl (Nat.le_of_ble_eq_true rfl) (hb hby d2_59) (pc' := 60) rfl (fun T246 h246 X246 e246 W246 V246 => ?_)
   have Vw246 : Arv Z h246 a1 k9 .int (2 : Int32) [(.int v243), (.int v245)] (.int (0 : Int32)) := V246
   have N246 := Fr.snoc X246 N244 g_a1
   have Z246 : n0 ≤ h246.size := Nat.le_trans Z244 (Nat.le_of_eq W246.size.symm)
   refine k_iinc X246 hx (hb hby d2_60) rfl (pc' := 63) rfl (z := (2 : Int32)) (by decide) (Ls' := #[.val (.ref a1), .val (.int p2), .val (.int (0 : Int32)), .val (.int (2 : Int32))]) rfl ?_
   refine k_goto X246 hx (hb hby d2_63) (pc' := 44) (by decide) ?_
   refine k_iloadN X246 hx (hb hby d2_44) rfl (pc' := 45) rfl ?_
   refine k_aloadN X246 hx (hb hby d2_45) rfl rfl (pc' := 46) rfl ?_
   refine k_alen X246 hx hZ e246 Vw246 (hb hby d2_46) (pc' := 47) rfl ?_
   refine k_icmp_ge X246 hx (hb hby d2_47) (pn := 50) rfl (py := 66) (by decide) (fun _ => ?_) (fun hc => absurd hc (by decide))
   refine k_iconst X246 hx (hb hby d2_66) (pc' := 67) rfl (z := (1 : Int32)) rfl ?_
   have F248 := ((F0_0.other W244 (Nat.ne_of_lt lt0_0)).other W246 (Nat.ne_of_lt lt0_0))
   exact k_retN X246 hx (t := .boolean) Bd.returns (by simp) (hb hby d2_67) hlk (by decide) (by decide) (z' := (1 : Int32)) rfl (by rw [e246]; exact ⟨N246, (Or.inr (Or.inl ⟨v237, v238, v243, v245, hv237, hv238, hv243, hv245, hc239, hc242, rfl, F248, Vw246, Z246⟩))⟩)
  ·
   refine k_iinc X0 hx (hb hby d2_21) rfl (pc' := 24) rfl (z := (-1 : Int32)) (by decide) (Ls' := #[.val (.ref a1), .val (.int p2), .val (.int (-1 : Int32)), .unset]) rfl ?_
   refine k_goto X0 hx (hb hby d2_24) (pc' := 5) (by decide) ?_
   refine k_iloadN X0 hx (hb hby d2_5) rfl (pc' := 6) rfl ?_
   refine k_if_lt X0 hx (hb hby d2_6) (pn := 9) rfl (py := 27) (by decide) (fun _ => ?_) (fun hc => absurd (by decide) hc)
   refine k_iloadN X0 hx (hb hby d2_27) rfl (pc' := 28) rfl ?_
   refine k_if_ge X0 hx (hb hby d2_28) (pn := 31) rfl (py := 33) (by decide) (fun hc => absurd (by decide) hc) (fun _ => ?_)
   refine k_iconst X0 hx (hb hby d2_31) (pc' := 32) rfl (z := (0 : Int32)) rfl ?_
   exact k_retN X0 hx (t := .boolean) Bd.returns (by simp) (hb hby d2_32) hlk (by decide) (by decide) (z' := (0 : Int32)) rfl (by rw [e0]; exact ⟨N0, (Or.inr (Or.inr ⟨v237, v238, hv237, hv238, hc239, hc242, rfl, F0_0, F0_2, Z0⟩))⟩)
theorem d3_47 : decode method_4_code 47 = .ok (.iconst 0, 1) := by decide +kernel
theorem d3_23 : decode method_4_code 23 = .ok (.aload_n 0, 1) := by decide +kernel
theorem d3_24 : decode method_4_code 24 = .ok (.iconst 1, 1) := by decide +kernel
theorem d3_25 : decode method_4_code 25 = .ok (.iaload, 1) := by decide +kernel
theorem d3_26 : decode method_4_code 26 = .ok (.iload_n 3, 1) := by decide +kernel
theorem d3_27 : decode method_4_code 27 = .ok (.if_icmp .ne 20, 3) := by decide +kernel
abbrev R3_315 : Room := { frames := 0, cells := 0, slots := 0, locals := 0 }
def Q3_315 (Z : State) (a1 : Addr) (p2 : Int32) (p3 : Int32) (p4 : Int32) (k5 : ClassId) (p6 : Int32) (p7 : Int32) (h0 : Heap) (n0 : Nat) (v : Option Value) (h : Heap) (L : List Loc) : Prop := Fr n0 L ∧ h = h0 ∧ ((¬ p6 = p2 ∧ v = some (.int (0 : Int32))) ∨ (p6 = p2 ∧ ¬ p7 = p3 ∧ v = some (.int (0 : Int32))) ∨ (p6 = p2 ∧ p7 = p3 ∧ v = some (.int (1 : Int32))))
theorem ef3_315 (m : MethodId) (x0 : Addr) (x2 : Int32) (x3 : Int32) (x4 : Int32) : entryFrame m #[(.ref x0), (.int (2 : Int32)), (.int x2), (.int x3), (.int x4)] 5 = mkF m 0 #[.val (.ref x0), .val (.int (2 : Int32)), .val (.int x2), .val (.int x3), .val (.int x4)] [] := by first | (simp [entryFrame, mkF, argsToLocals, Value.category]; done) | rfl
set_option maxRecDepth 65536 in
set_option maxHeartbeats 40000000 in
theorem rm3_315 (l : Launch) (Z : State) (a0 : Array Value) (hw : ∀ d ∈ tables_1, d.before a0 Z = true) (ws : List Jvm.Cond) (a1 : Addr) (p2 : Int32) (p3 : Int32) (p4 : Int32) (k5 : ClassId) (p6 : Int32) (p7 : Int32) (h0 : Heap) (n0 : Nat) (Z0 : n0 ≤ h0.size) (F0_0 : Arv Z h0 a1 k5 .int (2 : Int32) [(.int p6), (.int p7)] (.int (0 : Int32))) :
    MetFree l (⟨"com/example/kallimachos/kallimachos/subsets/CombinationsNextPinLaw", "same", "([IIIII)Z"⟩ : MethodName) (head1 (Jvm.Cond.code (⟨"com/example/kallimachos/kallimachos/subsets/CombinationsNextPinLaw", "same", "([IIIII)Z"⟩ : MethodName) method_4_code 5 (some .boolean) :: ws) R3_315) (fun a U => a = #[(.ref a1), (.int (2 : Int32)), (.int p2), (.int p3), (.int p4)] ∧ Z.Warmed39 U.vm ∧ U.heap = h0) (fun _ _ _ _ _ => True) (fun _ U o U' => ∃ v L, o = .returned v ∧ Q3_315 Z a1 p2 p3 p4 k5 p6 p7 h0 n0 v U'.heap L ∧ FrameEnd U o U' L R3_315.cells R3_315.slots) := by
 refine MetFree.of_bodySF (plainFor_of_name pn_0) hisR ?_
 intro p e s m args below meth c s₁ Bd hml0 hP hK
 obtain ⟨rfl, hZ, hh⟩ := hP
 have hx := Bd.exec
 have hby := Bd.bytes
 have hml : c.maxLocals = 5 := hml0
 have hlk : meth.locks = false := Bd.notSynchronized
 have hown : s.vm.findClass "com/example/kallimachos/kallimachos/subsets/CombinationsNextPinLaw" = some m.cls := findClass_of_methodNamed Bd.named
 have hnm := (name_of_methodNamed Bd.named Bd.method).1
 have X0 : Stand p l e R3_315 s m #[(.ref a1), (.int (2 : Int32)), (.int p2), (.int p3), (.int p4)] below meth c s₁ [] 0 0 := Stand.of_body Bd
 have e0 : s₁.heap = h0 := by rw [← hh, Bd.state]; rfl
 have N0 := Fr.nil n0
 rw [ef3_315 m a1 p2 p3 p4]
 show KEnds p e below s R3_315.cells R3_315.slots (Q3_315 Z a1 p2 p3 p4 k5 p6 p7 h0 n0) s₁ (mkF m 0 #[.val (.ref a1), .val (.int (2 : Int32)), .val (.int p2), .val (.int p3), .val (.int p4)] [])
 refine k_aloadN X0 hx (hb hby d3_0) rfl rfl (pc' := 1) rfl ?_
 refine k_alen X0 hx hZ e0 F0_0 (hb hby d3_1) (pc' := 2) rfl ?_
 refine k_iloadN X0 hx (hb hby d3_2) rfl (pc' := 3) rfl ?_
 refine k_icmp_ne X0 hx (hb hby d3_3) (pn := 6) rfl (py := 47) (by decide) (fun hc => absurd (by decide) hc) (fun _ => ?_)
 refine k_iloadN X0 hx (hb hby d3_6) rfl (pc' := 7) rfl ?_
 refine k_iconst X0 hx (hb hby d3_7) (pc' := 8) rfl (z := (1 : Int32)) rfl ?_
 refine k_icmp_lt X0 hx (hb hby d3_8) (pn := 11) rfl (py := 18) (by decide) (fun hc => absurd hc (by decide)) (fun _ => ?_)
 refine k_aloadN X0 hx (hb hby d3_11) rfl rfl (pc' := 12) rfl ?_
 refine k_iconst X0 hx (hb hby d3_12) (pc' := 13) rfl (z := (0 : Int32)) rfl ?_
 refine k_iaload X0 hx hZ e0 F0_0 ⟨by decide, by decide⟩ (v := (.int p6)) rfl (hb hby d3_13) (pc' := 14) rfl ?_
 refine k_iloadN X0 hx (hb hby d3_14) rfl (pc' := 15) rfl ?_
 refine k_icmp_ne X0 hx (hb hby d3_15) (pn := 18) rfl (py := 47) (by decide) (fun hc316 => ?_) (fun hc316 => ?_)
 ·
  refine k_iconst X0 hx (hb hby d3_47) (pc' := 48) rfl (z := (0 : Int32)) rfl ?_
  exact k_retN X0 hx (t := .boolean) Bd.returns (by simp) (hb hby d3_48) hlk (by decide) (by decide) (z' := (0 : Int32)) rfl ⟨N0, e0, (Or.inl ⟨hc316, rfl⟩)⟩
 ·
  refine k_iloadN X0 hx (hb hby d3_18) rfl (pc' := 19) rfl ?_
  refine k_iconst X0 hx (hb hby d3_19) (pc' := 20) rfl (z := (2 : Int32)) rfl ?_
  refine k_icmp_lt X0 hx (hb hby d3_20) (pn := 23) rfl (py := 30) (by decide) (fun hc => absurd hc (by decide)) (fun _ => ?_)
  refine k_aloadN X0 hx (hb hby d3_23) rfl rfl (pc' := 24) rfl ?_
  refine k_iconst X0 hx (hb hby d3_24) (pc' := 25) rfl (z := (1 : Int32)) rfl ?_
  refine k_iaload X0 hx hZ e0 F0_0 ⟨by decide, by decide⟩ (v := (.int p7)) rfl (hb hby d3_25) (pc' := 26) rfl ?_
  refine k_iloadN X0 hx (hb hby d3_26) rfl (pc' := 27) rfl ?_
  refine k_icmp_ne X0 hx (hb hby d3_27) (pn := 30) rfl (py := 47) (by decide) (fun hc317 => ?_) (fun hc317 => ?_)
  ·
   refine k_iconst X0 hx (hb hby d3_47) (pc' := 48) rfl (z := (0 : Int32)) rfl ?_
   exact k_retN X0 hx (t := .boolean) Bd.returns (by simp) (hb hby d3_48) hlk (by decide) (by decide) (z' := (0 : Int32)) rfl ⟨N0, e0, (Or.inr (Or.inl ⟨hc316, hc317, rfl⟩))⟩
  ·
   refine k_iloadN X0 hx (hb hby d3_30) rfl (pc' := 31) rfl ?_
   refine k_iconst X0 hx (hb hby d3_31) (pc' := 32) rfl (z := (3 : Int32)) rfl ?_
   refine k_icmp_lt X0 hx (hb hby d3_32) (pn := 35) rfl (py := 43) (by decide) (fun _ => ?_) (fun hc => absurd (by decide) hc)
   refine k_iconst X0 hx (hb hby d3_43) (pc' := 44) rfl (z := (1 : Int32)) rfl ?_
   refine k_goto X0 hx (hb hby d3_44) (pc' := 48) (by decide) ?_
   exact k_retN X0 hx (t := .boolean) Bd.returns (by simp) (hb hby d3_48) hlk (by decide) (by decide) (z' := (1 : Int32)) rfl ⟨N0, e0, (Or.inr (Or.inr ⟨hc316, hc317, rfl⟩))⟩
abbrev R3_379 : Room := { frames := 0, cells := 0, slots := 0, locals := 0 }
def Q3_379 (Z : State) (a1 : Addr) (p2 : Int32) (p3 : Int32) (p4 : Int32) (k5 : ClassId) (p6 : Int32) (h0 : Heap) (n0 : Nat) (v : Option Value) (h : Heap) (L : List Loc) : Prop := Fr n0 L ∧ h = h0 ∧ ((¬ p6 = p3 ∧ v = some (.int (0 : Int32))) ∨ (p6 = p3 ∧ v = some (.int (1 : Int32))))
theorem ef3_379 (m : MethodId) (x0 : Addr) (x2 : Int32) (x3 : Int32) (x4 : Int32) : entryFrame m #[(.ref x0), (.int (2 : Int32)), (.int x2), (.int x3), (.int x4)] 5 = mkF m 0 #[.val (.ref x0), .val (.int (2 : Int32)), .val (.int x2), .val (.int x3), .val (.int x4)] [] := by first | (simp [entryFrame, mkF, argsToLocals, Value.category]; done) | rfl
set_option maxRecDepth 65536 in
set_option maxHeartbeats 40000000 in
theorem rm3_379 (l : Launch) (Z : State) (a0 : Array Value) (hw : ∀ d ∈ tables_1, d.before a0 Z = true) (ws : List Jvm.Cond) (a1 : Addr) (p2 : Int32) (p3 : Int32) (p4 : Int32) (k5 : ClassId) (p6 : Int32) (h0 : Heap) (n0 : Nat) (Z0 : n0 ≤ h0.size) (F0_0 : Arv Z h0 a1 k5 .int (2 : Int32) [(.int p2), (.int p6)] (.int (0 : Int32))) :
    MetFree l (⟨"com/example/kallimachos/kallimachos/subsets/CombinationsNextPinLaw", "same", "([IIIII)Z"⟩ : MethodName) (head1 (Jvm.Cond.code (⟨"com/example/kallimachos/kallimachos/subsets/CombinationsNextPinLaw", "same", "([IIIII)Z"⟩ : MethodName) method_4_code 5 (some .boolean) :: ws) R3_379) (fun a U => a = #[(.ref a1), (.int (2 : Int32)), (.int p2), (.int p3), (.int p4)] ∧ Z.Warmed39 U.vm ∧ U.heap = h0) (fun _ _ _ _ _ => True) (fun _ U o U' => ∃ v L, o = .returned v ∧ Q3_379 Z a1 p2 p3 p4 k5 p6 h0 n0 v U'.heap L ∧ FrameEnd U o U' L R3_379.cells R3_379.slots) := by
 refine MetFree.of_bodySF (plainFor_of_name pn_0) hisR ?_
 intro p e s m args below meth c s₁ Bd hml0 hP hK
 obtain ⟨rfl, hZ, hh⟩ := hP
 have hx := Bd.exec
 have hby := Bd.bytes
 have hml : c.maxLocals = 5 := hml0
 have hlk : meth.locks = false := Bd.notSynchronized
 have hown : s.vm.findClass "com/example/kallimachos/kallimachos/subsets/CombinationsNextPinLaw" = some m.cls := findClass_of_methodNamed Bd.named
 have hnm := (name_of_methodNamed Bd.named Bd.method).1
 have X0 : Stand p l e R3_379 s m #[(.ref a1), (.int (2 : Int32)), (.int p2), (.int p3), (.int p4)] below meth c s₁ [] 0 0 := Stand.of_body Bd
 have e0 : s₁.heap = h0 := by rw [← hh, Bd.state]; rfl
 have N0 := Fr.nil n0
 rw [ef3_379 m a1 p2 p3 p4]
 show KEnds p e below s R3_379.cells R3_379.slots (Q3_379 Z a1 p2 p3 p4 k5 p6 h0 n0) s₁ (mkF m 0 #[.val (.ref a1), .val (.int (2 : Int32)), .val (.int p2), .val (.int p3), .val (.int p4)] [])
 refine k_aloadN X0 hx (hb hby d3_0) rfl rfl (pc' := 1) rfl ?_
 refine k_alen X0 hx hZ e0 F0_0 (hb hby d3_1) (pc' := 2) rfl ?_
 refine k_iloadN X0 hx (hb hby d3_2) rfl (pc' := 3) rfl ?_
 refine k_icmp_ne X0 hx (hb hby d3_3) (pn := 6) rfl (py := 47) (by decide) (fun hc => absurd (by decide) hc) (fun _ => ?_)
 refine k_iloadN X0 hx (hb hby d3_6) rfl (pc' := 7) rfl ?_
 refine k_iconst X0 hx (hb hby d3_7) (pc' := 8) rfl (z := (1 : Int32)) rfl ?_
 refine k_icmp_lt X0 hx (hb hby d3_8) (pn := 11) rfl (py := 18) (by decide) (fun hc => absurd hc (by decide)) (fun _ => ?_)
 refine k_aloadN X0 hx (hb hby d3_11) rfl rfl (pc' := 12) rfl ?_
 refine k_iconst X0 hx (hb hby d3_12) (pc' := 13) rfl (z := (0 : Int32)) rfl ?_
 refine k_iaload X0 hx hZ e0 F0_0 ⟨by decide, by decide⟩ (v := (.int p2)) rfl (hb hby d3_13) (pc' := 14) rfl ?_
 refine k_iloadN X0 hx (hb hby d3_14) rfl (pc' := 15) rfl ?_
 refine k_icmp_ne X0 hx (hb hby d3_15) (pn := 18) rfl (py := 47) (by decide) (fun hc => absurd rfl hc) (fun _ => ?_)
 refine k_iloadN X0 hx (hb hby d3_18) rfl (pc' := 19) rfl ?_
 refine k_iconst X0 hx (hb hby d3_19) (pc' := 20) rfl (z := (2 : Int32)) rfl ?_
 refine k_icmp_lt X0 hx (hb hby d3_20) (pn := 23) rfl (py := 30) (by decide) (fun hc => absurd hc (by decide)) (fun _ => ?_)
 refine k_aloadN X0 hx (hb hby d3_23) rfl rfl (pc' := 24) rfl ?_
 refine k_iconst X0 hx (hb hby d3_24) (pc' := 25) rfl (z := (1 : Int32)) rfl ?_
 refine k_iaload X0 hx hZ e0 F0_0 ⟨by decide, by decide⟩ (v := (.int p6)) rfl (hb hby d3_25) (pc' := 26) rfl ?_
 refine k_iloadN X0 hx (hb hby d3_26) rfl (pc' := 27) rfl ?_
 refine k_icmp_ne X0 hx (hb hby d3_27) (pn := 30) rfl (py := 47) (by decide) (fun hc380 => ?_) (fun hc380 => ?_)
 ·
  refine k_iconst X0 hx (hb hby d3_47) (pc' := 48) rfl (z := (0 : Int32)) rfl ?_
  exact k_retN X0 hx (t := .boolean) Bd.returns (by simp) (hb hby d3_48) hlk (by decide) (by decide) (z' := (0 : Int32)) rfl ⟨N0, e0, (Or.inl ⟨hc380, rfl⟩)⟩
 ·
  refine k_iloadN X0 hx (hb hby d3_30) rfl (pc' := 31) rfl ?_
  refine k_iconst X0 hx (hb hby d3_31) (pc' := 32) rfl (z := (3 : Int32)) rfl ?_
  refine k_icmp_lt X0 hx (hb hby d3_32) (pn := 35) rfl (py := 43) (by decide) (fun _ => ?_) (fun hc => absurd (by decide) hc)
  refine k_iconst X0 hx (hb hby d3_43) (pc' := 44) rfl (z := (1 : Int32)) rfl ?_
  refine k_goto X0 hx (hb hby d3_44) (pc' := 48) (by decide) ?_
  exact k_retN X0 hx (t := .boolean) Bd.returns (by simp) (hb hby d3_48) hlk (by decide) (by decide) (z' := (1 : Int32)) rfl ⟨N0, e0, (Or.inr ⟨hc380, rfl⟩)⟩
abbrev R3_440 : Room := { frames := 0, cells := 0, slots := 0, locals := 0 }
def Q3_440 (Z : State) (a1 : Addr) (p2 : Int32) (p3 : Int32) (p4 : Int32) (k5 : ClassId) (h0 : Heap) (n0 : Nat) (v : Option Value) (h : Heap) (L : List Loc) : Prop := Fr n0 L ∧ h = h0 ∧ ((v = some (.int (1 : Int32))))
theorem ef3_440 (m : MethodId) (x0 : Addr) (x2 : Int32) (x3 : Int32) (x4 : Int32) : entryFrame m #[(.ref x0), (.int (2 : Int32)), (.int x2), (.int x3), (.int x4)] 5 = mkF m 0 #[.val (.ref x0), .val (.int (2 : Int32)), .val (.int x2), .val (.int x3), .val (.int x4)] [] := by first | (simp [entryFrame, mkF, argsToLocals, Value.category]; done) | rfl
set_option maxRecDepth 65536 in
set_option maxHeartbeats 40000000 in
theorem rm3_440 (l : Launch) (Z : State) (a0 : Array Value) (hw : ∀ d ∈ tables_1, d.before a0 Z = true) (ws : List Jvm.Cond) (a1 : Addr) (p2 : Int32) (p3 : Int32) (p4 : Int32) (k5 : ClassId) (h0 : Heap) (n0 : Nat) (Z0 : n0 ≤ h0.size) (F0_0 : Arv Z h0 a1 k5 .int (2 : Int32) [(.int p2), (.int p3)] (.int (0 : Int32))) :
    MetFree l (⟨"com/example/kallimachos/kallimachos/subsets/CombinationsNextPinLaw", "same", "([IIIII)Z"⟩ : MethodName) (head1 (Jvm.Cond.code (⟨"com/example/kallimachos/kallimachos/subsets/CombinationsNextPinLaw", "same", "([IIIII)Z"⟩ : MethodName) method_4_code 5 (some .boolean) :: ws) R3_440) (fun a U => a = #[(.ref a1), (.int (2 : Int32)), (.int p2), (.int p3), (.int p4)] ∧ Z.Warmed39 U.vm ∧ U.heap = h0) (fun _ _ _ _ _ => True) (fun _ U o U' => ∃ v L, o = .returned v ∧ Q3_440 Z a1 p2 p3 p4 k5 h0 n0 v U'.heap L ∧ FrameEnd U o U' L R3_440.cells R3_440.slots) := by
 refine MetFree.of_bodySF (plainFor_of_name pn_0) hisR ?_
 intro p e s m args below meth c s₁ Bd hml0 hP hK
 obtain ⟨rfl, hZ, hh⟩ := hP
 have hx := Bd.exec
 have hby := Bd.bytes
 have hml : c.maxLocals = 5 := hml0
 have hlk : meth.locks = false := Bd.notSynchronized
 have hown : s.vm.findClass "com/example/kallimachos/kallimachos/subsets/CombinationsNextPinLaw" = some m.cls := findClass_of_methodNamed Bd.named
 have hnm := (name_of_methodNamed Bd.named Bd.method).1
 have X0 : Stand p l e R3_440 s m #[(.ref a1), (.int (2 : Int32)), (.int p2), (.int p3), (.int p4)] below meth c s₁ [] 0 0 := Stand.of_body Bd
 have e0 : s₁.heap = h0 := by rw [← hh, Bd.state]; rfl
 have N0 := Fr.nil n0
 rw [ef3_440 m a1 p2 p3 p4]
 show KEnds p e below s R3_440.cells R3_440.slots (Q3_440 Z a1 p2 p3 p4 k5 h0 n0) s₁ (mkF m 0 #[.val (.ref a1), .val (.int (2 : Int32)), .val (.int p2), .val (.int p3), .val (.int p4)] [])
 refine k_aloadN X0 hx (hb hby d3_0) rfl rfl (pc' := 1) rfl ?_
 refine k_alen X0 hx hZ e0 F0_0 (hb hby d3_1) (pc' := 2) rfl ?_
 refine k_iloadN X0 hx (hb hby d3_2) rfl (pc' := 3) rfl ?_
 refine k_icmp_ne X0 hx (hb hby d3_3) (pn := 6) rfl (py := 47) (by decide) (fun hc => absurd (by decide) hc) (fun _ => ?_)
 refine k_iloadN X0 hx (hb hby d3_6) rfl (pc' := 7) rfl ?_
 refine k_iconst X0 hx (hb hby d3_7) (pc' := 8) rfl (z := (1 : Int32)) rfl ?_
 refine k_icmp_lt X0 hx (hb hby d3_8) (pn := 11) rfl (py := 18) (by decide) (fun hc => absurd hc (by decide)) (fun _ => ?_)
 refine k_aloadN X0 hx (hb hby d3_11) rfl rfl (pc' := 12) rfl ?_
 refine k_iconst X0 hx (hb hby d3_12) (pc' := 13) rfl (z := (0 : Int32)) rfl ?_
 refine k_iaload X0 hx hZ e0 F0_0 ⟨by decide, by decide⟩ (v := (.int p2)) rfl (hb hby d3_13) (pc' := 14) rfl ?_
 refine k_iloadN X0 hx (hb hby d3_14) rfl (pc' := 15) rfl ?_
 refine k_icmp_ne X0 hx (hb hby d3_15) (pn := 18) rfl (py := 47) (by decide) (fun hc => absurd rfl hc) (fun _ => ?_)
 refine k_iloadN X0 hx (hb hby d3_18) rfl (pc' := 19) rfl ?_
 refine k_iconst X0 hx (hb hby d3_19) (pc' := 20) rfl (z := (2 : Int32)) rfl ?_
 refine k_icmp_lt X0 hx (hb hby d3_20) (pn := 23) rfl (py := 30) (by decide) (fun hc => absurd hc (by decide)) (fun _ => ?_)
 refine k_aloadN X0 hx (hb hby d3_23) rfl rfl (pc' := 24) rfl ?_
 refine k_iconst X0 hx (hb hby d3_24) (pc' := 25) rfl (z := (1 : Int32)) rfl ?_
 refine k_iaload X0 hx hZ e0 F0_0 ⟨by decide, by decide⟩ (v := (.int p3)) rfl (hb hby d3_25) (pc' := 26) rfl ?_
 refine k_iloadN X0 hx (hb hby d3_26) rfl (pc' := 27) rfl ?_
 refine k_icmp_ne X0 hx (hb hby d3_27) (pn := 30) rfl (py := 47) (by decide) (fun hc => absurd rfl hc) (fun _ => ?_)
 refine k_iloadN X0 hx (hb hby d3_30) rfl (pc' := 31) rfl ?_
 refine k_iconst X0 hx (hb hby d3_31) (pc' := 32) rfl (z := (3 : Int32)) rfl ?_
 refine k_icmp_lt X0 hx (hb hby d3_32) (pn := 35) rfl (py := 43) (by decide) (fun _ => ?_) (fun hc => absurd (by decide) hc)
 refine k_iconst X0 hx (hb hby d3_43) (pc' := 44) rfl (z := (1 : Int32)) rfl ?_
 refine k_goto X0 hx (hb hby d3_44) (pc' := 48) (by decide) ?_
 exact k_retN X0 hx (t := .boolean) Bd.returns (by simp) (hb hby d3_48) hlk (by decide) (by decide) (z' := (1 : Int32)) rfl ⟨N0, e0, rfl⟩
theorem d1_38 : decode method_3_code 38 = .ok (.iconst 3, 1) := by decide +kernel
theorem d1_39 : decode method_3_code 39 = .ok (.newarray .int, 2) := by decide +kernel
theorem d1_41 : decode method_3_code 41 = .ok (.dup, 1) := by decide +kernel
theorem d1_42 : decode method_3_code 42 = .ok (.iconst 0, 1) := by decide +kernel
theorem d1_43 : decode method_3_code 43 = .ok (.iload_n 1, 1) := by decide +kernel
theorem d1_44 : decode method_3_code 44 = .ok (.iastore, 1) := by decide +kernel
theorem d1_45 : decode method_3_code 45 = .ok (.dup, 1) := by decide +kernel
theorem d1_46 : decode method_3_code 46 = .ok (.iconst 1, 1) := by decide +kernel
theorem d1_47 : decode method_3_code 47 = .ok (.iload_n 2, 1) := by decide +kernel
theorem d1_48 : decode method_3_code 48 = .ok (.iastore, 1) := by decide +kernel
theorem d1_49 : decode method_3_code 49 = .ok (.dup, 1) := by decide +kernel
theorem d1_50 : decode method_3_code 50 = .ok (.iconst 2, 1) := by decide +kernel
theorem d1_51 : decode method_3_code 51 = .ok (.iload_n 3, 1) := by decide +kernel
theorem d1_52 : decode method_3_code 52 = .ok (.iastore, 1) := by decide +kernel
theorem d1_53 : decode method_3_code 53 = .ok (.areturn, 1) := by decide +kernel
abbrev R1_607 : Room := { frames := 0, cells := 1, slots := 3, locals := 0 }
def Q1_607 (Z : State) (p1 : Int32) (p2 : Int32) (p3 : Int32) (a4 : Addr) (k5 : ClassId) (p6 : Int32) (p7 : Int32) (p8 : Int32) (h0 : Heap) (n0 : Nat) (v : Option Value) (h : Heap) (L : List Loc) : Prop := Fr n0 L ∧ ((∃ (b608 : Addr) (k608 : ClassId), v = some (.ref b608) ∧ Arv Z h a4 k5 .int (4 : Int32) [(.int p1), (.int p6), (.int p7), (.int p8)] (.int (0 : Int32)) ∧ Arv Z h b608 k608 .int (3 : Int32) [(.int p1), (.int p2), (.int p3)] (.int (0 : Int32)) ∧ n0 ≤ b608 ∧ a4 < b608 ∧ n0 ≤ h.size))
theorem ef1_607 (m : MethodId) (x1 : Int32) (x2 : Int32) (x3 : Int32) : entryFrame m #[(.int (3 : Int32)), (.int x1), (.int x2), (.int x3)] 4 = mkF m 0 #[.val (.int (3 : Int32)), .val (.int x1), .val (.int x2), .val (.int x3)] [] := by first | (simp [entryFrame, mkF, argsToLocals, Value.category]; done) | rfl
set_option maxRecDepth 65536 in
set_option maxHeartbeats 40000000 in
theorem rm1_607 (l : Launch) (Z : State) (a0 : Array Value) (hw : ∀ d ∈ tables_1, d.before a0 Z = true) (ws : List Jvm.Cond) (p1 : Int32) (p2 : Int32) (p3 : Int32) (a4 : Addr) (k5 : ClassId) (p6 : Int32) (p7 : Int32) (p8 : Int32) (h0 : Heap) (n0 : Nat) (Z0 : n0 ≤ h0.size) (F0_0 : Arv Z h0 a4 k5 .int (4 : Int32) [(.int p1), (.int p6), (.int p7), (.int p8)] (.int (0 : Int32))) (g_a4 : n0 ≤ a4) :
    MetFree l (⟨"com/example/kallimachos/kallimachos/subsets/CombinationsNextPinLaw", "make", "(IIII)[I"⟩ : MethodName) (head1 (Jvm.Cond.code (⟨"com/example/kallimachos/kallimachos/subsets/CombinationsNextPinLaw", "make", "(IIII)[I"⟩ : MethodName) method_3_code 4 (some (.array .int)) :: ws) R1_607) (fun a U => a = #[(.int (3 : Int32)), (.int p1), (.int p2), (.int p3)] ∧ Z.Warmed39 U.vm ∧ U.heap = h0) (fun _ _ _ _ _ => True) (fun _ U o U' => ∃ v L, o = .returned v ∧ Q1_607 Z p1 p2 p3 a4 k5 p6 p7 p8 h0 n0 v U'.heap L ∧ FrameEnd U o U' L R1_607.cells R1_607.slots) := by
 refine MetFree.of_bodySF (plainFor_of_name pn_0) hisR ?_
 intro p e s m args below meth c s₁ Bd hml0 hP hK
 obtain ⟨rfl, hZ, hh⟩ := hP
 have hx := Bd.exec
 have hby := Bd.bytes
 have hml : c.maxLocals = 4 := hml0
 have hlk : meth.locks = false := Bd.notSynchronized
 have hown : s.vm.findClass "com/example/kallimachos/kallimachos/subsets/CombinationsNextPinLaw" = some m.cls := findClass_of_methodNamed Bd.named
 have hnm := (name_of_methodNamed Bd.named Bd.method).1
 have X0 : Stand p l e R1_607 s m #[(.int (3 : Int32)), (.int p1), (.int p2), (.int p3)] below meth c s₁ [] 0 0 := Stand.of_body Bd
 have e0 : s₁.heap = h0 := by rw [← hh, Bd.state]; rfl
 have N0 := Fr.nil n0
 rw [ef1_607 m p1 p2 p3]
 show KEnds p e below s R1_607.cells R1_607.slots (Q1_607 Z p1 p2 p3 a4 k5 p6 p7 p8 h0 n0) s₁ (mkF m 0 #[.val (.int (3 : Int32)), .val (.int p1), .val (.int p2), .val (.int p3)] [])
 refine k_iloadN X0 hx (hb hby d1_0) rfl (pc' := 1) rfl ?_
 refine k_if_ne X0 hx (hb hby d1_1) (pn := 4) rfl (py := 8) (by decide) (fun _ => ?_) (fun hc => absurd hc (by decide))
 refine k_iloadN X0 hx (hb hby d1_8) rfl (pc' := 9) rfl ?_
 refine k_iconst X0 hx (hb hby d1_9) (pc' := 10) rfl (z := (1 : Int32)) rfl ?_
 refine k_icmp_ne X0 hx (hb hby d1_10) (pn := 13) rfl (py := 21) (by decide) (fun _ => ?_) (fun hc => absurd hc (by decide))
 refine k_iloadN X0 hx (hb hby d1_21) rfl (pc' := 22) rfl ?_
 refine k_iconst X0 hx (hb hby d1_22) (pc' := 23) rfl (z := (2 : Int32)) rfl ?_
 refine k_icmp_ne X0 hx (hb hby d1_23) (pn := 26) rfl (py := 38) (by decide) (fun _ => ?_) (fun hc => absurd hc (by decide))
 refine k_iconst X0 hx (hb hby d1_38) (pc' := 39) rfl (z := (3 : Int32)) rfl ?_
 refine k_newA X0 hx hZ (hw _ (List.mem_of_getElem? (i := 0) rfl)) e0 (hb hby d1_39) (by decide) (cap := 3) (by decide) (by decide) (by decide) (by decide) (pc' := 41) rfl (fun T608 h608 b608 k608 g608 X608 e608 E608 V608 => ?_)
 have g_b608 : n0 ≤ b608 := Nat.le_trans Z0 (Nat.le_of_eq g608.symm)
 have lt_b608 : a4 < b608 := Nat.lt_of_lt_of_le F0_0.lt (Nat.le_of_eq g608.symm)
 have Z608 : n0 ≤ h608.size := Nat.le_trans Z0 E608.1
 have Vw608 : Arv Z h608 b608 k608 .int (3 : Int32) [(.int (0 : Int32)), (.int (0 : Int32)), (.int (0 : Int32))] (.int (0 : Int32)) := V608
 refine k_dup X608 hx (hb hby d1_41) rfl (pc' := 42) rfl ?_
 refine k_iconst X608 hx (hb hby d1_42) (pc' := 43) rfl (z := (0 : Int32)) rfl ?_
 refine k_iloadN X608 hx (hb hby d1_43) rfl (pc' := 44) rfl ?_
 refine k_iastore X608 hx hZ e608 Vw608 ⟨by decide, by decide⟩ (i := 0) rfl (Nat.le_of_ble_eq_true rfl) (hb hby d1_44) (pc' := 45) rfl (fun T609 h609 X609 e609 W609 V609 => ?_)
 have Vw609 : Arv Z h609 b608 k608 .int (3 : Int32) [(.int p1), (.int (0 : Int32)), (.int (0 : Int32))] (.int (0 : Int32)) := V609
 have N609 := Fr.snoc X609 N0 g_b608
 have Z609 : n0 ≤ h609.size := Nat.le_trans Z608 (Nat.le_of_eq W609.size.symm)
 refine k_dup X609 hx (hb hby d1_45) rfl (pc' := 46) rfl ?_
 refine k_iconst X609 hx (hb hby d1_46) (pc' := 47) rfl (z := (1 : Int32)) rfl ?_
 refine k_iloadN X609 hx (hb hby d1_47) rfl (pc' := 48) rfl ?_
 refine k_iastore X609 hx hZ e609 Vw609 ⟨by decide, by decide⟩ (i := 1) rfl (Nat.le_of_ble_eq_true rfl) (hb hby d1_48) (pc' := 49) rfl (fun T610 h610 X610 e610 W610 V610 => ?_)
 have Vw610 : Arv Z h610 b608 k608 .int (3 : Int32) [(.int p1), (.int p2), (.int (0 : Int32))] (.int (0 : Int32)) := V610
 have N610 := Fr.snoc X610 N609 g_b608
 have Z610 : n0 ≤ h610.size := Nat.le_trans Z609 (Nat.le_of_eq W610.size.symm)
 refine k_dup X610 hx (hb hby d1_49) rfl (pc' := 50) rfl ?_
 refine k_iconst X610 hx (hb hby d1_50) (pc' := 51) rfl (z := (2 : Int32)) rfl ?_
 refine k_iloadN X610 hx (hb hby d1_51) rfl (pc' := 52) rfl ?_
 refine k_iastore X610 hx hZ e610 Vw610 ⟨by decide, by decide⟩ (i := 2) rfl (Nat.le_of_ble_eq_true rfl) (hb hby d1_52) (pc' := 53) rfl (fun T611 h611 X611 e611 W611 V611 => ?_)
 have Vw611 : Arv Z h611 b608 k608 .int (3 : Int32) [(.int p1), (.int p2), (.int p3)] (.int (0 : Int32)) := V611
 have N611 := Fr.snoc X611 N610 g_b608
 have Z611 : n0 ≤ h611.size := Nat.le_trans Z610 (Nat.le_of_eq W611.size.symm)
 have F612 := ((((F0_0.ext E608).other W609 (Nat.ne_of_lt lt_b608)).other W610 (Nat.ne_of_lt lt_b608)).other W611 (Nat.ne_of_lt lt_b608))
 exact k_retA X611 hx Bd.returns rfl rfl (hb hby d1_53) hlk (by decide) (by decide) (by rw [e611]; exact ⟨N611, ⟨b608, k608, rfl, F612, Vw611, g_b608, lt_b608, Z611⟩⟩)
abbrev R2_620 : Room := { frames := 0, cells := 0, slots := 0, locals := 0 }
def Q2_620 (Z : State) (a1 : Addr) (p2 : Int32) (a3 : Addr) (k4 : ClassId) (p5 : Int32) (p6 : Int32) (p7 : Int32) (p8 : Int32) (k9 : ClassId) (p10 : Int32) (p11 : Int32) (h0 : Heap) (n0 : Nat) (v : Option Value) (h : Heap) (L : List Loc) : Prop := Fr n0 L ∧ ((∃ (v621 : Int32) (v622 : Int32) (v624 : Int32), v621 = p2 - (3 : Int32) ∧ v622 = v621 + (2 : Int32) ∧ v624 = p11 + (1 : Int32) ∧ ¬ p11 = v622 ∧ v = some (.int (1 : Int32)) ∧ Arv Z h a3 k4 .int (4 : Int32) [(.int p5), (.int p6), (.int p7), (.int p8)] (.int (0 : Int32)) ∧ Arv Z h a1 k9 .int (3 : Int32) [(.int p5), (.int p10), (.int v624)] (.int (0 : Int32)) ∧ n0 ≤ h.size) ∨ (∃ (v621 : Int32) (v622 : Int32) (v626 : Int32) (v628 : Int32) (v630 : Int32), v621 = p2 - (3 : Int32) ∧ v622 = v621 + (2 : Int32) ∧ v626 = v621 + (1 : Int32) ∧ v628 = p10 + (1 : Int32) ∧ v630 = v628 + (1 : Int32) ∧ p11 = v622 ∧ ¬ p10 = v626 ∧ v = some (.int (1 : Int32)) ∧ Arv Z h a3 k4 .int (4 : Int32) [(.int p5), (.int p6), (.int p7), (.int p8)] (.int (0 : Int32)) ∧ Arv Z h a1 k9 .int (3 : Int32) [(.int p5), (.int v628), (.int v630)] (.int (0 : Int32)) ∧ n0 ≤ h.size) ∨ (∃ (v621 : Int32) (v622 : Int32) (v626 : Int32) (v633 : Int32) (v635 : Int32) (v637 : Int32), v621 = p2 - (3 : Int32) ∧ v622 = v621 + (2 : Int32) ∧ v626 = v621 + (1 : Int32) ∧ v633 = p5 + (1 : Int32) ∧ v635 = v633 + (1 : Int32) ∧ v637 = v635 + (1 : Int32) ∧ p11 = v622 ∧ p10 = v626 ∧ ¬ p5 = v621 ∧ v = some (.int (1 : Int32)) ∧ Arv Z h a3 k4 .int (4 : Int32) [(.int p5), (.int p6), (.int p7), (.int p8)] (.int (0 : Int32)) ∧ Arv Z h a1 k9 .int (3 : Int32) [(.int v633), (.int v635), (.int v637)] (.int (0 : Int32)) ∧ n0 ≤ h.size) ∨ (∃ (v621 : Int32) (v622 : Int32) (v626 : Int32), v621 = p2 - (3 : Int32) ∧ v622 = v621 + (2 : Int32) ∧ v626 = v621 + (1 : Int32) ∧ p11 = v622 ∧ p10 = v626 ∧ p5 = v621 ∧ v = some (.int (0 : Int32)) ∧ Arv Z h a3 k4 .int (4 : Int32) [(.int p5), (.int p6), (.int p7), (.int p8)] (.int (0 : Int32)) ∧ Arv Z h a1 k9 .int (3 : Int32) [(.int p5), (.int p10), (.int p11)] (.int (0 : Int32)) ∧ n0 ≤ h.size))
theorem ef2_620 (m : MethodId) (x0 : Addr) (x1 : Int32) : entryFrame m #[(.ref x0), (.int x1)] 4 = mkF m 0 #[.val (.ref x0), .val (.int x1), .unset, .unset] [] := by first | (simp [entryFrame, mkF, argsToLocals, Value.category]; done) | rfl
set_option maxRecDepth 65536 in
set_option maxHeartbeats 40000000 in
theorem rm2_620 (l : Launch) (Z : State) (a0 : Array Value) (hw : ∀ d ∈ tables_1, d.before a0 Z = true) (ws : List Jvm.Cond) (a1 : Addr) (p2 : Int32) (a3 : Addr) (k4 : ClassId) (p5 : Int32) (p6 : Int32) (p7 : Int32) (p8 : Int32) (k9 : ClassId) (p10 : Int32) (p11 : Int32) (h0 : Heap) (n0 : Nat) (Z0 : n0 ≤ h0.size) (F0_0 : Arv Z h0 a3 k4 .int (4 : Int32) [(.int p5), (.int p6), (.int p7), (.int p8)] (.int (0 : Int32))) (g_a3 : n0 ≤ a3) (F0_2 : Arv Z h0 a1 k9 .int (3 : Int32) [(.int p5), (.int p10), (.int p11)] (.int (0 : Int32))) (g_a1 : n0 ≤ a1) (lt0_0 : a3 < a1) :
    MetFree l (⟨"com/example/kallimachos/kallimachos/subsets/Combinations", "next", "([II)Z"⟩ : MethodName) (head1 (Jvm.Cond.code (⟨"com/example/kallimachos/kallimachos/subsets/Combinations", "next", "([II)Z"⟩ : MethodName) prog_31_method_3_code 4 (some .boolean) :: ws) R2_620) (fun a U => a = #[(.ref a1), (.int p2)] ∧ Z.Warmed39 U.vm ∧ U.heap = h0) (fun _ _ _ _ _ => True) (fun _ U o U' => ∃ v L, o = .returned v ∧ Q2_620 Z a1 p2 a3 k4 p5 p6 p7 p8 k9 p10 p11 h0 n0 v U'.heap L ∧ FrameEnd U o U' L R2_620.cells R2_620.slots) := by
 refine MetFree.of_bodySF (plainFor_of_name pn_1) hisR ?_
 intro p e s m args below meth c s₁ Bd hml0 hP hK
 obtain ⟨rfl, hZ, hh⟩ := hP
 have hx := Bd.exec
 have hby := Bd.bytes
 have hml : c.maxLocals = 4 := hml0
 have hlk : meth.locks = false := Bd.notSynchronized
 have hown : s.vm.findClass "com/example/kallimachos/kallimachos/subsets/Combinations" = some m.cls := findClass_of_methodNamed Bd.named
 have hnm := (name_of_methodNamed Bd.named Bd.method).1
 have X0 : Stand p l e R2_620 s m #[(.ref a1), (.int p2)] below meth c s₁ [] 0 0 := Stand.of_body Bd
 have e0 : s₁.heap = h0 := by rw [← hh, Bd.state]; rfl
 have N0 := Fr.nil n0
 rw [ef2_620 m a1 p2]
 show KEnds p e below s R2_620.cells R2_620.slots (Q2_620 Z a1 p2 a3 k4 p5 p6 p7 p8 k9 p10 p11 h0 n0) s₁ (mkF m 0 #[.val (.ref a1), .val (.int p2), .unset, .unset] [])
 refine k_aloadN X0 hx (hb hby d2_0) rfl rfl (pc' := 1) rfl ?_
 refine k_alen X0 hx hZ e0 F0_2 (hb hby d2_1) (pc' := 2) rfl ?_
 refine k_iconst X0 hx (hb hby d2_2) (pc' := 3) rfl (z := (1 : Int32)) rfl ?_
 refine k_isubL X0 hx (hb hby d2_3) (pc' := 4) rfl (z := (2 : Int32)) (by decide) ?_
 refine k_istoreN X0 hx (hb hby d2_4) (Ls' := #[.val (.ref a1), .val (.int p2), .val (.int (2 : Int32)), .unset]) rfl (pc' := 5) rfl ?_
 refine k_iloadN X0 hx (hb hby d2_5) rfl (pc' := 6) rfl ?_
 refine k_if_lt X0 hx (hb hby d2_6) (pn := 9) rfl (py := 27) (by decide) (fun hc => absurd hc (by decide)) (fun _ => ?_)
 refine k_aloadN X0 hx (hb hby d2_9) rfl rfl (pc' := 10) rfl ?_
 refine k_iloadN X0 hx (hb hby d2_10) rfl (pc' := 11) rfl ?_
 refine k_iaload X0 hx hZ e0 F0_2 ⟨by decide, by decide⟩ (v := (.int p11)) rfl (hb hby d2_11) (pc' := 12) rfl ?_
 refine k_iloadN X0 hx (hb hby d2_12) rfl (pc' := 13) rfl ?_
 refine k_aloadN X0 hx (hb hby d2_13) rfl rfl (pc' := 14) rfl ?_
 refine k_alen X0 hx hZ e0 F0_2 (hb hby d2_14) (pc' := 15) rfl ?_
 refine k_isub X0 hx (hb hby d2_15) (pc' := 16) rfl (fun v621 hv621 => ?_)
 refine k_iloadN X0 hx (hb hby d2_16) rfl (pc' := 17) rfl ?_
 refine k_iadd X0 hx (hb hby d2_17) (pc' := 18) rfl (fun v622 hv622 => ?_)
 refine k_icmp_ne X0 hx (hb hby d2_18) (pn := 21) rfl (py := 27) (by decide) (fun hc623 => ?_) (fun hc623 => ?_)
 ·
  refine k_iloadN X0 hx (hb hby d2_27) rfl (pc' := 28) rfl ?_
  refine k_if_ge X0 hx (hb hby d2_28) (pn := 31) rfl (py := 33) (by decide) (fun _ => ?_) (fun hc => absurd hc (by decide))
  refine k_aloadN X0 hx (hb hby d2_33) rfl rfl (pc' := 34) rfl ?_
  refine k_iloadN X0 hx (hb hby d2_34) rfl (pc' := 35) rfl ?_
  refine k_dup2 X0 hx (hb hby d2_35) rfl rfl (pc' := 36) rfl ?_
  refine k_iaload X0 hx hZ e0 F0_2 ⟨by decide, by decide⟩ (v := (.int p11)) rfl (hb hby d2_36) (pc' := 37) rfl ?_
  refine k_iconst X0 hx (hb hby d2_37) (pc' := 38) rfl (z := (1 : Int32)) rfl ?_
  refine k_iadd X0 hx (hb hby d2_38) (pc' := 39) rfl (fun v624 hv624 => ?_)
  refine k_iastore X0 hx hZ e0 F0_2 ⟨by decide, by decide⟩ (i := 2) rfl (Nat.le_of_ble_eq_true rfl) (hb hby d2_39) (pc' := 40) rfl (fun T625 h625 X625 e625 W625 V625 => ?_)
  have Vw625 : Arv Z h625 a1 k9 .int (3 : Int32) [(.int p5), (.int p10), (.int v624)] (.int (0 : Int32)) := V625
  have N625 := Fr.snoc X625 N0 g_a1
  have Z625 : n0 ≤ h625.size := Nat.le_trans Z0 (Nat.le_of_eq W625.size.symm)
  refine k_iloadN X625 hx (hb hby d2_40) rfl (pc' := 41) rfl ?_
  refine k_iconst X625 hx (hb hby d2_41) (pc' := 42) rfl (z := (1 : Int32)) rfl ?_
  refine k_iaddL X625 hx (hb hby d2_42) (pc' := 43) rfl (z := (3 : Int32)) (by decide) ?_
  refine k_istoreN X625 hx (hb hby d2_43) (Ls' := #[.val (.ref a1), .val (.int p2), .val (.int (2 : Int32)), .val (.int (3 : Int32))]) rfl (pc' := 44) rfl ?_
  refine k_iloadN X625 hx (hb hby d2_44) rfl (pc' := 45) rfl ?_
  refine k_aloadN X625 hx (hb hby d2_45) rfl rfl (pc' := 46) rfl ?_
  refine k_alen X625 hx hZ e625 Vw625 (hb hby d2_46) (pc' := 47) rfl ?_
  refine k_icmp_ge X625 hx (hb hby d2_47) (pn := 50) rfl (py := 66) (by decide) (fun _ => ?_) (fun hc => absurd hc (by decide))
  refine k_iconst X625 hx (hb hby d2_66) (pc' := 67) rfl (z := (1 : Int32)) rfl ?_
  have F639 := (F0_0.other W625 (Nat.ne_of_lt lt0_0))
  exact k_retN X625 hx (t := .boolean) Bd.returns (by simp) (hb hby d2_67) hlk (by decide) (by decide) (z' := (1 : Int32)) rfl (by rw [e625]; exact ⟨N625, (Or.inl ⟨v621, v622, v624, hv621, hv622, hv624, hc623, rfl, F639, Vw625, Z625⟩)⟩)
 ·
  refine k_iinc X0 hx (hb hby d2_21) rfl (pc' := 24) rfl (z := (1 : Int32)) (by decide) (Ls' := #[.val (.ref a1), .val (.int p2), .val (.int (1 : Int32)), .unset]) rfl ?_
  refine k_goto X0 hx (hb hby d2_24) (pc' := 5) (by decide) ?_
  refine k_iloadN X0 hx (hb hby d2_5) rfl (pc' := 6) rfl ?_
  refine k_if_lt X0 hx (hb hby d2_6) (pn := 9) rfl (py := 27) (by decide) (fun hc => absurd hc (by decide)) (fun _ => ?_)
  refine k_aloadN X0 hx (hb hby d2_9) rfl rfl (pc' := 10) rfl ?_
  refine k_iloadN X0 hx (hb hby d2_10) rfl (pc' := 11) rfl ?_
  refine k_iaload X0 hx hZ e0 F0_2 ⟨by decide, by decide⟩ (v := (.int p10)) rfl (hb hby d2_11) (pc' := 12) rfl ?_
  refine k_iloadN X0 hx (hb hby d2_12) rfl (pc' := 13) rfl ?_
  refine k_aloadN X0 hx (hb hby d2_13) rfl rfl (pc' := 14) rfl ?_
  refine k_alen X0 hx hZ e0 F0_2 (hb hby d2_14) (pc' := 15) rfl ?_
  refine k_isubL X0 hx (hb hby d2_15) (pc' := 16) rfl (z := v621) hv621.symm ?_
  refine k_iloadN X0 hx (hb hby d2_16) rfl (pc' := 17) rfl ?_
  refine k_iadd X0 hx (hb hby d2_17) (pc' := 18) rfl (fun v626 hv626 => ?_)
  refine k_icmp_ne X0 hx (hb hby d2_18) (pn := 21) rfl (py := 27) (by decide) (fun hc627 => ?_) (fun hc627 => ?_)
  ·
   refine k_iloadN X0 hx (hb hby d2_27) rfl (pc' := 28) rfl ?_
   refine k_if_ge X0 hx (hb hby d2_28) (pn := 31) rfl (py := 33) (by decide) (fun _ => ?_) (fun hc => absurd hc (by decide))
   refine k_aloadN X0 hx (hb hby d2_33) rfl rfl (pc' := 34) rfl ?_
   refine k_iloadN X0 hx (hb hby d2_34) rfl (pc' := 35) rfl ?_
   refine k_dup2 X0 hx (hb hby d2_35) rfl rfl (pc' := 36) rfl ?_
   refine k_iaload X0 hx hZ e0 F0_2 ⟨by decide, by decide⟩ (v := (.int p10)) rfl (hb hby d2_36) (pc' := 37) rfl ?_
   refine k_iconst X0 hx (hb hby d2_37) (pc' := 38) rfl (z := (1 : Int32)) rfl ?_
   refine k_iadd X0 hx (hb hby d2_38) (pc' := 39) rfl (fun v628 hv628 => ?_)
   refine k_iastore X0 hx hZ e0 F0_2 ⟨by decide, by decide⟩ (i := 1) rfl (Nat.le_of_ble_eq_true rfl) (hb hby d2_39) (pc' := 40) rfl (fun T629 h629 X629 e629 W629 V629 => ?_)
   have Vw629 : Arv Z h629 a1 k9 .int (3 : Int32) [(.int p5), (.int v628), (.int p11)] (.int (0 : Int32)) := V629
   have N629 := Fr.snoc X629 N0 g_a1
   have Z629 : n0 ≤ h629.size := Nat.le_trans Z0 (Nat.le_of_eq W629.size.symm)
   refine k_iloadN X629 hx (hb hby d2_40) rfl (pc' := 41) rfl ?_
   refine k_iconst X629 hx (hb hby d2_41) (pc' := 42) rfl (z := (1 : Int32)) rfl ?_
   refine k_iaddL X629 hx (hb hby d2_42) (pc' := 43) rfl (z := (2 : Int32)) (by decide) ?_
   refine k_istoreN X629 hx (hb hby d2_43) (Ls' := #[.val (.ref a1), .val (.int p2), .val (.int (1 : Int32)), .val (.int (2 : Int32))]) rfl (pc' := 44) rfl ?_
   refine k_iloadN X629 hx (hb hby d2_44) rfl (pc' := 45) rfl ?_
   refine k_aloadN X629 hx (hb hby d2_45) rfl rfl (pc' := 46) rfl ?_
   refine k_alen X629 hx hZ e629 Vw629 (hb hby d2_46) (pc' := 47) rfl ?_
   refine k_icmp_ge X629 hx (hb hby d2_47) (pn := 50) rfl (py := 66) (by decide) (fun hc => absurd (by decide) hc) (fun _ => ?_)
   refine k_aloadN X629 hx (hb hby d2_50) rfl rfl (pc' := 51) rfl ?_
   refine k_iloadN X629 hx (hb hby d2_51) rfl (pc' := 52) rfl ?_
   refine k_aloadN X629 hx (hb hby d2_52) rfl rfl (pc' := 53) rfl ?_
   refine k_iloadN X629 hx (hb hby d2_53) rfl (pc' := 54) rfl ?_
   refine k_iconst X629 hx (hb hby d2_54) (pc' := 55) rfl (z := (1 : Int32)) rfl ?_
   refine k_isubL X629 hx (hb hby d2_55) (pc' := 56) rfl (z := (1 : Int32)) (by decide) ?_
   refine k_iaload X629 hx hZ e629 Vw629 ⟨by decide, by decide⟩ (v := (.int v628)) rfl (hb hby d2_56) (pc' := 57) rfl ?_
   refine k_iconst X629 hx (hb hby d2_57) (pc' := 58) rfl (z := (1 : Int32)) rfl ?_
   refine k_iadd X629 hx (hb hby d2_58) (pc' := 59) rfl (fun v630 hv630 => ?_)
   refine k_iastore X629 hx hZ e629 Vw629 ⟨by decide, by decide⟩ (i := 2) rfl (Nat.le_of_ble_eq_true rfl) (hb hby d2_59) (pc' := 60) rfl (fun T631 h631 X631 e631 W631 V631 => ?_)
   have Vw631 : Arv Z h631 a1 k9 .int (3 : Int32) [(.int p5), (.int v628), (.int v630)] (.int (0 : Int32)) := V631
   have N631 := Fr.snoc X631 N629 g_a1
   have Z631 : n0 ≤ h631.size := Nat.le_trans Z629 (Nat.le_of_eq W631.size.symm)
   refine k_iinc X631 hx (hb hby d2_60) rfl (pc' := 63) rfl (z := (3 : Int32)) (by decide) (Ls' := #[.val (.ref a1), .val (.int p2), .val (.int (1 : Int32)), .val (.int (3 : Int32))]) rfl ?_
   refine k_goto X631 hx (hb hby d2_63) (pc' := 44) (by decide) ?_
   refine k_iloadN X631 hx (hb hby d2_44) rfl (pc' := 45) rfl ?_
   refine k_aloadN X631 hx (hb hby d2_45) rfl rfl (pc' := 46) rfl ?_
   refine k_alen X631 hx hZ e631 Vw631 (hb hby d2_46) (pc' := 47) rfl ?_
   refine k_icmp_ge X631 hx (hb hby d2_47) (pn := 50) rfl (py := 66) (by decide) (fun _ => ?_) (fun hc => absurd hc (by decide))
   refine k_iconst X631 hx (hb hby d2_66) (pc' := 67) rfl (z := (1 : Int32)) rfl ?_
   have F640 := ((F0_0.other W629 (Nat.ne_of_lt lt0_0)).other W631 (Nat.ne_of_lt lt0_0))
   exact k_retN X631 hx (t := .boolean) Bd.returns (by simp) (hb hby d2_67) hlk (by decide) (by decide) (z' := (1 : Int32)) rfl (by rw [e631]; exact ⟨N631, (Or.inr (Or.inl ⟨v621, v622, v626, v628, v630, hv621, hv622, hv626, hv628, hv630, hc623, hc627, rfl, F640, Vw631, Z631⟩))⟩)
  ·
   refine k_iinc X0 hx (hb hby d2_21) rfl (pc' := 24) rfl (z := (0 : Int32)) (by decide) (Ls' := #[.val (.ref a1), .val (.int p2), .val (.int (0 : Int32)), .unset]) rfl ?_
   refine k_goto X0 hx (hb hby d2_24) (pc' := 5) (by decide) ?_
   refine k_iloadN X0 hx (hb hby d2_5) rfl (pc' := 6) rfl ?_
   refine k_if_lt X0 hx (hb hby d2_6) (pn := 9) rfl (py := 27) (by decide) (fun hc => absurd hc (by decide)) (fun _ => ?_)
   refine k_aloadN X0 hx (hb hby d2_9) rfl rfl (pc' := 10) rfl ?_
   refine k_iloadN X0 hx (hb hby d2_10) rfl (pc' := 11) rfl ?_
   refine k_iaload X0 hx hZ e0 F0_2 ⟨by decide, by decide⟩ (v := (.int p5)) rfl (hb hby d2_11) (pc' := 12) rfl ?_
   refine k_iloadN X0 hx (hb hby d2_12) rfl (pc' := 13) rfl ?_
   refine k_aloadN X0 hx (hb hby d2_13) rfl rfl (pc' := 14) rfl ?_
   refine k_alen X0 hx hZ e0 F0_2 (hb hby d2_14) (pc' := 15) rfl ?_
   refine k_isubL X0 hx (hb hby d2_15) (pc' := 16) rfl (z := v621) hv621.symm ?_
   refine k_iloadN X0 hx (hb hby d2_16) rfl (pc' := 17) rfl ?_
   refine k_iaddL X0 hx (hb hby d2_17) (pc' := 18) rfl (z := v621) (Int32.add_zero _) ?_
   refine k_icmp_ne X0 hx (hb hby d2_18) (pn := 21) rfl (py := 27) (by decide) (fun hc632 => ?_) (fun hc632 => ?_)
   ·
    refine k_iloadN X0 hx (hb hby d2_27) rfl (pc' := 28) rfl ?_
    refine k_if_ge X0 hx (hb hby d2_28) (pn := 31) rfl (py := 33) (by decide) (fun _ => ?_) (fun hc => absurd hc (by decide))
    refine k_aloadN X0 hx (hb hby d2_33) rfl rfl (pc' := 34) rfl ?_
    refine k_iloadN X0 hx (hb hby d2_34) rfl (pc' := 35) rfl ?_
    refine k_dup2 X0 hx (hb hby d2_35) rfl rfl (pc' := 36) rfl ?_
    refine k_iaload X0 hx hZ e0 F0_2 ⟨by decide, by decide⟩ (v := (.int p5)) rfl (hb hby d2_36) (pc' := 37) rfl ?_
    refine k_iconst X0 hx (hb hby d2_37) (pc' := 38) rfl (z := (1 : Int32)) rfl ?_
    refine k_iadd X0 hx (hb hby d2_38) (pc' := 39) rfl (fun v633 hv633 => ?_)
    refine k_iastore X0 hx hZ e0 F0_2 ⟨by decide, by decide⟩ (i := 0) rfl (Nat.le_of_ble_eq_true rfl) (hb hby d2_39) (pc' := 40) rfl (fun T634 h634 X634 e634 W634 V634 => ?_)
    have Vw634 : Arv Z h634 a1 k9 .int (3 : Int32) [(.int v633), (.int p10), (.int p11)] (.int (0 : Int32)) := V634
    have N634 := Fr.snoc X634 N0 g_a1
    have Z634 : n0 ≤ h634.size := Nat.le_trans Z0 (Nat.le_of_eq W634.size.symm)
    refine k_iloadN X634 hx (hb hby d2_40) rfl (pc' := 41) rfl ?_
    refine k_iconst X634 hx (hb hby d2_41) (pc' := 42) rfl (z := (1 : Int32)) rfl ?_
    refine k_iaddL X634 hx (hb hby d2_42) (pc' := 43) rfl (z := (1 : Int32)) (by decide) ?_
    refine k_istoreN X634 hx (hb hby d2_43) (Ls' := #[.val (.ref a1), .val (.int p2), .val (.int (0 : Int32)), .val (.int (1 : Int32))]) rfl (pc' := 44) rfl ?_
    refine k_iloadN X634 hx (hb hby d2_44) rfl (pc' := 45) rfl ?_
    refine k_aloadN X634 hx (hb hby d2_45) rfl rfl (pc' := 46) rfl ?_
    refine k_alen X634 hx hZ e634 Vw634 (hb hby d2_46) (pc' := 47) rfl ?_
    refine k_icmp_ge X634 hx (hb hby d2_47) (pn := 50) rfl (py := 66) (by decide) (fun hc => absurd (by decide) hc) (fun _ => ?_)
    refine k_aloadN X634 hx (hb hby d2_50) rfl rfl (pc' := 51) rfl ?_
    refine k_iloadN X634 hx (hb hby d2_51) rfl (pc' := 52) rfl ?_
    refine k_aloadN X634 hx (hb hby d2_52) rfl rfl (pc' := 53) rfl ?_
    refine k_iloadN X634 hx (hb hby d2_53) rfl (pc' := 54) rfl ?_
    refine k_iconst X634 hx (hb hby d2_54) (pc' := 55) rfl (z := (1 : Int32)) rfl ?_
    refine k_isubL X634 hx (hb hby d2_55) (pc' := 56) rfl (z := (0 : Int32)) (by decide) ?_
    refine k_iaload X634 hx hZ e634 Vw634 ⟨by decide, by decide⟩ (v := (.int v633)) rfl (hb hby d2_56) (pc' := 57) rfl ?_
    refine k_iconst X634 hx (hb hby d2_57) (pc' := 58) rfl (z := (1 : Int32)) rfl ?_
    refine k_iadd X634 hx (hb hby d2_58) (pc' := 59) rfl (fun v635 hv635 => ?_)
    refine k_iastore X634 hx hZ e634 Vw634 ⟨by decide, by decide⟩ (i := 1) rfl (Nat.le_of_ble_eq_true rfl) (hb hby d2_59) (pc' := 60) rfl (fun T636 h636 X636 e636 W636 V636 => ?_)
    have Vw636 : Arv Z h636 a1 k9 .int (3 : Int32) [(.int v633), (.int v635), (.int p11)] (.int (0 : Int32)) := V636
    have N636 := Fr.snoc X636 N634 g_a1
    have Z636 : n0 ≤ h636.size := Nat.le_trans Z634 (Nat.le_of_eq W636.size.symm)
    refine k_iinc X636 hx (hb hby d2_60) rfl (pc' := 63) rfl (z := (2 : Int32)) (by decide) (Ls' := #[.val (.ref a1), .val (.int p2), .val (.int (0 : Int32)), .val (.int (2 : Int32))]) rfl ?_
    refine k_goto X636 hx (hb hby d2_63) (pc' := 44) (by decide) ?_
    refine k_iloadN X636 hx (hb hby d2_44) rfl (pc' := 45) rfl ?_
    refine k_aloadN X636 hx (hb hby d2_45) rfl rfl (pc' := 46) rfl ?_
    refine k_alen X636 hx hZ e636 Vw636 (hb hby d2_46) (pc' := 47) rfl ?_
    refine k_icmp_ge X636 hx (hb hby d2_47) (pn := 50) rfl (py := 66) (by decide) (fun hc => absurd (by decide) hc) (fun _ => ?_)
    refine k_aloadN X636 hx (hb hby d2_50) rfl rfl (pc' := 51) rfl ?_
    refine k_iloadN X636 hx (hb hby d2_51) rfl (pc' := 52) rfl ?_
    refine k_aloadN X636 hx (hb hby d2_52) rfl rfl (pc' := 53) rfl ?_
    refine k_iloadN X636 hx (hb hby d2_53) rfl (pc' := 54) rfl ?_
    refine k_iconst X636 hx (hb hby d2_54) (pc' := 55) rfl (z := (1 : Int32)) rfl ?_
    refine k_isubL X636 hx (hb hby d2_55) (pc' := 56) rfl (z := (1 : Int32)) (by decide) ?_
    refine k_iaload X636 hx hZ e636 Vw636 ⟨by decide, by decide⟩ (v := (.int v635)) rfl (hb hby d2_56) (pc' := 57) rfl ?_
    refine k_iconst X636 hx (hb hby d2_57) (pc' := 58) rfl (z := (1 : Int32)) rfl ?_
    refine k_iadd X636 hx (hb hby d2_58) (pc' := 59) rfl (fun v637 hv637 => ?_)
    refine k_iastore X636 hx hZ e636 Vw636 ⟨by decide, by decide⟩ (i := 2) rfl (Nat.le_of_ble_eq_true rfl) (hb hby d2_59) (pc' := 60) rfl (fun T638 h638 X638 e638 W638 V638 => ?_)
    have Vw638 : Arv Z h638 a1 k9 .int (3 : Int32) [(.int v633), (.int v635), (.int v637)] (.int (0 : Int32)) := V638
    have N638 := Fr.snoc X638 N636 g_a1
    have Z638 : n0 ≤ h638.size := Nat.le_trans Z636 (Nat.le_of_eq W638.size.symm)
    refine k_iinc X638 hx (hb hby d2_60) rfl (pc' := 63) rfl (z := (3 : Int32)) (by decide) (Ls' := #[.val (.ref a1), .val (.int p2), .val (.int (0 : Int32)), .val (.int (3 : Int32))]) rfl ?_
    refine k_goto X638 hx (hb hby d2_63) (pc' := 44) (by decide) ?_
    refine k_iloadN X638 hx (hb hby d2_44) rfl (pc' := 45) rfl ?_
    refine k_aloadN X638 hx (hb hby d2_45) rfl rfl (pc' := 46) rfl ?_
    refine k_alen X638 hx hZ e638 Vw638 (hb hby d2_46) (pc' := 47) rfl ?_
    refine k_icmp_ge X638 hx (hb hby d2_47) (pn := 50) rfl (py := 66) (by decide) (fun _ => ?_) (fun hc => absurd hc (by decide))
    refine k_iconst X638 hx (hb hby d2_66) (pc' := 67) rfl (z := (1 : Int32)) rfl ?_
    have F641 := (((F0_0.other W634 (Nat.ne_of_lt lt0_0)).other W636 (Nat.ne_of_lt lt0_0)).other W638 (Nat.ne_of_lt lt0_0))
    exact k_retN X638 hx (t := .boolean) Bd.returns (by simp) (hb hby d2_67) hlk (by decide) (by decide) (z' := (1 : Int32)) rfl (by rw [e638]; exact ⟨N638, (Or.inr (Or.inr (Or.inl ⟨v621, v622, v626, v633, v635, v637, hv621, hv622, hv626, hv633, hv635, hv637, hc623, hc627, hc632, rfl, F641, Vw638, Z638⟩)))⟩)
   ·
    refine k_iinc X0 hx (hb hby d2_21) rfl (pc' := 24) rfl (z := (-1 : Int32)) (by decide) (Ls' := #[.val (.ref a1), .val (.int p2), .val (.int (-1 : Int32)), .unset]) rfl ?_
    refine k_goto X0 hx (hb hby d2_24) (pc' := 5) (by decide) ?_
    refine k_iloadN X0 hx (hb hby d2_5) rfl (pc' := 6) rfl ?_
    refine k_if_lt X0 hx (hb hby d2_6) (pn := 9) rfl (py := 27) (by decide) (fun _ => ?_) (fun hc => absurd (by decide) hc)
    refine k_iloadN X0 hx (hb hby d2_27) rfl (pc' := 28) rfl ?_
    refine k_if_ge X0 hx (hb hby d2_28) (pn := 31) rfl (py := 33) (by decide) (fun hc => absurd (by decide) hc) (fun _ => ?_)
    refine k_iconst X0 hx (hb hby d2_31) (pc' := 32) rfl (z := (0 : Int32)) rfl ?_
    exact k_retN X0 hx (t := .boolean) Bd.returns (by simp) (hb hby d2_32) hlk (by decide) (by decide) (z' := (0 : Int32)) rfl (by rw [e0]; exact ⟨N0, (Or.inr (Or.inr (Or.inr ⟨v621, v622, v626, hv621, hv622, hv626, hc623, hc627, hc632, rfl, F0_0, F0_2, Z0⟩)))⟩)
theorem d3_35 : decode method_4_code 35 = .ok (.aload_n 0, 1) := by decide +kernel
theorem d3_36 : decode method_4_code 36 = .ok (.iconst 2, 1) := by decide +kernel
theorem d3_37 : decode method_4_code 37 = .ok (.iaload, 1) := by decide +kernel
theorem d3_38 : decode method_4_code 38 = .ok (.iload 4, 2) := by decide +kernel
theorem d3_40 : decode method_4_code 40 = .ok (.if_icmp .ne 7, 3) := by decide +kernel
abbrev R3_735 : Room := { frames := 0, cells := 0, slots := 0, locals := 0 }
def Q3_735 (Z : State) (a1 : Addr) (p2 : Int32) (p3 : Int32) (p4 : Int32) (k5 : ClassId) (p6 : Int32) (p7 : Int32) (p8 : Int32) (h0 : Heap) (n0 : Nat) (v : Option Value) (h : Heap) (L : List Loc) : Prop := Fr n0 L ∧ h = h0 ∧ ((¬ p6 = p2 ∧ v = some (.int (0 : Int32))) ∨ (p6 = p2 ∧ ¬ p7 = p3 ∧ v = some (.int (0 : Int32))) ∨ (p6 = p2 ∧ p7 = p3 ∧ ¬ p8 = p4 ∧ v = some (.int (0 : Int32))) ∨ (p6 = p2 ∧ p7 = p3 ∧ p8 = p4 ∧ v = some (.int (1 : Int32))))
theorem ef3_735 (m : MethodId) (x0 : Addr) (x2 : Int32) (x3 : Int32) (x4 : Int32) : entryFrame m #[(.ref x0), (.int (3 : Int32)), (.int x2), (.int x3), (.int x4)] 5 = mkF m 0 #[.val (.ref x0), .val (.int (3 : Int32)), .val (.int x2), .val (.int x3), .val (.int x4)] [] := by first | (simp [entryFrame, mkF, argsToLocals, Value.category]; done) | rfl
set_option maxRecDepth 65536 in
set_option maxHeartbeats 40000000 in
theorem rm3_735 (l : Launch) (Z : State) (a0 : Array Value) (hw : ∀ d ∈ tables_1, d.before a0 Z = true) (ws : List Jvm.Cond) (a1 : Addr) (p2 : Int32) (p3 : Int32) (p4 : Int32) (k5 : ClassId) (p6 : Int32) (p7 : Int32) (p8 : Int32) (h0 : Heap) (n0 : Nat) (Z0 : n0 ≤ h0.size) (F0_0 : Arv Z h0 a1 k5 .int (3 : Int32) [(.int p6), (.int p7), (.int p8)] (.int (0 : Int32))) :
    MetFree l (⟨"com/example/kallimachos/kallimachos/subsets/CombinationsNextPinLaw", "same", "([IIIII)Z"⟩ : MethodName) (head1 (Jvm.Cond.code (⟨"com/example/kallimachos/kallimachos/subsets/CombinationsNextPinLaw", "same", "([IIIII)Z"⟩ : MethodName) method_4_code 5 (some .boolean) :: ws) R3_735) (fun a U => a = #[(.ref a1), (.int (3 : Int32)), (.int p2), (.int p3), (.int p4)] ∧ Z.Warmed39 U.vm ∧ U.heap = h0) (fun _ _ _ _ _ => True) (fun _ U o U' => ∃ v L, o = .returned v ∧ Q3_735 Z a1 p2 p3 p4 k5 p6 p7 p8 h0 n0 v U'.heap L ∧ FrameEnd U o U' L R3_735.cells R3_735.slots) := by
 refine MetFree.of_bodySF (plainFor_of_name pn_0) hisR ?_
 intro p e s m args below meth c s₁ Bd hml0 hP hK
 obtain ⟨rfl, hZ, hh⟩ := hP
 have hx := Bd.exec
 have hby := Bd.bytes
 have hml : c.maxLocals = 5 := hml0
 have hlk : meth.locks = false := Bd.notSynchronized
 have hown : s.vm.findClass "com/example/kallimachos/kallimachos/subsets/CombinationsNextPinLaw" = some m.cls := findClass_of_methodNamed Bd.named
 have hnm := (name_of_methodNamed Bd.named Bd.method).1
 have X0 : Stand p l e R3_735 s m #[(.ref a1), (.int (3 : Int32)), (.int p2), (.int p3), (.int p4)] below meth c s₁ [] 0 0 := Stand.of_body Bd
 have e0 : s₁.heap = h0 := by rw [← hh, Bd.state]; rfl
 have N0 := Fr.nil n0
 rw [ef3_735 m a1 p2 p3 p4]
 show KEnds p e below s R3_735.cells R3_735.slots (Q3_735 Z a1 p2 p3 p4 k5 p6 p7 p8 h0 n0) s₁ (mkF m 0 #[.val (.ref a1), .val (.int (3 : Int32)), .val (.int p2), .val (.int p3), .val (.int p4)] [])
 refine k_aloadN X0 hx (hb hby d3_0) rfl rfl (pc' := 1) rfl ?_
 refine k_alen X0 hx hZ e0 F0_0 (hb hby d3_1) (pc' := 2) rfl ?_
 refine k_iloadN X0 hx (hb hby d3_2) rfl (pc' := 3) rfl ?_
 refine k_icmp_ne X0 hx (hb hby d3_3) (pn := 6) rfl (py := 47) (by decide) (fun hc => absurd (by decide) hc) (fun _ => ?_)
 refine k_iloadN X0 hx (hb hby d3_6) rfl (pc' := 7) rfl ?_
 refine k_iconst X0 hx (hb hby d3_7) (pc' := 8) rfl (z := (1 : Int32)) rfl ?_
 refine k_icmp_lt X0 hx (hb hby d3_8) (pn := 11) rfl (py := 18) (by decide) (fun hc => absurd hc (by decide)) (fun _ => ?_)
 refine k_aloadN X0 hx (hb hby d3_11) rfl rfl (pc' := 12) rfl ?_
 refine k_iconst X0 hx (hb hby d3_12) (pc' := 13) rfl (z := (0 : Int32)) rfl ?_
 refine k_iaload X0 hx hZ e0 F0_0 ⟨by decide, by decide⟩ (v := (.int p6)) rfl (hb hby d3_13) (pc' := 14) rfl ?_
 refine k_iloadN X0 hx (hb hby d3_14) rfl (pc' := 15) rfl ?_
 refine k_icmp_ne X0 hx (hb hby d3_15) (pn := 18) rfl (py := 47) (by decide) (fun hc736 => ?_) (fun hc736 => ?_)
 ·
  refine k_iconst X0 hx (hb hby d3_47) (pc' := 48) rfl (z := (0 : Int32)) rfl ?_
  exact k_retN X0 hx (t := .boolean) Bd.returns (by simp) (hb hby d3_48) hlk (by decide) (by decide) (z' := (0 : Int32)) rfl ⟨N0, e0, (Or.inl ⟨hc736, rfl⟩)⟩
 ·
  refine k_iloadN X0 hx (hb hby d3_18) rfl (pc' := 19) rfl ?_
  refine k_iconst X0 hx (hb hby d3_19) (pc' := 20) rfl (z := (2 : Int32)) rfl ?_
  refine k_icmp_lt X0 hx (hb hby d3_20) (pn := 23) rfl (py := 30) (by decide) (fun hc => absurd hc (by decide)) (fun _ => ?_)
  refine k_aloadN X0 hx (hb hby d3_23) rfl rfl (pc' := 24) rfl ?_
  refine k_iconst X0 hx (hb hby d3_24) (pc' := 25) rfl (z := (1 : Int32)) rfl ?_
  refine k_iaload X0 hx hZ e0 F0_0 ⟨by decide, by decide⟩ (v := (.int p7)) rfl (hb hby d3_25) (pc' := 26) rfl ?_
  refine k_iloadN X0 hx (hb hby d3_26) rfl (pc' := 27) rfl ?_
  refine k_icmp_ne X0 hx (hb hby d3_27) (pn := 30) rfl (py := 47) (by decide) (fun hc737 => ?_) (fun hc737 => ?_)
  ·
   refine k_iconst X0 hx (hb hby d3_47) (pc' := 48) rfl (z := (0 : Int32)) rfl ?_
   exact k_retN X0 hx (t := .boolean) Bd.returns (by simp) (hb hby d3_48) hlk (by decide) (by decide) (z' := (0 : Int32)) rfl ⟨N0, e0, (Or.inr (Or.inl ⟨hc736, hc737, rfl⟩))⟩
  ·
   refine k_iloadN X0 hx (hb hby d3_30) rfl (pc' := 31) rfl ?_
   refine k_iconst X0 hx (hb hby d3_31) (pc' := 32) rfl (z := (3 : Int32)) rfl ?_
   refine k_icmp_lt X0 hx (hb hby d3_32) (pn := 35) rfl (py := 43) (by decide) (fun hc => absurd hc (by decide)) (fun _ => ?_)
   refine k_aloadN X0 hx (hb hby d3_35) rfl rfl (pc' := 36) rfl ?_
   refine k_iconst X0 hx (hb hby d3_36) (pc' := 37) rfl (z := (2 : Int32)) rfl ?_
   refine k_iaload X0 hx hZ e0 F0_0 ⟨by decide, by decide⟩ (v := (.int p8)) rfl (hb hby d3_37) (pc' := 38) rfl ?_
   refine k_iload X0 hx (hb hby d3_38) rfl (pc' := 40) rfl ?_
   refine k_icmp_ne X0 hx (hb hby d3_40) (pn := 43) rfl (py := 47) (by decide) (fun hc738 => ?_) (fun hc738 => ?_)
   ·
    refine k_iconst X0 hx (hb hby d3_47) (pc' := 48) rfl (z := (0 : Int32)) rfl ?_
    exact k_retN X0 hx (t := .boolean) Bd.returns (by simp) (hb hby d3_48) hlk (by decide) (by decide) (z' := (0 : Int32)) rfl ⟨N0, e0, (Or.inr (Or.inr (Or.inl ⟨hc736, hc737, hc738, rfl⟩)))⟩
   ·
    refine k_iconst X0 hx (hb hby d3_43) (pc' := 44) rfl (z := (1 : Int32)) rfl ?_
    refine k_goto X0 hx (hb hby d3_44) (pc' := 48) (by decide) ?_
    exact k_retN X0 hx (t := .boolean) Bd.returns (by simp) (hb hby d3_48) hlk (by decide) (by decide) (z' := (1 : Int32)) rfl ⟨N0, e0, (Or.inr (Or.inr (Or.inr ⟨hc736, hc737, hc738, rfl⟩)))⟩
abbrev R3_840 : Room := { frames := 0, cells := 0, slots := 0, locals := 0 }
def Q3_840 (Z : State) (a1 : Addr) (p2 : Int32) (p3 : Int32) (p4 : Int32) (k5 : ClassId) (p6 : Int32) (p7 : Int32) (h0 : Heap) (n0 : Nat) (v : Option Value) (h : Heap) (L : List Loc) : Prop := Fr n0 L ∧ h = h0 ∧ ((¬ p6 = p3 ∧ v = some (.int (0 : Int32))) ∨ (p6 = p3 ∧ ¬ p7 = p4 ∧ v = some (.int (0 : Int32))) ∨ (p6 = p3 ∧ p7 = p4 ∧ v = some (.int (1 : Int32))))
theorem ef3_840 (m : MethodId) (x0 : Addr) (x2 : Int32) (x3 : Int32) (x4 : Int32) : entryFrame m #[(.ref x0), (.int (3 : Int32)), (.int x2), (.int x3), (.int x4)] 5 = mkF m 0 #[.val (.ref x0), .val (.int (3 : Int32)), .val (.int x2), .val (.int x3), .val (.int x4)] [] := by first | (simp [entryFrame, mkF, argsToLocals, Value.category]; done) | rfl
set_option maxRecDepth 65536 in
set_option maxHeartbeats 40000000 in
theorem rm3_840 (l : Launch) (Z : State) (a0 : Array Value) (hw : ∀ d ∈ tables_1, d.before a0 Z = true) (ws : List Jvm.Cond) (a1 : Addr) (p2 : Int32) (p3 : Int32) (p4 : Int32) (k5 : ClassId) (p6 : Int32) (p7 : Int32) (h0 : Heap) (n0 : Nat) (Z0 : n0 ≤ h0.size) (F0_0 : Arv Z h0 a1 k5 .int (3 : Int32) [(.int p2), (.int p6), (.int p7)] (.int (0 : Int32))) :
    MetFree l (⟨"com/example/kallimachos/kallimachos/subsets/CombinationsNextPinLaw", "same", "([IIIII)Z"⟩ : MethodName) (head1 (Jvm.Cond.code (⟨"com/example/kallimachos/kallimachos/subsets/CombinationsNextPinLaw", "same", "([IIIII)Z"⟩ : MethodName) method_4_code 5 (some .boolean) :: ws) R3_840) (fun a U => a = #[(.ref a1), (.int (3 : Int32)), (.int p2), (.int p3), (.int p4)] ∧ Z.Warmed39 U.vm ∧ U.heap = h0) (fun _ _ _ _ _ => True) (fun _ U o U' => ∃ v L, o = .returned v ∧ Q3_840 Z a1 p2 p3 p4 k5 p6 p7 h0 n0 v U'.heap L ∧ FrameEnd U o U' L R3_840.cells R3_840.slots) := by
 refine MetFree.of_bodySF (plainFor_of_name pn_0) hisR ?_
 intro p e s m args below meth c s₁ Bd hml0 hP hK
 obtain ⟨rfl, hZ, hh⟩ := hP
 have hx := Bd.exec
 have hby := Bd.bytes
 have hml : c.maxLocals = 5 := hml0
 have hlk : meth.locks = false := Bd.notSynchronized
 have hown : s.vm.findClass "com/example/kallimachos/kallimachos/subsets/CombinationsNextPinLaw" = some m.cls := findClass_of_methodNamed Bd.named
 have hnm := (name_of_methodNamed Bd.named Bd.method).1
 have X0 : Stand p l e R3_840 s m #[(.ref a1), (.int (3 : Int32)), (.int p2), (.int p3), (.int p4)] below meth c s₁ [] 0 0 := Stand.of_body Bd
 have e0 : s₁.heap = h0 := by rw [← hh, Bd.state]; rfl
 have N0 := Fr.nil n0
 rw [ef3_840 m a1 p2 p3 p4]
 show KEnds p e below s R3_840.cells R3_840.slots (Q3_840 Z a1 p2 p3 p4 k5 p6 p7 h0 n0) s₁ (mkF m 0 #[.val (.ref a1), .val (.int (3 : Int32)), .val (.int p2), .val (.int p3), .val (.int p4)] [])
 refine k_aloadN X0 hx (hb hby d3_0) rfl rfl (pc' := 1) rfl ?_
 refine k_alen X0 hx hZ e0 F0_0 (hb hby d3_1) (pc' := 2) rfl ?_
 refine k_iloadN X0 hx (hb hby d3_2) rfl (pc' := 3) rfl ?_
 refine k_icmp_ne X0 hx (hb hby d3_3) (pn := 6) rfl (py := 47) (by decide) (fun hc => absurd (by decide) hc) (fun _ => ?_)
 refine k_iloadN X0 hx (hb hby d3_6) rfl (pc' := 7) rfl ?_
 refine k_iconst X0 hx (hb hby d3_7) (pc' := 8) rfl (z := (1 : Int32)) rfl ?_
 refine k_icmp_lt X0 hx (hb hby d3_8) (pn := 11) rfl (py := 18) (by decide) (fun hc => absurd hc (by decide)) (fun _ => ?_)
 refine k_aloadN X0 hx (hb hby d3_11) rfl rfl (pc' := 12) rfl ?_
 refine k_iconst X0 hx (hb hby d3_12) (pc' := 13) rfl (z := (0 : Int32)) rfl ?_
 refine k_iaload X0 hx hZ e0 F0_0 ⟨by decide, by decide⟩ (v := (.int p2)) rfl (hb hby d3_13) (pc' := 14) rfl ?_
 refine k_iloadN X0 hx (hb hby d3_14) rfl (pc' := 15) rfl ?_
 refine k_icmp_ne X0 hx (hb hby d3_15) (pn := 18) rfl (py := 47) (by decide) (fun hc => absurd rfl hc) (fun _ => ?_)
 refine k_iloadN X0 hx (hb hby d3_18) rfl (pc' := 19) rfl ?_
 refine k_iconst X0 hx (hb hby d3_19) (pc' := 20) rfl (z := (2 : Int32)) rfl ?_
 refine k_icmp_lt X0 hx (hb hby d3_20) (pn := 23) rfl (py := 30) (by decide) (fun hc => absurd hc (by decide)) (fun _ => ?_)
 refine k_aloadN X0 hx (hb hby d3_23) rfl rfl (pc' := 24) rfl ?_
 refine k_iconst X0 hx (hb hby d3_24) (pc' := 25) rfl (z := (1 : Int32)) rfl ?_
 refine k_iaload X0 hx hZ e0 F0_0 ⟨by decide, by decide⟩ (v := (.int p6)) rfl (hb hby d3_25) (pc' := 26) rfl ?_
 refine k_iloadN X0 hx (hb hby d3_26) rfl (pc' := 27) rfl ?_
 refine k_icmp_ne X0 hx (hb hby d3_27) (pn := 30) rfl (py := 47) (by decide) (fun hc841 => ?_) (fun hc841 => ?_)
 ·
  refine k_iconst X0 hx (hb hby d3_47) (pc' := 48) rfl (z := (0 : Int32)) rfl ?_
  exact k_retN X0 hx (t := .boolean) Bd.returns (by simp) (hb hby d3_48) hlk (by decide) (by decide) (z' := (0 : Int32)) rfl ⟨N0, e0, (Or.inl ⟨hc841, rfl⟩)⟩
 ·
  refine k_iloadN X0 hx (hb hby d3_30) rfl (pc' := 31) rfl ?_
  refine k_iconst X0 hx (hb hby d3_31) (pc' := 32) rfl (z := (3 : Int32)) rfl ?_
  refine k_icmp_lt X0 hx (hb hby d3_32) (pn := 35) rfl (py := 43) (by decide) (fun hc => absurd hc (by decide)) (fun _ => ?_)
  refine k_aloadN X0 hx (hb hby d3_35) rfl rfl (pc' := 36) rfl ?_
  refine k_iconst X0 hx (hb hby d3_36) (pc' := 37) rfl (z := (2 : Int32)) rfl ?_
  refine k_iaload X0 hx hZ e0 F0_0 ⟨by decide, by decide⟩ (v := (.int p7)) rfl (hb hby d3_37) (pc' := 38) rfl ?_
  refine k_iload X0 hx (hb hby d3_38) rfl (pc' := 40) rfl ?_
  refine k_icmp_ne X0 hx (hb hby d3_40) (pn := 43) rfl (py := 47) (by decide) (fun hc842 => ?_) (fun hc842 => ?_)
  ·
   refine k_iconst X0 hx (hb hby d3_47) (pc' := 48) rfl (z := (0 : Int32)) rfl ?_
   exact k_retN X0 hx (t := .boolean) Bd.returns (by simp) (hb hby d3_48) hlk (by decide) (by decide) (z' := (0 : Int32)) rfl ⟨N0, e0, (Or.inr (Or.inl ⟨hc841, hc842, rfl⟩))⟩
  ·
   refine k_iconst X0 hx (hb hby d3_43) (pc' := 44) rfl (z := (1 : Int32)) rfl ?_
   refine k_goto X0 hx (hb hby d3_44) (pc' := 48) (by decide) ?_
   exact k_retN X0 hx (t := .boolean) Bd.returns (by simp) (hb hby d3_48) hlk (by decide) (by decide) (z' := (1 : Int32)) rfl ⟨N0, e0, (Or.inr (Or.inr ⟨hc841, hc842, rfl⟩))⟩
abbrev R3_910 : Room := { frames := 0, cells := 0, slots := 0, locals := 0 }
def Q3_910 (Z : State) (a1 : Addr) (p2 : Int32) (p3 : Int32) (p4 : Int32) (k5 : ClassId) (p6 : Int32) (h0 : Heap) (n0 : Nat) (v : Option Value) (h : Heap) (L : List Loc) : Prop := Fr n0 L ∧ h = h0 ∧ ((¬ p6 = p4 ∧ v = some (.int (0 : Int32))) ∨ (p6 = p4 ∧ v = some (.int (1 : Int32))))
theorem ef3_910 (m : MethodId) (x0 : Addr) (x2 : Int32) (x3 : Int32) (x4 : Int32) : entryFrame m #[(.ref x0), (.int (3 : Int32)), (.int x2), (.int x3), (.int x4)] 5 = mkF m 0 #[.val (.ref x0), .val (.int (3 : Int32)), .val (.int x2), .val (.int x3), .val (.int x4)] [] := by first | (simp [entryFrame, mkF, argsToLocals, Value.category]; done) | rfl
set_option maxRecDepth 65536 in
set_option maxHeartbeats 40000000 in
theorem rm3_910 (l : Launch) (Z : State) (a0 : Array Value) (hw : ∀ d ∈ tables_1, d.before a0 Z = true) (ws : List Jvm.Cond) (a1 : Addr) (p2 : Int32) (p3 : Int32) (p4 : Int32) (k5 : ClassId) (p6 : Int32) (h0 : Heap) (n0 : Nat) (Z0 : n0 ≤ h0.size) (F0_0 : Arv Z h0 a1 k5 .int (3 : Int32) [(.int p2), (.int p3), (.int p6)] (.int (0 : Int32))) :
    MetFree l (⟨"com/example/kallimachos/kallimachos/subsets/CombinationsNextPinLaw", "same", "([IIIII)Z"⟩ : MethodName) (head1 (Jvm.Cond.code (⟨"com/example/kallimachos/kallimachos/subsets/CombinationsNextPinLaw", "same", "([IIIII)Z"⟩ : MethodName) method_4_code 5 (some .boolean) :: ws) R3_910) (fun a U => a = #[(.ref a1), (.int (3 : Int32)), (.int p2), (.int p3), (.int p4)] ∧ Z.Warmed39 U.vm ∧ U.heap = h0) (fun _ _ _ _ _ => True) (fun _ U o U' => ∃ v L, o = .returned v ∧ Q3_910 Z a1 p2 p3 p4 k5 p6 h0 n0 v U'.heap L ∧ FrameEnd U o U' L R3_910.cells R3_910.slots) := by
 refine MetFree.of_bodySF (plainFor_of_name pn_0) hisR ?_
 intro p e s m args below meth c s₁ Bd hml0 hP hK
 obtain ⟨rfl, hZ, hh⟩ := hP
 have hx := Bd.exec
 have hby := Bd.bytes
 have hml : c.maxLocals = 5 := hml0
 have hlk : meth.locks = false := Bd.notSynchronized
 have hown : s.vm.findClass "com/example/kallimachos/kallimachos/subsets/CombinationsNextPinLaw" = some m.cls := findClass_of_methodNamed Bd.named
 have hnm := (name_of_methodNamed Bd.named Bd.method).1
 have X0 : Stand p l e R3_910 s m #[(.ref a1), (.int (3 : Int32)), (.int p2), (.int p3), (.int p4)] below meth c s₁ [] 0 0 := Stand.of_body Bd
 have e0 : s₁.heap = h0 := by rw [← hh, Bd.state]; rfl
 have N0 := Fr.nil n0
 rw [ef3_910 m a1 p2 p3 p4]
 show KEnds p e below s R3_910.cells R3_910.slots (Q3_910 Z a1 p2 p3 p4 k5 p6 h0 n0) s₁ (mkF m 0 #[.val (.ref a1), .val (.int (3 : Int32)), .val (.int p2), .val (.int p3), .val (.int p4)] [])
 refine k_aloadN X0 hx (hb hby d3_0) rfl rfl (pc' := 1) rfl ?_
 refine k_alen X0 hx hZ e0 F0_0 (hb hby d3_1) (pc' := 2) rfl ?_
 refine k_iloadN X0 hx (hb hby d3_2) rfl (pc' := 3) rfl ?_
 refine k_icmp_ne X0 hx (hb hby d3_3) (pn := 6) rfl (py := 47) (by decide) (fun hc => absurd (by decide) hc) (fun _ => ?_)
 refine k_iloadN X0 hx (hb hby d3_6) rfl (pc' := 7) rfl ?_
 refine k_iconst X0 hx (hb hby d3_7) (pc' := 8) rfl (z := (1 : Int32)) rfl ?_
 refine k_icmp_lt X0 hx (hb hby d3_8) (pn := 11) rfl (py := 18) (by decide) (fun hc => absurd hc (by decide)) (fun _ => ?_)
 refine k_aloadN X0 hx (hb hby d3_11) rfl rfl (pc' := 12) rfl ?_
 refine k_iconst X0 hx (hb hby d3_12) (pc' := 13) rfl (z := (0 : Int32)) rfl ?_
 refine k_iaload X0 hx hZ e0 F0_0 ⟨by decide, by decide⟩ (v := (.int p2)) rfl (hb hby d3_13) (pc' := 14) rfl ?_
 refine k_iloadN X0 hx (hb hby d3_14) rfl (pc' := 15) rfl ?_
 refine k_icmp_ne X0 hx (hb hby d3_15) (pn := 18) rfl (py := 47) (by decide) (fun hc => absurd rfl hc) (fun _ => ?_)
 refine k_iloadN X0 hx (hb hby d3_18) rfl (pc' := 19) rfl ?_
 refine k_iconst X0 hx (hb hby d3_19) (pc' := 20) rfl (z := (2 : Int32)) rfl ?_
 refine k_icmp_lt X0 hx (hb hby d3_20) (pn := 23) rfl (py := 30) (by decide) (fun hc => absurd hc (by decide)) (fun _ => ?_)
 refine k_aloadN X0 hx (hb hby d3_23) rfl rfl (pc' := 24) rfl ?_
 refine k_iconst X0 hx (hb hby d3_24) (pc' := 25) rfl (z := (1 : Int32)) rfl ?_
 refine k_iaload X0 hx hZ e0 F0_0 ⟨by decide, by decide⟩ (v := (.int p3)) rfl (hb hby d3_25) (pc' := 26) rfl ?_
 refine k_iloadN X0 hx (hb hby d3_26) rfl (pc' := 27) rfl ?_
 refine k_icmp_ne X0 hx (hb hby d3_27) (pn := 30) rfl (py := 47) (by decide) (fun hc => absurd rfl hc) (fun _ => ?_)
 refine k_iloadN X0 hx (hb hby d3_30) rfl (pc' := 31) rfl ?_
 refine k_iconst X0 hx (hb hby d3_31) (pc' := 32) rfl (z := (3 : Int32)) rfl ?_
 refine k_icmp_lt X0 hx (hb hby d3_32) (pn := 35) rfl (py := 43) (by decide) (fun hc => absurd hc (by decide)) (fun _ => ?_)
 refine k_aloadN X0 hx (hb hby d3_35) rfl rfl (pc' := 36) rfl ?_
 refine k_iconst X0 hx (hb hby d3_36) (pc' := 37) rfl (z := (2 : Int32)) rfl ?_
 refine k_iaload X0 hx hZ e0 F0_0 ⟨by decide, by decide⟩ (v := (.int p6)) rfl (hb hby d3_37) (pc' := 38) rfl ?_
 refine k_iload X0 hx (hb hby d3_38) rfl (pc' := 40) rfl ?_
 refine k_icmp_ne X0 hx (hb hby d3_40) (pn := 43) rfl (py := 47) (by decide) (fun hc911 => ?_) (fun hc911 => ?_)
 ·
  refine k_iconst X0 hx (hb hby d3_47) (pc' := 48) rfl (z := (0 : Int32)) rfl ?_
  exact k_retN X0 hx (t := .boolean) Bd.returns (by simp) (hb hby d3_48) hlk (by decide) (by decide) (z' := (0 : Int32)) rfl ⟨N0, e0, (Or.inl ⟨hc911, rfl⟩)⟩
 ·
  refine k_iconst X0 hx (hb hby d3_43) (pc' := 44) rfl (z := (1 : Int32)) rfl ?_
  refine k_goto X0 hx (hb hby d3_44) (pc' := 48) (by decide) ?_
  exact k_retN X0 hx (t := .boolean) Bd.returns (by simp) (hb hby d3_48) hlk (by decide) (by decide) (z' := (1 : Int32)) rfl ⟨N0, e0, (Or.inr ⟨hc911, rfl⟩)⟩
abbrev R3_1508 : Room := { frames := 0, cells := 0, slots := 0, locals := 0 }
def Q3_1508 (Z : State) (a1 : Addr) (p2 : Int32) (p3 : Int32) (p4 : Int32) (k5 : ClassId) (h0 : Heap) (n0 : Nat) (v : Option Value) (h : Heap) (L : List Loc) : Prop := Fr n0 L ∧ h = h0 ∧ ((v = some (.int (1 : Int32))))
theorem ef3_1508 (m : MethodId) (x0 : Addr) (x2 : Int32) (x3 : Int32) (x4 : Int32) : entryFrame m #[(.ref x0), (.int (3 : Int32)), (.int x2), (.int x3), (.int x4)] 5 = mkF m 0 #[.val (.ref x0), .val (.int (3 : Int32)), .val (.int x2), .val (.int x3), .val (.int x4)] [] := by first | (simp [entryFrame, mkF, argsToLocals, Value.category]; done) | rfl
set_option maxRecDepth 65536 in
set_option maxHeartbeats 40000000 in
theorem rm3_1508 (l : Launch) (Z : State) (a0 : Array Value) (hw : ∀ d ∈ tables_1, d.before a0 Z = true) (ws : List Jvm.Cond) (a1 : Addr) (p2 : Int32) (p3 : Int32) (p4 : Int32) (k5 : ClassId) (h0 : Heap) (n0 : Nat) (Z0 : n0 ≤ h0.size) (F0_0 : Arv Z h0 a1 k5 .int (3 : Int32) [(.int p2), (.int p3), (.int p4)] (.int (0 : Int32))) :
    MetFree l (⟨"com/example/kallimachos/kallimachos/subsets/CombinationsNextPinLaw", "same", "([IIIII)Z"⟩ : MethodName) (head1 (Jvm.Cond.code (⟨"com/example/kallimachos/kallimachos/subsets/CombinationsNextPinLaw", "same", "([IIIII)Z"⟩ : MethodName) method_4_code 5 (some .boolean) :: ws) R3_1508) (fun a U => a = #[(.ref a1), (.int (3 : Int32)), (.int p2), (.int p3), (.int p4)] ∧ Z.Warmed39 U.vm ∧ U.heap = h0) (fun _ _ _ _ _ => True) (fun _ U o U' => ∃ v L, o = .returned v ∧ Q3_1508 Z a1 p2 p3 p4 k5 h0 n0 v U'.heap L ∧ FrameEnd U o U' L R3_1508.cells R3_1508.slots) := by
 refine MetFree.of_bodySF (plainFor_of_name pn_0) hisR ?_
 intro p e s m args below meth c s₁ Bd hml0 hP hK
 obtain ⟨rfl, hZ, hh⟩ := hP
 have hx := Bd.exec
 have hby := Bd.bytes
 have hml : c.maxLocals = 5 := hml0
 have hlk : meth.locks = false := Bd.notSynchronized
 have hown : s.vm.findClass "com/example/kallimachos/kallimachos/subsets/CombinationsNextPinLaw" = some m.cls := findClass_of_methodNamed Bd.named
 have hnm := (name_of_methodNamed Bd.named Bd.method).1
 have X0 : Stand p l e R3_1508 s m #[(.ref a1), (.int (3 : Int32)), (.int p2), (.int p3), (.int p4)] below meth c s₁ [] 0 0 := Stand.of_body Bd
 have e0 : s₁.heap = h0 := by rw [← hh, Bd.state]; rfl
 have N0 := Fr.nil n0
 rw [ef3_1508 m a1 p2 p3 p4]
 show KEnds p e below s R3_1508.cells R3_1508.slots (Q3_1508 Z a1 p2 p3 p4 k5 h0 n0) s₁ (mkF m 0 #[.val (.ref a1), .val (.int (3 : Int32)), .val (.int p2), .val (.int p3), .val (.int p4)] [])
 refine k_aloadN X0 hx (hb hby d3_0) rfl rfl (pc' := 1) rfl ?_
 refine k_alen X0 hx hZ e0 F0_0 (hb hby d3_1) (pc' := 2) rfl ?_
 refine k_iloadN X0 hx (hb hby d3_2) rfl (pc' := 3) rfl ?_
 refine k_icmp_ne X0 hx (hb hby d3_3) (pn := 6) rfl (py := 47) (by decide) (fun hc => absurd (by decide) hc) (fun _ => ?_)
 refine k_iloadN X0 hx (hb hby d3_6) rfl (pc' := 7) rfl ?_
 refine k_iconst X0 hx (hb hby d3_7) (pc' := 8) rfl (z := (1 : Int32)) rfl ?_
 refine k_icmp_lt X0 hx (hb hby d3_8) (pn := 11) rfl (py := 18) (by decide) (fun hc => absurd hc (by decide)) (fun _ => ?_)
 refine k_aloadN X0 hx (hb hby d3_11) rfl rfl (pc' := 12) rfl ?_
 refine k_iconst X0 hx (hb hby d3_12) (pc' := 13) rfl (z := (0 : Int32)) rfl ?_
 refine k_iaload X0 hx hZ e0 F0_0 ⟨by decide, by decide⟩ (v := (.int p2)) rfl (hb hby d3_13) (pc' := 14) rfl ?_
 refine k_iloadN X0 hx (hb hby d3_14) rfl (pc' := 15) rfl ?_
 refine k_icmp_ne X0 hx (hb hby d3_15) (pn := 18) rfl (py := 47) (by decide) (fun hc => absurd rfl hc) (fun _ => ?_)
 refine k_iloadN X0 hx (hb hby d3_18) rfl (pc' := 19) rfl ?_
 refine k_iconst X0 hx (hb hby d3_19) (pc' := 20) rfl (z := (2 : Int32)) rfl ?_
 refine k_icmp_lt X0 hx (hb hby d3_20) (pn := 23) rfl (py := 30) (by decide) (fun hc => absurd hc (by decide)) (fun _ => ?_)
 refine k_aloadN X0 hx (hb hby d3_23) rfl rfl (pc' := 24) rfl ?_
 refine k_iconst X0 hx (hb hby d3_24) (pc' := 25) rfl (z := (1 : Int32)) rfl ?_
 refine k_iaload X0 hx hZ e0 F0_0 ⟨by decide, by decide⟩ (v := (.int p3)) rfl (hb hby d3_25) (pc' := 26) rfl ?_
 refine k_iloadN X0 hx (hb hby d3_26) rfl (pc' := 27) rfl ?_
 refine k_icmp_ne X0 hx (hb hby d3_27) (pn := 30) rfl (py := 47) (by decide) (fun hc => absurd rfl hc) (fun _ => ?_)
 refine k_iloadN X0 hx (hb hby d3_30) rfl (pc' := 31) rfl ?_
 refine k_iconst X0 hx (hb hby d3_31) (pc' := 32) rfl (z := (3 : Int32)) rfl ?_
 refine k_icmp_lt X0 hx (hb hby d3_32) (pn := 35) rfl (py := 43) (by decide) (fun hc => absurd hc (by decide)) (fun _ => ?_)
 refine k_aloadN X0 hx (hb hby d3_35) rfl rfl (pc' := 36) rfl ?_
 refine k_iconst X0 hx (hb hby d3_36) (pc' := 37) rfl (z := (2 : Int32)) rfl ?_
 refine k_iaload X0 hx hZ e0 F0_0 ⟨by decide, by decide⟩ (v := (.int p4)) rfl (hb hby d3_37) (pc' := 38) rfl ?_
 refine k_iload X0 hx (hb hby d3_38) rfl (pc' := 40) rfl ?_
 refine k_icmp_ne X0 hx (hb hby d3_40) (pn := 43) rfl (py := 47) (by decide) (fun hc => absurd rfl hc) (fun _ => ?_)
 refine k_iconst X0 hx (hb hby d3_43) (pc' := 44) rfl (z := (1 : Int32)) rfl ?_
 refine k_goto X0 hx (hb hby d3_44) (pc' := 48) (by decide) ?_
 exact k_retN X0 hx (t := .boolean) Bd.returns (by simp) (hb hby d3_48) hlk (by decide) (by decide) (z' := (1 : Int32)) rfl ⟨N0, e0, rfl⟩
theorem ef0 (m : MethodId) (x0 : Int32) (x1 : Int32) (x2 : Int32) (x3 : Int32) (x4 : Int32) : entryFrame m #[(.int x0), (.int x1), (.int x2), (.int x3), (.int x4)] maxLocals = mkF m 0 #[.val (.int x0), .val (.int x1), .val (.int x2), .val (.int x3), .val (.int x4), .unset, .unset, .unset, .unset, .unset, .unset, .unset, .unset, .unset, .unset, .unset, .unset, .unset] [] := by first | (simp [entryFrame, mkF, argsToLocals, Value.category, maxLocals]; done) | rfl
def Q0 (n0 : Nat) (v : Option Value) (h : Heap) (L : List Loc) : Prop := v = some (.int 1) ∧ Fr n0 L
set_option maxRecDepth 65536 in
set_option maxHeartbeats 40000000 in
theorem rm0 (l : Launch) (Z : State) (a0 : Array Value) (hw : ∀ d ∈ tables_1, d.before a0 Z = true) (ws : List Jvm.Cond) (i0 : Int32) (i1 : Int32) (i2 : Int32) (i3 : Int32) (i4 : Int32) (h0 : Heap) (n0 : Nat) (Z0 : n0 ≤ h0.size) :
    MetFree l x (head1 (Jvm.Cond.code x code maxLocals ret :: ws) room_1) (fun a U => a = #[(.int i0), (.int i1), (.int i2), (.int i3), (.int i4)] ∧ Z.Warmed39 U.vm ∧ U.heap = h0) (fun _ _ _ _ _ => True) (fun _ U o U' => ∃ v L, o = .returned v ∧ Q0 n0 v U'.heap L ∧ FrameEnd U o U' L 16 128) := by
 refine MetFree.of_bodySF (plainFor_of_name pn_0) hisR ?_
 intro p e s m args below meth c s₁ Bd hml0 hP hK
 obtain ⟨rfl, hZ, hh⟩ := hP
 have hx := Bd.exec
 have hby := Bd.bytes
 have hml : c.maxLocals = 18 := hml0
 have hlk : meth.locks = false := Bd.notSynchronized
 have hown : s.vm.findClass "com/example/kallimachos/kallimachos/subsets/CombinationsNextPinLaw" = some m.cls := findClass_of_methodNamed Bd.named
 have hnm := (name_of_methodNamed Bd.named Bd.method).1
 have X0 : Stand p l e room_1 s m #[(.int i0), (.int i1), (.int i2), (.int i3), (.int i4)] below meth c s₁ [] 0 0 := Stand.of_body Bd
 have e0 : s₁.heap = h0 := by rw [← hh, Bd.state]; rfl
 have N0 := Fr.nil n0
 rw [show entryFrame m #[(.int i0), (.int i1), (.int i2), (.int i3), (.int i4)] maxLocals = _ from ef0 m i0 i1 i2 i3 i4]
 show KEnds p e below s 16 128 (Q0 n0) s₁ (mkF m 0 #[.val (.int i0), .val (.int i1), .val (.int i2), .val (.int i3), .val (.int i4), .unset, .unset, .unset, .unset, .unset, .unset, .unset, .unset, .unset, .unset, .unset, .unset, .unset] [])
 refine k_iloadN X0 hx (hb hby at_0) rfl (pc' := 1) rfl ?_
 refine k_iconst X0 hx (hb hby at_1) (pc' := 2) rfl (z := (3 : Int32)) rfl ?_
 refine k_iand X0 hx (hb hby at_2) (pc' := 3) rfl (fun v1 hv1 => ?_)
 have hs2 : v1 = (0 : Int32) ∨ v1 = (1 : Int32) ∨ v1 = (2 : Int32) ∨ v1 = (3 : Int32) := by
  have := rng32 v1
  have := rng32 i0
  have : (3 : Int32).toInt = 3 := (by decide)
  have q3 : v1.toInt = i0.toInt % 4 := (by rw [hv1]; exact c_mask _ _ 2 (by decide) (by decide))
  rcases (by omega : v1.toInt = 0 ∨ v1.toInt = 1 ∨ v1.toInt = 2 ∨ v1.toInt = 3) with hq | hq | hq | hq
  · exact Or.inl (Int32.toInt_inj.mp hq)
  · exact Or.inr (Or.inl (Int32.toInt_inj.mp hq))
  · exact Or.inr (Or.inr (Or.inl (Int32.toInt_inj.mp hq)))
  · exact Or.inr (Or.inr (Or.inr ((Int32.toInt_inj.mp hq))))
 rcases hs2 with rfl | rfl | rfl | rfl
 ·
  show KEnds p e below s _ _ _ s₁ (mkF m 3 #[.val (.int i0), .val (.int i1), .val (.int i2), .val (.int i3), .val (.int i4), .unset, .unset, .unset, .unset, .unset, .unset, .unset, .unset, .unset, .unset, .unset, .unset, .unset] [(.int (0 : Int32))])
  refine k_istore X0 hx (hb hby at_3) (Ls' := #[.val (.int i0), .val (.int i1), .val (.int i2), .val (.int i3), .val (.int i4), .val (.int (0 : Int32)), .unset, .unset, .unset, .unset, .unset, .unset, .unset, .unset, .unset, .unset, .unset, .unset]) rfl (pc' := 5) rfl ?_
  refine k_iconst X0 hx (hb hby at_5) (pc' := 6) rfl (z := (4 : Int32)) rfl ?_
  refine k_newA X0 hx hZ (hw _ (List.mem_of_getElem? (i := 0) rfl)) e0 (hb hby at_6) (by decide) (cap := 4) (by decide) (by decide) (by decide) (by decide) (pc' := 8) rfl (fun T5 h5 b5 k5 g5 X5 e5 E5 V5 => ?_)
  have g_b5 : n0 ≤ b5 := Nat.le_trans Z0 (Nat.le_of_eq g5.symm)
  have Z5 : n0 ≤ h5.size := Nat.le_trans Z0 E5.1
  have Vw5 : Arv Z h5 b5 k5 .int (4 : Int32) [(.int (0 : Int32)), (.int (0 : Int32)), (.int (0 : Int32)), (.int (0 : Int32))] (.int (0 : Int32)) := V5
  refine k_astore X5 hx (hb hby at_8) rfl (Ls' := #[.val (.int i0), .val (.int i1), .val (.int i2), .val (.int i3), .val (.int i4), .val (.int (0 : Int32)), .val (.ref b5), .unset, .unset, .unset, .unset, .unset, .unset, .unset, .unset, .unset, .unset, .unset]) rfl (pc' := 10) rfl ?_
  refine k_aload X5 hx (hb hby at_10) rfl rfl (pc' := 12) rfl ?_
  refine k_iconst X5 hx (hb hby at_12) (pc' := 13) rfl (z := (0 : Int32)) rfl ?_
  suffices key6 : ∀ (v11 : Int32), (¬ v11 < 0 ∧ ¬ (536870911 : Int32) < v11) → KEnds p e below s 16 128 (Q0 n0) T5 (mkF m 29 #[.val (.int i0), .val (.int i1), .val (.int i2), .val (.int i3), .val (.int i4), .val (.int (0 : Int32)), .val (.ref b5), .unset, .unset, .unset, .unset, .unset, .unset, .unset, .unset, .unset, .unset, .unset] [(.int v11), (.int (0 : Int32)), (.ref b5)]) by
   refine k_iloadN X5 hx (hb hby at_13) rfl (pc' := 14) rfl ?_
   refine k_iconst X5 hx (hb hby at_14) (pc' := 15) rfl (z := (2 : Int32)) rfl ?_
   refine k_ishr X5 hx (hb hby at_15) (pc' := 16) rfl (fun v7 hv7 => ?_)
   refine k_iconst X5 hx (hb hby at_16) (pc' := 17) rfl (z := (1 : Int32)) rfl ?_
   refine k_iand X5 hx (hb hby at_17) (pc' := 18) rfl (fun v8 hv8 => ?_)
   refine k_if_eq X5 hx (hb hby at_18) (pn := 21) rfl (py := 25) (by decide) (fun hc9 => ?_) (fun hc9 => ?_)
   ·
    refine k_iloadN X5 hx (hb hby at_25) rfl (pc' := 26) rfl ?_
    refine k_ldc X5 hx hZ hown (hw _ (List.mem_of_getElem? (i := 1) rfl)) (hb hby at_26) (pc' := 28) rfl ?_
    refine k_iand X5 hx (hb hby at_28) (pc' := 29) rfl (fun v10 hv10 => ?_)
    refine key6 v10 ?_
    have qm : v10.toInt = i1.toInt % 536870912 := by rw [hv10]; exact c_mask _ _ 29 (by decide) (by decide)
    exact ⟨fun q => by rw [Int32.lt_iff_toInt_lt, show (0 : Int32).toInt = 0 from rfl] at q; omega, fun q => by rw [Int32.lt_iff_toInt_lt, show (536870911 : Int32).toInt = 536870911 from rfl] at q; omega⟩
   ·
    refine k_iconst X5 hx (hb hby at_21) (pc' := 22) rfl (z := (0 : Int32)) rfl ?_
    refine k_goto X5 hx (hb hby at_22) (pc' := 29) (by decide) ?_
    refine key6 (0 : Int32) ?_
    exact ⟨by decide, by decide⟩
  intro v11 hP12
  refine k_iastore X5 hx hZ e5 Vw5 ⟨by decide, by decide⟩ (i := 0) rfl (Nat.le_of_ble_eq_true rfl) (hb hby at_29) (pc' := 30) rfl (fun T13 h13 X13 e13 W13 V13 => ?_)
  have Vw13 : Arv Z h13 b5 k5 .int (4 : Int32) [(.int v11), (.int (0 : Int32)), (.int (0 : Int32)), (.int (0 : Int32))] (.int (0 : Int32)) := V13
  have N13 := Fr.snoc X13 N0 g_b5
  have Z13 : n0 ≤ h13.size := Nat.le_trans Z5 (Nat.le_of_eq W13.size.symm)
  refine k_aload X13 hx (hb hby at_30) rfl rfl (pc' := 32) rfl ?_
  refine k_iconst X13 hx (hb hby at_32) (pc' := 33) rfl (z := (1 : Int32)) rfl ?_
  suffices key14 : ∀ (v19 : Int32), (¬ v19 < 0 ∧ ¬ (536870911 : Int32) < v19) → KEnds p e below s 16 128 (Q0 n0) T13 (mkF m 49 #[.val (.int i0), .val (.int i1), .val (.int i2), .val (.int i3), .val (.int i4), .val (.int (0 : Int32)), .val (.ref b5), .unset, .unset, .unset, .unset, .unset, .unset, .unset, .unset, .unset, .unset, .unset] [(.int v19), (.int (1 : Int32)), (.ref b5)]) by
   refine k_iloadN X13 hx (hb hby at_33) rfl (pc' := 34) rfl ?_
   refine k_iconst X13 hx (hb hby at_34) (pc' := 35) rfl (z := (3 : Int32)) rfl ?_
   refine k_ishr X13 hx (hb hby at_35) (pc' := 36) rfl (fun v15 hv15 => ?_)
   refine k_iconst X13 hx (hb hby at_36) (pc' := 37) rfl (z := (1 : Int32)) rfl ?_
   refine k_iand X13 hx (hb hby at_37) (pc' := 38) rfl (fun v16 hv16 => ?_)
   refine k_if_eq X13 hx (hb hby at_38) (pn := 41) rfl (py := 45) (by decide) (fun hc17 => ?_) (fun hc17 => ?_)
   ·
    refine k_iloadN X13 hx (hb hby at_45) rfl (pc' := 46) rfl ?_
    refine k_ldc X13 hx hZ hown (hw _ (List.mem_of_getElem? (i := 1) rfl)) (hb hby at_46) (pc' := 48) rfl ?_
    refine k_iand X13 hx (hb hby at_48) (pc' := 49) rfl (fun v18 hv18 => ?_)
    refine key14 v18 ?_
    have qm : v18.toInt = i2.toInt % 536870912 := by rw [hv18]; exact c_mask _ _ 29 (by decide) (by decide)
    exact ⟨fun q => by rw [Int32.lt_iff_toInt_lt, show (0 : Int32).toInt = 0 from rfl] at q; omega, fun q => by rw [Int32.lt_iff_toInt_lt, show (536870911 : Int32).toInt = 536870911 from rfl] at q; omega⟩
   ·
    refine k_iconst X13 hx (hb hby at_41) (pc' := 42) rfl (z := (0 : Int32)) rfl ?_
    refine k_goto X13 hx (hb hby at_42) (pc' := 49) (by decide) ?_
    refine key14 (0 : Int32) ?_
    exact ⟨by decide, by decide⟩
  intro v19 hP20
  refine k_iastore X13 hx hZ e13 Vw13 ⟨by decide, by decide⟩ (i := 1) rfl (Nat.le_of_ble_eq_true rfl) (hb hby at_49) (pc' := 50) rfl (fun T21 h21 X21 e21 W21 V21 => ?_)
  have Vw21 : Arv Z h21 b5 k5 .int (4 : Int32) [(.int v11), (.int v19), (.int (0 : Int32)), (.int (0 : Int32))] (.int (0 : Int32)) := V21
  have N21 := Fr.snoc X21 N13 g_b5
  have Z21 : n0 ≤ h21.size := Nat.le_trans Z13 (Nat.le_of_eq W21.size.symm)
  refine k_aload X21 hx (hb hby at_50) rfl rfl (pc' := 52) rfl ?_
  refine k_iconst X21 hx (hb hby at_52) (pc' := 53) rfl (z := (2 : Int32)) rfl ?_
  suffices key22 : ∀ (v27 : Int32), (¬ v27 < 0 ∧ ¬ (536870911 : Int32) < v27) → KEnds p e below s 16 128 (Q0 n0) T21 (mkF m 69 #[.val (.int i0), .val (.int i1), .val (.int i2), .val (.int i3), .val (.int i4), .val (.int (0 : Int32)), .val (.ref b5), .unset, .unset, .unset, .unset, .unset, .unset, .unset, .unset, .unset, .unset, .unset] [(.int v27), (.int (2 : Int32)), (.ref b5)]) by
   refine k_iloadN X21 hx (hb hby at_53) rfl (pc' := 54) rfl ?_
   refine k_iconst X21 hx (hb hby at_54) (pc' := 55) rfl (z := (4 : Int32)) rfl ?_
   refine k_ishr X21 hx (hb hby at_55) (pc' := 56) rfl (fun v23 hv23 => ?_)
   refine k_iconst X21 hx (hb hby at_56) (pc' := 57) rfl (z := (1 : Int32)) rfl ?_
   refine k_iand X21 hx (hb hby at_57) (pc' := 58) rfl (fun v24 hv24 => ?_)
   refine k_if_eq X21 hx (hb hby at_58) (pn := 61) rfl (py := 65) (by decide) (fun hc25 => ?_) (fun hc25 => ?_)
   ·
    refine k_iloadN X21 hx (hb hby at_65) rfl (pc' := 66) rfl ?_
    refine k_ldc X21 hx hZ hown (hw _ (List.mem_of_getElem? (i := 1) rfl)) (hb hby at_66) (pc' := 68) rfl ?_
    refine k_iand X21 hx (hb hby at_68) (pc' := 69) rfl (fun v26 hv26 => ?_)
    refine key22 v26 ?_
    have qm : v26.toInt = i3.toInt % 536870912 := by rw [hv26]; exact c_mask _ _ 29 (by decide) (by decide)
    exact ⟨fun q => by rw [Int32.lt_iff_toInt_lt, show (0 : Int32).toInt = 0 from rfl] at q; omega, fun q => by rw [Int32.lt_iff_toInt_lt, show (536870911 : Int32).toInt = 536870911 from rfl] at q; omega⟩
   ·
    refine k_iconst X21 hx (hb hby at_61) (pc' := 62) rfl (z := (0 : Int32)) rfl ?_
    refine k_goto X21 hx (hb hby at_62) (pc' := 69) (by decide) ?_
    refine key22 (0 : Int32) ?_
    exact ⟨by decide, by decide⟩
  intro v27 hP28
  refine k_iastore X21 hx hZ e21 Vw21 ⟨by decide, by decide⟩ (i := 2) rfl (Nat.le_of_ble_eq_true rfl) (hb hby at_69) (pc' := 70) rfl (fun T29 h29 X29 e29 W29 V29 => ?_)
  have Vw29 : Arv Z h29 b5 k5 .int (4 : Int32) [(.int v11), (.int v19), (.int v27), (.int (0 : Int32))] (.int (0 : Int32)) := V29
  have N29 := Fr.snoc X29 N21 g_b5
  have Z29 : n0 ≤ h29.size := Nat.le_trans Z21 (Nat.le_of_eq W29.size.symm)
  refine k_aload X29 hx (hb hby at_70) rfl rfl (pc' := 72) rfl ?_
  refine k_iconst X29 hx (hb hby at_72) (pc' := 73) rfl (z := (3 : Int32)) rfl ?_
  suffices key30 : ∀ (v35 : Int32), (¬ v35 < 0 ∧ ¬ (536870911 : Int32) < v35) → KEnds p e below s 16 128 (Q0 n0) T29 (mkF m 90 #[.val (.int i0), .val (.int i1), .val (.int i2), .val (.int i3), .val (.int i4), .val (.int (0 : Int32)), .val (.ref b5), .unset, .unset, .unset, .unset, .unset, .unset, .unset, .unset, .unset, .unset, .unset] [(.int v35), (.int (3 : Int32)), (.ref b5)]) by
   refine k_iloadN X29 hx (hb hby at_73) rfl (pc' := 74) rfl ?_
   refine k_iconst X29 hx (hb hby at_74) (pc' := 75) rfl (z := (5 : Int32)) rfl ?_
   refine k_ishr X29 hx (hb hby at_75) (pc' := 76) rfl (fun v31 hv31 => ?_)
   refine k_iconst X29 hx (hb hby at_76) (pc' := 77) rfl (z := (1 : Int32)) rfl ?_
   refine k_iand X29 hx (hb hby at_77) (pc' := 78) rfl (fun v32 hv32 => ?_)
   refine k_if_eq X29 hx (hb hby at_78) (pn := 81) rfl (py := 85) (by decide) (fun hc33 => ?_) (fun hc33 => ?_)
   ·
    refine k_iload X29 hx (hb hby at_85) rfl (pc' := 87) rfl ?_
    refine k_ldc X29 hx hZ hown (hw _ (List.mem_of_getElem? (i := 1) rfl)) (hb hby at_87) (pc' := 89) rfl ?_
    refine k_iand X29 hx (hb hby at_89) (pc' := 90) rfl (fun v34 hv34 => ?_)
    refine key30 v34 ?_
    have qm : v34.toInt = i4.toInt % 536870912 := by rw [hv34]; exact c_mask _ _ 29 (by decide) (by decide)
    exact ⟨fun q => by rw [Int32.lt_iff_toInt_lt, show (0 : Int32).toInt = 0 from rfl] at q; omega, fun q => by rw [Int32.lt_iff_toInt_lt, show (536870911 : Int32).toInt = 536870911 from rfl] at q; omega⟩
   ·
    refine k_iconst X29 hx (hb hby at_81) (pc' := 82) rfl (z := (0 : Int32)) rfl ?_
    refine k_goto X29 hx (hb hby at_82) (pc' := 90) (by decide) ?_
    refine key30 (0 : Int32) ?_
    exact ⟨by decide, by decide⟩
  intro v35 hP36
  refine k_iastore X29 hx hZ e29 Vw29 ⟨by decide, by decide⟩ (i := 3) rfl (Nat.le_of_ble_eq_true rfl) (hb hby at_90) (pc' := 91) rfl (fun T37 h37 X37 e37 W37 V37 => ?_)
  have Vw37 : Arv Z h37 b5 k5 .int (4 : Int32) [(.int v11), (.int v19), (.int v27), (.int v35)] (.int (0 : Int32)) := V37
  have N37 := Fr.snoc X37 N29 g_b5
  have Z37 : n0 ≤ h37.size := Nat.le_trans Z29 (Nat.le_of_eq W37.size.symm)
  refine k_aload X37 hx (hb hby at_91) rfl rfl (pc' := 93) rfl ?_
  refine k_iconst X37 hx (hb hby at_93) (pc' := 94) rfl (z := (0 : Int32)) rfl ?_
  refine k_iaload X37 hx hZ e37 Vw37 ⟨by decide, by decide⟩ (v := (.int v11)) rfl (hb hby at_94) (pc' := 95) rfl ?_
  refine k_istore X37 hx (hb hby at_95) (Ls' := #[.val (.int i0), .val (.int i1), .val (.int i2), .val (.int i3), .val (.int i4), .val (.int (0 : Int32)), .val (.ref b5), .val (.int v11), .unset, .unset, .unset, .unset, .unset, .unset, .unset, .unset, .unset, .unset]) rfl (pc' := 97) rfl ?_
  refine k_iload X37 hx (hb hby at_97) rfl (pc' := 99) rfl ?_
  refine k_iconst X37 hx (hb hby at_99) (pc' := 100) rfl (z := (1 : Int32)) rfl ?_
  refine k_iadd X37 hx (hb hby at_100) (pc' := 101) rfl (fun v38 hv38 => ?_)
  refine k_aload X37 hx (hb hby at_101) rfl rfl (pc' := 103) rfl ?_
  refine k_iconst X37 hx (hb hby at_103) (pc' := 104) rfl (z := (1 : Int32)) rfl ?_
  refine k_iaload X37 hx hZ e37 Vw37 ⟨by decide, by decide⟩ (v := (.int v19)) rfl (hb hby at_104) (pc' := 105) rfl ?_
  refine k_iadd X37 hx (hb hby at_105) (pc' := 106) rfl (fun v39 hv39 => ?_)
  refine k_istore X37 hx (hb hby at_106) (Ls' := #[.val (.int i0), .val (.int i1), .val (.int i2), .val (.int i3), .val (.int i4), .val (.int (0 : Int32)), .val (.ref b5), .val (.int v11), .val (.int v39), .unset, .unset, .unset, .unset, .unset, .unset, .unset, .unset, .unset]) rfl (pc' := 108) rfl ?_
  refine k_iload X37 hx (hb hby at_108) rfl (pc' := 110) rfl ?_
  refine k_iconst X37 hx (hb hby at_110) (pc' := 111) rfl (z := (1 : Int32)) rfl ?_
  refine k_iadd X37 hx (hb hby at_111) (pc' := 112) rfl (fun v40 hv40 => ?_)
  refine k_aload X37 hx (hb hby at_112) rfl rfl (pc' := 114) rfl ?_
  refine k_iconst X37 hx (hb hby at_114) (pc' := 115) rfl (z := (2 : Int32)) rfl ?_
  refine k_iaload X37 hx hZ e37 Vw37 ⟨by decide, by decide⟩ (v := (.int v27)) rfl (hb hby at_115) (pc' := 116) rfl ?_
  refine k_iadd X37 hx (hb hby at_116) (pc' := 117) rfl (fun v41 hv41 => ?_)
  refine k_istore X37 hx (hb hby at_117) (Ls' := #[.val (.int i0), .val (.int i1), .val (.int i2), .val (.int i3), .val (.int i4), .val (.int (0 : Int32)), .val (.ref b5), .val (.int v11), .val (.int v39), .val (.int v41), .unset, .unset, .unset, .unset, .unset, .unset, .unset, .unset]) rfl (pc' := 119) rfl ?_
  refine k_iload X37 hx (hb hby at_119) rfl (pc' := 121) rfl ?_
  refine k_if_ne X37 hx (hb hby at_121) (pn := 124) rfl (py := 133) (by decide) (fun hc => absurd (by decide) hc) (fun _ => ?_)
  refine k_aload X37 hx (hb hby at_124) rfl rfl (pc' := 126) rfl ?_
  refine k_iconst X37 hx (hb hby at_126) (pc' := 127) rfl (z := (0 : Int32)) rfl ?_
  refine k_iaload X37 hx hZ e37 Vw37 ⟨by decide, by decide⟩ (v := (.int v11)) rfl (hb hby at_127) (pc' := 128) rfl ?_
  refine k_istore X37 hx (hb hby at_128) (Ls' := #[.val (.int i0), .val (.int i1), .val (.int i2), .val (.int i3), .val (.int i4), .val (.int (0 : Int32)), .val (.ref b5), .val (.int v11), .val (.int v39), .val (.int v41), .val (.int v11), .unset, .unset, .unset, .unset, .unset, .unset, .unset]) rfl (pc' := 130) rfl ?_
  refine k_goto X37 hx (hb hby at_130) (pc' := 184) (by decide) ?_
  refine k_iload X37 hx (hb hby at_184) rfl (pc' := 186) rfl ?_
  refine k_iload X37 hx (hb hby at_186) rfl (pc' := 188) rfl ?_
  refine k_iload X37 hx (hb hby at_188) rfl (pc' := 190) rfl ?_
  refine k_iload X37 hx (hb hby at_190) rfl (pc' := 192) rfl ?_
  refine k_callS X37 hx hZ hown (hw _ (List.mem_of_getElem? (i := 2) rfl)) (hw _ (List.mem_of_getElem? (i := 3) rfl)) (hw _ (List.mem_of_getElem? (i := 4) rfl)) (hw _ (List.mem_of_getElem? (i := 5) rfl)) (by decide) (rm1_42 l Z a0 hw [] v11 v39 v41 b5 k5 v19 v27 v35 h37 n0 Z37 Vw37 g_b5) (by decide) (by decide) e37 (by rw [hml]; rfl) (argsL := [(.int (0 : Int32)), (.int v11), (.int v39), (.int v41)]) (rest := []) (lenOf pd_0 rfl) rfl (W := 0) (Nat.le_refl _) rfl (hb hby at_192) (by decide) (by decide) (pc' := 195) rfl (fun T45 L45 r45 X45 q45 => ?_)
  obtain ⟨N45, q45⟩ := q45
  have N45' := Fr.app N37 N45
  obtain ⟨b46, k47, rfl, F48, F49, g_b46, lt50, Z51⟩ := q45
  show KEnds p e below s _ _ _ T45 (mkF m 195 #[.val (.int i0), .val (.int i1), .val (.int i2), .val (.int i3), .val (.int i4), .val (.int (0 : Int32)), .val (.ref b5), .val (.int v11), .val (.int v39), .val (.int v41), .val (.int v11), .unset, .unset, .unset, .unset, .unset, .unset, .unset] [(.ref b46)])
  refine k_astore X45 hx (hb hby at_195) rfl (Ls' := #[.val (.int i0), .val (.int i1), .val (.int i2), .val (.int i3), .val (.int i4), .val (.int (0 : Int32)), .val (.ref b5), .val (.int v11), .val (.int v39), .val (.int v41), .val (.int v11), .val (.ref b46), .unset, .unset, .unset, .unset, .unset, .unset]) rfl (pc' := 197) rfl ?_
  refine k_aload X45 hx (hb hby at_197) rfl rfl (pc' := 199) rfl ?_
  refine k_iload X45 hx (hb hby at_199) rfl (pc' := 201) rfl ?_
  refine k_callS X45 hx hZ hown (hw _ (List.mem_of_getElem? (i := 6) rfl)) (hw _ (List.mem_of_getElem? (i := 7) rfl)) (hw _ (List.mem_of_getElem? (i := 8) rfl)) (hw _ (List.mem_of_getElem? (i := 9) rfl)) (by decide) (rm2_52 l Z a0 hw [] b46 v11 b5 k5 v19 v27 v35 k47 T45.heap n0 Z51 F48 g_b5 F49 g_b46 lt50) (by decide) (by decide) rfl (by rw [hml]; rfl) (argsL := [(.ref b46), (.int v11)]) (rest := []) (lenOf pd_1 rfl) rfl (W := 0) (Nat.le_refl _) rfl (hb hby at_201) (by decide) (by decide) (pc' := 204) rfl (fun T53 L53 r53 X53 q53 => ?_)
  obtain ⟨N53, q53⟩ := q53
  have N53' := Fr.app N45' N53
  obtain ⟨rfl, F54, F55, Z56⟩ := q53
  show KEnds p e below s _ _ _ T53 (mkF m 204 #[.val (.int i0), .val (.int i1), .val (.int i2), .val (.int i3), .val (.int i4), .val (.int (0 : Int32)), .val (.ref b5), .val (.int v11), .val (.int v39), .val (.int v41), .val (.int v11), .val (.ref b46), .unset, .unset, .unset, .unset, .unset, .unset] [(.int (0 : Int32))])
  refine k_istore X53 hx (hb hby at_204) (Ls' := #[.val (.int i0), .val (.int i1), .val (.int i2), .val (.int i3), .val (.int i4), .val (.int (0 : Int32)), .val (.ref b5), .val (.int v11), .val (.int v39), .val (.int v41), .val (.int v11), .val (.ref b46), .val (.int (0 : Int32)), .unset, .unset, .unset, .unset, .unset]) rfl (pc' := 206) rfl ?_
  refine k_iload X53 hx (hb hby at_206) rfl (pc' := 208) rfl ?_
  refine k_iconst X53 hx (hb hby at_208) (pc' := 209) rfl (z := (3 : Int32)) rfl ?_
  refine k_icmp_lt X53 hx (hb hby at_209) (pn := 212) rfl (py := 225) (by decide) (fun _ => ?_) (fun hc => absurd (by decide) hc)
  refine k_iload X53 hx (hb hby at_225) rfl (pc' := 227) rfl ?_
  refine k_iconst X53 hx (hb hby at_227) (pc' := 228) rfl (z := (2 : Int32)) rfl ?_
  refine k_icmp_lt X53 hx (hb hby at_228) (pn := 231) rfl (py := 244) (by decide) (fun _ => ?_) (fun hc => absurd (by decide) hc)
  refine k_iload X53 hx (hb hby at_244) rfl (pc' := 246) rfl ?_
  refine k_iconst X53 hx (hb hby at_246) (pc' := 247) rfl (z := (1 : Int32)) rfl ?_
  refine k_icmp_lt X53 hx (hb hby at_247) (pn := 250) rfl (py := 263) (by decide) (fun _ => ?_) (fun hc => absurd (by decide) hc)
  refine k_iconst X53 hx (hb hby at_263) (pc' := 264) rfl (z := (0 : Int32)) rfl ?_
  refine k_istore X53 hx (hb hby at_264) (Ls' := #[.val (.int i0), .val (.int i1), .val (.int i2), .val (.int i3), .val (.int i4), .val (.int (0 : Int32)), .val (.ref b5), .val (.int v11), .val (.int v39), .val (.int v41), .val (.int v11), .val (.ref b46), .val (.int (0 : Int32)), .val (.int (0 : Int32)), .unset, .unset, .unset, .unset]) rfl (pc' := 266) rfl ?_
  refine k_iload X53 hx (hb hby at_266) rfl (pc' := 268) rfl ?_
  refine k_if_ne X53 hx (hb hby at_268) (pn := 271) rfl (py := 298) (by decide) (fun hc => absurd (by decide) hc) (fun _ => ?_)
  refine k_iload X53 hx (hb hby at_271) rfl (pc' := 273) rfl ?_
  refine k_if_ne X53 hx (hb hby at_273) (pn := 276) rfl (py := 296) (by decide) (fun hc => absurd (by decide) hc) (fun _ => ?_)
  refine k_aload X53 hx (hb hby at_276) rfl rfl (pc' := 278) rfl ?_
  refine k_iload X53 hx (hb hby at_278) rfl (pc' := 280) rfl ?_
  refine k_iload X53 hx (hb hby at_280) rfl (pc' := 282) rfl ?_
  refine k_iload X53 hx (hb hby at_282) rfl (pc' := 284) rfl ?_
  refine k_iload X53 hx (hb hby at_284) rfl (pc' := 286) rfl ?_
  refine k_callS X53 hx hZ hown (hw _ (List.mem_of_getElem? (i := 10) rfl)) (hw _ (List.mem_of_getElem? (i := 11) rfl)) (hw _ (List.mem_of_getElem? (i := 4) rfl)) (hw _ (List.mem_of_getElem? (i := 12) rfl)) (by decide) (rm3_57 l Z a0 hw [] b46 v11 v39 v41 k47 T53.heap n0 Z56 F55) (by decide) (by decide) rfl (by rw [hml]; rfl) (argsL := [(.ref b46), (.int (0 : Int32)), (.int v11), (.int v39), (.int v41)]) (rest := []) (lenOf pd_2 rfl) rfl (W := 0) (Nat.le_refl _) rfl (hb hby at_286) (by decide) (by decide) (pc' := 289) rfl (fun T58 L58 r58 X58 q58 => ?_)
  obtain ⟨N58, e58, q58⟩ := q58
  have N58' := Fr.app N53' N58
  obtain rfl := q58
  show KEnds p e below s _ _ _ T58 (mkF m 289 #[.val (.int i0), .val (.int i1), .val (.int i2), .val (.int i3), .val (.int i4), .val (.int (0 : Int32)), .val (.ref b5), .val (.int v11), .val (.int v39), .val (.int v41), .val (.int v11), .val (.ref b46), .val (.int (0 : Int32)), .val (.int (0 : Int32)), .unset, .unset, .unset, .unset] [(.int (1 : Int32))])
  refine k_if_eq X58 hx (hb hby at_289) (pn := 292) rfl (py := 296) (by decide) (fun hc => absurd hc (by decide)) (fun _ => ?_)
  refine k_iconst X58 hx (hb hby at_292) (pc' := 293) rfl (z := (1 : Int32)) rfl ?_
  refine k_goto X58 hx (hb hby at_293) (pc' := 297) (by decide) ?_
  exact k_retN X58 hx (t := .boolean) Bd.returns (by simp) (hb hby at_297) hlk (by decide) (by decide) (z' := (1 : Int32)) rfl ⟨rfl, N58'⟩
 ·
  show KEnds p e below s _ _ _ s₁ (mkF m 3 #[.val (.int i0), .val (.int i1), .val (.int i2), .val (.int i3), .val (.int i4), .unset, .unset, .unset, .unset, .unset, .unset, .unset, .unset, .unset, .unset, .unset, .unset, .unset] [(.int (1 : Int32))])
  refine k_istore X0 hx (hb hby at_3) (Ls' := #[.val (.int i0), .val (.int i1), .val (.int i2), .val (.int i3), .val (.int i4), .val (.int (1 : Int32)), .unset, .unset, .unset, .unset, .unset, .unset, .unset, .unset, .unset, .unset, .unset, .unset]) rfl (pc' := 5) rfl ?_
  refine k_iconst X0 hx (hb hby at_5) (pc' := 6) rfl (z := (4 : Int32)) rfl ?_
  refine k_newA X0 hx hZ (hw _ (List.mem_of_getElem? (i := 0) rfl)) e0 (hb hby at_6) (by decide) (cap := 4) (by decide) (by decide) (by decide) (by decide) (pc' := 8) rfl (fun T60 h60 b60 k60 g60 X60 e60 E60 V60 => ?_)
  have g_b60 : n0 ≤ b60 := Nat.le_trans Z0 (Nat.le_of_eq g60.symm)
  have Z60 : n0 ≤ h60.size := Nat.le_trans Z0 E60.1
  have Vw60 : Arv Z h60 b60 k60 .int (4 : Int32) [(.int (0 : Int32)), (.int (0 : Int32)), (.int (0 : Int32)), (.int (0 : Int32))] (.int (0 : Int32)) := V60
  refine k_astore X60 hx (hb hby at_8) rfl (Ls' := #[.val (.int i0), .val (.int i1), .val (.int i2), .val (.int i3), .val (.int i4), .val (.int (1 : Int32)), .val (.ref b60), .unset, .unset, .unset, .unset, .unset, .unset, .unset, .unset, .unset, .unset, .unset]) rfl (pc' := 10) rfl ?_
  refine k_aload X60 hx (hb hby at_10) rfl rfl (pc' := 12) rfl ?_
  refine k_iconst X60 hx (hb hby at_12) (pc' := 13) rfl (z := (0 : Int32)) rfl ?_
  suffices key61 : ∀ (v66 : Int32), (¬ v66 < 0 ∧ ¬ (536870911 : Int32) < v66) → KEnds p e below s 16 128 (Q0 n0) T60 (mkF m 29 #[.val (.int i0), .val (.int i1), .val (.int i2), .val (.int i3), .val (.int i4), .val (.int (1 : Int32)), .val (.ref b60), .unset, .unset, .unset, .unset, .unset, .unset, .unset, .unset, .unset, .unset, .unset] [(.int v66), (.int (0 : Int32)), (.ref b60)]) by
   refine k_iloadN X60 hx (hb hby at_13) rfl (pc' := 14) rfl ?_
   refine k_iconst X60 hx (hb hby at_14) (pc' := 15) rfl (z := (2 : Int32)) rfl ?_
   refine k_ishr X60 hx (hb hby at_15) (pc' := 16) rfl (fun v62 hv62 => ?_)
   refine k_iconst X60 hx (hb hby at_16) (pc' := 17) rfl (z := (1 : Int32)) rfl ?_
   refine k_iand X60 hx (hb hby at_17) (pc' := 18) rfl (fun v63 hv63 => ?_)
   refine k_if_eq X60 hx (hb hby at_18) (pn := 21) rfl (py := 25) (by decide) (fun hc64 => ?_) (fun hc64 => ?_)
   ·
    refine k_iloadN X60 hx (hb hby at_25) rfl (pc' := 26) rfl ?_
    refine k_ldc X60 hx hZ hown (hw _ (List.mem_of_getElem? (i := 1) rfl)) (hb hby at_26) (pc' := 28) rfl ?_
    refine k_iand X60 hx (hb hby at_28) (pc' := 29) rfl (fun v65 hv65 => ?_)
    refine key61 v65 ?_
    have qm : v65.toInt = i1.toInt % 536870912 := by rw [hv65]; exact c_mask _ _ 29 (by decide) (by decide)
    exact ⟨fun q => by rw [Int32.lt_iff_toInt_lt, show (0 : Int32).toInt = 0 from rfl] at q; omega, fun q => by rw [Int32.lt_iff_toInt_lt, show (536870911 : Int32).toInt = 536870911 from rfl] at q; omega⟩
   ·
    refine k_iconst X60 hx (hb hby at_21) (pc' := 22) rfl (z := (0 : Int32)) rfl ?_
    refine k_goto X60 hx (hb hby at_22) (pc' := 29) (by decide) ?_
    refine key61 (0 : Int32) ?_
    exact ⟨by decide, by decide⟩
  intro v66 hP67
  refine k_iastore X60 hx hZ e60 Vw60 ⟨by decide, by decide⟩ (i := 0) rfl (Nat.le_of_ble_eq_true rfl) (hb hby at_29) (pc' := 30) rfl (fun T68 h68 X68 e68 W68 V68 => ?_)
  have Vw68 : Arv Z h68 b60 k60 .int (4 : Int32) [(.int v66), (.int (0 : Int32)), (.int (0 : Int32)), (.int (0 : Int32))] (.int (0 : Int32)) := V68
  have N68 := Fr.snoc X68 N0 g_b60
  have Z68 : n0 ≤ h68.size := Nat.le_trans Z60 (Nat.le_of_eq W68.size.symm)
  refine k_aload X68 hx (hb hby at_30) rfl rfl (pc' := 32) rfl ?_
  refine k_iconst X68 hx (hb hby at_32) (pc' := 33) rfl (z := (1 : Int32)) rfl ?_
  suffices key69 : ∀ (v74 : Int32), (¬ v74 < 0 ∧ ¬ (536870911 : Int32) < v74) → KEnds p e below s 16 128 (Q0 n0) T68 (mkF m 49 #[.val (.int i0), .val (.int i1), .val (.int i2), .val (.int i3), .val (.int i4), .val (.int (1 : Int32)), .val (.ref b60), .unset, .unset, .unset, .unset, .unset, .unset, .unset, .unset, .unset, .unset, .unset] [(.int v74), (.int (1 : Int32)), (.ref b60)]) by
   refine k_iloadN X68 hx (hb hby at_33) rfl (pc' := 34) rfl ?_
   refine k_iconst X68 hx (hb hby at_34) (pc' := 35) rfl (z := (3 : Int32)) rfl ?_
   refine k_ishr X68 hx (hb hby at_35) (pc' := 36) rfl (fun v70 hv70 => ?_)
   refine k_iconst X68 hx (hb hby at_36) (pc' := 37) rfl (z := (1 : Int32)) rfl ?_
   refine k_iand X68 hx (hb hby at_37) (pc' := 38) rfl (fun v71 hv71 => ?_)
   refine k_if_eq X68 hx (hb hby at_38) (pn := 41) rfl (py := 45) (by decide) (fun hc72 => ?_) (fun hc72 => ?_)
   ·
    refine k_iloadN X68 hx (hb hby at_45) rfl (pc' := 46) rfl ?_
    refine k_ldc X68 hx hZ hown (hw _ (List.mem_of_getElem? (i := 1) rfl)) (hb hby at_46) (pc' := 48) rfl ?_
    refine k_iand X68 hx (hb hby at_48) (pc' := 49) rfl (fun v73 hv73 => ?_)
    refine key69 v73 ?_
    have qm : v73.toInt = i2.toInt % 536870912 := by rw [hv73]; exact c_mask _ _ 29 (by decide) (by decide)
    exact ⟨fun q => by rw [Int32.lt_iff_toInt_lt, show (0 : Int32).toInt = 0 from rfl] at q; omega, fun q => by rw [Int32.lt_iff_toInt_lt, show (536870911 : Int32).toInt = 536870911 from rfl] at q; omega⟩
   ·
    refine k_iconst X68 hx (hb hby at_41) (pc' := 42) rfl (z := (0 : Int32)) rfl ?_
    refine k_goto X68 hx (hb hby at_42) (pc' := 49) (by decide) ?_
    refine key69 (0 : Int32) ?_
    exact ⟨by decide, by decide⟩
  intro v74 hP75
  refine k_iastore X68 hx hZ e68 Vw68 ⟨by decide, by decide⟩ (i := 1) rfl (Nat.le_of_ble_eq_true rfl) (hb hby at_49) (pc' := 50) rfl (fun T76 h76 X76 e76 W76 V76 => ?_)
  have Vw76 : Arv Z h76 b60 k60 .int (4 : Int32) [(.int v66), (.int v74), (.int (0 : Int32)), (.int (0 : Int32))] (.int (0 : Int32)) := V76
  have N76 := Fr.snoc X76 N68 g_b60
  have Z76 : n0 ≤ h76.size := Nat.le_trans Z68 (Nat.le_of_eq W76.size.symm)
  refine k_aload X76 hx (hb hby at_50) rfl rfl (pc' := 52) rfl ?_
  refine k_iconst X76 hx (hb hby at_52) (pc' := 53) rfl (z := (2 : Int32)) rfl ?_
  suffices key77 : ∀ (v82 : Int32), (¬ v82 < 0 ∧ ¬ (536870911 : Int32) < v82) → KEnds p e below s 16 128 (Q0 n0) T76 (mkF m 69 #[.val (.int i0), .val (.int i1), .val (.int i2), .val (.int i3), .val (.int i4), .val (.int (1 : Int32)), .val (.ref b60), .unset, .unset, .unset, .unset, .unset, .unset, .unset, .unset, .unset, .unset, .unset] [(.int v82), (.int (2 : Int32)), (.ref b60)]) by
   refine k_iloadN X76 hx (hb hby at_53) rfl (pc' := 54) rfl ?_
   refine k_iconst X76 hx (hb hby at_54) (pc' := 55) rfl (z := (4 : Int32)) rfl ?_
   refine k_ishr X76 hx (hb hby at_55) (pc' := 56) rfl (fun v78 hv78 => ?_)
   refine k_iconst X76 hx (hb hby at_56) (pc' := 57) rfl (z := (1 : Int32)) rfl ?_
   refine k_iand X76 hx (hb hby at_57) (pc' := 58) rfl (fun v79 hv79 => ?_)
   refine k_if_eq X76 hx (hb hby at_58) (pn := 61) rfl (py := 65) (by decide) (fun hc80 => ?_) (fun hc80 => ?_)
   ·
    refine k_iloadN X76 hx (hb hby at_65) rfl (pc' := 66) rfl ?_
    refine k_ldc X76 hx hZ hown (hw _ (List.mem_of_getElem? (i := 1) rfl)) (hb hby at_66) (pc' := 68) rfl ?_
    refine k_iand X76 hx (hb hby at_68) (pc' := 69) rfl (fun v81 hv81 => ?_)
    refine key77 v81 ?_
    have qm : v81.toInt = i3.toInt % 536870912 := by rw [hv81]; exact c_mask _ _ 29 (by decide) (by decide)
    exact ⟨fun q => by rw [Int32.lt_iff_toInt_lt, show (0 : Int32).toInt = 0 from rfl] at q; omega, fun q => by rw [Int32.lt_iff_toInt_lt, show (536870911 : Int32).toInt = 536870911 from rfl] at q; omega⟩
   ·
    refine k_iconst X76 hx (hb hby at_61) (pc' := 62) rfl (z := (0 : Int32)) rfl ?_
    refine k_goto X76 hx (hb hby at_62) (pc' := 69) (by decide) ?_
    refine key77 (0 : Int32) ?_
    exact ⟨by decide, by decide⟩
  intro v82 hP83
  refine k_iastore X76 hx hZ e76 Vw76 ⟨by decide, by decide⟩ (i := 2) rfl (Nat.le_of_ble_eq_true rfl) (hb hby at_69) (pc' := 70) rfl (fun T84 h84 X84 e84 W84 V84 => ?_)
  have Vw84 : Arv Z h84 b60 k60 .int (4 : Int32) [(.int v66), (.int v74), (.int v82), (.int (0 : Int32))] (.int (0 : Int32)) := V84
  have N84 := Fr.snoc X84 N76 g_b60
  have Z84 : n0 ≤ h84.size := Nat.le_trans Z76 (Nat.le_of_eq W84.size.symm)
  refine k_aload X84 hx (hb hby at_70) rfl rfl (pc' := 72) rfl ?_
  refine k_iconst X84 hx (hb hby at_72) (pc' := 73) rfl (z := (3 : Int32)) rfl ?_
  suffices key85 : ∀ (v90 : Int32), (¬ v90 < 0 ∧ ¬ (536870911 : Int32) < v90) → KEnds p e below s 16 128 (Q0 n0) T84 (mkF m 90 #[.val (.int i0), .val (.int i1), .val (.int i2), .val (.int i3), .val (.int i4), .val (.int (1 : Int32)), .val (.ref b60), .unset, .unset, .unset, .unset, .unset, .unset, .unset, .unset, .unset, .unset, .unset] [(.int v90), (.int (3 : Int32)), (.ref b60)]) by
   refine k_iloadN X84 hx (hb hby at_73) rfl (pc' := 74) rfl ?_
   refine k_iconst X84 hx (hb hby at_74) (pc' := 75) rfl (z := (5 : Int32)) rfl ?_
   refine k_ishr X84 hx (hb hby at_75) (pc' := 76) rfl (fun v86 hv86 => ?_)
   refine k_iconst X84 hx (hb hby at_76) (pc' := 77) rfl (z := (1 : Int32)) rfl ?_
   refine k_iand X84 hx (hb hby at_77) (pc' := 78) rfl (fun v87 hv87 => ?_)
   refine k_if_eq X84 hx (hb hby at_78) (pn := 81) rfl (py := 85) (by decide) (fun hc88 => ?_) (fun hc88 => ?_)
   ·
    refine k_iload X84 hx (hb hby at_85) rfl (pc' := 87) rfl ?_
    refine k_ldc X84 hx hZ hown (hw _ (List.mem_of_getElem? (i := 1) rfl)) (hb hby at_87) (pc' := 89) rfl ?_
    refine k_iand X84 hx (hb hby at_89) (pc' := 90) rfl (fun v89 hv89 => ?_)
    refine key85 v89 ?_
    have qm : v89.toInt = i4.toInt % 536870912 := by rw [hv89]; exact c_mask _ _ 29 (by decide) (by decide)
    exact ⟨fun q => by rw [Int32.lt_iff_toInt_lt, show (0 : Int32).toInt = 0 from rfl] at q; omega, fun q => by rw [Int32.lt_iff_toInt_lt, show (536870911 : Int32).toInt = 536870911 from rfl] at q; omega⟩
   ·
    refine k_iconst X84 hx (hb hby at_81) (pc' := 82) rfl (z := (0 : Int32)) rfl ?_
    refine k_goto X84 hx (hb hby at_82) (pc' := 90) (by decide) ?_
    refine key85 (0 : Int32) ?_
    exact ⟨by decide, by decide⟩
  intro v90 hP91
  refine k_iastore X84 hx hZ e84 Vw84 ⟨by decide, by decide⟩ (i := 3) rfl (Nat.le_of_ble_eq_true rfl) (hb hby at_90) (pc' := 91) rfl (fun T92 h92 X92 e92 W92 V92 => ?_)
  have Vw92 : Arv Z h92 b60 k60 .int (4 : Int32) [(.int v66), (.int v74), (.int v82), (.int v90)] (.int (0 : Int32)) := V92
  have N92 := Fr.snoc X92 N84 g_b60
  have Z92 : n0 ≤ h92.size := Nat.le_trans Z84 (Nat.le_of_eq W92.size.symm)
  refine k_aload X92 hx (hb hby at_91) rfl rfl (pc' := 93) rfl ?_
  refine k_iconst X92 hx (hb hby at_93) (pc' := 94) rfl (z := (0 : Int32)) rfl ?_
  refine k_iaload X92 hx hZ e92 Vw92 ⟨by decide, by decide⟩ (v := (.int v66)) rfl (hb hby at_94) (pc' := 95) rfl ?_
  refine k_istore X92 hx (hb hby at_95) (Ls' := #[.val (.int i0), .val (.int i1), .val (.int i2), .val (.int i3), .val (.int i4), .val (.int (1 : Int32)), .val (.ref b60), .val (.int v66), .unset, .unset, .unset, .unset, .unset, .unset, .unset, .unset, .unset, .unset]) rfl (pc' := 97) rfl ?_
  refine k_iload X92 hx (hb hby at_97) rfl (pc' := 99) rfl ?_
  refine k_iconst X92 hx (hb hby at_99) (pc' := 100) rfl (z := (1 : Int32)) rfl ?_
  refine k_iadd X92 hx (hb hby at_100) (pc' := 101) rfl (fun v93 hv93 => ?_)
  refine k_aload X92 hx (hb hby at_101) rfl rfl (pc' := 103) rfl ?_
  refine k_iconst X92 hx (hb hby at_103) (pc' := 104) rfl (z := (1 : Int32)) rfl ?_
  refine k_iaload X92 hx hZ e92 Vw92 ⟨by decide, by decide⟩ (v := (.int v74)) rfl (hb hby at_104) (pc' := 105) rfl ?_
  refine k_iadd X92 hx (hb hby at_105) (pc' := 106) rfl (fun v94 hv94 => ?_)
  refine k_istore X92 hx (hb hby at_106) (Ls' := #[.val (.int i0), .val (.int i1), .val (.int i2), .val (.int i3), .val (.int i4), .val (.int (1 : Int32)), .val (.ref b60), .val (.int v66), .val (.int v94), .unset, .unset, .unset, .unset, .unset, .unset, .unset, .unset, .unset]) rfl (pc' := 108) rfl ?_
  refine k_iload X92 hx (hb hby at_108) rfl (pc' := 110) rfl ?_
  refine k_iconst X92 hx (hb hby at_110) (pc' := 111) rfl (z := (1 : Int32)) rfl ?_
  refine k_iadd X92 hx (hb hby at_111) (pc' := 112) rfl (fun v95 hv95 => ?_)
  refine k_aload X92 hx (hb hby at_112) rfl rfl (pc' := 114) rfl ?_
  refine k_iconst X92 hx (hb hby at_114) (pc' := 115) rfl (z := (2 : Int32)) rfl ?_
  refine k_iaload X92 hx hZ e92 Vw92 ⟨by decide, by decide⟩ (v := (.int v82)) rfl (hb hby at_115) (pc' := 116) rfl ?_
  refine k_iadd X92 hx (hb hby at_116) (pc' := 117) rfl (fun v96 hv96 => ?_)
  refine k_istore X92 hx (hb hby at_117) (Ls' := #[.val (.int i0), .val (.int i1), .val (.int i2), .val (.int i3), .val (.int i4), .val (.int (1 : Int32)), .val (.ref b60), .val (.int v66), .val (.int v94), .val (.int v96), .unset, .unset, .unset, .unset, .unset, .unset, .unset, .unset]) rfl (pc' := 119) rfl ?_
  refine k_iload X92 hx (hb hby at_119) rfl (pc' := 121) rfl ?_
  refine k_if_ne X92 hx (hb hby at_121) (pn := 124) rfl (py := 133) (by decide) (fun _ => ?_) (fun hc => absurd hc (by decide))
  refine k_iload X92 hx (hb hby at_133) rfl (pc' := 135) rfl ?_
  refine k_iconst X92 hx (hb hby at_135) (pc' := 136) rfl (z := (1 : Int32)) rfl ?_
  refine k_icmp_ne X92 hx (hb hby at_136) (pn := 139) rfl (py := 153) (by decide) (fun hc => absurd (by decide) hc) (fun _ => ?_)
  refine k_iload X92 hx (hb hby at_139) rfl (pc' := 141) rfl ?_
  refine k_iconst X92 hx (hb hby at_141) (pc' := 142) rfl (z := (1 : Int32)) rfl ?_
  refine k_iaddL X92 hx (hb hby at_142) (pc' := 143) rfl (z := v93) hv93.symm ?_
  refine k_aload X92 hx (hb hby at_143) rfl rfl (pc' := 145) rfl ?_
  refine k_iconst X92 hx (hb hby at_145) (pc' := 146) rfl (z := (1 : Int32)) rfl ?_
  refine k_iaload X92 hx hZ e92 Vw92 ⟨by decide, by decide⟩ (v := (.int v74)) rfl (hb hby at_146) (pc' := 147) rfl ?_
  refine k_iaddL X92 hx (hb hby at_147) (pc' := 148) rfl (z := v94) hv94.symm ?_
  refine k_istore X92 hx (hb hby at_148) (Ls' := #[.val (.int i0), .val (.int i1), .val (.int i2), .val (.int i3), .val (.int i4), .val (.int (1 : Int32)), .val (.ref b60), .val (.int v66), .val (.int v94), .val (.int v96), .val (.int v94), .unset, .unset, .unset, .unset, .unset, .unset, .unset]) rfl (pc' := 150) rfl ?_
  refine k_goto X92 hx (hb hby at_150) (pc' := 184) (by decide) ?_
  refine k_iload X92 hx (hb hby at_184) rfl (pc' := 186) rfl ?_
  refine k_iload X92 hx (hb hby at_186) rfl (pc' := 188) rfl ?_
  refine k_iload X92 hx (hb hby at_188) rfl (pc' := 190) rfl ?_
  refine k_iload X92 hx (hb hby at_190) rfl (pc' := 192) rfl ?_
  refine k_callS X92 hx hZ hown (hw _ (List.mem_of_getElem? (i := 2) rfl)) (hw _ (List.mem_of_getElem? (i := 3) rfl)) (hw _ (List.mem_of_getElem? (i := 4) rfl)) (hw _ (List.mem_of_getElem? (i := 5) rfl)) (by decide) (rm1_97 l Z a0 hw [] v66 v94 v96 b60 k60 v74 v82 v90 h92 n0 Z92 Vw92 g_b60) (by decide) (by decide) e92 (by rw [hml]; rfl) (argsL := [(.int (1 : Int32)), (.int v66), (.int v94), (.int v96)]) (rest := []) (lenOf pd_0 rfl) rfl (W := 0) (Nat.le_refl _) rfl (hb hby at_192) (by decide) (by decide) (pc' := 195) rfl (fun T101 L101 r101 X101 q101 => ?_)
  obtain ⟨N101, q101⟩ := q101
  have N101' := Fr.app N92 N101
  obtain ⟨b102, k103, rfl, F104, F105, g_b102, lt106, Z107⟩ := q101
  show KEnds p e below s _ _ _ T101 (mkF m 195 #[.val (.int i0), .val (.int i1), .val (.int i2), .val (.int i3), .val (.int i4), .val (.int (1 : Int32)), .val (.ref b60), .val (.int v66), .val (.int v94), .val (.int v96), .val (.int v94), .unset, .unset, .unset, .unset, .unset, .unset, .unset] [(.ref b102)])
  refine k_astore X101 hx (hb hby at_195) rfl (Ls' := #[.val (.int i0), .val (.int i1), .val (.int i2), .val (.int i3), .val (.int i4), .val (.int (1 : Int32)), .val (.ref b60), .val (.int v66), .val (.int v94), .val (.int v96), .val (.int v94), .val (.ref b102), .unset, .unset, .unset, .unset, .unset, .unset]) rfl (pc' := 197) rfl ?_
  refine k_aload X101 hx (hb hby at_197) rfl rfl (pc' := 199) rfl ?_
  refine k_iload X101 hx (hb hby at_199) rfl (pc' := 201) rfl ?_
  refine k_callS X101 hx hZ hown (hw _ (List.mem_of_getElem? (i := 6) rfl)) (hw _ (List.mem_of_getElem? (i := 7) rfl)) (hw _ (List.mem_of_getElem? (i := 8) rfl)) (hw _ (List.mem_of_getElem? (i := 9) rfl)) (by decide) (rm2_108 l Z a0 hw [] b102 v94 b60 k60 v66 v74 v82 v90 k103 T101.heap n0 Z107 F104 g_b60 F105 g_b102 lt106) (by decide) (by decide) rfl (by rw [hml]; rfl) (argsL := [(.ref b102), (.int v94)]) (rest := []) (lenOf pd_1 rfl) rfl (W := 0) (Nat.le_refl _) rfl (hb hby at_201) (by decide) (by decide) (pc' := 204) rfl (fun T114 L114 r114 X114 q114 => ?_)
  obtain ⟨N114, q114⟩ := q114
  have N114' := Fr.app N101' N114
  rcases q114 with ⟨v115, v116, h117, h118, hc119, rfl, F120, F121, Z122⟩ | ⟨v123, h124, hc125, rfl, F126, F127, Z128⟩
  ·
   have hh129 : v93 = v116 := hv93.trans h118.symm
   subst hh129
   show KEnds p e below s _ _ _ T114 (mkF m 204 #[.val (.int i0), .val (.int i1), .val (.int i2), .val (.int i3), .val (.int i4), .val (.int (1 : Int32)), .val (.ref b60), .val (.int v66), .val (.int v94), .val (.int v96), .val (.int v94), .val (.ref b102), .unset, .unset, .unset, .unset, .unset, .unset] [(.int (1 : Int32))])
   refine k_istore X114 hx (hb hby at_204) (Ls' := #[.val (.int i0), .val (.int i1), .val (.int i2), .val (.int i3), .val (.int i4), .val (.int (1 : Int32)), .val (.ref b60), .val (.int v66), .val (.int v94), .val (.int v96), .val (.int v94), .val (.ref b102), .val (.int (1 : Int32)), .unset, .unset, .unset, .unset, .unset]) rfl (pc' := 206) rfl ?_
   refine k_iload X114 hx (hb hby at_206) rfl (pc' := 208) rfl ?_
   refine k_iconst X114 hx (hb hby at_208) (pc' := 209) rfl (z := (3 : Int32)) rfl ?_
   refine k_icmp_lt X114 hx (hb hby at_209) (pn := 212) rfl (py := 225) (by decide) (fun _ => ?_) (fun hc => absurd (by decide) hc)
   refine k_iload X114 hx (hb hby at_225) rfl (pc' := 227) rfl ?_
   refine k_iconst X114 hx (hb hby at_227) (pc' := 228) rfl (z := (2 : Int32)) rfl ?_
   refine k_icmp_lt X114 hx (hb hby at_228) (pn := 231) rfl (py := 244) (by decide) (fun _ => ?_) (fun hc => absurd (by decide) hc)
   refine k_iload X114 hx (hb hby at_244) rfl (pc' := 246) rfl ?_
   refine k_iconst X114 hx (hb hby at_246) (pc' := 247) rfl (z := (1 : Int32)) rfl ?_
   refine k_icmp_lt X114 hx (hb hby at_247) (pn := 250) rfl (py := 263) (by decide) (fun hc => absurd hc (by decide)) (fun _ => ?_)
   refine k_aload X114 hx (hb hby at_250) rfl rfl (pc' := 252) rfl ?_
   refine k_iconst X114 hx (hb hby at_252) (pc' := 253) rfl (z := (1 : Int32)) rfl ?_
   refine k_iaload X114 hx hZ rfl F120 ⟨by decide, by decide⟩ (v := (.int v74)) rfl (hb hby at_253) (pc' := 254) rfl ?_
   refine k_if_eq X114 hx (hb hby at_254) (pn := 257) rfl (py := 263) (by decide) (fun hc130 => ?_) (fun hc130 => ?_)
   ·
    refine k_iconst X114 hx (hb hby at_263) (pc' := 264) rfl (z := (0 : Int32)) rfl ?_
    refine k_istore X114 hx (hb hby at_264) (Ls' := #[.val (.int i0), .val (.int i1), .val (.int i2), .val (.int i3), .val (.int i4), .val (.int (1 : Int32)), .val (.ref b60), .val (.int v66), .val (.int v94), .val (.int v96), .val (.int v94), .val (.ref b102), .val (.int (1 : Int32)), .val (.int (0 : Int32)), .unset, .unset, .unset, .unset]) rfl (pc' := 266) rfl ?_
    refine k_iload X114 hx (hb hby at_266) rfl (pc' := 268) rfl ?_
    refine k_if_ne X114 hx (hb hby at_268) (pn := 271) rfl (py := 298) (by decide) (fun hc => absurd (by decide) hc) (fun _ => ?_)
    refine k_iload X114 hx (hb hby at_271) rfl (pc' := 273) rfl ?_
    refine k_if_ne X114 hx (hb hby at_273) (pn := 276) rfl (py := 296) (by decide) (fun _ => ?_) (fun hc => absurd hc (by decide))
    refine k_iconst X114 hx (hb hby at_296) (pc' := 297) rfl (z := (0 : Int32)) rfl ?_
    exfalso
    have := rng32 v66
    have : (0 : Int32).toInt = 0 := (by decide)
    have q132 := hP67.1; rw [Int32.lt_iff_toInt_lt] at q132
    have : (536870911 : Int32).toInt = 536870911 := (by decide)
    have q133 := hP67.2; rw [Int32.lt_iff_toInt_lt] at q133
    have := rng32 v74
    have q135 := hP75.1; rw [Int32.lt_iff_toInt_lt] at q135
    have q136 := hP75.2; rw [Int32.lt_iff_toInt_lt] at q136
    have := rng32 v82
    have q138 := hP83.1; rw [Int32.lt_iff_toInt_lt] at q138
    have q139 := hP83.2; rw [Int32.lt_iff_toInt_lt] at q139
    have := rng32 v90
    have q141 := hP91.1; rw [Int32.lt_iff_toInt_lt] at q141
    have q142 := hP91.2; rw [Int32.lt_iff_toInt_lt] at q142
    have := rng32 v115
    have := rng32 v94
    have := rng32 v93
    have : (1 : Int32).toInt = 1 := (by decide)
    have q143 : (v93.toInt - (v66.toInt + (1 : Int32).toInt)) % 4294967296 = 0 := (by rw [hv93]; exact c_iadd _ _)
    have q144 : (v94.toInt - (v93.toInt + v74.toInt)) % 4294967296 = 0 := (by rw [hv94]; exact c_iadd _ _)
    have q145 : (v115.toInt - (v94.toInt - (1 : Int32).toInt)) % 4294967296 = 0 := (by rw [h117]; exact c_isub _ _)
    have q146 : ¬ v66.toInt = v115.toInt := fun q => hc119 (Int32.toInt_inj.mp q)
    have q147 := congrArg Int32.toInt hc130
    omega
   ·
    refine k_iconst X114 hx (hb hby at_257) (pc' := 258) rfl (z := (1 : Int32)) rfl ?_
    refine k_istore X114 hx (hb hby at_258) (Ls' := #[.val (.int i0), .val (.int i1), .val (.int i2), .val (.int i3), .val (.int i4), .val (.int (1 : Int32)), .val (.ref b60), .val (.int v66), .val (.int v94), .val (.int v96), .val (.int v94), .val (.ref b102), .val (.int (1 : Int32)), .val (.int (1 : Int32)), .unset, .unset, .unset, .unset]) rfl (pc' := 260) rfl ?_
    refine k_goto X114 hx (hb hby at_260) (pc' := 266) (by decide) ?_
    refine k_iload X114 hx (hb hby at_266) rfl (pc' := 268) rfl ?_
    refine k_if_ne X114 hx (hb hby at_268) (pn := 271) rfl (py := 298) (by decide) (fun _ => ?_) (fun hc => absurd hc (by decide))
    refine k_aload X114 hx (hb hby at_298) rfl rfl (pc' := 300) rfl ?_
    refine k_iload X114 hx (hb hby at_300) rfl (pc' := 302) rfl ?_
    refine k_iaload X114 hx hZ rfl F120 ⟨by decide, by decide⟩ (v := (.int v74)) rfl (hb hby at_302) (pc' := 303) rfl ?_
    refine k_istore X114 hx (hb hby at_303) (Ls' := #[.val (.int i0), .val (.int i1), .val (.int i2), .val (.int i3), .val (.int i4), .val (.int (1 : Int32)), .val (.ref b60), .val (.int v66), .val (.int v94), .val (.int v96), .val (.int v94), .val (.ref b102), .val (.int (1 : Int32)), .val (.int (1 : Int32)), .val (.int v74), .unset, .unset, .unset]) rfl (pc' := 305) rfl ?_
    refine k_aload X114 hx (hb hby at_305) rfl rfl (pc' := 307) rfl ?_
    refine k_iload X114 hx (hb hby at_307) rfl (pc' := 309) rfl ?_
    refine k_iconst X114 hx (hb hby at_309) (pc' := 310) rfl (z := (0 : Int32)) rfl ?_
    refine k_iastore X114 hx hZ rfl F120 ⟨by decide, by decide⟩ (i := 1) rfl (Nat.le_of_ble_eq_true rfl) (hb hby at_310) (pc' := 311) rfl (fun T148 h148 X148 e148 W148 V148 => ?_)
    have Vw148 : Arv Z h148 b60 k60 .int (4 : Int32) [(.int v66), (.int (0 : Int32)), (.int v82), (.int v90)] (.int (0 : Int32)) := V148
    have N148 := Fr.snoc X148 N114' g_b60
    have Z148 : n0 ≤ h148.size := Nat.le_trans Z122 (Nat.le_of_eq W148.size.symm)
    refine k_aload X148 hx (hb hby at_311) rfl rfl (pc' := 313) rfl ?_
    refine k_iload X148 hx (hb hby at_313) rfl (pc' := 315) rfl ?_
    refine k_iconst X148 hx (hb hby at_315) (pc' := 316) rfl (z := (1 : Int32)) rfl ?_
    refine k_isubL X148 hx (hb hby at_316) (pc' := 317) rfl (z := (0 : Int32)) (by decide) ?_
    refine k_aload X148 hx (hb hby at_317) rfl rfl (pc' := 319) rfl ?_
    refine k_iload X148 hx (hb hby at_319) rfl (pc' := 321) rfl ?_
    refine k_iconst X148 hx (hb hby at_321) (pc' := 322) rfl (z := (1 : Int32)) rfl ?_
    refine k_isubL X148 hx (hb hby at_322) (pc' := 323) rfl (z := (0 : Int32)) (by decide) ?_
    refine k_iaload X148 hx hZ e148 Vw148 ⟨by decide, by decide⟩ (v := (.int v66)) rfl (hb hby at_323) (pc' := 324) rfl ?_
    refine k_iconst X148 hx (hb hby at_324) (pc' := 325) rfl (z := (1 : Int32)) rfl ?_
    refine k_iaddL X148 hx (hb hby at_325) (pc' := 326) rfl (z := v93) hv93.symm ?_
    refine k_iastore X148 hx hZ e148 Vw148 ⟨by decide, by decide⟩ (i := 0) rfl (Nat.le_of_ble_eq_true rfl) (hb hby at_326) (pc' := 327) rfl (fun T149 h149 X149 e149 W149 V149 => ?_)
    have Vw149 : Arv Z h149 b60 k60 .int (4 : Int32) [(.int v93), (.int (0 : Int32)), (.int v82), (.int v90)] (.int (0 : Int32)) := V149
    have N149 := Fr.snoc X149 N148 g_b60
    have Z149 : n0 ≤ h149.size := Nat.le_trans Z148 (Nat.le_of_eq W149.size.symm)
    refine k_aload X149 hx (hb hby at_327) rfl rfl (pc' := 329) rfl ?_
    refine k_iload X149 hx (hb hby at_329) rfl (pc' := 331) rfl ?_
    refine k_aload X149 hx (hb hby at_331) rfl rfl (pc' := 333) rfl ?_
    refine k_iload X149 hx (hb hby at_333) rfl (pc' := 335) rfl ?_
    refine k_iaload X149 hx hZ e149 Vw149 ⟨by decide, by decide⟩ (v := (.int (0 : Int32))) rfl (hb hby at_335) (pc' := 336) rfl ?_
    refine k_iload X149 hx (hb hby at_336) rfl (pc' := 338) rfl ?_
    refine k_iaddL X149 hx (hb hby at_338) (pc' := 339) rfl (z := v74) (Int32.zero_add _) ?_
    refine k_iconst X149 hx (hb hby at_339) (pc' := 340) rfl (z := (1 : Int32)) rfl ?_
    refine k_isub X149 hx (hb hby at_340) (pc' := 341) rfl (fun v150 hv150 => ?_)
    refine k_iastore X149 hx hZ e149 Vw149 ⟨by decide, by decide⟩ (i := 1) rfl (Nat.le_of_ble_eq_true rfl) (hb hby at_341) (pc' := 342) rfl (fun T151 h151 X151 e151 W151 V151 => ?_)
    have Vw151 : Arv Z h151 b60 k60 .int (4 : Int32) [(.int v93), (.int v150), (.int v82), (.int v90)] (.int (0 : Int32)) := V151
    have N151 := Fr.snoc X151 N149 g_b60
    have Z151 : n0 ≤ h151.size := Nat.le_trans Z149 (Nat.le_of_eq W151.size.symm)
    refine k_aload X151 hx (hb hby at_342) rfl rfl (pc' := 344) rfl ?_
    refine k_iconst X151 hx (hb hby at_344) (pc' := 345) rfl (z := (0 : Int32)) rfl ?_
    refine k_iaload X151 hx hZ e151 Vw151 ⟨by decide, by decide⟩ (v := (.int v93)) rfl (hb hby at_345) (pc' := 346) rfl ?_
    refine k_istore X151 hx (hb hby at_346) (Ls' := #[.val (.int i0), .val (.int i1), .val (.int i2), .val (.int i3), .val (.int i4), .val (.int (1 : Int32)), .val (.ref b60), .val (.int v66), .val (.int v94), .val (.int v96), .val (.int v94), .val (.ref b102), .val (.int (1 : Int32)), .val (.int (1 : Int32)), .val (.int v74), .val (.int v93), .unset, .unset]) rfl (pc' := 348) rfl ?_
    refine k_iload X151 hx (hb hby at_348) rfl (pc' := 350) rfl ?_
    refine k_iconst X151 hx (hb hby at_350) (pc' := 351) rfl (z := (1 : Int32)) rfl ?_
    refine k_iadd X151 hx (hb hby at_351) (pc' := 352) rfl (fun v152 hv152 => ?_)
    refine k_aload X151 hx (hb hby at_352) rfl rfl (pc' := 354) rfl ?_
    refine k_iconst X151 hx (hb hby at_354) (pc' := 355) rfl (z := (1 : Int32)) rfl ?_
    refine k_iaload X151 hx hZ e151 Vw151 ⟨by decide, by decide⟩ (v := (.int v150)) rfl (hb hby at_355) (pc' := 356) rfl ?_
    refine k_iadd X151 hx (hb hby at_356) (pc' := 357) rfl (fun v153 hv153 => ?_)
    refine k_istore X151 hx (hb hby at_357) (Ls' := #[.val (.int i0), .val (.int i1), .val (.int i2), .val (.int i3), .val (.int i4), .val (.int (1 : Int32)), .val (.ref b60), .val (.int v66), .val (.int v94), .val (.int v96), .val (.int v94), .val (.ref b102), .val (.int (1 : Int32)), .val (.int (1 : Int32)), .val (.int v74), .val (.int v93), .val (.int v153), .unset]) rfl (pc' := 359) rfl ?_
    refine k_iload X151 hx (hb hby at_359) rfl (pc' := 361) rfl ?_
    refine k_iconst X151 hx (hb hby at_361) (pc' := 362) rfl (z := (1 : Int32)) rfl ?_
    refine k_iadd X151 hx (hb hby at_362) (pc' := 363) rfl (fun v154 hv154 => ?_)
    refine k_aload X151 hx (hb hby at_363) rfl rfl (pc' := 365) rfl ?_
    refine k_iconst X151 hx (hb hby at_365) (pc' := 366) rfl (z := (2 : Int32)) rfl ?_
    refine k_iaload X151 hx hZ e151 Vw151 ⟨by decide, by decide⟩ (v := (.int v82)) rfl (hb hby at_366) (pc' := 367) rfl ?_
    refine k_iadd X151 hx (hb hby at_367) (pc' := 368) rfl (fun v155 hv155 => ?_)
    refine k_istore X151 hx (hb hby at_368) (Ls' := #[.val (.int i0), .val (.int i1), .val (.int i2), .val (.int i3), .val (.int i4), .val (.int (1 : Int32)), .val (.ref b60), .val (.int v66), .val (.int v94), .val (.int v96), .val (.int v94), .val (.ref b102), .val (.int (1 : Int32)), .val (.int (1 : Int32)), .val (.int v74), .val (.int v93), .val (.int v153), .val (.int v155)]) rfl (pc' := 370) rfl ?_
    refine k_iload X151 hx (hb hby at_370) rfl (pc' := 372) rfl ?_
    refine k_if_eq X151 hx (hb hby at_372) (pn := 375) rfl (py := 395) (by decide) (fun hc => absurd hc (by decide)) (fun _ => ?_)
    refine k_aload X151 hx (hb hby at_375) rfl rfl (pc' := 377) rfl ?_
    refine k_iload X151 hx (hb hby at_377) rfl (pc' := 379) rfl ?_
    refine k_iload X151 hx (hb hby at_379) rfl (pc' := 381) rfl ?_
    refine k_iload X151 hx (hb hby at_381) rfl (pc' := 383) rfl ?_
    refine k_iload X151 hx (hb hby at_383) rfl (pc' := 385) rfl ?_
    have F156 := (((F121.other W148 (Ne.symm (Nat.ne_of_lt lt106))).other W149 (Ne.symm (Nat.ne_of_lt lt106))).other W151 (Ne.symm (Nat.ne_of_lt lt106)))
    refine k_callS X151 hx hZ hown (hw _ (List.mem_of_getElem? (i := 10) rfl)) (hw _ (List.mem_of_getElem? (i := 11) rfl)) (hw _ (List.mem_of_getElem? (i := 4) rfl)) (hw _ (List.mem_of_getElem? (i := 12) rfl)) (by decide) (rm3_157 l Z a0 hw [] b102 v93 v153 v155 k103 h151 n0 Z151 F156) (by decide) (by decide) e151 (by rw [hml]; rfl) (argsL := [(.ref b102), (.int (1 : Int32)), (.int v93), (.int v153), (.int v155)]) (rest := []) (lenOf pd_2 rfl) rfl (W := 0) (Nat.le_refl _) rfl (hb hby at_385) (by decide) (by decide) (pc' := 388) rfl (fun T158 L158 r158 X158 q158 => ?_)
    obtain ⟨N158, e158, q158⟩ := q158
    have N158' := Fr.app N151 N158
    obtain rfl := q158
    show KEnds p e below s _ _ _ T158 (mkF m 388 #[.val (.int i0), .val (.int i1), .val (.int i2), .val (.int i3), .val (.int i4), .val (.int (1 : Int32)), .val (.ref b60), .val (.int v66), .val (.int v94), .val (.int v96), .val (.int v94), .val (.ref b102), .val (.int (1 : Int32)), .val (.int (1 : Int32)), .val (.int v74), .val (.int v93), .val (.int v153), .val (.int v155)] [(.int (1 : Int32))])
    refine k_if_eq X158 hx (hb hby at_388) (pn := 391) rfl (py := 395) (by decide) (fun hc => absurd hc (by decide)) (fun _ => ?_)
    refine k_iconst X158 hx (hb hby at_391) (pc' := 392) rfl (z := (1 : Int32)) rfl ?_
    refine k_goto X158 hx (hb hby at_392) (pc' := 396) (by decide) ?_
    exact k_retN X158 hx (t := .boolean) Bd.returns (by simp) (hb hby at_396) hlk (by decide) (by decide) (z' := (1 : Int32)) rfl ⟨rfl, N158'⟩
  ·
   show KEnds p e below s _ _ _ T114 (mkF m 204 #[.val (.int i0), .val (.int i1), .val (.int i2), .val (.int i3), .val (.int i4), .val (.int (1 : Int32)), .val (.ref b60), .val (.int v66), .val (.int v94), .val (.int v96), .val (.int v94), .val (.ref b102), .unset, .unset, .unset, .unset, .unset, .unset] [(.int (0 : Int32))])
   refine k_istore X114 hx (hb hby at_204) (Ls' := #[.val (.int i0), .val (.int i1), .val (.int i2), .val (.int i3), .val (.int i4), .val (.int (1 : Int32)), .val (.ref b60), .val (.int v66), .val (.int v94), .val (.int v96), .val (.int v94), .val (.ref b102), .val (.int (0 : Int32)), .unset, .unset, .unset, .unset, .unset]) rfl (pc' := 206) rfl ?_
   refine k_iload X114 hx (hb hby at_206) rfl (pc' := 208) rfl ?_
   refine k_iconst X114 hx (hb hby at_208) (pc' := 209) rfl (z := (3 : Int32)) rfl ?_
   refine k_icmp_lt X114 hx (hb hby at_209) (pn := 212) rfl (py := 225) (by decide) (fun _ => ?_) (fun hc => absurd (by decide) hc)
   refine k_iload X114 hx (hb hby at_225) rfl (pc' := 227) rfl ?_
   refine k_iconst X114 hx (hb hby at_227) (pc' := 228) rfl (z := (2 : Int32)) rfl ?_
   refine k_icmp_lt X114 hx (hb hby at_228) (pn := 231) rfl (py := 244) (by decide) (fun _ => ?_) (fun hc => absurd (by decide) hc)
   refine k_iload X114 hx (hb hby at_244) rfl (pc' := 246) rfl ?_
   refine k_iconst X114 hx (hb hby at_246) (pc' := 247) rfl (z := (1 : Int32)) rfl ?_
   refine k_icmp_lt X114 hx (hb hby at_247) (pn := 250) rfl (py := 263) (by decide) (fun hc => absurd hc (by decide)) (fun _ => ?_)
   refine k_aload X114 hx (hb hby at_250) rfl rfl (pc' := 252) rfl ?_
   refine k_iconst X114 hx (hb hby at_252) (pc' := 253) rfl (z := (1 : Int32)) rfl ?_
   refine k_iaload X114 hx hZ rfl F126 ⟨by decide, by decide⟩ (v := (.int v74)) rfl (hb hby at_253) (pc' := 254) rfl ?_
   refine k_if_eq X114 hx (hb hby at_254) (pn := 257) rfl (py := 263) (by decide) (fun hc159 => ?_) (fun hc159 => ?_)
   ·
    refine k_iconst X114 hx (hb hby at_263) (pc' := 264) rfl (z := (0 : Int32)) rfl ?_
    refine k_istore X114 hx (hb hby at_264) (Ls' := #[.val (.int i0), .val (.int i1), .val (.int i2), .val (.int i3), .val (.int i4), .val (.int (1 : Int32)), .val (.ref b60), .val (.int v66), .val (.int v94), .val (.int v96), .val (.int v94), .val (.ref b102), .val (.int (0 : Int32)), .val (.int (0 : Int32)), .unset, .unset, .unset, .unset]) rfl (pc' := 266) rfl ?_
    refine k_iload X114 hx (hb hby at_266) rfl (pc' := 268) rfl ?_
    refine k_if_ne X114 hx (hb hby at_268) (pn := 271) rfl (py := 298) (by decide) (fun hc => absurd (by decide) hc) (fun _ => ?_)
    refine k_iload X114 hx (hb hby at_271) rfl (pc' := 273) rfl ?_
    refine k_if_ne X114 hx (hb hby at_273) (pn := 276) rfl (py := 296) (by decide) (fun hc => absurd (by decide) hc) (fun _ => ?_)
    refine k_aload X114 hx (hb hby at_276) rfl rfl (pc' := 278) rfl ?_
    refine k_iload X114 hx (hb hby at_278) rfl (pc' := 280) rfl ?_
    refine k_iload X114 hx (hb hby at_280) rfl (pc' := 282) rfl ?_
    refine k_iload X114 hx (hb hby at_282) rfl (pc' := 284) rfl ?_
    refine k_iload X114 hx (hb hby at_284) rfl (pc' := 286) rfl ?_
    refine k_callS X114 hx hZ hown (hw _ (List.mem_of_getElem? (i := 10) rfl)) (hw _ (List.mem_of_getElem? (i := 11) rfl)) (hw _ (List.mem_of_getElem? (i := 4) rfl)) (hw _ (List.mem_of_getElem? (i := 12) rfl)) (by decide) (rm3_157 l Z a0 hw [] b102 v66 v94 v96 k103 T114.heap n0 Z128 F127) (by decide) (by decide) rfl (by rw [hml]; rfl) (argsL := [(.ref b102), (.int (1 : Int32)), (.int v66), (.int v94), (.int v96)]) (rest := []) (lenOf pd_2 rfl) rfl (W := 0) (Nat.le_refl _) rfl (hb hby at_286) (by decide) (by decide) (pc' := 289) rfl (fun T160 L160 r160 X160 q160 => ?_)
    obtain ⟨N160, e160, q160⟩ := q160
    have N160' := Fr.app N114' N160
    obtain rfl := q160
    show KEnds p e below s _ _ _ T160 (mkF m 289 #[.val (.int i0), .val (.int i1), .val (.int i2), .val (.int i3), .val (.int i4), .val (.int (1 : Int32)), .val (.ref b60), .val (.int v66), .val (.int v94), .val (.int v96), .val (.int v94), .val (.ref b102), .val (.int (0 : Int32)), .val (.int (0 : Int32)), .unset, .unset, .unset, .unset] [(.int (1 : Int32))])
    refine k_if_eq X160 hx (hb hby at_289) (pn := 292) rfl (py := 296) (by decide) (fun hc => absurd hc (by decide)) (fun _ => ?_)
    refine k_iconst X160 hx (hb hby at_292) (pc' := 293) rfl (z := (1 : Int32)) rfl ?_
    refine k_goto X160 hx (hb hby at_293) (pc' := 297) (by decide) ?_
    exact k_retN X160 hx (t := .boolean) Bd.returns (by simp) (hb hby at_297) hlk (by decide) (by decide) (z' := (1 : Int32)) rfl ⟨rfl, N160'⟩
   ·
    refine k_iconst X114 hx (hb hby at_257) (pc' := 258) rfl (z := (1 : Int32)) rfl ?_
    refine k_istore X114 hx (hb hby at_258) (Ls' := #[.val (.int i0), .val (.int i1), .val (.int i2), .val (.int i3), .val (.int i4), .val (.int (1 : Int32)), .val (.ref b60), .val (.int v66), .val (.int v94), .val (.int v96), .val (.int v94), .val (.ref b102), .val (.int (0 : Int32)), .val (.int (1 : Int32)), .unset, .unset, .unset, .unset]) rfl (pc' := 260) rfl ?_
    refine k_goto X114 hx (hb hby at_260) (pc' := 266) (by decide) ?_
    refine k_iload X114 hx (hb hby at_266) rfl (pc' := 268) rfl ?_
    refine k_if_ne X114 hx (hb hby at_268) (pn := 271) rfl (py := 298) (by decide) (fun _ => ?_) (fun hc => absurd hc (by decide))
    refine k_aload X114 hx (hb hby at_298) rfl rfl (pc' := 300) rfl ?_
    refine k_iload X114 hx (hb hby at_300) rfl (pc' := 302) rfl ?_
    refine k_iaload X114 hx hZ rfl F126 ⟨by decide, by decide⟩ (v := (.int v74)) rfl (hb hby at_302) (pc' := 303) rfl ?_
    refine k_istore X114 hx (hb hby at_303) (Ls' := #[.val (.int i0), .val (.int i1), .val (.int i2), .val (.int i3), .val (.int i4), .val (.int (1 : Int32)), .val (.ref b60), .val (.int v66), .val (.int v94), .val (.int v96), .val (.int v94), .val (.ref b102), .val (.int (0 : Int32)), .val (.int (1 : Int32)), .val (.int v74), .unset, .unset, .unset]) rfl (pc' := 305) rfl ?_
    refine k_aload X114 hx (hb hby at_305) rfl rfl (pc' := 307) rfl ?_
    refine k_iload X114 hx (hb hby at_307) rfl (pc' := 309) rfl ?_
    refine k_iconst X114 hx (hb hby at_309) (pc' := 310) rfl (z := (0 : Int32)) rfl ?_
    refine k_iastore X114 hx hZ rfl F126 ⟨by decide, by decide⟩ (i := 1) rfl (Nat.le_of_ble_eq_true rfl) (hb hby at_310) (pc' := 311) rfl (fun T161 h161 X161 e161 W161 V161 => ?_)
    have Vw161 : Arv Z h161 b60 k60 .int (4 : Int32) [(.int v66), (.int (0 : Int32)), (.int v82), (.int v90)] (.int (0 : Int32)) := V161
    have N161 := Fr.snoc X161 N114' g_b60
    have Z161 : n0 ≤ h161.size := Nat.le_trans Z128 (Nat.le_of_eq W161.size.symm)
    refine k_aload X161 hx (hb hby at_311) rfl rfl (pc' := 313) rfl ?_
    refine k_iload X161 hx (hb hby at_313) rfl (pc' := 315) rfl ?_
    refine k_iconst X161 hx (hb hby at_315) (pc' := 316) rfl (z := (1 : Int32)) rfl ?_
    refine k_isubL X161 hx (hb hby at_316) (pc' := 317) rfl (z := (0 : Int32)) (by decide) ?_
    refine k_aload X161 hx (hb hby at_317) rfl rfl (pc' := 319) rfl ?_
    refine k_iload X161 hx (hb hby at_319) rfl (pc' := 321) rfl ?_
    refine k_iconst X161 hx (hb hby at_321) (pc' := 322) rfl (z := (1 : Int32)) rfl ?_
    refine k_isubL X161 hx (hb hby at_322) (pc' := 323) rfl (z := (0 : Int32)) (by decide) ?_
    refine k_iaload X161 hx hZ e161 Vw161 ⟨by decide, by decide⟩ (v := (.int v66)) rfl (hb hby at_323) (pc' := 324) rfl ?_
    refine k_iconst X161 hx (hb hby at_324) (pc' := 325) rfl (z := (1 : Int32)) rfl ?_
    refine k_iaddL X161 hx (hb hby at_325) (pc' := 326) rfl (z := v93) hv93.symm ?_
    refine k_iastore X161 hx hZ e161 Vw161 ⟨by decide, by decide⟩ (i := 0) rfl (Nat.le_of_ble_eq_true rfl) (hb hby at_326) (pc' := 327) rfl (fun T162 h162 X162 e162 W162 V162 => ?_)
    have Vw162 : Arv Z h162 b60 k60 .int (4 : Int32) [(.int v93), (.int (0 : Int32)), (.int v82), (.int v90)] (.int (0 : Int32)) := V162
    have N162 := Fr.snoc X162 N161 g_b60
    have Z162 : n0 ≤ h162.size := Nat.le_trans Z161 (Nat.le_of_eq W162.size.symm)
    refine k_aload X162 hx (hb hby at_327) rfl rfl (pc' := 329) rfl ?_
    refine k_iload X162 hx (hb hby at_329) rfl (pc' := 331) rfl ?_
    refine k_aload X162 hx (hb hby at_331) rfl rfl (pc' := 333) rfl ?_
    refine k_iload X162 hx (hb hby at_333) rfl (pc' := 335) rfl ?_
    refine k_iaload X162 hx hZ e162 Vw162 ⟨by decide, by decide⟩ (v := (.int (0 : Int32))) rfl (hb hby at_335) (pc' := 336) rfl ?_
    refine k_iload X162 hx (hb hby at_336) rfl (pc' := 338) rfl ?_
    refine k_iaddL X162 hx (hb hby at_338) (pc' := 339) rfl (z := v74) (Int32.zero_add _) ?_
    refine k_iconst X162 hx (hb hby at_339) (pc' := 340) rfl (z := (1 : Int32)) rfl ?_
    refine k_isub X162 hx (hb hby at_340) (pc' := 341) rfl (fun v163 hv163 => ?_)
    refine k_iastore X162 hx hZ e162 Vw162 ⟨by decide, by decide⟩ (i := 1) rfl (Nat.le_of_ble_eq_true rfl) (hb hby at_341) (pc' := 342) rfl (fun T164 h164 X164 e164 W164 V164 => ?_)
    have Vw164 : Arv Z h164 b60 k60 .int (4 : Int32) [(.int v93), (.int v163), (.int v82), (.int v90)] (.int (0 : Int32)) := V164
    have N164 := Fr.snoc X164 N162 g_b60
    have Z164 : n0 ≤ h164.size := Nat.le_trans Z162 (Nat.le_of_eq W164.size.symm)
    refine k_aload X164 hx (hb hby at_342) rfl rfl (pc' := 344) rfl ?_
    refine k_iconst X164 hx (hb hby at_344) (pc' := 345) rfl (z := (0 : Int32)) rfl ?_
    refine k_iaload X164 hx hZ e164 Vw164 ⟨by decide, by decide⟩ (v := (.int v93)) rfl (hb hby at_345) (pc' := 346) rfl ?_
    refine k_istore X164 hx (hb hby at_346) (Ls' := #[.val (.int i0), .val (.int i1), .val (.int i2), .val (.int i3), .val (.int i4), .val (.int (1 : Int32)), .val (.ref b60), .val (.int v66), .val (.int v94), .val (.int v96), .val (.int v94), .val (.ref b102), .val (.int (0 : Int32)), .val (.int (1 : Int32)), .val (.int v74), .val (.int v93), .unset, .unset]) rfl (pc' := 348) rfl ?_
    refine k_iload X164 hx (hb hby at_348) rfl (pc' := 350) rfl ?_
    refine k_iconst X164 hx (hb hby at_350) (pc' := 351) rfl (z := (1 : Int32)) rfl ?_
    refine k_iadd X164 hx (hb hby at_351) (pc' := 352) rfl (fun v165 hv165 => ?_)
    refine k_aload X164 hx (hb hby at_352) rfl rfl (pc' := 354) rfl ?_
    refine k_iconst X164 hx (hb hby at_354) (pc' := 355) rfl (z := (1 : Int32)) rfl ?_
    refine k_iaload X164 hx hZ e164 Vw164 ⟨by decide, by decide⟩ (v := (.int v163)) rfl (hb hby at_355) (pc' := 356) rfl ?_
    refine k_iadd X164 hx (hb hby at_356) (pc' := 357) rfl (fun v166 hv166 => ?_)
    refine k_istore X164 hx (hb hby at_357) (Ls' := #[.val (.int i0), .val (.int i1), .val (.int i2), .val (.int i3), .val (.int i4), .val (.int (1 : Int32)), .val (.ref b60), .val (.int v66), .val (.int v94), .val (.int v96), .val (.int v94), .val (.ref b102), .val (.int (0 : Int32)), .val (.int (1 : Int32)), .val (.int v74), .val (.int v93), .val (.int v166), .unset]) rfl (pc' := 359) rfl ?_
    refine k_iload X164 hx (hb hby at_359) rfl (pc' := 361) rfl ?_
    refine k_iconst X164 hx (hb hby at_361) (pc' := 362) rfl (z := (1 : Int32)) rfl ?_
    refine k_iadd X164 hx (hb hby at_362) (pc' := 363) rfl (fun v167 hv167 => ?_)
    refine k_aload X164 hx (hb hby at_363) rfl rfl (pc' := 365) rfl ?_
    refine k_iconst X164 hx (hb hby at_365) (pc' := 366) rfl (z := (2 : Int32)) rfl ?_
    refine k_iaload X164 hx hZ e164 Vw164 ⟨by decide, by decide⟩ (v := (.int v82)) rfl (hb hby at_366) (pc' := 367) rfl ?_
    refine k_iadd X164 hx (hb hby at_367) (pc' := 368) rfl (fun v168 hv168 => ?_)
    refine k_istore X164 hx (hb hby at_368) (Ls' := #[.val (.int i0), .val (.int i1), .val (.int i2), .val (.int i3), .val (.int i4), .val (.int (1 : Int32)), .val (.ref b60), .val (.int v66), .val (.int v94), .val (.int v96), .val (.int v94), .val (.ref b102), .val (.int (0 : Int32)), .val (.int (1 : Int32)), .val (.int v74), .val (.int v93), .val (.int v166), .val (.int v168)]) rfl (pc' := 370) rfl ?_
    refine k_iload X164 hx (hb hby at_370) rfl (pc' := 372) rfl ?_
    refine k_if_eq X164 hx (hb hby at_372) (pn := 375) rfl (py := 395) (by decide) (fun _ => ?_) (fun hc => absurd (by decide) hc)
    refine k_iconst X164 hx (hb hby at_395) (pc' := 396) rfl (z := (0 : Int32)) rfl ?_
    exfalso
    have := rng32 v66
    have : (0 : Int32).toInt = 0 := (by decide)
    have q170 := hP67.1; rw [Int32.lt_iff_toInt_lt] at q170
    have : (536870911 : Int32).toInt = 536870911 := (by decide)
    have q171 := hP67.2; rw [Int32.lt_iff_toInt_lt] at q171
    have := rng32 v74
    have q173 := hP75.1; rw [Int32.lt_iff_toInt_lt] at q173
    have q174 := hP75.2; rw [Int32.lt_iff_toInt_lt] at q174
    have := rng32 v82
    have q176 := hP83.1; rw [Int32.lt_iff_toInt_lt] at q176
    have q177 := hP83.2; rw [Int32.lt_iff_toInt_lt] at q177
    have := rng32 v90
    have q179 := hP91.1; rw [Int32.lt_iff_toInt_lt] at q179
    have q180 := hP91.2; rw [Int32.lt_iff_toInt_lt] at q180
    have := rng32 v123
    have := rng32 v94
    have := rng32 v93
    have : (1 : Int32).toInt = 1 := (by decide)
    have q181 : (v93.toInt - (v66.toInt + (1 : Int32).toInt)) % 4294967296 = 0 := (by rw [hv93]; exact c_iadd _ _)
    have q182 : (v94.toInt - (v93.toInt + v74.toInt)) % 4294967296 = 0 := (by rw [hv94]; exact c_iadd _ _)
    have q183 : (v123.toInt - (v94.toInt - (1 : Int32).toInt)) % 4294967296 = 0 := (by rw [h124]; exact c_isub _ _)
    have q184 := congrArg Int32.toInt hc125
    have q185 : ¬ v74.toInt = (0 : Int32).toInt := fun q => hc159 (Int32.toInt_inj.mp q)
    omega
 ·
  show KEnds p e below s _ _ _ s₁ (mkF m 3 #[.val (.int i0), .val (.int i1), .val (.int i2), .val (.int i3), .val (.int i4), .unset, .unset, .unset, .unset, .unset, .unset, .unset, .unset, .unset, .unset, .unset, .unset, .unset] [(.int (2 : Int32))])
  refine k_istore X0 hx (hb hby at_3) (Ls' := #[.val (.int i0), .val (.int i1), .val (.int i2), .val (.int i3), .val (.int i4), .val (.int (2 : Int32)), .unset, .unset, .unset, .unset, .unset, .unset, .unset, .unset, .unset, .unset, .unset, .unset]) rfl (pc' := 5) rfl ?_
  refine k_iconst X0 hx (hb hby at_5) (pc' := 6) rfl (z := (4 : Int32)) rfl ?_
  refine k_newA X0 hx hZ (hw _ (List.mem_of_getElem? (i := 0) rfl)) e0 (hb hby at_6) (by decide) (cap := 4) (by decide) (by decide) (by decide) (by decide) (pc' := 8) rfl (fun T187 h187 b187 k187 g187 X187 e187 E187 V187 => ?_)
  have g_b187 : n0 ≤ b187 := Nat.le_trans Z0 (Nat.le_of_eq g187.symm)
  have Z187 : n0 ≤ h187.size := Nat.le_trans Z0 E187.1
  have Vw187 : Arv Z h187 b187 k187 .int (4 : Int32) [(.int (0 : Int32)), (.int (0 : Int32)), (.int (0 : Int32)), (.int (0 : Int32))] (.int (0 : Int32)) := V187
  refine k_astore X187 hx (hb hby at_8) rfl (Ls' := #[.val (.int i0), .val (.int i1), .val (.int i2), .val (.int i3), .val (.int i4), .val (.int (2 : Int32)), .val (.ref b187), .unset, .unset, .unset, .unset, .unset, .unset, .unset, .unset, .unset, .unset, .unset]) rfl (pc' := 10) rfl ?_
  refine k_aload X187 hx (hb hby at_10) rfl rfl (pc' := 12) rfl ?_
  refine k_iconst X187 hx (hb hby at_12) (pc' := 13) rfl (z := (0 : Int32)) rfl ?_
  suffices key188 : ∀ (v193 : Int32), (¬ v193 < 0 ∧ ¬ (536870911 : Int32) < v193) → KEnds p e below s 16 128 (Q0 n0) T187 (mkF m 29 #[.val (.int i0), .val (.int i1), .val (.int i2), .val (.int i3), .val (.int i4), .val (.int (2 : Int32)), .val (.ref b187), .unset, .unset, .unset, .unset, .unset, .unset, .unset, .unset, .unset, .unset, .unset] [(.int v193), (.int (0 : Int32)), (.ref b187)]) by
   refine k_iloadN X187 hx (hb hby at_13) rfl (pc' := 14) rfl ?_
   refine k_iconst X187 hx (hb hby at_14) (pc' := 15) rfl (z := (2 : Int32)) rfl ?_
   refine k_ishr X187 hx (hb hby at_15) (pc' := 16) rfl (fun v189 hv189 => ?_)
   refine k_iconst X187 hx (hb hby at_16) (pc' := 17) rfl (z := (1 : Int32)) rfl ?_
   refine k_iand X187 hx (hb hby at_17) (pc' := 18) rfl (fun v190 hv190 => ?_)
   refine k_if_eq X187 hx (hb hby at_18) (pn := 21) rfl (py := 25) (by decide) (fun hc191 => ?_) (fun hc191 => ?_)
   ·
    refine k_iloadN X187 hx (hb hby at_25) rfl (pc' := 26) rfl ?_
    refine k_ldc X187 hx hZ hown (hw _ (List.mem_of_getElem? (i := 1) rfl)) (hb hby at_26) (pc' := 28) rfl ?_
    refine k_iand X187 hx (hb hby at_28) (pc' := 29) rfl (fun v192 hv192 => ?_)
    refine key188 v192 ?_
    have qm : v192.toInt = i1.toInt % 536870912 := by rw [hv192]; exact c_mask _ _ 29 (by decide) (by decide)
    exact ⟨fun q => by rw [Int32.lt_iff_toInt_lt, show (0 : Int32).toInt = 0 from rfl] at q; omega, fun q => by rw [Int32.lt_iff_toInt_lt, show (536870911 : Int32).toInt = 536870911 from rfl] at q; omega⟩
   ·
    refine k_iconst X187 hx (hb hby at_21) (pc' := 22) rfl (z := (0 : Int32)) rfl ?_
    refine k_goto X187 hx (hb hby at_22) (pc' := 29) (by decide) ?_
    refine key188 (0 : Int32) ?_
    exact ⟨by decide, by decide⟩
  intro v193 hP194
  refine k_iastore X187 hx hZ e187 Vw187 ⟨by decide, by decide⟩ (i := 0) rfl (Nat.le_of_ble_eq_true rfl) (hb hby at_29) (pc' := 30) rfl (fun T195 h195 X195 e195 W195 V195 => ?_)
  have Vw195 : Arv Z h195 b187 k187 .int (4 : Int32) [(.int v193), (.int (0 : Int32)), (.int (0 : Int32)), (.int (0 : Int32))] (.int (0 : Int32)) := V195
  have N195 := Fr.snoc X195 N0 g_b187
  have Z195 : n0 ≤ h195.size := Nat.le_trans Z187 (Nat.le_of_eq W195.size.symm)
  refine k_aload X195 hx (hb hby at_30) rfl rfl (pc' := 32) rfl ?_
  refine k_iconst X195 hx (hb hby at_32) (pc' := 33) rfl (z := (1 : Int32)) rfl ?_
  suffices key196 : ∀ (v201 : Int32), (¬ v201 < 0 ∧ ¬ (536870911 : Int32) < v201) → KEnds p e below s 16 128 (Q0 n0) T195 (mkF m 49 #[.val (.int i0), .val (.int i1), .val (.int i2), .val (.int i3), .val (.int i4), .val (.int (2 : Int32)), .val (.ref b187), .unset, .unset, .unset, .unset, .unset, .unset, .unset, .unset, .unset, .unset, .unset] [(.int v201), (.int (1 : Int32)), (.ref b187)]) by
   refine k_iloadN X195 hx (hb hby at_33) rfl (pc' := 34) rfl ?_
   refine k_iconst X195 hx (hb hby at_34) (pc' := 35) rfl (z := (3 : Int32)) rfl ?_
   refine k_ishr X195 hx (hb hby at_35) (pc' := 36) rfl (fun v197 hv197 => ?_)
   refine k_iconst X195 hx (hb hby at_36) (pc' := 37) rfl (z := (1 : Int32)) rfl ?_
   refine k_iand X195 hx (hb hby at_37) (pc' := 38) rfl (fun v198 hv198 => ?_)
   refine k_if_eq X195 hx (hb hby at_38) (pn := 41) rfl (py := 45) (by decide) (fun hc199 => ?_) (fun hc199 => ?_)
   ·
    refine k_iloadN X195 hx (hb hby at_45) rfl (pc' := 46) rfl ?_
    refine k_ldc X195 hx hZ hown (hw _ (List.mem_of_getElem? (i := 1) rfl)) (hb hby at_46) (pc' := 48) rfl ?_
    refine k_iand X195 hx (hb hby at_48) (pc' := 49) rfl (fun v200 hv200 => ?_)
    refine key196 v200 ?_
    have qm : v200.toInt = i2.toInt % 536870912 := by rw [hv200]; exact c_mask _ _ 29 (by decide) (by decide)
    exact ⟨fun q => by rw [Int32.lt_iff_toInt_lt, show (0 : Int32).toInt = 0 from rfl] at q; omega, fun q => by rw [Int32.lt_iff_toInt_lt, show (536870911 : Int32).toInt = 536870911 from rfl] at q; omega⟩
   ·
    refine k_iconst X195 hx (hb hby at_41) (pc' := 42) rfl (z := (0 : Int32)) rfl ?_
    refine k_goto X195 hx (hb hby at_42) (pc' := 49) (by decide) ?_
    refine key196 (0 : Int32) ?_
    exact ⟨by decide, by decide⟩
  intro v201 hP202
  refine k_iastore X195 hx hZ e195 Vw195 ⟨by decide, by decide⟩ (i := 1) rfl (Nat.le_of_ble_eq_true rfl) (hb hby at_49) (pc' := 50) rfl (fun T203 h203 X203 e203 W203 V203 => ?_)
  have Vw203 : Arv Z h203 b187 k187 .int (4 : Int32) [(.int v193), (.int v201), (.int (0 : Int32)), (.int (0 : Int32))] (.int (0 : Int32)) := V203
  have N203 := Fr.snoc X203 N195 g_b187
  have Z203 : n0 ≤ h203.size := Nat.le_trans Z195 (Nat.le_of_eq W203.size.symm)
  refine k_aload X203 hx (hb hby at_50) rfl rfl (pc' := 52) rfl ?_
  refine k_iconst X203 hx (hb hby at_52) (pc' := 53) rfl (z := (2 : Int32)) rfl ?_
  suffices key204 : ∀ (v209 : Int32), (¬ v209 < 0 ∧ ¬ (536870911 : Int32) < v209) → KEnds p e below s 16 128 (Q0 n0) T203 (mkF m 69 #[.val (.int i0), .val (.int i1), .val (.int i2), .val (.int i3), .val (.int i4), .val (.int (2 : Int32)), .val (.ref b187), .unset, .unset, .unset, .unset, .unset, .unset, .unset, .unset, .unset, .unset, .unset] [(.int v209), (.int (2 : Int32)), (.ref b187)]) by
   refine k_iloadN X203 hx (hb hby at_53) rfl (pc' := 54) rfl ?_
   refine k_iconst X203 hx (hb hby at_54) (pc' := 55) rfl (z := (4 : Int32)) rfl ?_
   refine k_ishr X203 hx (hb hby at_55) (pc' := 56) rfl (fun v205 hv205 => ?_)
   refine k_iconst X203 hx (hb hby at_56) (pc' := 57) rfl (z := (1 : Int32)) rfl ?_
   refine k_iand X203 hx (hb hby at_57) (pc' := 58) rfl (fun v206 hv206 => ?_)
   refine k_if_eq X203 hx (hb hby at_58) (pn := 61) rfl (py := 65) (by decide) (fun hc207 => ?_) (fun hc207 => ?_)
   ·
    refine k_iloadN X203 hx (hb hby at_65) rfl (pc' := 66) rfl ?_
    refine k_ldc X203 hx hZ hown (hw _ (List.mem_of_getElem? (i := 1) rfl)) (hb hby at_66) (pc' := 68) rfl ?_
    refine k_iand X203 hx (hb hby at_68) (pc' := 69) rfl (fun v208 hv208 => ?_)
    refine key204 v208 ?_
    have qm : v208.toInt = i3.toInt % 536870912 := by rw [hv208]; exact c_mask _ _ 29 (by decide) (by decide)
    exact ⟨fun q => by rw [Int32.lt_iff_toInt_lt, show (0 : Int32).toInt = 0 from rfl] at q; omega, fun q => by rw [Int32.lt_iff_toInt_lt, show (536870911 : Int32).toInt = 536870911 from rfl] at q; omega⟩
   ·
    refine k_iconst X203 hx (hb hby at_61) (pc' := 62) rfl (z := (0 : Int32)) rfl ?_
    refine k_goto X203 hx (hb hby at_62) (pc' := 69) (by decide) ?_
    refine key204 (0 : Int32) ?_
    exact ⟨by decide, by decide⟩
  intro v209 hP210
  refine k_iastore X203 hx hZ e203 Vw203 ⟨by decide, by decide⟩ (i := 2) rfl (Nat.le_of_ble_eq_true rfl) (hb hby at_69) (pc' := 70) rfl (fun T211 h211 X211 e211 W211 V211 => ?_)
  have Vw211 : Arv Z h211 b187 k187 .int (4 : Int32) [(.int v193), (.int v201), (.int v209), (.int (0 : Int32))] (.int (0 : Int32)) := V211
  have N211 := Fr.snoc X211 N203 g_b187
  have Z211 : n0 ≤ h211.size := Nat.le_trans Z203 (Nat.le_of_eq W211.size.symm)
  refine k_aload X211 hx (hb hby at_70) rfl rfl (pc' := 72) rfl ?_
  refine k_iconst X211 hx (hb hby at_72) (pc' := 73) rfl (z := (3 : Int32)) rfl ?_
  suffices key212 : ∀ (v217 : Int32), (¬ v217 < 0 ∧ ¬ (536870911 : Int32) < v217) → KEnds p e below s 16 128 (Q0 n0) T211 (mkF m 90 #[.val (.int i0), .val (.int i1), .val (.int i2), .val (.int i3), .val (.int i4), .val (.int (2 : Int32)), .val (.ref b187), .unset, .unset, .unset, .unset, .unset, .unset, .unset, .unset, .unset, .unset, .unset] [(.int v217), (.int (3 : Int32)), (.ref b187)]) by
   refine k_iloadN X211 hx (hb hby at_73) rfl (pc' := 74) rfl ?_
   refine k_iconst X211 hx (hb hby at_74) (pc' := 75) rfl (z := (5 : Int32)) rfl ?_
   refine k_ishr X211 hx (hb hby at_75) (pc' := 76) rfl (fun v213 hv213 => ?_)
   refine k_iconst X211 hx (hb hby at_76) (pc' := 77) rfl (z := (1 : Int32)) rfl ?_
   refine k_iand X211 hx (hb hby at_77) (pc' := 78) rfl (fun v214 hv214 => ?_)
   refine k_if_eq X211 hx (hb hby at_78) (pn := 81) rfl (py := 85) (by decide) (fun hc215 => ?_) (fun hc215 => ?_)
   ·
    refine k_iload X211 hx (hb hby at_85) rfl (pc' := 87) rfl ?_
    refine k_ldc X211 hx hZ hown (hw _ (List.mem_of_getElem? (i := 1) rfl)) (hb hby at_87) (pc' := 89) rfl ?_
    refine k_iand X211 hx (hb hby at_89) (pc' := 90) rfl (fun v216 hv216 => ?_)
    refine key212 v216 ?_
    have qm : v216.toInt = i4.toInt % 536870912 := by rw [hv216]; exact c_mask _ _ 29 (by decide) (by decide)
    exact ⟨fun q => by rw [Int32.lt_iff_toInt_lt, show (0 : Int32).toInt = 0 from rfl] at q; omega, fun q => by rw [Int32.lt_iff_toInt_lt, show (536870911 : Int32).toInt = 536870911 from rfl] at q; omega⟩
   ·
    refine k_iconst X211 hx (hb hby at_81) (pc' := 82) rfl (z := (0 : Int32)) rfl ?_
    refine k_goto X211 hx (hb hby at_82) (pc' := 90) (by decide) ?_
    refine key212 (0 : Int32) ?_
    exact ⟨by decide, by decide⟩
  intro v217 hP218
  refine k_iastore X211 hx hZ e211 Vw211 ⟨by decide, by decide⟩ (i := 3) rfl (Nat.le_of_ble_eq_true rfl) (hb hby at_90) (pc' := 91) rfl (fun T219 h219 X219 e219 W219 V219 => ?_)
  have Vw219 : Arv Z h219 b187 k187 .int (4 : Int32) [(.int v193), (.int v201), (.int v209), (.int v217)] (.int (0 : Int32)) := V219
  have N219 := Fr.snoc X219 N211 g_b187
  have Z219 : n0 ≤ h219.size := Nat.le_trans Z211 (Nat.le_of_eq W219.size.symm)
  refine k_aload X219 hx (hb hby at_91) rfl rfl (pc' := 93) rfl ?_
  refine k_iconst X219 hx (hb hby at_93) (pc' := 94) rfl (z := (0 : Int32)) rfl ?_
  refine k_iaload X219 hx hZ e219 Vw219 ⟨by decide, by decide⟩ (v := (.int v193)) rfl (hb hby at_94) (pc' := 95) rfl ?_
  refine k_istore X219 hx (hb hby at_95) (Ls' := #[.val (.int i0), .val (.int i1), .val (.int i2), .val (.int i3), .val (.int i4), .val (.int (2 : Int32)), .val (.ref b187), .val (.int v193), .unset, .unset, .unset, .unset, .unset, .unset, .unset, .unset, .unset, .unset]) rfl (pc' := 97) rfl ?_
  refine k_iload X219 hx (hb hby at_97) rfl (pc' := 99) rfl ?_
  refine k_iconst X219 hx (hb hby at_99) (pc' := 100) rfl (z := (1 : Int32)) rfl ?_
  refine k_iadd X219 hx (hb hby at_100) (pc' := 101) rfl (fun v220 hv220 => ?_)
  refine k_aload X219 hx (hb hby at_101) rfl rfl (pc' := 103) rfl ?_
  refine k_iconst X219 hx (hb hby at_103) (pc' := 104) rfl (z := (1 : Int32)) rfl ?_
  refine k_iaload X219 hx hZ e219 Vw219 ⟨by decide, by decide⟩ (v := (.int v201)) rfl (hb hby at_104) (pc' := 105) rfl ?_
  refine k_iadd X219 hx (hb hby at_105) (pc' := 106) rfl (fun v221 hv221 => ?_)
  refine k_istore X219 hx (hb hby at_106) (Ls' := #[.val (.int i0), .val (.int i1), .val (.int i2), .val (.int i3), .val (.int i4), .val (.int (2 : Int32)), .val (.ref b187), .val (.int v193), .val (.int v221), .unset, .unset, .unset, .unset, .unset, .unset, .unset, .unset, .unset]) rfl (pc' := 108) rfl ?_
  refine k_iload X219 hx (hb hby at_108) rfl (pc' := 110) rfl ?_
  refine k_iconst X219 hx (hb hby at_110) (pc' := 111) rfl (z := (1 : Int32)) rfl ?_
  refine k_iadd X219 hx (hb hby at_111) (pc' := 112) rfl (fun v222 hv222 => ?_)
  refine k_aload X219 hx (hb hby at_112) rfl rfl (pc' := 114) rfl ?_
  refine k_iconst X219 hx (hb hby at_114) (pc' := 115) rfl (z := (2 : Int32)) rfl ?_
  refine k_iaload X219 hx hZ e219 Vw219 ⟨by decide, by decide⟩ (v := (.int v209)) rfl (hb hby at_115) (pc' := 116) rfl ?_
  refine k_iadd X219 hx (hb hby at_116) (pc' := 117) rfl (fun v223 hv223 => ?_)
  refine k_istore X219 hx (hb hby at_117) (Ls' := #[.val (.int i0), .val (.int i1), .val (.int i2), .val (.int i3), .val (.int i4), .val (.int (2 : Int32)), .val (.ref b187), .val (.int v193), .val (.int v221), .val (.int v223), .unset, .unset, .unset, .unset, .unset, .unset, .unset, .unset]) rfl (pc' := 119) rfl ?_
  refine k_iload X219 hx (hb hby at_119) rfl (pc' := 121) rfl ?_
  refine k_if_ne X219 hx (hb hby at_121) (pn := 124) rfl (py := 133) (by decide) (fun _ => ?_) (fun hc => absurd hc (by decide))
  refine k_iload X219 hx (hb hby at_133) rfl (pc' := 135) rfl ?_
  refine k_iconst X219 hx (hb hby at_135) (pc' := 136) rfl (z := (1 : Int32)) rfl ?_
  refine k_icmp_ne X219 hx (hb hby at_136) (pn := 139) rfl (py := 153) (by decide) (fun _ => ?_) (fun hc => absurd hc (by decide))
  refine k_iload X219 hx (hb hby at_153) rfl (pc' := 155) rfl ?_
  refine k_iconst X219 hx (hb hby at_155) (pc' := 156) rfl (z := (2 : Int32)) rfl ?_
  refine k_icmp_ne X219 hx (hb hby at_156) (pn := 159) rfl (py := 173) (by decide) (fun hc => absurd (by decide) hc) (fun _ => ?_)
  refine k_iload X219 hx (hb hby at_159) rfl (pc' := 161) rfl ?_
  refine k_iconst X219 hx (hb hby at_161) (pc' := 162) rfl (z := (1 : Int32)) rfl ?_
  refine k_iaddL X219 hx (hb hby at_162) (pc' := 163) rfl (z := v222) hv222.symm ?_
  refine k_aload X219 hx (hb hby at_163) rfl rfl (pc' := 165) rfl ?_
  refine k_iconst X219 hx (hb hby at_165) (pc' := 166) rfl (z := (2 : Int32)) rfl ?_
  refine k_iaload X219 hx hZ e219 Vw219 ⟨by decide, by decide⟩ (v := (.int v209)) rfl (hb hby at_166) (pc' := 167) rfl ?_
  refine k_iaddL X219 hx (hb hby at_167) (pc' := 168) rfl (z := v223) hv223.symm ?_
  refine k_istore X219 hx (hb hby at_168) (Ls' := #[.val (.int i0), .val (.int i1), .val (.int i2), .val (.int i3), .val (.int i4), .val (.int (2 : Int32)), .val (.ref b187), .val (.int v193), .val (.int v221), .val (.int v223), .val (.int v223), .unset, .unset, .unset, .unset, .unset, .unset, .unset]) rfl (pc' := 170) rfl ?_
  refine k_goto X219 hx (hb hby at_170) (pc' := 184) (by decide) ?_
  refine k_iload X219 hx (hb hby at_184) rfl (pc' := 186) rfl ?_
  refine k_iload X219 hx (hb hby at_186) rfl (pc' := 188) rfl ?_
  refine k_iload X219 hx (hb hby at_188) rfl (pc' := 190) rfl ?_
  refine k_iload X219 hx (hb hby at_190) rfl (pc' := 192) rfl ?_
  refine k_callS X219 hx hZ hown (hw _ (List.mem_of_getElem? (i := 2) rfl)) (hw _ (List.mem_of_getElem? (i := 3) rfl)) (hw _ (List.mem_of_getElem? (i := 4) rfl)) (hw _ (List.mem_of_getElem? (i := 5) rfl)) (by decide) (rm1_224 l Z a0 hw [] v193 v221 v223 b187 k187 v201 v209 v217 h219 n0 Z219 Vw219 g_b187) (by decide) (by decide) e219 (by rw [hml]; rfl) (argsL := [(.int (2 : Int32)), (.int v193), (.int v221), (.int v223)]) (rest := []) (lenOf pd_0 rfl) rfl (W := 0) (Nat.le_refl _) rfl (hb hby at_192) (by decide) (by decide) (pc' := 195) rfl (fun T229 L229 r229 X229 q229 => ?_)
  obtain ⟨N229, q229⟩ := q229
  have N229' := Fr.app N219 N229
  obtain ⟨b230, k231, rfl, F232, F233, g_b230, lt234, Z235⟩ := q229
  show KEnds p e below s _ _ _ T229 (mkF m 195 #[.val (.int i0), .val (.int i1), .val (.int i2), .val (.int i3), .val (.int i4), .val (.int (2 : Int32)), .val (.ref b187), .val (.int v193), .val (.int v221), .val (.int v223), .val (.int v223), .unset, .unset, .unset, .unset, .unset, .unset, .unset] [(.ref b230)])
  refine k_astore X229 hx (hb hby at_195) rfl (Ls' := #[.val (.int i0), .val (.int i1), .val (.int i2), .val (.int i3), .val (.int i4), .val (.int (2 : Int32)), .val (.ref b187), .val (.int v193), .val (.int v221), .val (.int v223), .val (.int v223), .val (.ref b230), .unset, .unset, .unset, .unset, .unset, .unset]) rfl (pc' := 197) rfl ?_
  refine k_aload X229 hx (hb hby at_197) rfl rfl (pc' := 199) rfl ?_
  refine k_iload X229 hx (hb hby at_199) rfl (pc' := 201) rfl ?_
  refine k_callS X229 hx hZ hown (hw _ (List.mem_of_getElem? (i := 6) rfl)) (hw _ (List.mem_of_getElem? (i := 7) rfl)) (hw _ (List.mem_of_getElem? (i := 8) rfl)) (hw _ (List.mem_of_getElem? (i := 9) rfl)) (by decide) (rm2_236 l Z a0 hw [] b230 v223 b187 k187 v193 v201 v209 v217 k231 v221 T229.heap n0 Z235 F232 g_b187 F233 g_b230 lt234) (by decide) (by decide) rfl (by rw [hml]; rfl) (argsL := [(.ref b230), (.int v223)]) (rest := []) (lenOf pd_1 rfl) rfl (W := 0) (Nat.le_refl _) rfl (hb hby at_201) (by decide) (by decide) (pc' := 204) rfl (fun T249 L249 r249 X249 q249 => ?_)
  obtain ⟨N249, q249⟩ := q249
  have N249' := Fr.app N229' N249
  rcases q249 with ⟨v250, v251, v252, h253, h254, h255, hc256, rfl, F257, F258, Z259⟩ | ⟨v260, v261, v262, v263, h264, h265, h266, h267, hc268, hc269, rfl, F270, F271, Z272⟩ | ⟨v273, v274, h275, h276, hc277, hc278, rfl, F279, F280, Z281⟩
  ·
   have hh282 : v222 = v252 := hv222.trans h255.symm
   subst hh282
   show KEnds p e below s _ _ _ T249 (mkF m 204 #[.val (.int i0), .val (.int i1), .val (.int i2), .val (.int i3), .val (.int i4), .val (.int (2 : Int32)), .val (.ref b187), .val (.int v193), .val (.int v221), .val (.int v223), .val (.int v223), .val (.ref b230), .unset, .unset, .unset, .unset, .unset, .unset] [(.int (1 : Int32))])
   refine k_istore X249 hx (hb hby at_204) (Ls' := #[.val (.int i0), .val (.int i1), .val (.int i2), .val (.int i3), .val (.int i4), .val (.int (2 : Int32)), .val (.ref b187), .val (.int v193), .val (.int v221), .val (.int v223), .val (.int v223), .val (.ref b230), .val (.int (1 : Int32)), .unset, .unset, .unset, .unset, .unset]) rfl (pc' := 206) rfl ?_
   refine k_iload X249 hx (hb hby at_206) rfl (pc' := 208) rfl ?_
   refine k_iconst X249 hx (hb hby at_208) (pc' := 209) rfl (z := (3 : Int32)) rfl ?_
   refine k_icmp_lt X249 hx (hb hby at_209) (pn := 212) rfl (py := 225) (by decide) (fun _ => ?_) (fun hc => absurd (by decide) hc)
   refine k_iload X249 hx (hb hby at_225) rfl (pc' := 227) rfl ?_
   refine k_iconst X249 hx (hb hby at_227) (pc' := 228) rfl (z := (2 : Int32)) rfl ?_
   refine k_icmp_lt X249 hx (hb hby at_228) (pn := 231) rfl (py := 244) (by decide) (fun hc => absurd hc (by decide)) (fun _ => ?_)
   refine k_aload X249 hx (hb hby at_231) rfl rfl (pc' := 233) rfl ?_
   refine k_iconst X249 hx (hb hby at_233) (pc' := 234) rfl (z := (2 : Int32)) rfl ?_
   refine k_iaload X249 hx hZ rfl F257 ⟨by decide, by decide⟩ (v := (.int v209)) rfl (hb hby at_234) (pc' := 235) rfl ?_
   refine k_if_eq X249 hx (hb hby at_235) (pn := 238) rfl (py := 244) (by decide) (fun hc283 => ?_) (fun hc283 => ?_)
   ·
    refine k_iload X249 hx (hb hby at_244) rfl (pc' := 246) rfl ?_
    refine k_iconst X249 hx (hb hby at_246) (pc' := 247) rfl (z := (1 : Int32)) rfl ?_
    refine k_icmp_lt X249 hx (hb hby at_247) (pn := 250) rfl (py := 263) (by decide) (fun hc => absurd hc (by decide)) (fun _ => ?_)
    refine k_aload X249 hx (hb hby at_250) rfl rfl (pc' := 252) rfl ?_
    refine k_iconst X249 hx (hb hby at_252) (pc' := 253) rfl (z := (1 : Int32)) rfl ?_
    refine k_iaload X249 hx hZ rfl F257 ⟨by decide, by decide⟩ (v := (.int v201)) rfl (hb hby at_253) (pc' := 254) rfl ?_
    refine k_if_eq X249 hx (hb hby at_254) (pn := 257) rfl (py := 263) (by decide) (fun hc284 => ?_) (fun hc284 => ?_)
    ·
     refine k_iconst X249 hx (hb hby at_263) (pc' := 264) rfl (z := (0 : Int32)) rfl ?_
     refine k_istore X249 hx (hb hby at_264) (Ls' := #[.val (.int i0), .val (.int i1), .val (.int i2), .val (.int i3), .val (.int i4), .val (.int (2 : Int32)), .val (.ref b187), .val (.int v193), .val (.int v221), .val (.int v223), .val (.int v223), .val (.ref b230), .val (.int (1 : Int32)), .val (.int (0 : Int32)), .unset, .unset, .unset, .unset]) rfl (pc' := 266) rfl ?_
     refine k_iload X249 hx (hb hby at_266) rfl (pc' := 268) rfl ?_
     refine k_if_ne X249 hx (hb hby at_268) (pn := 271) rfl (py := 298) (by decide) (fun hc => absurd (by decide) hc) (fun _ => ?_)
     refine k_iload X249 hx (hb hby at_271) rfl (pc' := 273) rfl ?_
     refine k_if_ne X249 hx (hb hby at_273) (pn := 276) rfl (py := 296) (by decide) (fun _ => ?_) (fun hc => absurd hc (by decide))
     refine k_iconst X249 hx (hb hby at_296) (pc' := 297) rfl (z := (0 : Int32)) rfl ?_
     exfalso
     have := rng32 v193
     have : (0 : Int32).toInt = 0 := (by decide)
     have q286 := hP194.1; rw [Int32.lt_iff_toInt_lt] at q286
     have : (536870911 : Int32).toInt = 536870911 := (by decide)
     have q287 := hP194.2; rw [Int32.lt_iff_toInt_lt] at q287
     have := rng32 v201
     have q289 := hP202.1; rw [Int32.lt_iff_toInt_lt] at q289
     have q290 := hP202.2; rw [Int32.lt_iff_toInt_lt] at q290
     have := rng32 v209
     have q292 := hP210.1; rw [Int32.lt_iff_toInt_lt] at q292
     have q293 := hP210.2; rw [Int32.lt_iff_toInt_lt] at q293
     have := rng32 v217
     have q295 := hP218.1; rw [Int32.lt_iff_toInt_lt] at q295
     have q296 := hP218.2; rw [Int32.lt_iff_toInt_lt] at q296
     have := rng32 v221
     have := rng32 v220
     have : (1 : Int32).toInt = 1 := (by decide)
     have q297 : (v220.toInt - (v193.toInt + (1 : Int32).toInt)) % 4294967296 = 0 := (by rw [hv220]; exact c_iadd _ _)
     have q298 : (v221.toInt - (v220.toInt + v201.toInt)) % 4294967296 = 0 := (by rw [hv221]; exact c_iadd _ _)
     have := rng32 v251
     have := rng32 v250
     have := rng32 v223
     have := rng32 v222
     have q299 : (v222.toInt - (v221.toInt + (1 : Int32).toInt)) % 4294967296 = 0 := (by rw [hv222]; exact c_iadd _ _)
     have q300 : (v223.toInt - (v222.toInt + v209.toInt)) % 4294967296 = 0 := (by rw [hv223]; exact c_iadd _ _)
     have : (2 : Int32).toInt = 2 := (by decide)
     have q301 : (v250.toInt - (v223.toInt - (2 : Int32).toInt)) % 4294967296 = 0 := (by rw [h253]; exact c_isub _ _)
     have q302 : (v251.toInt - (v250.toInt + (1 : Int32).toInt)) % 4294967296 = 0 := (by rw [h254]; exact c_iadd _ _)
     have q303 : ¬ v221.toInt = v251.toInt := fun q => hc256 (Int32.toInt_inj.mp q)
     have q304 := congrArg Int32.toInt hc283
     have q305 := congrArg Int32.toInt hc284
     omega
    ·
     refine k_iconst X249 hx (hb hby at_257) (pc' := 258) rfl (z := (1 : Int32)) rfl ?_
     refine k_istore X249 hx (hb hby at_258) (Ls' := #[.val (.int i0), .val (.int i1), .val (.int i2), .val (.int i3), .val (.int i4), .val (.int (2 : Int32)), .val (.ref b187), .val (.int v193), .val (.int v221), .val (.int v223), .val (.int v223), .val (.ref b230), .val (.int (1 : Int32)), .val (.int (1 : Int32)), .unset, .unset, .unset, .unset]) rfl (pc' := 260) rfl ?_
     refine k_goto X249 hx (hb hby at_260) (pc' := 266) (by decide) ?_
     refine k_iload X249 hx (hb hby at_266) rfl (pc' := 268) rfl ?_
     refine k_if_ne X249 hx (hb hby at_268) (pn := 271) rfl (py := 298) (by decide) (fun _ => ?_) (fun hc => absurd hc (by decide))
     refine k_aload X249 hx (hb hby at_298) rfl rfl (pc' := 300) rfl ?_
     refine k_iload X249 hx (hb hby at_300) rfl (pc' := 302) rfl ?_
     refine k_iaload X249 hx hZ rfl F257 ⟨by decide, by decide⟩ (v := (.int v201)) rfl (hb hby at_302) (pc' := 303) rfl ?_
     refine k_istore X249 hx (hb hby at_303) (Ls' := #[.val (.int i0), .val (.int i1), .val (.int i2), .val (.int i3), .val (.int i4), .val (.int (2 : Int32)), .val (.ref b187), .val (.int v193), .val (.int v221), .val (.int v223), .val (.int v223), .val (.ref b230), .val (.int (1 : Int32)), .val (.int (1 : Int32)), .val (.int v201), .unset, .unset, .unset]) rfl (pc' := 305) rfl ?_
     refine k_aload X249 hx (hb hby at_305) rfl rfl (pc' := 307) rfl ?_
     refine k_iload X249 hx (hb hby at_307) rfl (pc' := 309) rfl ?_
     refine k_iconst X249 hx (hb hby at_309) (pc' := 310) rfl (z := (0 : Int32)) rfl ?_
     refine k_iastore X249 hx hZ rfl F257 ⟨by decide, by decide⟩ (i := 1) rfl (Nat.le_of_ble_eq_true rfl) (hb hby at_310) (pc' := 311) rfl (fun T306 h306 X306 e306 W306 V306 => ?_)
     have Vw306 : Arv Z h306 b187 k187 .int (4 : Int32) [(.int v193), (.int (0 : Int32)), (.int v209), (.int v217)] (.int (0 : Int32)) := V306
     have N306 := Fr.snoc X306 N249' g_b187
     have Z306 : n0 ≤ h306.size := Nat.le_trans Z259 (Nat.le_of_eq W306.size.symm)
     refine k_aload X306 hx (hb hby at_311) rfl rfl (pc' := 313) rfl ?_
     refine k_iload X306 hx (hb hby at_313) rfl (pc' := 315) rfl ?_
     refine k_iconst X306 hx (hb hby at_315) (pc' := 316) rfl (z := (1 : Int32)) rfl ?_
     refine k_isubL X306 hx (hb hby at_316) (pc' := 317) rfl (z := (0 : Int32)) (by decide) ?_
     refine k_aload X306 hx (hb hby at_317) rfl rfl (pc' := 319) rfl ?_
     refine k_iload X306 hx (hb hby at_319) rfl (pc' := 321) rfl ?_
     refine k_iconst X306 hx (hb hby at_321) (pc' := 322) rfl (z := (1 : Int32)) rfl ?_
     refine k_isubL X306 hx (hb hby at_322) (pc' := 323) rfl (z := (0 : Int32)) (by decide) ?_
     refine k_iaload X306 hx hZ e306 Vw306 ⟨by decide, by decide⟩ (v := (.int v193)) rfl (hb hby at_323) (pc' := 324) rfl ?_
     refine k_iconst X306 hx (hb hby at_324) (pc' := 325) rfl (z := (1 : Int32)) rfl ?_
     refine k_iaddL X306 hx (hb hby at_325) (pc' := 326) rfl (z := v220) hv220.symm ?_
     refine k_iastore X306 hx hZ e306 Vw306 ⟨by decide, by decide⟩ (i := 0) rfl (Nat.le_of_ble_eq_true rfl) (hb hby at_326) (pc' := 327) rfl (fun T307 h307 X307 e307 W307 V307 => ?_)
     have Vw307 : Arv Z h307 b187 k187 .int (4 : Int32) [(.int v220), (.int (0 : Int32)), (.int v209), (.int v217)] (.int (0 : Int32)) := V307
     have N307 := Fr.snoc X307 N306 g_b187
     have Z307 : n0 ≤ h307.size := Nat.le_trans Z306 (Nat.le_of_eq W307.size.symm)
     refine k_aload X307 hx (hb hby at_327) rfl rfl (pc' := 329) rfl ?_
     refine k_iload X307 hx (hb hby at_329) rfl (pc' := 331) rfl ?_
     refine k_aload X307 hx (hb hby at_331) rfl rfl (pc' := 333) rfl ?_
     refine k_iload X307 hx (hb hby at_333) rfl (pc' := 335) rfl ?_
     refine k_iaload X307 hx hZ e307 Vw307 ⟨by decide, by decide⟩ (v := (.int v209)) rfl (hb hby at_335) (pc' := 336) rfl ?_
     refine k_iload X307 hx (hb hby at_336) rfl (pc' := 338) rfl ?_
     refine k_iadd X307 hx (hb hby at_338) (pc' := 339) rfl (fun v308 hv308 => ?_)
     refine k_iconst X307 hx (hb hby at_339) (pc' := 340) rfl (z := (1 : Int32)) rfl ?_
     refine k_isub X307 hx (hb hby at_340) (pc' := 341) rfl (fun v309 hv309 => ?_)
     refine k_iastore X307 hx hZ e307 Vw307 ⟨by decide, by decide⟩ (i := 2) rfl (Nat.le_of_ble_eq_true rfl) (hb hby at_341) (pc' := 342) rfl (fun T310 h310 X310 e310 W310 V310 => ?_)
     have Vw310 : Arv Z h310 b187 k187 .int (4 : Int32) [(.int v220), (.int (0 : Int32)), (.int v309), (.int v217)] (.int (0 : Int32)) := V310
     have N310 := Fr.snoc X310 N307 g_b187
     have Z310 : n0 ≤ h310.size := Nat.le_trans Z307 (Nat.le_of_eq W310.size.symm)
     refine k_aload X310 hx (hb hby at_342) rfl rfl (pc' := 344) rfl ?_
     refine k_iconst X310 hx (hb hby at_344) (pc' := 345) rfl (z := (0 : Int32)) rfl ?_
     refine k_iaload X310 hx hZ e310 Vw310 ⟨by decide, by decide⟩ (v := (.int v220)) rfl (hb hby at_345) (pc' := 346) rfl ?_
     refine k_istore X310 hx (hb hby at_346) (Ls' := #[.val (.int i0), .val (.int i1), .val (.int i2), .val (.int i3), .val (.int i4), .val (.int (2 : Int32)), .val (.ref b187), .val (.int v193), .val (.int v221), .val (.int v223), .val (.int v223), .val (.ref b230), .val (.int (1 : Int32)), .val (.int (1 : Int32)), .val (.int v201), .val (.int v220), .unset, .unset]) rfl (pc' := 348) rfl ?_
     refine k_iload X310 hx (hb hby at_348) rfl (pc' := 350) rfl ?_
     refine k_iconst X310 hx (hb hby at_350) (pc' := 351) rfl (z := (1 : Int32)) rfl ?_
     refine k_iadd X310 hx (hb hby at_351) (pc' := 352) rfl (fun v311 hv311 => ?_)
     refine k_aload X310 hx (hb hby at_352) rfl rfl (pc' := 354) rfl ?_
     refine k_iconst X310 hx (hb hby at_354) (pc' := 355) rfl (z := (1 : Int32)) rfl ?_
     refine k_iaload X310 hx hZ e310 Vw310 ⟨by decide, by decide⟩ (v := (.int (0 : Int32))) rfl (hb hby at_355) (pc' := 356) rfl ?_
     refine k_iaddL X310 hx (hb hby at_356) (pc' := 357) rfl (z := v311) (Int32.add_zero _) ?_
     refine k_istore X310 hx (hb hby at_357) (Ls' := #[.val (.int i0), .val (.int i1), .val (.int i2), .val (.int i3), .val (.int i4), .val (.int (2 : Int32)), .val (.ref b187), .val (.int v193), .val (.int v221), .val (.int v223), .val (.int v223), .val (.ref b230), .val (.int (1 : Int32)), .val (.int (1 : Int32)), .val (.int v201), .val (.int v220), .val (.int v311), .unset]) rfl (pc' := 359) rfl ?_
     refine k_iload X310 hx (hb hby at_359) rfl (pc' := 361) rfl ?_
     refine k_iconst X310 hx (hb hby at_361) (pc' := 362) rfl (z := (1 : Int32)) rfl ?_
     refine k_iadd X310 hx (hb hby at_362) (pc' := 363) rfl (fun v312 hv312 => ?_)
     refine k_aload X310 hx (hb hby at_363) rfl rfl (pc' := 365) rfl ?_
     refine k_iconst X310 hx (hb hby at_365) (pc' := 366) rfl (z := (2 : Int32)) rfl ?_
     refine k_iaload X310 hx hZ e310 Vw310 ⟨by decide, by decide⟩ (v := (.int v309)) rfl (hb hby at_366) (pc' := 367) rfl ?_
     refine k_iadd X310 hx (hb hby at_367) (pc' := 368) rfl (fun v313 hv313 => ?_)
     refine k_istore X310 hx (hb hby at_368) (Ls' := #[.val (.int i0), .val (.int i1), .val (.int i2), .val (.int i3), .val (.int i4), .val (.int (2 : Int32)), .val (.ref b187), .val (.int v193), .val (.int v221), .val (.int v223), .val (.int v223), .val (.ref b230), .val (.int (1 : Int32)), .val (.int (1 : Int32)), .val (.int v201), .val (.int v220), .val (.int v311), .val (.int v313)]) rfl (pc' := 370) rfl ?_
     refine k_iload X310 hx (hb hby at_370) rfl (pc' := 372) rfl ?_
     refine k_if_eq X310 hx (hb hby at_372) (pn := 375) rfl (py := 395) (by decide) (fun hc => absurd hc (by decide)) (fun _ => ?_)
     refine k_aload X310 hx (hb hby at_375) rfl rfl (pc' := 377) rfl ?_
     refine k_iload X310 hx (hb hby at_377) rfl (pc' := 379) rfl ?_
     refine k_iload X310 hx (hb hby at_379) rfl (pc' := 381) rfl ?_
     refine k_iload X310 hx (hb hby at_381) rfl (pc' := 383) rfl ?_
     refine k_iload X310 hx (hb hby at_383) rfl (pc' := 385) rfl ?_
     have F314 := (((F258.other W306 (Ne.symm (Nat.ne_of_lt lt234))).other W307 (Ne.symm (Nat.ne_of_lt lt234))).other W310 (Ne.symm (Nat.ne_of_lt lt234)))
     refine k_callS X310 hx hZ hown (hw _ (List.mem_of_getElem? (i := 10) rfl)) (hw _ (List.mem_of_getElem? (i := 11) rfl)) (hw _ (List.mem_of_getElem? (i := 4) rfl)) (hw _ (List.mem_of_getElem? (i := 12) rfl)) (by decide) (rm3_315 l Z a0 hw [] b230 v220 v311 v313 k231 v193 v222 h310 n0 Z310 F314) (by decide) (by decide) e310 (by rw [hml]; rfl) (argsL := [(.ref b230), (.int (2 : Int32)), (.int v220), (.int v311), (.int v313)]) (rest := []) (lenOf pd_2 rfl) rfl (W := 0) (Nat.le_refl _) rfl (hb hby at_385) (by decide) (by decide) (pc' := 388) rfl (fun T318 L318 r318 X318 q318 => ?_)
     obtain ⟨N318, e318, q318⟩ := q318
     have N318' := Fr.app N310 N318
     rcases q318 with ⟨hc319, rfl⟩ | ⟨hc320, hc321, rfl⟩ | ⟨hc322, hc323, rfl⟩
     ·
      show KEnds p e below s _ _ _ T318 (mkF m 388 #[.val (.int i0), .val (.int i1), .val (.int i2), .val (.int i3), .val (.int i4), .val (.int (2 : Int32)), .val (.ref b187), .val (.int v193), .val (.int v221), .val (.int v223), .val (.int v223), .val (.ref b230), .val (.int (1 : Int32)), .val (.int (1 : Int32)), .val (.int v201), .val (.int v220), .val (.int v311), .val (.int v313)] [(.int (0 : Int32))])
      refine k_if_eq X318 hx (hb hby at_388) (pn := 391) rfl (py := 395) (by decide) (fun _ => ?_) (fun hc => absurd (by decide) hc)
      refine k_iconst X318 hx (hb hby at_395) (pc' := 396) rfl (z := (0 : Int32)) rfl ?_
      exfalso
      have := rng32 v193
      have : (0 : Int32).toInt = 0 := (by decide)
      have q325 := hP194.1; rw [Int32.lt_iff_toInt_lt] at q325
      have : (536870911 : Int32).toInt = 536870911 := (by decide)
      have q326 := hP194.2; rw [Int32.lt_iff_toInt_lt] at q326
      have := rng32 v201
      have q328 := hP202.1; rw [Int32.lt_iff_toInt_lt] at q328
      have q329 := hP202.2; rw [Int32.lt_iff_toInt_lt] at q329
      have := rng32 v209
      have q331 := hP210.1; rw [Int32.lt_iff_toInt_lt] at q331
      have q332 := hP210.2; rw [Int32.lt_iff_toInt_lt] at q332
      have := rng32 v217
      have q334 := hP218.1; rw [Int32.lt_iff_toInt_lt] at q334
      have q335 := hP218.2; rw [Int32.lt_iff_toInt_lt] at q335
      have := rng32 v221
      have := rng32 v220
      have : (1 : Int32).toInt = 1 := (by decide)
      have q336 : (v220.toInt - (v193.toInt + (1 : Int32).toInt)) % 4294967296 = 0 := (by rw [hv220]; exact c_iadd _ _)
      have q337 : (v221.toInt - (v220.toInt + v201.toInt)) % 4294967296 = 0 := (by rw [hv221]; exact c_iadd _ _)
      have := rng32 v251
      have := rng32 v250
      have := rng32 v223
      have := rng32 v222
      have q338 : (v222.toInt - (v221.toInt + (1 : Int32).toInt)) % 4294967296 = 0 := (by rw [hv222]; exact c_iadd _ _)
      have q339 : (v223.toInt - (v222.toInt + v209.toInt)) % 4294967296 = 0 := (by rw [hv223]; exact c_iadd _ _)
      have : (2 : Int32).toInt = 2 := (by decide)
      have q340 : (v250.toInt - (v223.toInt - (2 : Int32).toInt)) % 4294967296 = 0 := (by rw [h253]; exact c_isub _ _)
      have q341 : (v251.toInt - (v250.toInt + (1 : Int32).toInt)) % 4294967296 = 0 := (by rw [h254]; exact c_iadd _ _)
      have q342 : ¬ v221.toInt = v251.toInt := fun q => hc256 (Int32.toInt_inj.mp q)
      have q343 := congrArg Int32.toInt hc283
      have q344 : ¬ v201.toInt = (0 : Int32).toInt := fun q => hc284 (Int32.toInt_inj.mp q)
      have q345 : ¬ v193.toInt = v220.toInt := fun q => hc319 (Int32.toInt_inj.mp q)
      omega
     ·
      show KEnds p e below s _ _ _ T318 (mkF m 388 #[.val (.int i0), .val (.int i1), .val (.int i2), .val (.int i3), .val (.int i4), .val (.int (2 : Int32)), .val (.ref b187), .val (.int v193), .val (.int v221), .val (.int v223), .val (.int v223), .val (.ref b230), .val (.int (1 : Int32)), .val (.int (1 : Int32)), .val (.int v201), .val (.int v220), .val (.int v311), .val (.int v313)] [(.int (0 : Int32))])
      refine k_if_eq X318 hx (hb hby at_388) (pn := 391) rfl (py := 395) (by decide) (fun _ => ?_) (fun hc => absurd (by decide) hc)
      refine k_iconst X318 hx (hb hby at_395) (pc' := 396) rfl (z := (0 : Int32)) rfl ?_
      exfalso
      have := rng32 v193
      have : (0 : Int32).toInt = 0 := (by decide)
      have q347 := hP194.1; rw [Int32.lt_iff_toInt_lt] at q347
      have : (536870911 : Int32).toInt = 536870911 := (by decide)
      have q348 := hP194.2; rw [Int32.lt_iff_toInt_lt] at q348
      have := rng32 v201
      have q350 := hP202.1; rw [Int32.lt_iff_toInt_lt] at q350
      have q351 := hP202.2; rw [Int32.lt_iff_toInt_lt] at q351
      have := rng32 v209
      have q353 := hP210.1; rw [Int32.lt_iff_toInt_lt] at q353
      have q354 := hP210.2; rw [Int32.lt_iff_toInt_lt] at q354
      have := rng32 v217
      have q356 := hP218.1; rw [Int32.lt_iff_toInt_lt] at q356
      have q357 := hP218.2; rw [Int32.lt_iff_toInt_lt] at q357
      have := rng32 v221
      have := rng32 v220
      have : (1 : Int32).toInt = 1 := (by decide)
      have q358 : (v220.toInt - (v193.toInt + (1 : Int32).toInt)) % 4294967296 = 0 := (by rw [hv220]; exact c_iadd _ _)
      have q359 : (v221.toInt - (v220.toInt + v201.toInt)) % 4294967296 = 0 := (by rw [hv221]; exact c_iadd _ _)
      have := rng32 v251
      have := rng32 v250
      have := rng32 v223
      have := rng32 v222
      have q360 : (v222.toInt - (v221.toInt + (1 : Int32).toInt)) % 4294967296 = 0 := (by rw [hv222]; exact c_iadd _ _)
      have q361 : (v223.toInt - (v222.toInt + v209.toInt)) % 4294967296 = 0 := (by rw [hv223]; exact c_iadd _ _)
      have : (2 : Int32).toInt = 2 := (by decide)
      have q362 : (v250.toInt - (v223.toInt - (2 : Int32).toInt)) % 4294967296 = 0 := (by rw [h253]; exact c_isub _ _)
      have q363 : (v251.toInt - (v250.toInt + (1 : Int32).toInt)) % 4294967296 = 0 := (by rw [h254]; exact c_iadd _ _)
      have q364 : ¬ v221.toInt = v251.toInt := fun q => hc256 (Int32.toInt_inj.mp q)
      have q365 := congrArg Int32.toInt hc283
      have q366 : ¬ v201.toInt = (0 : Int32).toInt := fun q => hc284 (Int32.toInt_inj.mp q)
      have q367 := congrArg Int32.toInt hc320
      have := rng32 v311
      have q368 : (v311.toInt - (v220.toInt + (1 : Int32).toInt)) % 4294967296 = 0 := (by rw [hv311]; exact c_iadd _ _)
      have q369 : ¬ v222.toInt = v311.toInt := fun q => hc321 (Int32.toInt_inj.mp q)
      omega
     ·
      show KEnds p e below s _ _ _ T318 (mkF m 388 #[.val (.int i0), .val (.int i1), .val (.int i2), .val (.int i3), .val (.int i4), .val (.int (2 : Int32)), .val (.ref b187), .val (.int v193), .val (.int v221), .val (.int v223), .val (.int v223), .val (.ref b230), .val (.int (1 : Int32)), .val (.int (1 : Int32)), .val (.int v201), .val (.int v220), .val (.int v311), .val (.int v313)] [(.int (1 : Int32))])
      refine k_if_eq X318 hx (hb hby at_388) (pn := 391) rfl (py := 395) (by decide) (fun hc => absurd hc (by decide)) (fun _ => ?_)
      refine k_iconst X318 hx (hb hby at_391) (pc' := 392) rfl (z := (1 : Int32)) rfl ?_
      refine k_goto X318 hx (hb hby at_392) (pc' := 396) (by decide) ?_
      exact k_retN X318 hx (t := .boolean) Bd.returns (by simp) (hb hby at_396) hlk (by decide) (by decide) (z' := (1 : Int32)) rfl ⟨rfl, N318'⟩
   ·
    refine k_iconst X249 hx (hb hby at_238) (pc' := 239) rfl (z := (2 : Int32)) rfl ?_
    refine k_istore X249 hx (hb hby at_239) (Ls' := #[.val (.int i0), .val (.int i1), .val (.int i2), .val (.int i3), .val (.int i4), .val (.int (2 : Int32)), .val (.ref b187), .val (.int v193), .val (.int v221), .val (.int v223), .val (.int v223), .val (.ref b230), .val (.int (1 : Int32)), .val (.int (2 : Int32)), .unset, .unset, .unset, .unset]) rfl (pc' := 241) rfl ?_
    refine k_goto X249 hx (hb hby at_241) (pc' := 266) (by decide) ?_
    refine k_iload X249 hx (hb hby at_266) rfl (pc' := 268) rfl ?_
    refine k_if_ne X249 hx (hb hby at_268) (pn := 271) rfl (py := 298) (by decide) (fun _ => ?_) (fun hc => absurd hc (by decide))
    refine k_aload X249 hx (hb hby at_298) rfl rfl (pc' := 300) rfl ?_
    refine k_iload X249 hx (hb hby at_300) rfl (pc' := 302) rfl ?_
    refine k_iaload X249 hx hZ rfl F257 ⟨by decide, by decide⟩ (v := (.int v209)) rfl (hb hby at_302) (pc' := 303) rfl ?_
    refine k_istore X249 hx (hb hby at_303) (Ls' := #[.val (.int i0), .val (.int i1), .val (.int i2), .val (.int i3), .val (.int i4), .val (.int (2 : Int32)), .val (.ref b187), .val (.int v193), .val (.int v221), .val (.int v223), .val (.int v223), .val (.ref b230), .val (.int (1 : Int32)), .val (.int (2 : Int32)), .val (.int v209), .unset, .unset, .unset]) rfl (pc' := 305) rfl ?_
    refine k_aload X249 hx (hb hby at_305) rfl rfl (pc' := 307) rfl ?_
    refine k_iload X249 hx (hb hby at_307) rfl (pc' := 309) rfl ?_
    refine k_iconst X249 hx (hb hby at_309) (pc' := 310) rfl (z := (0 : Int32)) rfl ?_
    refine k_iastore X249 hx hZ rfl F257 ⟨by decide, by decide⟩ (i := 2) rfl (Nat.le_of_ble_eq_true rfl) (hb hby at_310) (pc' := 311) rfl (fun T370 h370 X370 e370 W370 V370 => ?_)
    have Vw370 : Arv Z h370 b187 k187 .int (4 : Int32) [(.int v193), (.int v201), (.int (0 : Int32)), (.int v217)] (.int (0 : Int32)) := V370
    have N370 := Fr.snoc X370 N249' g_b187
    have Z370 : n0 ≤ h370.size := Nat.le_trans Z259 (Nat.le_of_eq W370.size.symm)
    refine k_aload X370 hx (hb hby at_311) rfl rfl (pc' := 313) rfl ?_
    refine k_iload X370 hx (hb hby at_313) rfl (pc' := 315) rfl ?_
    refine k_iconst X370 hx (hb hby at_315) (pc' := 316) rfl (z := (1 : Int32)) rfl ?_
    refine k_isubL X370 hx (hb hby at_316) (pc' := 317) rfl (z := (1 : Int32)) (by decide) ?_
    refine k_aload X370 hx (hb hby at_317) rfl rfl (pc' := 319) rfl ?_
    refine k_iload X370 hx (hb hby at_319) rfl (pc' := 321) rfl ?_
    refine k_iconst X370 hx (hb hby at_321) (pc' := 322) rfl (z := (1 : Int32)) rfl ?_
    refine k_isubL X370 hx (hb hby at_322) (pc' := 323) rfl (z := (1 : Int32)) (by decide) ?_
    refine k_iaload X370 hx hZ e370 Vw370 ⟨by decide, by decide⟩ (v := (.int v201)) rfl (hb hby at_323) (pc' := 324) rfl ?_
    refine k_iconst X370 hx (hb hby at_324) (pc' := 325) rfl (z := (1 : Int32)) rfl ?_
    refine k_iadd X370 hx (hb hby at_325) (pc' := 326) rfl (fun v371 hv371 => ?_)
    refine k_iastore X370 hx hZ e370 Vw370 ⟨by decide, by decide⟩ (i := 1) rfl (Nat.le_of_ble_eq_true rfl) (hb hby at_326) (pc' := 327) rfl (fun T372 h372 X372 e372 W372 V372 => ?_)
    have Vw372 : Arv Z h372 b187 k187 .int (4 : Int32) [(.int v193), (.int v371), (.int (0 : Int32)), (.int v217)] (.int (0 : Int32)) := V372
    have N372 := Fr.snoc X372 N370 g_b187
    have Z372 : n0 ≤ h372.size := Nat.le_trans Z370 (Nat.le_of_eq W372.size.symm)
    refine k_aload X372 hx (hb hby at_327) rfl rfl (pc' := 329) rfl ?_
    refine k_iload X372 hx (hb hby at_329) rfl (pc' := 331) rfl ?_
    refine k_aload X372 hx (hb hby at_331) rfl rfl (pc' := 333) rfl ?_
    refine k_iload X372 hx (hb hby at_333) rfl (pc' := 335) rfl ?_
    refine k_iaload X372 hx hZ e372 Vw372 ⟨by decide, by decide⟩ (v := (.int (0 : Int32))) rfl (hb hby at_335) (pc' := 336) rfl ?_
    refine k_iload X372 hx (hb hby at_336) rfl (pc' := 338) rfl ?_
    refine k_iaddL X372 hx (hb hby at_338) (pc' := 339) rfl (z := v209) (Int32.zero_add _) ?_
    refine k_iconst X372 hx (hb hby at_339) (pc' := 340) rfl (z := (1 : Int32)) rfl ?_
    refine k_isub X372 hx (hb hby at_340) (pc' := 341) rfl (fun v373 hv373 => ?_)
    refine k_iastore X372 hx hZ e372 Vw372 ⟨by decide, by decide⟩ (i := 2) rfl (Nat.le_of_ble_eq_true rfl) (hb hby at_341) (pc' := 342) rfl (fun T374 h374 X374 e374 W374 V374 => ?_)
    have Vw374 : Arv Z h374 b187 k187 .int (4 : Int32) [(.int v193), (.int v371), (.int v373), (.int v217)] (.int (0 : Int32)) := V374
    have N374 := Fr.snoc X374 N372 g_b187
    have Z374 : n0 ≤ h374.size := Nat.le_trans Z372 (Nat.le_of_eq W374.size.symm)
    refine k_aload X374 hx (hb hby at_342) rfl rfl (pc' := 344) rfl ?_
    refine k_iconst X374 hx (hb hby at_344) (pc' := 345) rfl (z := (0 : Int32)) rfl ?_
    refine k_iaload X374 hx hZ e374 Vw374 ⟨by decide, by decide⟩ (v := (.int v193)) rfl (hb hby at_345) (pc' := 346) rfl ?_
    refine k_istore X374 hx (hb hby at_346) (Ls' := #[.val (.int i0), .val (.int i1), .val (.int i2), .val (.int i3), .val (.int i4), .val (.int (2 : Int32)), .val (.ref b187), .val (.int v193), .val (.int v221), .val (.int v223), .val (.int v223), .val (.ref b230), .val (.int (1 : Int32)), .val (.int (2 : Int32)), .val (.int v209), .val (.int v193), .unset, .unset]) rfl (pc' := 348) rfl ?_
    refine k_iload X374 hx (hb hby at_348) rfl (pc' := 350) rfl ?_
    refine k_iconst X374 hx (hb hby at_350) (pc' := 351) rfl (z := (1 : Int32)) rfl ?_
    refine k_iaddL X374 hx (hb hby at_351) (pc' := 352) rfl (z := v220) hv220.symm ?_
    refine k_aload X374 hx (hb hby at_352) rfl rfl (pc' := 354) rfl ?_
    refine k_iconst X374 hx (hb hby at_354) (pc' := 355) rfl (z := (1 : Int32)) rfl ?_
    refine k_iaload X374 hx hZ e374 Vw374 ⟨by decide, by decide⟩ (v := (.int v371)) rfl (hb hby at_355) (pc' := 356) rfl ?_
    refine k_iadd X374 hx (hb hby at_356) (pc' := 357) rfl (fun v375 hv375 => ?_)
    refine k_istore X374 hx (hb hby at_357) (Ls' := #[.val (.int i0), .val (.int i1), .val (.int i2), .val (.int i3), .val (.int i4), .val (.int (2 : Int32)), .val (.ref b187), .val (.int v193), .val (.int v221), .val (.int v223), .val (.int v223), .val (.ref b230), .val (.int (1 : Int32)), .val (.int (2 : Int32)), .val (.int v209), .val (.int v193), .val (.int v375), .unset]) rfl (pc' := 359) rfl ?_
    refine k_iload X374 hx (hb hby at_359) rfl (pc' := 361) rfl ?_
    refine k_iconst X374 hx (hb hby at_361) (pc' := 362) rfl (z := (1 : Int32)) rfl ?_
    refine k_iadd X374 hx (hb hby at_362) (pc' := 363) rfl (fun v376 hv376 => ?_)
    refine k_aload X374 hx (hb hby at_363) rfl rfl (pc' := 365) rfl ?_
    refine k_iconst X374 hx (hb hby at_365) (pc' := 366) rfl (z := (2 : Int32)) rfl ?_
    refine k_iaload X374 hx hZ e374 Vw374 ⟨by decide, by decide⟩ (v := (.int v373)) rfl (hb hby at_366) (pc' := 367) rfl ?_
    refine k_iadd X374 hx (hb hby at_367) (pc' := 368) rfl (fun v377 hv377 => ?_)
    refine k_istore X374 hx (hb hby at_368) (Ls' := #[.val (.int i0), .val (.int i1), .val (.int i2), .val (.int i3), .val (.int i4), .val (.int (2 : Int32)), .val (.ref b187), .val (.int v193), .val (.int v221), .val (.int v223), .val (.int v223), .val (.ref b230), .val (.int (1 : Int32)), .val (.int (2 : Int32)), .val (.int v209), .val (.int v193), .val (.int v375), .val (.int v377)]) rfl (pc' := 370) rfl ?_
    refine k_iload X374 hx (hb hby at_370) rfl (pc' := 372) rfl ?_
    refine k_if_eq X374 hx (hb hby at_372) (pn := 375) rfl (py := 395) (by decide) (fun hc => absurd hc (by decide)) (fun _ => ?_)
    refine k_aload X374 hx (hb hby at_375) rfl rfl (pc' := 377) rfl ?_
    refine k_iload X374 hx (hb hby at_377) rfl (pc' := 379) rfl ?_
    refine k_iload X374 hx (hb hby at_379) rfl (pc' := 381) rfl ?_
    refine k_iload X374 hx (hb hby at_381) rfl (pc' := 383) rfl ?_
    refine k_iload X374 hx (hb hby at_383) rfl (pc' := 385) rfl ?_
    have F378 := (((F258.other W370 (Ne.symm (Nat.ne_of_lt lt234))).other W372 (Ne.symm (Nat.ne_of_lt lt234))).other W374 (Ne.symm (Nat.ne_of_lt lt234)))
    refine k_callS X374 hx hZ hown (hw _ (List.mem_of_getElem? (i := 10) rfl)) (hw _ (List.mem_of_getElem? (i := 11) rfl)) (hw _ (List.mem_of_getElem? (i := 4) rfl)) (hw _ (List.mem_of_getElem? (i := 12) rfl)) (by decide) (rm3_379 l Z a0 hw [] b230 v193 v375 v377 k231 v222 h374 n0 Z374 F378) (by decide) (by decide) e374 (by rw [hml]; rfl) (argsL := [(.ref b230), (.int (2 : Int32)), (.int v193), (.int v375), (.int v377)]) (rest := []) (lenOf pd_2 rfl) rfl (W := 0) (Nat.le_refl _) rfl (hb hby at_385) (by decide) (by decide) (pc' := 388) rfl (fun T381 L381 r381 X381 q381 => ?_)
    obtain ⟨N381, e381, q381⟩ := q381
    have N381' := Fr.app N374 N381
    rcases q381 with ⟨hc382, rfl⟩ | ⟨hc383, rfl⟩
    ·
     show KEnds p e below s _ _ _ T381 (mkF m 388 #[.val (.int i0), .val (.int i1), .val (.int i2), .val (.int i3), .val (.int i4), .val (.int (2 : Int32)), .val (.ref b187), .val (.int v193), .val (.int v221), .val (.int v223), .val (.int v223), .val (.ref b230), .val (.int (1 : Int32)), .val (.int (2 : Int32)), .val (.int v209), .val (.int v193), .val (.int v375), .val (.int v377)] [(.int (0 : Int32))])
     refine k_if_eq X381 hx (hb hby at_388) (pn := 391) rfl (py := 395) (by decide) (fun _ => ?_) (fun hc => absurd (by decide) hc)
     refine k_iconst X381 hx (hb hby at_395) (pc' := 396) rfl (z := (0 : Int32)) rfl ?_
     exfalso
     have := rng32 v193
     have : (0 : Int32).toInt = 0 := (by decide)
     have q385 := hP194.1; rw [Int32.lt_iff_toInt_lt] at q385
     have : (536870911 : Int32).toInt = 536870911 := (by decide)
     have q386 := hP194.2; rw [Int32.lt_iff_toInt_lt] at q386
     have := rng32 v201
     have q388 := hP202.1; rw [Int32.lt_iff_toInt_lt] at q388
     have q389 := hP202.2; rw [Int32.lt_iff_toInt_lt] at q389
     have := rng32 v209
     have q391 := hP210.1; rw [Int32.lt_iff_toInt_lt] at q391
     have q392 := hP210.2; rw [Int32.lt_iff_toInt_lt] at q392
     have := rng32 v217
     have q394 := hP218.1; rw [Int32.lt_iff_toInt_lt] at q394
     have q395 := hP218.2; rw [Int32.lt_iff_toInt_lt] at q395
     have := rng32 v221
     have := rng32 v220
     have : (1 : Int32).toInt = 1 := (by decide)
     have q396 : (v220.toInt - (v193.toInt + (1 : Int32).toInt)) % 4294967296 = 0 := (by rw [hv220]; exact c_iadd _ _)
     have q397 : (v221.toInt - (v220.toInt + v201.toInt)) % 4294967296 = 0 := (by rw [hv221]; exact c_iadd _ _)
     have := rng32 v251
     have := rng32 v250
     have := rng32 v223
     have := rng32 v222
     have q398 : (v222.toInt - (v221.toInt + (1 : Int32).toInt)) % 4294967296 = 0 := (by rw [hv222]; exact c_iadd _ _)
     have q399 : (v223.toInt - (v222.toInt + v209.toInt)) % 4294967296 = 0 := (by rw [hv223]; exact c_iadd _ _)
     have : (2 : Int32).toInt = 2 := (by decide)
     have q400 : (v250.toInt - (v223.toInt - (2 : Int32).toInt)) % 4294967296 = 0 := (by rw [h253]; exact c_isub _ _)
     have q401 : (v251.toInt - (v250.toInt + (1 : Int32).toInt)) % 4294967296 = 0 := (by rw [h254]; exact c_iadd _ _)
     have q402 : ¬ v221.toInt = v251.toInt := fun q => hc256 (Int32.toInt_inj.mp q)
     have q403 : ¬ v209.toInt = (0 : Int32).toInt := fun q => hc283 (Int32.toInt_inj.mp q)
     have := rng32 v375
     have := rng32 v371
     have q404 : (v371.toInt - (v201.toInt + (1 : Int32).toInt)) % 4294967296 = 0 := (by rw [hv371]; exact c_iadd _ _)
     have q405 : (v375.toInt - (v220.toInt + v371.toInt)) % 4294967296 = 0 := (by rw [hv375]; exact c_iadd _ _)
     have q406 : ¬ v222.toInt = v375.toInt := fun q => hc382 (Int32.toInt_inj.mp q)
     omega
    ·
     show KEnds p e below s _ _ _ T381 (mkF m 388 #[.val (.int i0), .val (.int i1), .val (.int i2), .val (.int i3), .val (.int i4), .val (.int (2 : Int32)), .val (.ref b187), .val (.int v193), .val (.int v221), .val (.int v223), .val (.int v223), .val (.ref b230), .val (.int (1 : Int32)), .val (.int (2 : Int32)), .val (.int v209), .val (.int v193), .val (.int v375), .val (.int v377)] [(.int (1 : Int32))])
     refine k_if_eq X381 hx (hb hby at_388) (pn := 391) rfl (py := 395) (by decide) (fun hc => absurd hc (by decide)) (fun _ => ?_)
     refine k_iconst X381 hx (hb hby at_391) (pc' := 392) rfl (z := (1 : Int32)) rfl ?_
     refine k_goto X381 hx (hb hby at_392) (pc' := 396) (by decide) ?_
     exact k_retN X381 hx (t := .boolean) Bd.returns (by simp) (hb hby at_396) hlk (by decide) (by decide) (z' := (1 : Int32)) rfl ⟨rfl, N381'⟩
  ·
   have hh407 : v220 = v262 := hv220.trans h266.symm
   subst hh407
   show KEnds p e below s _ _ _ T249 (mkF m 204 #[.val (.int i0), .val (.int i1), .val (.int i2), .val (.int i3), .val (.int i4), .val (.int (2 : Int32)), .val (.ref b187), .val (.int v193), .val (.int v221), .val (.int v223), .val (.int v223), .val (.ref b230), .unset, .unset, .unset, .unset, .unset, .unset] [(.int (1 : Int32))])
   refine k_istore X249 hx (hb hby at_204) (Ls' := #[.val (.int i0), .val (.int i1), .val (.int i2), .val (.int i3), .val (.int i4), .val (.int (2 : Int32)), .val (.ref b187), .val (.int v193), .val (.int v221), .val (.int v223), .val (.int v223), .val (.ref b230), .val (.int (1 : Int32)), .unset, .unset, .unset, .unset, .unset]) rfl (pc' := 206) rfl ?_
   refine k_iload X249 hx (hb hby at_206) rfl (pc' := 208) rfl ?_
   refine k_iconst X249 hx (hb hby at_208) (pc' := 209) rfl (z := (3 : Int32)) rfl ?_
   refine k_icmp_lt X249 hx (hb hby at_209) (pn := 212) rfl (py := 225) (by decide) (fun _ => ?_) (fun hc => absurd (by decide) hc)
   refine k_iload X249 hx (hb hby at_225) rfl (pc' := 227) rfl ?_
   refine k_iconst X249 hx (hb hby at_227) (pc' := 228) rfl (z := (2 : Int32)) rfl ?_
   refine k_icmp_lt X249 hx (hb hby at_228) (pn := 231) rfl (py := 244) (by decide) (fun hc => absurd hc (by decide)) (fun _ => ?_)
   refine k_aload X249 hx (hb hby at_231) rfl rfl (pc' := 233) rfl ?_
   refine k_iconst X249 hx (hb hby at_233) (pc' := 234) rfl (z := (2 : Int32)) rfl ?_
   refine k_iaload X249 hx hZ rfl F270 ⟨by decide, by decide⟩ (v := (.int v209)) rfl (hb hby at_234) (pc' := 235) rfl ?_
   refine k_if_eq X249 hx (hb hby at_235) (pn := 238) rfl (py := 244) (by decide) (fun hc408 => ?_) (fun hc408 => ?_)
   ·
    refine k_iload X249 hx (hb hby at_244) rfl (pc' := 246) rfl ?_
    refine k_iconst X249 hx (hb hby at_246) (pc' := 247) rfl (z := (1 : Int32)) rfl ?_
    refine k_icmp_lt X249 hx (hb hby at_247) (pn := 250) rfl (py := 263) (by decide) (fun hc => absurd hc (by decide)) (fun _ => ?_)
    refine k_aload X249 hx (hb hby at_250) rfl rfl (pc' := 252) rfl ?_
    refine k_iconst X249 hx (hb hby at_252) (pc' := 253) rfl (z := (1 : Int32)) rfl ?_
    refine k_iaload X249 hx hZ rfl F270 ⟨by decide, by decide⟩ (v := (.int v201)) rfl (hb hby at_253) (pc' := 254) rfl ?_
    refine k_if_eq X249 hx (hb hby at_254) (pn := 257) rfl (py := 263) (by decide) (fun hc409 => ?_) (fun hc409 => ?_)
    ·
     refine k_iconst X249 hx (hb hby at_263) (pc' := 264) rfl (z := (0 : Int32)) rfl ?_
     refine k_istore X249 hx (hb hby at_264) (Ls' := #[.val (.int i0), .val (.int i1), .val (.int i2), .val (.int i3), .val (.int i4), .val (.int (2 : Int32)), .val (.ref b187), .val (.int v193), .val (.int v221), .val (.int v223), .val (.int v223), .val (.ref b230), .val (.int (1 : Int32)), .val (.int (0 : Int32)), .unset, .unset, .unset, .unset]) rfl (pc' := 266) rfl ?_
     refine k_iload X249 hx (hb hby at_266) rfl (pc' := 268) rfl ?_
     refine k_if_ne X249 hx (hb hby at_268) (pn := 271) rfl (py := 298) (by decide) (fun hc => absurd (by decide) hc) (fun _ => ?_)
     refine k_iload X249 hx (hb hby at_271) rfl (pc' := 273) rfl ?_
     refine k_if_ne X249 hx (hb hby at_273) (pn := 276) rfl (py := 296) (by decide) (fun _ => ?_) (fun hc => absurd hc (by decide))
     refine k_iconst X249 hx (hb hby at_296) (pc' := 297) rfl (z := (0 : Int32)) rfl ?_
     exfalso
     have := rng32 v193
     have : (0 : Int32).toInt = 0 := (by decide)
     have q411 := hP194.1; rw [Int32.lt_iff_toInt_lt] at q411
     have : (536870911 : Int32).toInt = 536870911 := (by decide)
     have q412 := hP194.2; rw [Int32.lt_iff_toInt_lt] at q412
     have := rng32 v201
     have q414 := hP202.1; rw [Int32.lt_iff_toInt_lt] at q414
     have q415 := hP202.2; rw [Int32.lt_iff_toInt_lt] at q415
     have := rng32 v209
     have q417 := hP210.1; rw [Int32.lt_iff_toInt_lt] at q417
     have q418 := hP210.2; rw [Int32.lt_iff_toInt_lt] at q418
     have := rng32 v217
     have q420 := hP218.1; rw [Int32.lt_iff_toInt_lt] at q420
     have q421 := hP218.2; rw [Int32.lt_iff_toInt_lt] at q421
     have := rng32 v221
     have := rng32 v220
     have : (1 : Int32).toInt = 1 := (by decide)
     have q422 : (v220.toInt - (v193.toInt + (1 : Int32).toInt)) % 4294967296 = 0 := (by rw [hv220]; exact c_iadd _ _)
     have q423 : (v221.toInt - (v220.toInt + v201.toInt)) % 4294967296 = 0 := (by rw [hv221]; exact c_iadd _ _)
     have := rng32 v261
     have := rng32 v260
     have := rng32 v223
     have := rng32 v222
     have q424 : (v222.toInt - (v221.toInt + (1 : Int32).toInt)) % 4294967296 = 0 := (by rw [hv222]; exact c_iadd _ _)
     have q425 : (v223.toInt - (v222.toInt + v209.toInt)) % 4294967296 = 0 := (by rw [hv223]; exact c_iadd _ _)
     have : (2 : Int32).toInt = 2 := (by decide)
     have q426 : (v260.toInt - (v223.toInt - (2 : Int32).toInt)) % 4294967296 = 0 := (by rw [h264]; exact c_isub _ _)
     have q427 : (v261.toInt - (v260.toInt + (1 : Int32).toInt)) % 4294967296 = 0 := (by rw [h265]; exact c_iadd _ _)
     have q428 := congrArg Int32.toInt hc268
     have q429 : ¬ v193.toInt = v260.toInt := fun q => hc269 (Int32.toInt_inj.mp q)
     have q430 := congrArg Int32.toInt hc408
     have q431 := congrArg Int32.toInt hc409
     omega
    ·
     refine k_iconst X249 hx (hb hby at_257) (pc' := 258) rfl (z := (1 : Int32)) rfl ?_
     refine k_istore X249 hx (hb hby at_258) (Ls' := #[.val (.int i0), .val (.int i1), .val (.int i2), .val (.int i3), .val (.int i4), .val (.int (2 : Int32)), .val (.ref b187), .val (.int v193), .val (.int v221), .val (.int v223), .val (.int v223), .val (.ref b230), .val (.int (1 : Int32)), .val (.int (1 : Int32)), .unset, .unset, .unset, .unset]) rfl (pc' := 260) rfl ?_
     refine k_goto X249 hx (hb hby at_260) (pc' := 266) (by decide) ?_
     refine k_iload X249 hx (hb hby at_266) rfl (pc' := 268) rfl ?_
     refine k_if_ne X249 hx (hb hby at_268) (pn := 271) rfl (py := 298) (by decide) (fun _ => ?_) (fun hc => absurd hc (by decide))
     refine k_aload X249 hx (hb hby at_298) rfl rfl (pc' := 300) rfl ?_
     refine k_iload X249 hx (hb hby at_300) rfl (pc' := 302) rfl ?_
     refine k_iaload X249 hx hZ rfl F270 ⟨by decide, by decide⟩ (v := (.int v201)) rfl (hb hby at_302) (pc' := 303) rfl ?_
     refine k_istore X249 hx (hb hby at_303) (Ls' := #[.val (.int i0), .val (.int i1), .val (.int i2), .val (.int i3), .val (.int i4), .val (.int (2 : Int32)), .val (.ref b187), .val (.int v193), .val (.int v221), .val (.int v223), .val (.int v223), .val (.ref b230), .val (.int (1 : Int32)), .val (.int (1 : Int32)), .val (.int v201), .unset, .unset, .unset]) rfl (pc' := 305) rfl ?_
     refine k_aload X249 hx (hb hby at_305) rfl rfl (pc' := 307) rfl ?_
     refine k_iload X249 hx (hb hby at_307) rfl (pc' := 309) rfl ?_
     refine k_iconst X249 hx (hb hby at_309) (pc' := 310) rfl (z := (0 : Int32)) rfl ?_
     refine k_iastore X249 hx hZ rfl F270 ⟨by decide, by decide⟩ (i := 1) rfl (Nat.le_of_ble_eq_true rfl) (hb hby at_310) (pc' := 311) rfl (fun T432 h432 X432 e432 W432 V432 => ?_)
     have Vw432 : Arv Z h432 b187 k187 .int (4 : Int32) [(.int v193), (.int (0 : Int32)), (.int v209), (.int v217)] (.int (0 : Int32)) := V432
     have N432 := Fr.snoc X432 N249' g_b187
     have Z432 : n0 ≤ h432.size := Nat.le_trans Z272 (Nat.le_of_eq W432.size.symm)
     refine k_aload X432 hx (hb hby at_311) rfl rfl (pc' := 313) rfl ?_
     refine k_iload X432 hx (hb hby at_313) rfl (pc' := 315) rfl ?_
     refine k_iconst X432 hx (hb hby at_315) (pc' := 316) rfl (z := (1 : Int32)) rfl ?_
     refine k_isubL X432 hx (hb hby at_316) (pc' := 317) rfl (z := (0 : Int32)) (by decide) ?_
     refine k_aload X432 hx (hb hby at_317) rfl rfl (pc' := 319) rfl ?_
     refine k_iload X432 hx (hb hby at_319) rfl (pc' := 321) rfl ?_
     refine k_iconst X432 hx (hb hby at_321) (pc' := 322) rfl (z := (1 : Int32)) rfl ?_
     refine k_isubL X432 hx (hb hby at_322) (pc' := 323) rfl (z := (0 : Int32)) (by decide) ?_
     refine k_iaload X432 hx hZ e432 Vw432 ⟨by decide, by decide⟩ (v := (.int v193)) rfl (hb hby at_323) (pc' := 324) rfl ?_
     refine k_iconst X432 hx (hb hby at_324) (pc' := 325) rfl (z := (1 : Int32)) rfl ?_
     refine k_iaddL X432 hx (hb hby at_325) (pc' := 326) rfl (z := v220) hv220.symm ?_
     refine k_iastore X432 hx hZ e432 Vw432 ⟨by decide, by decide⟩ (i := 0) rfl (Nat.le_of_ble_eq_true rfl) (hb hby at_326) (pc' := 327) rfl (fun T433 h433 X433 e433 W433 V433 => ?_)
     have Vw433 : Arv Z h433 b187 k187 .int (4 : Int32) [(.int v220), (.int (0 : Int32)), (.int v209), (.int v217)] (.int (0 : Int32)) := V433
     have N433 := Fr.snoc X433 N432 g_b187
     have Z433 : n0 ≤ h433.size := Nat.le_trans Z432 (Nat.le_of_eq W433.size.symm)
     refine k_aload X433 hx (hb hby at_327) rfl rfl (pc' := 329) rfl ?_
     refine k_iload X433 hx (hb hby at_329) rfl (pc' := 331) rfl ?_
     refine k_aload X433 hx (hb hby at_331) rfl rfl (pc' := 333) rfl ?_
     refine k_iload X433 hx (hb hby at_333) rfl (pc' := 335) rfl ?_
     refine k_iaload X433 hx hZ e433 Vw433 ⟨by decide, by decide⟩ (v := (.int v209)) rfl (hb hby at_335) (pc' := 336) rfl ?_
     refine k_iload X433 hx (hb hby at_336) rfl (pc' := 338) rfl ?_
     refine k_iadd X433 hx (hb hby at_338) (pc' := 339) rfl (fun v434 hv434 => ?_)
     refine k_iconst X433 hx (hb hby at_339) (pc' := 340) rfl (z := (1 : Int32)) rfl ?_
     refine k_isub X433 hx (hb hby at_340) (pc' := 341) rfl (fun v435 hv435 => ?_)
     refine k_iastore X433 hx hZ e433 Vw433 ⟨by decide, by decide⟩ (i := 2) rfl (Nat.le_of_ble_eq_true rfl) (hb hby at_341) (pc' := 342) rfl (fun T436 h436 X436 e436 W436 V436 => ?_)
     have Vw436 : Arv Z h436 b187 k187 .int (4 : Int32) [(.int v220), (.int (0 : Int32)), (.int v435), (.int v217)] (.int (0 : Int32)) := V436
     have N436 := Fr.snoc X436 N433 g_b187
     have Z436 : n0 ≤ h436.size := Nat.le_trans Z433 (Nat.le_of_eq W436.size.symm)
     refine k_aload X436 hx (hb hby at_342) rfl rfl (pc' := 344) rfl ?_
     refine k_iconst X436 hx (hb hby at_344) (pc' := 345) rfl (z := (0 : Int32)) rfl ?_
     refine k_iaload X436 hx hZ e436 Vw436 ⟨by decide, by decide⟩ (v := (.int v220)) rfl (hb hby at_345) (pc' := 346) rfl ?_
     refine k_istore X436 hx (hb hby at_346) (Ls' := #[.val (.int i0), .val (.int i1), .val (.int i2), .val (.int i3), .val (.int i4), .val (.int (2 : Int32)), .val (.ref b187), .val (.int v193), .val (.int v221), .val (.int v223), .val (.int v223), .val (.ref b230), .val (.int (1 : Int32)), .val (.int (1 : Int32)), .val (.int v201), .val (.int v220), .unset, .unset]) rfl (pc' := 348) rfl ?_
     refine k_iload X436 hx (hb hby at_348) rfl (pc' := 350) rfl ?_
     refine k_iconst X436 hx (hb hby at_350) (pc' := 351) rfl (z := (1 : Int32)) rfl ?_
     refine k_iaddL X436 hx (hb hby at_351) (pc' := 352) rfl (z := v263) h267.symm ?_
     refine k_aload X436 hx (hb hby at_352) rfl rfl (pc' := 354) rfl ?_
     refine k_iconst X436 hx (hb hby at_354) (pc' := 355) rfl (z := (1 : Int32)) rfl ?_
     refine k_iaload X436 hx hZ e436 Vw436 ⟨by decide, by decide⟩ (v := (.int (0 : Int32))) rfl (hb hby at_355) (pc' := 356) rfl ?_
     refine k_iaddL X436 hx (hb hby at_356) (pc' := 357) rfl (z := v263) (Int32.add_zero _) ?_
     refine k_istore X436 hx (hb hby at_357) (Ls' := #[.val (.int i0), .val (.int i1), .val (.int i2), .val (.int i3), .val (.int i4), .val (.int (2 : Int32)), .val (.ref b187), .val (.int v193), .val (.int v221), .val (.int v223), .val (.int v223), .val (.ref b230), .val (.int (1 : Int32)), .val (.int (1 : Int32)), .val (.int v201), .val (.int v220), .val (.int v263), .unset]) rfl (pc' := 359) rfl ?_
     refine k_iload X436 hx (hb hby at_359) rfl (pc' := 361) rfl ?_
     refine k_iconst X436 hx (hb hby at_361) (pc' := 362) rfl (z := (1 : Int32)) rfl ?_
     refine k_iadd X436 hx (hb hby at_362) (pc' := 363) rfl (fun v437 hv437 => ?_)
     refine k_aload X436 hx (hb hby at_363) rfl rfl (pc' := 365) rfl ?_
     refine k_iconst X436 hx (hb hby at_365) (pc' := 366) rfl (z := (2 : Int32)) rfl ?_
     refine k_iaload X436 hx hZ e436 Vw436 ⟨by decide, by decide⟩ (v := (.int v435)) rfl (hb hby at_366) (pc' := 367) rfl ?_
     refine k_iadd X436 hx (hb hby at_367) (pc' := 368) rfl (fun v438 hv438 => ?_)
     refine k_istore X436 hx (hb hby at_368) (Ls' := #[.val (.int i0), .val (.int i1), .val (.int i2), .val (.int i3), .val (.int i4), .val (.int (2 : Int32)), .val (.ref b187), .val (.int v193), .val (.int v221), .val (.int v223), .val (.int v223), .val (.ref b230), .val (.int (1 : Int32)), .val (.int (1 : Int32)), .val (.int v201), .val (.int v220), .val (.int v263), .val (.int v438)]) rfl (pc' := 370) rfl ?_
     refine k_iload X436 hx (hb hby at_370) rfl (pc' := 372) rfl ?_
     refine k_if_eq X436 hx (hb hby at_372) (pn := 375) rfl (py := 395) (by decide) (fun hc => absurd hc (by decide)) (fun _ => ?_)
     refine k_aload X436 hx (hb hby at_375) rfl rfl (pc' := 377) rfl ?_
     refine k_iload X436 hx (hb hby at_377) rfl (pc' := 379) rfl ?_
     refine k_iload X436 hx (hb hby at_379) rfl (pc' := 381) rfl ?_
     refine k_iload X436 hx (hb hby at_381) rfl (pc' := 383) rfl ?_
     refine k_iload X436 hx (hb hby at_383) rfl (pc' := 385) rfl ?_
     have F439 := (((F271.other W432 (Ne.symm (Nat.ne_of_lt lt234))).other W433 (Ne.symm (Nat.ne_of_lt lt234))).other W436 (Ne.symm (Nat.ne_of_lt lt234)))
     refine k_callS X436 hx hZ hown (hw _ (List.mem_of_getElem? (i := 10) rfl)) (hw _ (List.mem_of_getElem? (i := 11) rfl)) (hw _ (List.mem_of_getElem? (i := 4) rfl)) (hw _ (List.mem_of_getElem? (i := 12) rfl)) (by decide) (rm3_440 l Z a0 hw [] b230 v220 v263 v438 k231 h436 n0 Z436 F439) (by decide) (by decide) e436 (by rw [hml]; rfl) (argsL := [(.ref b230), (.int (2 : Int32)), (.int v220), (.int v263), (.int v438)]) (rest := []) (lenOf pd_2 rfl) rfl (W := 0) (Nat.le_refl _) rfl (hb hby at_385) (by decide) (by decide) (pc' := 388) rfl (fun T441 L441 r441 X441 q441 => ?_)
     obtain ⟨N441, e441, q441⟩ := q441
     have N441' := Fr.app N436 N441
     obtain rfl := q441
     show KEnds p e below s _ _ _ T441 (mkF m 388 #[.val (.int i0), .val (.int i1), .val (.int i2), .val (.int i3), .val (.int i4), .val (.int (2 : Int32)), .val (.ref b187), .val (.int v193), .val (.int v221), .val (.int v223), .val (.int v223), .val (.ref b230), .val (.int (1 : Int32)), .val (.int (1 : Int32)), .val (.int v201), .val (.int v220), .val (.int v263), .val (.int v438)] [(.int (1 : Int32))])
     refine k_if_eq X441 hx (hb hby at_388) (pn := 391) rfl (py := 395) (by decide) (fun hc => absurd hc (by decide)) (fun _ => ?_)
     refine k_iconst X441 hx (hb hby at_391) (pc' := 392) rfl (z := (1 : Int32)) rfl ?_
     refine k_goto X441 hx (hb hby at_392) (pc' := 396) (by decide) ?_
     exact k_retN X441 hx (t := .boolean) Bd.returns (by simp) (hb hby at_396) hlk (by decide) (by decide) (z' := (1 : Int32)) rfl ⟨rfl, N441'⟩
   ·
    refine k_iconst X249 hx (hb hby at_238) (pc' := 239) rfl (z := (2 : Int32)) rfl ?_
    refine k_istore X249 hx (hb hby at_239) (Ls' := #[.val (.int i0), .val (.int i1), .val (.int i2), .val (.int i3), .val (.int i4), .val (.int (2 : Int32)), .val (.ref b187), .val (.int v193), .val (.int v221), .val (.int v223), .val (.int v223), .val (.ref b230), .val (.int (1 : Int32)), .val (.int (2 : Int32)), .unset, .unset, .unset, .unset]) rfl (pc' := 241) rfl ?_
    refine k_goto X249 hx (hb hby at_241) (pc' := 266) (by decide) ?_
    refine k_iload X249 hx (hb hby at_266) rfl (pc' := 268) rfl ?_
    refine k_if_ne X249 hx (hb hby at_268) (pn := 271) rfl (py := 298) (by decide) (fun _ => ?_) (fun hc => absurd hc (by decide))
    refine k_aload X249 hx (hb hby at_298) rfl rfl (pc' := 300) rfl ?_
    refine k_iload X249 hx (hb hby at_300) rfl (pc' := 302) rfl ?_
    refine k_iaload X249 hx hZ rfl F270 ⟨by decide, by decide⟩ (v := (.int v209)) rfl (hb hby at_302) (pc' := 303) rfl ?_
    refine k_istore X249 hx (hb hby at_303) (Ls' := #[.val (.int i0), .val (.int i1), .val (.int i2), .val (.int i3), .val (.int i4), .val (.int (2 : Int32)), .val (.ref b187), .val (.int v193), .val (.int v221), .val (.int v223), .val (.int v223), .val (.ref b230), .val (.int (1 : Int32)), .val (.int (2 : Int32)), .val (.int v209), .unset, .unset, .unset]) rfl (pc' := 305) rfl ?_
    refine k_aload X249 hx (hb hby at_305) rfl rfl (pc' := 307) rfl ?_
    refine k_iload X249 hx (hb hby at_307) rfl (pc' := 309) rfl ?_
    refine k_iconst X249 hx (hb hby at_309) (pc' := 310) rfl (z := (0 : Int32)) rfl ?_
    refine k_iastore X249 hx hZ rfl F270 ⟨by decide, by decide⟩ (i := 2) rfl (Nat.le_of_ble_eq_true rfl) (hb hby at_310) (pc' := 311) rfl (fun T442 h442 X442 e442 W442 V442 => ?_)
    have Vw442 : Arv Z h442 b187 k187 .int (4 : Int32) [(.int v193), (.int v201), (.int (0 : Int32)), (.int v217)] (.int (0 : Int32)) := V442
    have N442 := Fr.snoc X442 N249' g_b187
    have Z442 : n0 ≤ h442.size := Nat.le_trans Z272 (Nat.le_of_eq W442.size.symm)
    refine k_aload X442 hx (hb hby at_311) rfl rfl (pc' := 313) rfl ?_
    refine k_iload X442 hx (hb hby at_313) rfl (pc' := 315) rfl ?_
    refine k_iconst X442 hx (hb hby at_315) (pc' := 316) rfl (z := (1 : Int32)) rfl ?_
    refine k_isubL X442 hx (hb hby at_316) (pc' := 317) rfl (z := (1 : Int32)) (by decide) ?_
    refine k_aload X442 hx (hb hby at_317) rfl rfl (pc' := 319) rfl ?_
    refine k_iload X442 hx (hb hby at_319) rfl (pc' := 321) rfl ?_
    refine k_iconst X442 hx (hb hby at_321) (pc' := 322) rfl (z := (1 : Int32)) rfl ?_
    refine k_isubL X442 hx (hb hby at_322) (pc' := 323) rfl (z := (1 : Int32)) (by decide) ?_
    refine k_iaload X442 hx hZ e442 Vw442 ⟨by decide, by decide⟩ (v := (.int v201)) rfl (hb hby at_323) (pc' := 324) rfl ?_
    refine k_iconst X442 hx (hb hby at_324) (pc' := 325) rfl (z := (1 : Int32)) rfl ?_
    refine k_iadd X442 hx (hb hby at_325) (pc' := 326) rfl (fun v443 hv443 => ?_)
    refine k_iastore X442 hx hZ e442 Vw442 ⟨by decide, by decide⟩ (i := 1) rfl (Nat.le_of_ble_eq_true rfl) (hb hby at_326) (pc' := 327) rfl (fun T444 h444 X444 e444 W444 V444 => ?_)
    have Vw444 : Arv Z h444 b187 k187 .int (4 : Int32) [(.int v193), (.int v443), (.int (0 : Int32)), (.int v217)] (.int (0 : Int32)) := V444
    have N444 := Fr.snoc X444 N442 g_b187
    have Z444 : n0 ≤ h444.size := Nat.le_trans Z442 (Nat.le_of_eq W444.size.symm)
    refine k_aload X444 hx (hb hby at_327) rfl rfl (pc' := 329) rfl ?_
    refine k_iload X444 hx (hb hby at_329) rfl (pc' := 331) rfl ?_
    refine k_aload X444 hx (hb hby at_331) rfl rfl (pc' := 333) rfl ?_
    refine k_iload X444 hx (hb hby at_333) rfl (pc' := 335) rfl ?_
    refine k_iaload X444 hx hZ e444 Vw444 ⟨by decide, by decide⟩ (v := (.int (0 : Int32))) rfl (hb hby at_335) (pc' := 336) rfl ?_
    refine k_iload X444 hx (hb hby at_336) rfl (pc' := 338) rfl ?_
    refine k_iaddL X444 hx (hb hby at_338) (pc' := 339) rfl (z := v209) (Int32.zero_add _) ?_
    refine k_iconst X444 hx (hb hby at_339) (pc' := 340) rfl (z := (1 : Int32)) rfl ?_
    refine k_isub X444 hx (hb hby at_340) (pc' := 341) rfl (fun v445 hv445 => ?_)
    refine k_iastore X444 hx hZ e444 Vw444 ⟨by decide, by decide⟩ (i := 2) rfl (Nat.le_of_ble_eq_true rfl) (hb hby at_341) (pc' := 342) rfl (fun T446 h446 X446 e446 W446 V446 => ?_)
    have Vw446 : Arv Z h446 b187 k187 .int (4 : Int32) [(.int v193), (.int v443), (.int v445), (.int v217)] (.int (0 : Int32)) := V446
    have N446 := Fr.snoc X446 N444 g_b187
    have Z446 : n0 ≤ h446.size := Nat.le_trans Z444 (Nat.le_of_eq W446.size.symm)
    refine k_aload X446 hx (hb hby at_342) rfl rfl (pc' := 344) rfl ?_
    refine k_iconst X446 hx (hb hby at_344) (pc' := 345) rfl (z := (0 : Int32)) rfl ?_
    refine k_iaload X446 hx hZ e446 Vw446 ⟨by decide, by decide⟩ (v := (.int v193)) rfl (hb hby at_345) (pc' := 346) rfl ?_
    refine k_istore X446 hx (hb hby at_346) (Ls' := #[.val (.int i0), .val (.int i1), .val (.int i2), .val (.int i3), .val (.int i4), .val (.int (2 : Int32)), .val (.ref b187), .val (.int v193), .val (.int v221), .val (.int v223), .val (.int v223), .val (.ref b230), .val (.int (1 : Int32)), .val (.int (2 : Int32)), .val (.int v209), .val (.int v193), .unset, .unset]) rfl (pc' := 348) rfl ?_
    refine k_iload X446 hx (hb hby at_348) rfl (pc' := 350) rfl ?_
    refine k_iconst X446 hx (hb hby at_350) (pc' := 351) rfl (z := (1 : Int32)) rfl ?_
    refine k_iaddL X446 hx (hb hby at_351) (pc' := 352) rfl (z := v220) hv220.symm ?_
    refine k_aload X446 hx (hb hby at_352) rfl rfl (pc' := 354) rfl ?_
    refine k_iconst X446 hx (hb hby at_354) (pc' := 355) rfl (z := (1 : Int32)) rfl ?_
    refine k_iaload X446 hx hZ e446 Vw446 ⟨by decide, by decide⟩ (v := (.int v443)) rfl (hb hby at_355) (pc' := 356) rfl ?_
    refine k_iadd X446 hx (hb hby at_356) (pc' := 357) rfl (fun v447 hv447 => ?_)
    refine k_istore X446 hx (hb hby at_357) (Ls' := #[.val (.int i0), .val (.int i1), .val (.int i2), .val (.int i3), .val (.int i4), .val (.int (2 : Int32)), .val (.ref b187), .val (.int v193), .val (.int v221), .val (.int v223), .val (.int v223), .val (.ref b230), .val (.int (1 : Int32)), .val (.int (2 : Int32)), .val (.int v209), .val (.int v193), .val (.int v447), .unset]) rfl (pc' := 359) rfl ?_
    refine k_iload X446 hx (hb hby at_359) rfl (pc' := 361) rfl ?_
    refine k_iconst X446 hx (hb hby at_361) (pc' := 362) rfl (z := (1 : Int32)) rfl ?_
    refine k_iadd X446 hx (hb hby at_362) (pc' := 363) rfl (fun v448 hv448 => ?_)
    refine k_aload X446 hx (hb hby at_363) rfl rfl (pc' := 365) rfl ?_
    refine k_iconst X446 hx (hb hby at_365) (pc' := 366) rfl (z := (2 : Int32)) rfl ?_
    refine k_iaload X446 hx hZ e446 Vw446 ⟨by decide, by decide⟩ (v := (.int v445)) rfl (hb hby at_366) (pc' := 367) rfl ?_
    refine k_iadd X446 hx (hb hby at_367) (pc' := 368) rfl (fun v449 hv449 => ?_)
    refine k_istore X446 hx (hb hby at_368) (Ls' := #[.val (.int i0), .val (.int i1), .val (.int i2), .val (.int i3), .val (.int i4), .val (.int (2 : Int32)), .val (.ref b187), .val (.int v193), .val (.int v221), .val (.int v223), .val (.int v223), .val (.ref b230), .val (.int (1 : Int32)), .val (.int (2 : Int32)), .val (.int v209), .val (.int v193), .val (.int v447), .val (.int v449)]) rfl (pc' := 370) rfl ?_
    refine k_iload X446 hx (hb hby at_370) rfl (pc' := 372) rfl ?_
    refine k_if_eq X446 hx (hb hby at_372) (pn := 375) rfl (py := 395) (by decide) (fun hc => absurd hc (by decide)) (fun _ => ?_)
    refine k_aload X446 hx (hb hby at_375) rfl rfl (pc' := 377) rfl ?_
    refine k_iload X446 hx (hb hby at_377) rfl (pc' := 379) rfl ?_
    refine k_iload X446 hx (hb hby at_379) rfl (pc' := 381) rfl ?_
    refine k_iload X446 hx (hb hby at_381) rfl (pc' := 383) rfl ?_
    refine k_iload X446 hx (hb hby at_383) rfl (pc' := 385) rfl ?_
    have F450 := (((F271.other W442 (Ne.symm (Nat.ne_of_lt lt234))).other W444 (Ne.symm (Nat.ne_of_lt lt234))).other W446 (Ne.symm (Nat.ne_of_lt lt234)))
    refine k_callS X446 hx hZ hown (hw _ (List.mem_of_getElem? (i := 10) rfl)) (hw _ (List.mem_of_getElem? (i := 11) rfl)) (hw _ (List.mem_of_getElem? (i := 4) rfl)) (hw _ (List.mem_of_getElem? (i := 12) rfl)) (by decide) (rm3_315 l Z a0 hw [] b230 v193 v447 v449 k231 v220 v263 h446 n0 Z446 F450) (by decide) (by decide) e446 (by rw [hml]; rfl) (argsL := [(.ref b230), (.int (2 : Int32)), (.int v193), (.int v447), (.int v449)]) (rest := []) (lenOf pd_2 rfl) rfl (W := 0) (Nat.le_refl _) rfl (hb hby at_385) (by decide) (by decide) (pc' := 388) rfl (fun T451 L451 r451 X451 q451 => ?_)
    obtain ⟨N451, e451, q451⟩ := q451
    have N451' := Fr.app N446 N451
    rcases q451 with ⟨hc452, rfl⟩ | ⟨hc453, hc454, rfl⟩ | ⟨hc455, hc456, rfl⟩
    ·
     show KEnds p e below s _ _ _ T451 (mkF m 388 #[.val (.int i0), .val (.int i1), .val (.int i2), .val (.int i3), .val (.int i4), .val (.int (2 : Int32)), .val (.ref b187), .val (.int v193), .val (.int v221), .val (.int v223), .val (.int v223), .val (.ref b230), .val (.int (1 : Int32)), .val (.int (2 : Int32)), .val (.int v209), .val (.int v193), .val (.int v447), .val (.int v449)] [(.int (0 : Int32))])
     refine k_if_eq X451 hx (hb hby at_388) (pn := 391) rfl (py := 395) (by decide) (fun _ => ?_) (fun hc => absurd (by decide) hc)
     refine k_iconst X451 hx (hb hby at_395) (pc' := 396) rfl (z := (0 : Int32)) rfl ?_
     exfalso
     have := rng32 v193
     have : (0 : Int32).toInt = 0 := (by decide)
     have q458 := hP194.1; rw [Int32.lt_iff_toInt_lt] at q458
     have : (536870911 : Int32).toInt = 536870911 := (by decide)
     have q459 := hP194.2; rw [Int32.lt_iff_toInt_lt] at q459
     have := rng32 v201
     have q461 := hP202.1; rw [Int32.lt_iff_toInt_lt] at q461
     have q462 := hP202.2; rw [Int32.lt_iff_toInt_lt] at q462
     have := rng32 v209
     have q464 := hP210.1; rw [Int32.lt_iff_toInt_lt] at q464
     have q465 := hP210.2; rw [Int32.lt_iff_toInt_lt] at q465
     have := rng32 v217
     have q467 := hP218.1; rw [Int32.lt_iff_toInt_lt] at q467
     have q468 := hP218.2; rw [Int32.lt_iff_toInt_lt] at q468
     have := rng32 v221
     have := rng32 v220
     have : (1 : Int32).toInt = 1 := (by decide)
     have q469 : (v220.toInt - (v193.toInt + (1 : Int32).toInt)) % 4294967296 = 0 := (by rw [hv220]; exact c_iadd _ _)
     have q470 : (v221.toInt - (v220.toInt + v201.toInt)) % 4294967296 = 0 := (by rw [hv221]; exact c_iadd _ _)
     have := rng32 v261
     have := rng32 v260
     have := rng32 v223
     have := rng32 v222
     have q471 : (v222.toInt - (v221.toInt + (1 : Int32).toInt)) % 4294967296 = 0 := (by rw [hv222]; exact c_iadd _ _)
     have q472 : (v223.toInt - (v222.toInt + v209.toInt)) % 4294967296 = 0 := (by rw [hv223]; exact c_iadd _ _)
     have : (2 : Int32).toInt = 2 := (by decide)
     have q473 : (v260.toInt - (v223.toInt - (2 : Int32).toInt)) % 4294967296 = 0 := (by rw [h264]; exact c_isub _ _)
     have q474 : (v261.toInt - (v260.toInt + (1 : Int32).toInt)) % 4294967296 = 0 := (by rw [h265]; exact c_iadd _ _)
     have q475 := congrArg Int32.toInt hc268
     have q476 : ¬ v193.toInt = v260.toInt := fun q => hc269 (Int32.toInt_inj.mp q)
     have q477 : ¬ v209.toInt = (0 : Int32).toInt := fun q => hc408 (Int32.toInt_inj.mp q)
     have q478 : ¬ v220.toInt = v193.toInt := fun q => hc452 (Int32.toInt_inj.mp q)
     omega
    ·
     show KEnds p e below s _ _ _ T451 (mkF m 388 #[.val (.int i0), .val (.int i1), .val (.int i2), .val (.int i3), .val (.int i4), .val (.int (2 : Int32)), .val (.ref b187), .val (.int v193), .val (.int v221), .val (.int v223), .val (.int v223), .val (.ref b230), .val (.int (1 : Int32)), .val (.int (2 : Int32)), .val (.int v209), .val (.int v193), .val (.int v447), .val (.int v449)] [(.int (0 : Int32))])
     refine k_if_eq X451 hx (hb hby at_388) (pn := 391) rfl (py := 395) (by decide) (fun _ => ?_) (fun hc => absurd (by decide) hc)
     refine k_iconst X451 hx (hb hby at_395) (pc' := 396) rfl (z := (0 : Int32)) rfl ?_
     exfalso
     have := rng32 v193
     have : (0 : Int32).toInt = 0 := (by decide)
     have q480 := hP194.1; rw [Int32.lt_iff_toInt_lt] at q480
     have : (536870911 : Int32).toInt = 536870911 := (by decide)
     have q481 := hP194.2; rw [Int32.lt_iff_toInt_lt] at q481
     have := rng32 v201
     have q483 := hP202.1; rw [Int32.lt_iff_toInt_lt] at q483
     have q484 := hP202.2; rw [Int32.lt_iff_toInt_lt] at q484
     have := rng32 v209
     have q486 := hP210.1; rw [Int32.lt_iff_toInt_lt] at q486
     have q487 := hP210.2; rw [Int32.lt_iff_toInt_lt] at q487
     have := rng32 v217
     have q489 := hP218.1; rw [Int32.lt_iff_toInt_lt] at q489
     have q490 := hP218.2; rw [Int32.lt_iff_toInt_lt] at q490
     have := rng32 v221
     have := rng32 v220
     have : (1 : Int32).toInt = 1 := (by decide)
     have q491 : (v220.toInt - (v193.toInt + (1 : Int32).toInt)) % 4294967296 = 0 := (by rw [hv220]; exact c_iadd _ _)
     have q492 : (v221.toInt - (v220.toInt + v201.toInt)) % 4294967296 = 0 := (by rw [hv221]; exact c_iadd _ _)
     have := rng32 v261
     have := rng32 v260
     have := rng32 v223
     have := rng32 v222
     have q493 : (v222.toInt - (v221.toInt + (1 : Int32).toInt)) % 4294967296 = 0 := (by rw [hv222]; exact c_iadd _ _)
     have q494 : (v223.toInt - (v222.toInt + v209.toInt)) % 4294967296 = 0 := (by rw [hv223]; exact c_iadd _ _)
     have : (2 : Int32).toInt = 2 := (by decide)
     have q495 : (v260.toInt - (v223.toInt - (2 : Int32).toInt)) % 4294967296 = 0 := (by rw [h264]; exact c_isub _ _)
     have q496 : (v261.toInt - (v260.toInt + (1 : Int32).toInt)) % 4294967296 = 0 := (by rw [h265]; exact c_iadd _ _)
     have q497 := congrArg Int32.toInt hc268
     have q498 : ¬ v193.toInt = v260.toInt := fun q => hc269 (Int32.toInt_inj.mp q)
     have q499 : ¬ v209.toInt = (0 : Int32).toInt := fun q => hc408 (Int32.toInt_inj.mp q)
     have q500 := congrArg Int32.toInt hc453
     have := rng32 v263
     have q501 : (v263.toInt - (v220.toInt + (1 : Int32).toInt)) % 4294967296 = 0 := (by rw [h267]; exact c_iadd _ _)
     have := rng32 v447
     have := rng32 v443
     have q502 : (v443.toInt - (v201.toInt + (1 : Int32).toInt)) % 4294967296 = 0 := (by rw [hv443]; exact c_iadd _ _)
     have q503 : (v447.toInt - (v220.toInt + v443.toInt)) % 4294967296 = 0 := (by rw [hv447]; exact c_iadd _ _)
     have q504 : ¬ v263.toInt = v447.toInt := fun q => hc454 (Int32.toInt_inj.mp q)
     omega
    ·
     show KEnds p e below s _ _ _ T451 (mkF m 388 #[.val (.int i0), .val (.int i1), .val (.int i2), .val (.int i3), .val (.int i4), .val (.int (2 : Int32)), .val (.ref b187), .val (.int v193), .val (.int v221), .val (.int v223), .val (.int v223), .val (.ref b230), .val (.int (1 : Int32)), .val (.int (2 : Int32)), .val (.int v209), .val (.int v193), .val (.int v447), .val (.int v449)] [(.int (1 : Int32))])
     refine k_if_eq X451 hx (hb hby at_388) (pn := 391) rfl (py := 395) (by decide) (fun hc => absurd hc (by decide)) (fun _ => ?_)
     refine k_iconst X451 hx (hb hby at_391) (pc' := 392) rfl (z := (1 : Int32)) rfl ?_
     refine k_goto X451 hx (hb hby at_392) (pc' := 396) (by decide) ?_
     exact k_retN X451 hx (t := .boolean) Bd.returns (by simp) (hb hby at_396) hlk (by decide) (by decide) (z' := (1 : Int32)) rfl ⟨rfl, N451'⟩
  ·
   show KEnds p e below s _ _ _ T249 (mkF m 204 #[.val (.int i0), .val (.int i1), .val (.int i2), .val (.int i3), .val (.int i4), .val (.int (2 : Int32)), .val (.ref b187), .val (.int v193), .val (.int v221), .val (.int v223), .val (.int v223), .val (.ref b230), .unset, .unset, .unset, .unset, .unset, .unset] [(.int (0 : Int32))])
   refine k_istore X249 hx (hb hby at_204) (Ls' := #[.val (.int i0), .val (.int i1), .val (.int i2), .val (.int i3), .val (.int i4), .val (.int (2 : Int32)), .val (.ref b187), .val (.int v193), .val (.int v221), .val (.int v223), .val (.int v223), .val (.ref b230), .val (.int (0 : Int32)), .unset, .unset, .unset, .unset, .unset]) rfl (pc' := 206) rfl ?_
   refine k_iload X249 hx (hb hby at_206) rfl (pc' := 208) rfl ?_
   refine k_iconst X249 hx (hb hby at_208) (pc' := 209) rfl (z := (3 : Int32)) rfl ?_
   refine k_icmp_lt X249 hx (hb hby at_209) (pn := 212) rfl (py := 225) (by decide) (fun _ => ?_) (fun hc => absurd (by decide) hc)
   refine k_iload X249 hx (hb hby at_225) rfl (pc' := 227) rfl ?_
   refine k_iconst X249 hx (hb hby at_227) (pc' := 228) rfl (z := (2 : Int32)) rfl ?_
   refine k_icmp_lt X249 hx (hb hby at_228) (pn := 231) rfl (py := 244) (by decide) (fun hc => absurd hc (by decide)) (fun _ => ?_)
   refine k_aload X249 hx (hb hby at_231) rfl rfl (pc' := 233) rfl ?_
   refine k_iconst X249 hx (hb hby at_233) (pc' := 234) rfl (z := (2 : Int32)) rfl ?_
   refine k_iaload X249 hx hZ rfl F279 ⟨by decide, by decide⟩ (v := (.int v209)) rfl (hb hby at_234) (pc' := 235) rfl ?_
   refine k_if_eq X249 hx (hb hby at_235) (pn := 238) rfl (py := 244) (by decide) (fun hc505 => ?_) (fun hc505 => ?_)
   ·
    refine k_iload X249 hx (hb hby at_244) rfl (pc' := 246) rfl ?_
    refine k_iconst X249 hx (hb hby at_246) (pc' := 247) rfl (z := (1 : Int32)) rfl ?_
    refine k_icmp_lt X249 hx (hb hby at_247) (pn := 250) rfl (py := 263) (by decide) (fun hc => absurd hc (by decide)) (fun _ => ?_)
    refine k_aload X249 hx (hb hby at_250) rfl rfl (pc' := 252) rfl ?_
    refine k_iconst X249 hx (hb hby at_252) (pc' := 253) rfl (z := (1 : Int32)) rfl ?_
    refine k_iaload X249 hx hZ rfl F279 ⟨by decide, by decide⟩ (v := (.int v201)) rfl (hb hby at_253) (pc' := 254) rfl ?_
    refine k_if_eq X249 hx (hb hby at_254) (pn := 257) rfl (py := 263) (by decide) (fun hc506 => ?_) (fun hc506 => ?_)
    ·
     refine k_iconst X249 hx (hb hby at_263) (pc' := 264) rfl (z := (0 : Int32)) rfl ?_
     refine k_istore X249 hx (hb hby at_264) (Ls' := #[.val (.int i0), .val (.int i1), .val (.int i2), .val (.int i3), .val (.int i4), .val (.int (2 : Int32)), .val (.ref b187), .val (.int v193), .val (.int v221), .val (.int v223), .val (.int v223), .val (.ref b230), .val (.int (0 : Int32)), .val (.int (0 : Int32)), .unset, .unset, .unset, .unset]) rfl (pc' := 266) rfl ?_
     refine k_iload X249 hx (hb hby at_266) rfl (pc' := 268) rfl ?_
     refine k_if_ne X249 hx (hb hby at_268) (pn := 271) rfl (py := 298) (by decide) (fun hc => absurd (by decide) hc) (fun _ => ?_)
     refine k_iload X249 hx (hb hby at_271) rfl (pc' := 273) rfl ?_
     refine k_if_ne X249 hx (hb hby at_273) (pn := 276) rfl (py := 296) (by decide) (fun hc => absurd (by decide) hc) (fun _ => ?_)
     refine k_aload X249 hx (hb hby at_276) rfl rfl (pc' := 278) rfl ?_
     refine k_iload X249 hx (hb hby at_278) rfl (pc' := 280) rfl ?_
     refine k_iload X249 hx (hb hby at_280) rfl (pc' := 282) rfl ?_
     refine k_iload X249 hx (hb hby at_282) rfl (pc' := 284) rfl ?_
     refine k_iload X249 hx (hb hby at_284) rfl (pc' := 286) rfl ?_
     refine k_callS X249 hx hZ hown (hw _ (List.mem_of_getElem? (i := 10) rfl)) (hw _ (List.mem_of_getElem? (i := 11) rfl)) (hw _ (List.mem_of_getElem? (i := 4) rfl)) (hw _ (List.mem_of_getElem? (i := 12) rfl)) (by decide) (rm3_440 l Z a0 hw [] b230 v193 v221 v223 k231 T249.heap n0 Z281 F280) (by decide) (by decide) rfl (by rw [hml]; rfl) (argsL := [(.ref b230), (.int (2 : Int32)), (.int v193), (.int v221), (.int v223)]) (rest := []) (lenOf pd_2 rfl) rfl (W := 0) (Nat.le_refl _) rfl (hb hby at_286) (by decide) (by decide) (pc' := 289) rfl (fun T507 L507 r507 X507 q507 => ?_)
     obtain ⟨N507, e507, q507⟩ := q507
     have N507' := Fr.app N249' N507
     obtain rfl := q507
     show KEnds p e below s _ _ _ T507 (mkF m 289 #[.val (.int i0), .val (.int i1), .val (.int i2), .val (.int i3), .val (.int i4), .val (.int (2 : Int32)), .val (.ref b187), .val (.int v193), .val (.int v221), .val (.int v223), .val (.int v223), .val (.ref b230), .val (.int (0 : Int32)), .val (.int (0 : Int32)), .unset, .unset, .unset, .unset] [(.int (1 : Int32))])
     refine k_if_eq X507 hx (hb hby at_289) (pn := 292) rfl (py := 296) (by decide) (fun hc => absurd hc (by decide)) (fun _ => ?_)
     refine k_iconst X507 hx (hb hby at_292) (pc' := 293) rfl (z := (1 : Int32)) rfl ?_
     refine k_goto X507 hx (hb hby at_293) (pc' := 297) (by decide) ?_
     exact k_retN X507 hx (t := .boolean) Bd.returns (by simp) (hb hby at_297) hlk (by decide) (by decide) (z' := (1 : Int32)) rfl ⟨rfl, N507'⟩
    ·
     refine k_iconst X249 hx (hb hby at_257) (pc' := 258) rfl (z := (1 : Int32)) rfl ?_
     refine k_istore X249 hx (hb hby at_258) (Ls' := #[.val (.int i0), .val (.int i1), .val (.int i2), .val (.int i3), .val (.int i4), .val (.int (2 : Int32)), .val (.ref b187), .val (.int v193), .val (.int v221), .val (.int v223), .val (.int v223), .val (.ref b230), .val (.int (0 : Int32)), .val (.int (1 : Int32)), .unset, .unset, .unset, .unset]) rfl (pc' := 260) rfl ?_
     refine k_goto X249 hx (hb hby at_260) (pc' := 266) (by decide) ?_
     refine k_iload X249 hx (hb hby at_266) rfl (pc' := 268) rfl ?_
     refine k_if_ne X249 hx (hb hby at_268) (pn := 271) rfl (py := 298) (by decide) (fun _ => ?_) (fun hc => absurd hc (by decide))
     refine k_aload X249 hx (hb hby at_298) rfl rfl (pc' := 300) rfl ?_
     refine k_iload X249 hx (hb hby at_300) rfl (pc' := 302) rfl ?_
     refine k_iaload X249 hx hZ rfl F279 ⟨by decide, by decide⟩ (v := (.int v201)) rfl (hb hby at_302) (pc' := 303) rfl ?_
     refine k_istore X249 hx (hb hby at_303) (Ls' := #[.val (.int i0), .val (.int i1), .val (.int i2), .val (.int i3), .val (.int i4), .val (.int (2 : Int32)), .val (.ref b187), .val (.int v193), .val (.int v221), .val (.int v223), .val (.int v223), .val (.ref b230), .val (.int (0 : Int32)), .val (.int (1 : Int32)), .val (.int v201), .unset, .unset, .unset]) rfl (pc' := 305) rfl ?_
     refine k_aload X249 hx (hb hby at_305) rfl rfl (pc' := 307) rfl ?_
     refine k_iload X249 hx (hb hby at_307) rfl (pc' := 309) rfl ?_
     refine k_iconst X249 hx (hb hby at_309) (pc' := 310) rfl (z := (0 : Int32)) rfl ?_
     refine k_iastore X249 hx hZ rfl F279 ⟨by decide, by decide⟩ (i := 1) rfl (Nat.le_of_ble_eq_true rfl) (hb hby at_310) (pc' := 311) rfl (fun T508 h508 X508 e508 W508 V508 => ?_)
     have Vw508 : Arv Z h508 b187 k187 .int (4 : Int32) [(.int v193), (.int (0 : Int32)), (.int v209), (.int v217)] (.int (0 : Int32)) := V508
     have N508 := Fr.snoc X508 N249' g_b187
     have Z508 : n0 ≤ h508.size := Nat.le_trans Z281 (Nat.le_of_eq W508.size.symm)
     refine k_aload X508 hx (hb hby at_311) rfl rfl (pc' := 313) rfl ?_
     refine k_iload X508 hx (hb hby at_313) rfl (pc' := 315) rfl ?_
     refine k_iconst X508 hx (hb hby at_315) (pc' := 316) rfl (z := (1 : Int32)) rfl ?_
     refine k_isubL X508 hx (hb hby at_316) (pc' := 317) rfl (z := (0 : Int32)) (by decide) ?_
     refine k_aload X508 hx (hb hby at_317) rfl rfl (pc' := 319) rfl ?_
     refine k_iload X508 hx (hb hby at_319) rfl (pc' := 321) rfl ?_
     refine k_iconst X508 hx (hb hby at_321) (pc' := 322) rfl (z := (1 : Int32)) rfl ?_
     refine k_isubL X508 hx (hb hby at_322) (pc' := 323) rfl (z := (0 : Int32)) (by decide) ?_
     refine k_iaload X508 hx hZ e508 Vw508 ⟨by decide, by decide⟩ (v := (.int v193)) rfl (hb hby at_323) (pc' := 324) rfl ?_
     refine k_iconst X508 hx (hb hby at_324) (pc' := 325) rfl (z := (1 : Int32)) rfl ?_
     refine k_iaddL X508 hx (hb hby at_325) (pc' := 326) rfl (z := v220) hv220.symm ?_
     refine k_iastore X508 hx hZ e508 Vw508 ⟨by decide, by decide⟩ (i := 0) rfl (Nat.le_of_ble_eq_true rfl) (hb hby at_326) (pc' := 327) rfl (fun T509 h509 X509 e509 W509 V509 => ?_)
     have Vw509 : Arv Z h509 b187 k187 .int (4 : Int32) [(.int v220), (.int (0 : Int32)), (.int v209), (.int v217)] (.int (0 : Int32)) := V509
     have N509 := Fr.snoc X509 N508 g_b187
     have Z509 : n0 ≤ h509.size := Nat.le_trans Z508 (Nat.le_of_eq W509.size.symm)
     refine k_aload X509 hx (hb hby at_327) rfl rfl (pc' := 329) rfl ?_
     refine k_iload X509 hx (hb hby at_329) rfl (pc' := 331) rfl ?_
     refine k_aload X509 hx (hb hby at_331) rfl rfl (pc' := 333) rfl ?_
     refine k_iload X509 hx (hb hby at_333) rfl (pc' := 335) rfl ?_
     refine k_iaload X509 hx hZ e509 Vw509 ⟨by decide, by decide⟩ (v := (.int v209)) rfl (hb hby at_335) (pc' := 336) rfl ?_
     refine k_iload X509 hx (hb hby at_336) rfl (pc' := 338) rfl ?_
     refine k_iadd X509 hx (hb hby at_338) (pc' := 339) rfl (fun v510 hv510 => ?_)
     refine k_iconst X509 hx (hb hby at_339) (pc' := 340) rfl (z := (1 : Int32)) rfl ?_
     refine k_isub X509 hx (hb hby at_340) (pc' := 341) rfl (fun v511 hv511 => ?_)
     refine k_iastore X509 hx hZ e509 Vw509 ⟨by decide, by decide⟩ (i := 2) rfl (Nat.le_of_ble_eq_true rfl) (hb hby at_341) (pc' := 342) rfl (fun T512 h512 X512 e512 W512 V512 => ?_)
     have Vw512 : Arv Z h512 b187 k187 .int (4 : Int32) [(.int v220), (.int (0 : Int32)), (.int v511), (.int v217)] (.int (0 : Int32)) := V512
     have N512 := Fr.snoc X512 N509 g_b187
     have Z512 : n0 ≤ h512.size := Nat.le_trans Z509 (Nat.le_of_eq W512.size.symm)
     refine k_aload X512 hx (hb hby at_342) rfl rfl (pc' := 344) rfl ?_
     refine k_iconst X512 hx (hb hby at_344) (pc' := 345) rfl (z := (0 : Int32)) rfl ?_
     refine k_iaload X512 hx hZ e512 Vw512 ⟨by decide, by decide⟩ (v := (.int v220)) rfl (hb hby at_345) (pc' := 346) rfl ?_
     refine k_istore X512 hx (hb hby at_346) (Ls' := #[.val (.int i0), .val (.int i1), .val (.int i2), .val (.int i3), .val (.int i4), .val (.int (2 : Int32)), .val (.ref b187), .val (.int v193), .val (.int v221), .val (.int v223), .val (.int v223), .val (.ref b230), .val (.int (0 : Int32)), .val (.int (1 : Int32)), .val (.int v201), .val (.int v220), .unset, .unset]) rfl (pc' := 348) rfl ?_
     refine k_iload X512 hx (hb hby at_348) rfl (pc' := 350) rfl ?_
     refine k_iconst X512 hx (hb hby at_350) (pc' := 351) rfl (z := (1 : Int32)) rfl ?_
     refine k_iadd X512 hx (hb hby at_351) (pc' := 352) rfl (fun v513 hv513 => ?_)
     refine k_aload X512 hx (hb hby at_352) rfl rfl (pc' := 354) rfl ?_
     refine k_iconst X512 hx (hb hby at_354) (pc' := 355) rfl (z := (1 : Int32)) rfl ?_
     refine k_iaload X512 hx hZ e512 Vw512 ⟨by decide, by decide⟩ (v := (.int (0 : Int32))) rfl (hb hby at_355) (pc' := 356) rfl ?_
     refine k_iaddL X512 hx (hb hby at_356) (pc' := 357) rfl (z := v513) (Int32.add_zero _) ?_
     refine k_istore X512 hx (hb hby at_357) (Ls' := #[.val (.int i0), .val (.int i1), .val (.int i2), .val (.int i3), .val (.int i4), .val (.int (2 : Int32)), .val (.ref b187), .val (.int v193), .val (.int v221), .val (.int v223), .val (.int v223), .val (.ref b230), .val (.int (0 : Int32)), .val (.int (1 : Int32)), .val (.int v201), .val (.int v220), .val (.int v513), .unset]) rfl (pc' := 359) rfl ?_
     refine k_iload X512 hx (hb hby at_359) rfl (pc' := 361) rfl ?_
     refine k_iconst X512 hx (hb hby at_361) (pc' := 362) rfl (z := (1 : Int32)) rfl ?_
     refine k_iadd X512 hx (hb hby at_362) (pc' := 363) rfl (fun v514 hv514 => ?_)
     refine k_aload X512 hx (hb hby at_363) rfl rfl (pc' := 365) rfl ?_
     refine k_iconst X512 hx (hb hby at_365) (pc' := 366) rfl (z := (2 : Int32)) rfl ?_
     refine k_iaload X512 hx hZ e512 Vw512 ⟨by decide, by decide⟩ (v := (.int v511)) rfl (hb hby at_366) (pc' := 367) rfl ?_
     refine k_iadd X512 hx (hb hby at_367) (pc' := 368) rfl (fun v515 hv515 => ?_)
     refine k_istore X512 hx (hb hby at_368) (Ls' := #[.val (.int i0), .val (.int i1), .val (.int i2), .val (.int i3), .val (.int i4), .val (.int (2 : Int32)), .val (.ref b187), .val (.int v193), .val (.int v221), .val (.int v223), .val (.int v223), .val (.ref b230), .val (.int (0 : Int32)), .val (.int (1 : Int32)), .val (.int v201), .val (.int v220), .val (.int v513), .val (.int v515)]) rfl (pc' := 370) rfl ?_
     refine k_iload X512 hx (hb hby at_370) rfl (pc' := 372) rfl ?_
     refine k_if_eq X512 hx (hb hby at_372) (pn := 375) rfl (py := 395) (by decide) (fun _ => ?_) (fun hc => absurd (by decide) hc)
     refine k_iconst X512 hx (hb hby at_395) (pc' := 396) rfl (z := (0 : Int32)) rfl ?_
     exfalso
     have := rng32 v193
     have : (0 : Int32).toInt = 0 := (by decide)
     have q517 := hP194.1; rw [Int32.lt_iff_toInt_lt] at q517
     have : (536870911 : Int32).toInt = 536870911 := (by decide)
     have q518 := hP194.2; rw [Int32.lt_iff_toInt_lt] at q518
     have := rng32 v201
     have q520 := hP202.1; rw [Int32.lt_iff_toInt_lt] at q520
     have q521 := hP202.2; rw [Int32.lt_iff_toInt_lt] at q521
     have := rng32 v209
     have q523 := hP210.1; rw [Int32.lt_iff_toInt_lt] at q523
     have q524 := hP210.2; rw [Int32.lt_iff_toInt_lt] at q524
     have := rng32 v217
     have q526 := hP218.1; rw [Int32.lt_iff_toInt_lt] at q526
     have q527 := hP218.2; rw [Int32.lt_iff_toInt_lt] at q527
     have := rng32 v221
     have := rng32 v220
     have : (1 : Int32).toInt = 1 := (by decide)
     have q528 : (v220.toInt - (v193.toInt + (1 : Int32).toInt)) % 4294967296 = 0 := (by rw [hv220]; exact c_iadd _ _)
     have q529 : (v221.toInt - (v220.toInt + v201.toInt)) % 4294967296 = 0 := (by rw [hv221]; exact c_iadd _ _)
     have := rng32 v274
     have := rng32 v273
     have := rng32 v223
     have := rng32 v222
     have q530 : (v222.toInt - (v221.toInt + (1 : Int32).toInt)) % 4294967296 = 0 := (by rw [hv222]; exact c_iadd _ _)
     have q531 : (v223.toInt - (v222.toInt + v209.toInt)) % 4294967296 = 0 := (by rw [hv223]; exact c_iadd _ _)
     have : (2 : Int32).toInt = 2 := (by decide)
     have q532 : (v273.toInt - (v223.toInt - (2 : Int32).toInt)) % 4294967296 = 0 := (by rw [h275]; exact c_isub _ _)
     have q533 : (v274.toInt - (v273.toInt + (1 : Int32).toInt)) % 4294967296 = 0 := (by rw [h276]; exact c_iadd _ _)
     have q534 := congrArg Int32.toInt hc277
     have q535 := congrArg Int32.toInt hc278
     have q536 := congrArg Int32.toInt hc505
     have q537 : ¬ v201.toInt = (0 : Int32).toInt := fun q => hc506 (Int32.toInt_inj.mp q)
     omega
   ·
    refine k_iconst X249 hx (hb hby at_238) (pc' := 239) rfl (z := (2 : Int32)) rfl ?_
    refine k_istore X249 hx (hb hby at_239) (Ls' := #[.val (.int i0), .val (.int i1), .val (.int i2), .val (.int i3), .val (.int i4), .val (.int (2 : Int32)), .val (.ref b187), .val (.int v193), .val (.int v221), .val (.int v223), .val (.int v223), .val (.ref b230), .val (.int (0 : Int32)), .val (.int (2 : Int32)), .unset, .unset, .unset, .unset]) rfl (pc' := 241) rfl ?_
    refine k_goto X249 hx (hb hby at_241) (pc' := 266) (by decide) ?_
    refine k_iload X249 hx (hb hby at_266) rfl (pc' := 268) rfl ?_
    refine k_if_ne X249 hx (hb hby at_268) (pn := 271) rfl (py := 298) (by decide) (fun _ => ?_) (fun hc => absurd hc (by decide))
    refine k_aload X249 hx (hb hby at_298) rfl rfl (pc' := 300) rfl ?_
    refine k_iload X249 hx (hb hby at_300) rfl (pc' := 302) rfl ?_
    refine k_iaload X249 hx hZ rfl F279 ⟨by decide, by decide⟩ (v := (.int v209)) rfl (hb hby at_302) (pc' := 303) rfl ?_
    refine k_istore X249 hx (hb hby at_303) (Ls' := #[.val (.int i0), .val (.int i1), .val (.int i2), .val (.int i3), .val (.int i4), .val (.int (2 : Int32)), .val (.ref b187), .val (.int v193), .val (.int v221), .val (.int v223), .val (.int v223), .val (.ref b230), .val (.int (0 : Int32)), .val (.int (2 : Int32)), .val (.int v209), .unset, .unset, .unset]) rfl (pc' := 305) rfl ?_
    refine k_aload X249 hx (hb hby at_305) rfl rfl (pc' := 307) rfl ?_
    refine k_iload X249 hx (hb hby at_307) rfl (pc' := 309) rfl ?_
    refine k_iconst X249 hx (hb hby at_309) (pc' := 310) rfl (z := (0 : Int32)) rfl ?_
    refine k_iastore X249 hx hZ rfl F279 ⟨by decide, by decide⟩ (i := 2) rfl (Nat.le_of_ble_eq_true rfl) (hb hby at_310) (pc' := 311) rfl (fun T538 h538 X538 e538 W538 V538 => ?_)
    have Vw538 : Arv Z h538 b187 k187 .int (4 : Int32) [(.int v193), (.int v201), (.int (0 : Int32)), (.int v217)] (.int (0 : Int32)) := V538
    have N538 := Fr.snoc X538 N249' g_b187
    have Z538 : n0 ≤ h538.size := Nat.le_trans Z281 (Nat.le_of_eq W538.size.symm)
    refine k_aload X538 hx (hb hby at_311) rfl rfl (pc' := 313) rfl ?_
    refine k_iload X538 hx (hb hby at_313) rfl (pc' := 315) rfl ?_
    refine k_iconst X538 hx (hb hby at_315) (pc' := 316) rfl (z := (1 : Int32)) rfl ?_
    refine k_isubL X538 hx (hb hby at_316) (pc' := 317) rfl (z := (1 : Int32)) (by decide) ?_
    refine k_aload X538 hx (hb hby at_317) rfl rfl (pc' := 319) rfl ?_
    refine k_iload X538 hx (hb hby at_319) rfl (pc' := 321) rfl ?_
    refine k_iconst X538 hx (hb hby at_321) (pc' := 322) rfl (z := (1 : Int32)) rfl ?_
    refine k_isubL X538 hx (hb hby at_322) (pc' := 323) rfl (z := (1 : Int32)) (by decide) ?_
    refine k_iaload X538 hx hZ e538 Vw538 ⟨by decide, by decide⟩ (v := (.int v201)) rfl (hb hby at_323) (pc' := 324) rfl ?_
    refine k_iconst X538 hx (hb hby at_324) (pc' := 325) rfl (z := (1 : Int32)) rfl ?_
    refine k_iadd X538 hx (hb hby at_325) (pc' := 326) rfl (fun v539 hv539 => ?_)
    refine k_iastore X538 hx hZ e538 Vw538 ⟨by decide, by decide⟩ (i := 1) rfl (Nat.le_of_ble_eq_true rfl) (hb hby at_326) (pc' := 327) rfl (fun T540 h540 X540 e540 W540 V540 => ?_)
    have Vw540 : Arv Z h540 b187 k187 .int (4 : Int32) [(.int v193), (.int v539), (.int (0 : Int32)), (.int v217)] (.int (0 : Int32)) := V540
    have N540 := Fr.snoc X540 N538 g_b187
    have Z540 : n0 ≤ h540.size := Nat.le_trans Z538 (Nat.le_of_eq W540.size.symm)
    refine k_aload X540 hx (hb hby at_327) rfl rfl (pc' := 329) rfl ?_
    refine k_iload X540 hx (hb hby at_329) rfl (pc' := 331) rfl ?_
    refine k_aload X540 hx (hb hby at_331) rfl rfl (pc' := 333) rfl ?_
    refine k_iload X540 hx (hb hby at_333) rfl (pc' := 335) rfl ?_
    refine k_iaload X540 hx hZ e540 Vw540 ⟨by decide, by decide⟩ (v := (.int (0 : Int32))) rfl (hb hby at_335) (pc' := 336) rfl ?_
    refine k_iload X540 hx (hb hby at_336) rfl (pc' := 338) rfl ?_
    refine k_iaddL X540 hx (hb hby at_338) (pc' := 339) rfl (z := v209) (Int32.zero_add _) ?_
    refine k_iconst X540 hx (hb hby at_339) (pc' := 340) rfl (z := (1 : Int32)) rfl ?_
    refine k_isub X540 hx (hb hby at_340) (pc' := 341) rfl (fun v541 hv541 => ?_)
    refine k_iastore X540 hx hZ e540 Vw540 ⟨by decide, by decide⟩ (i := 2) rfl (Nat.le_of_ble_eq_true rfl) (hb hby at_341) (pc' := 342) rfl (fun T542 h542 X542 e542 W542 V542 => ?_)
    have Vw542 : Arv Z h542 b187 k187 .int (4 : Int32) [(.int v193), (.int v539), (.int v541), (.int v217)] (.int (0 : Int32)) := V542
    have N542 := Fr.snoc X542 N540 g_b187
    have Z542 : n0 ≤ h542.size := Nat.le_trans Z540 (Nat.le_of_eq W542.size.symm)
    refine k_aload X542 hx (hb hby at_342) rfl rfl (pc' := 344) rfl ?_
    refine k_iconst X542 hx (hb hby at_344) (pc' := 345) rfl (z := (0 : Int32)) rfl ?_
    refine k_iaload X542 hx hZ e542 Vw542 ⟨by decide, by decide⟩ (v := (.int v193)) rfl (hb hby at_345) (pc' := 346) rfl ?_
    refine k_istore X542 hx (hb hby at_346) (Ls' := #[.val (.int i0), .val (.int i1), .val (.int i2), .val (.int i3), .val (.int i4), .val (.int (2 : Int32)), .val (.ref b187), .val (.int v193), .val (.int v221), .val (.int v223), .val (.int v223), .val (.ref b230), .val (.int (0 : Int32)), .val (.int (2 : Int32)), .val (.int v209), .val (.int v193), .unset, .unset]) rfl (pc' := 348) rfl ?_
    refine k_iload X542 hx (hb hby at_348) rfl (pc' := 350) rfl ?_
    refine k_iconst X542 hx (hb hby at_350) (pc' := 351) rfl (z := (1 : Int32)) rfl ?_
    refine k_iaddL X542 hx (hb hby at_351) (pc' := 352) rfl (z := v220) hv220.symm ?_
    refine k_aload X542 hx (hb hby at_352) rfl rfl (pc' := 354) rfl ?_
    refine k_iconst X542 hx (hb hby at_354) (pc' := 355) rfl (z := (1 : Int32)) rfl ?_
    refine k_iaload X542 hx hZ e542 Vw542 ⟨by decide, by decide⟩ (v := (.int v539)) rfl (hb hby at_355) (pc' := 356) rfl ?_
    refine k_iadd X542 hx (hb hby at_356) (pc' := 357) rfl (fun v543 hv543 => ?_)
    refine k_istore X542 hx (hb hby at_357) (Ls' := #[.val (.int i0), .val (.int i1), .val (.int i2), .val (.int i3), .val (.int i4), .val (.int (2 : Int32)), .val (.ref b187), .val (.int v193), .val (.int v221), .val (.int v223), .val (.int v223), .val (.ref b230), .val (.int (0 : Int32)), .val (.int (2 : Int32)), .val (.int v209), .val (.int v193), .val (.int v543), .unset]) rfl (pc' := 359) rfl ?_
    refine k_iload X542 hx (hb hby at_359) rfl (pc' := 361) rfl ?_
    refine k_iconst X542 hx (hb hby at_361) (pc' := 362) rfl (z := (1 : Int32)) rfl ?_
    refine k_iadd X542 hx (hb hby at_362) (pc' := 363) rfl (fun v544 hv544 => ?_)
    refine k_aload X542 hx (hb hby at_363) rfl rfl (pc' := 365) rfl ?_
    refine k_iconst X542 hx (hb hby at_365) (pc' := 366) rfl (z := (2 : Int32)) rfl ?_
    refine k_iaload X542 hx hZ e542 Vw542 ⟨by decide, by decide⟩ (v := (.int v541)) rfl (hb hby at_366) (pc' := 367) rfl ?_
    refine k_iadd X542 hx (hb hby at_367) (pc' := 368) rfl (fun v545 hv545 => ?_)
    refine k_istore X542 hx (hb hby at_368) (Ls' := #[.val (.int i0), .val (.int i1), .val (.int i2), .val (.int i3), .val (.int i4), .val (.int (2 : Int32)), .val (.ref b187), .val (.int v193), .val (.int v221), .val (.int v223), .val (.int v223), .val (.ref b230), .val (.int (0 : Int32)), .val (.int (2 : Int32)), .val (.int v209), .val (.int v193), .val (.int v543), .val (.int v545)]) rfl (pc' := 370) rfl ?_
    refine k_iload X542 hx (hb hby at_370) rfl (pc' := 372) rfl ?_
    refine k_if_eq X542 hx (hb hby at_372) (pn := 375) rfl (py := 395) (by decide) (fun _ => ?_) (fun hc => absurd (by decide) hc)
    refine k_iconst X542 hx (hb hby at_395) (pc' := 396) rfl (z := (0 : Int32)) rfl ?_
    exfalso
    have := rng32 v193
    have : (0 : Int32).toInt = 0 := (by decide)
    have q547 := hP194.1; rw [Int32.lt_iff_toInt_lt] at q547
    have : (536870911 : Int32).toInt = 536870911 := (by decide)
    have q548 := hP194.2; rw [Int32.lt_iff_toInt_lt] at q548
    have := rng32 v201
    have q550 := hP202.1; rw [Int32.lt_iff_toInt_lt] at q550
    have q551 := hP202.2; rw [Int32.lt_iff_toInt_lt] at q551
    have := rng32 v209
    have q553 := hP210.1; rw [Int32.lt_iff_toInt_lt] at q553
    have q554 := hP210.2; rw [Int32.lt_iff_toInt_lt] at q554
    have := rng32 v217
    have q556 := hP218.1; rw [Int32.lt_iff_toInt_lt] at q556
    have q557 := hP218.2; rw [Int32.lt_iff_toInt_lt] at q557
    have := rng32 v221
    have := rng32 v220
    have : (1 : Int32).toInt = 1 := (by decide)
    have q558 : (v220.toInt - (v193.toInt + (1 : Int32).toInt)) % 4294967296 = 0 := (by rw [hv220]; exact c_iadd _ _)
    have q559 : (v221.toInt - (v220.toInt + v201.toInt)) % 4294967296 = 0 := (by rw [hv221]; exact c_iadd _ _)
    have := rng32 v274
    have := rng32 v273
    have := rng32 v223
    have := rng32 v222
    have q560 : (v222.toInt - (v221.toInt + (1 : Int32).toInt)) % 4294967296 = 0 := (by rw [hv222]; exact c_iadd _ _)
    have q561 : (v223.toInt - (v222.toInt + v209.toInt)) % 4294967296 = 0 := (by rw [hv223]; exact c_iadd _ _)
    have : (2 : Int32).toInt = 2 := (by decide)
    have q562 : (v273.toInt - (v223.toInt - (2 : Int32).toInt)) % 4294967296 = 0 := (by rw [h275]; exact c_isub _ _)
    have q563 : (v274.toInt - (v273.toInt + (1 : Int32).toInt)) % 4294967296 = 0 := (by rw [h276]; exact c_iadd _ _)
    have q564 := congrArg Int32.toInt hc277
    have q565 := congrArg Int32.toInt hc278
    have q566 : ¬ v209.toInt = (0 : Int32).toInt := fun q => hc505 (Int32.toInt_inj.mp q)
    omega
 ·
  show KEnds p e below s _ _ _ s₁ (mkF m 3 #[.val (.int i0), .val (.int i1), .val (.int i2), .val (.int i3), .val (.int i4), .unset, .unset, .unset, .unset, .unset, .unset, .unset, .unset, .unset, .unset, .unset, .unset, .unset] [(.int (3 : Int32))])
  refine k_istore X0 hx (hb hby at_3) (Ls' := #[.val (.int i0), .val (.int i1), .val (.int i2), .val (.int i3), .val (.int i4), .val (.int (3 : Int32)), .unset, .unset, .unset, .unset, .unset, .unset, .unset, .unset, .unset, .unset, .unset, .unset]) rfl (pc' := 5) rfl ?_
  refine k_iconst X0 hx (hb hby at_5) (pc' := 6) rfl (z := (4 : Int32)) rfl ?_
  refine k_newA X0 hx hZ (hw _ (List.mem_of_getElem? (i := 0) rfl)) e0 (hb hby at_6) (by decide) (cap := 4) (by decide) (by decide) (by decide) (by decide) (pc' := 8) rfl (fun T568 h568 b568 k568 g568 X568 e568 E568 V568 => ?_)
  have g_b568 : n0 ≤ b568 := Nat.le_trans Z0 (Nat.le_of_eq g568.symm)
  have Z568 : n0 ≤ h568.size := Nat.le_trans Z0 E568.1
  have Vw568 : Arv Z h568 b568 k568 .int (4 : Int32) [(.int (0 : Int32)), (.int (0 : Int32)), (.int (0 : Int32)), (.int (0 : Int32))] (.int (0 : Int32)) := V568
  refine k_astore X568 hx (hb hby at_8) rfl (Ls' := #[.val (.int i0), .val (.int i1), .val (.int i2), .val (.int i3), .val (.int i4), .val (.int (3 : Int32)), .val (.ref b568), .unset, .unset, .unset, .unset, .unset, .unset, .unset, .unset, .unset, .unset, .unset]) rfl (pc' := 10) rfl ?_
  refine k_aload X568 hx (hb hby at_10) rfl rfl (pc' := 12) rfl ?_
  refine k_iconst X568 hx (hb hby at_12) (pc' := 13) rfl (z := (0 : Int32)) rfl ?_
  suffices key569 : ∀ (v574 : Int32), (¬ v574 < 0 ∧ ¬ (536870911 : Int32) < v574) → KEnds p e below s 16 128 (Q0 n0) T568 (mkF m 29 #[.val (.int i0), .val (.int i1), .val (.int i2), .val (.int i3), .val (.int i4), .val (.int (3 : Int32)), .val (.ref b568), .unset, .unset, .unset, .unset, .unset, .unset, .unset, .unset, .unset, .unset, .unset] [(.int v574), (.int (0 : Int32)), (.ref b568)]) by
   refine k_iloadN X568 hx (hb hby at_13) rfl (pc' := 14) rfl ?_
   refine k_iconst X568 hx (hb hby at_14) (pc' := 15) rfl (z := (2 : Int32)) rfl ?_
   refine k_ishr X568 hx (hb hby at_15) (pc' := 16) rfl (fun v570 hv570 => ?_)
   refine k_iconst X568 hx (hb hby at_16) (pc' := 17) rfl (z := (1 : Int32)) rfl ?_
   refine k_iand X568 hx (hb hby at_17) (pc' := 18) rfl (fun v571 hv571 => ?_)
   refine k_if_eq X568 hx (hb hby at_18) (pn := 21) rfl (py := 25) (by decide) (fun hc572 => ?_) (fun hc572 => ?_)
   ·
    refine k_iloadN X568 hx (hb hby at_25) rfl (pc' := 26) rfl ?_
    refine k_ldc X568 hx hZ hown (hw _ (List.mem_of_getElem? (i := 1) rfl)) (hb hby at_26) (pc' := 28) rfl ?_
    refine k_iand X568 hx (hb hby at_28) (pc' := 29) rfl (fun v573 hv573 => ?_)
    refine key569 v573 ?_
    have qm : v573.toInt = i1.toInt % 536870912 := by rw [hv573]; exact c_mask _ _ 29 (by decide) (by decide)
    exact ⟨fun q => by rw [Int32.lt_iff_toInt_lt, show (0 : Int32).toInt = 0 from rfl] at q; omega, fun q => by rw [Int32.lt_iff_toInt_lt, show (536870911 : Int32).toInt = 536870911 from rfl] at q; omega⟩
   ·
    refine k_iconst X568 hx (hb hby at_21) (pc' := 22) rfl (z := (0 : Int32)) rfl ?_
    refine k_goto X568 hx (hb hby at_22) (pc' := 29) (by decide) ?_
    refine key569 (0 : Int32) ?_
    exact ⟨by decide, by decide⟩
  intro v574 hP575
  refine k_iastore X568 hx hZ e568 Vw568 ⟨by decide, by decide⟩ (i := 0) rfl (Nat.le_of_ble_eq_true rfl) (hb hby at_29) (pc' := 30) rfl (fun T576 h576 X576 e576 W576 V576 => ?_)
  have Vw576 : Arv Z h576 b568 k568 .int (4 : Int32) [(.int v574), (.int (0 : Int32)), (.int (0 : Int32)), (.int (0 : Int32))] (.int (0 : Int32)) := V576
  have N576 := Fr.snoc X576 N0 g_b568
  have Z576 : n0 ≤ h576.size := Nat.le_trans Z568 (Nat.le_of_eq W576.size.symm)
  refine k_aload X576 hx (hb hby at_30) rfl rfl (pc' := 32) rfl ?_
  refine k_iconst X576 hx (hb hby at_32) (pc' := 33) rfl (z := (1 : Int32)) rfl ?_
  suffices key577 : ∀ (v582 : Int32), (¬ v582 < 0 ∧ ¬ (536870911 : Int32) < v582) → KEnds p e below s 16 128 (Q0 n0) T576 (mkF m 49 #[.val (.int i0), .val (.int i1), .val (.int i2), .val (.int i3), .val (.int i4), .val (.int (3 : Int32)), .val (.ref b568), .unset, .unset, .unset, .unset, .unset, .unset, .unset, .unset, .unset, .unset, .unset] [(.int v582), (.int (1 : Int32)), (.ref b568)]) by
   refine k_iloadN X576 hx (hb hby at_33) rfl (pc' := 34) rfl ?_
   refine k_iconst X576 hx (hb hby at_34) (pc' := 35) rfl (z := (3 : Int32)) rfl ?_
   refine k_ishr X576 hx (hb hby at_35) (pc' := 36) rfl (fun v578 hv578 => ?_)
   refine k_iconst X576 hx (hb hby at_36) (pc' := 37) rfl (z := (1 : Int32)) rfl ?_
   refine k_iand X576 hx (hb hby at_37) (pc' := 38) rfl (fun v579 hv579 => ?_)
   refine k_if_eq X576 hx (hb hby at_38) (pn := 41) rfl (py := 45) (by decide) (fun hc580 => ?_) (fun hc580 => ?_)
   ·
    refine k_iloadN X576 hx (hb hby at_45) rfl (pc' := 46) rfl ?_
    refine k_ldc X576 hx hZ hown (hw _ (List.mem_of_getElem? (i := 1) rfl)) (hb hby at_46) (pc' := 48) rfl ?_
    refine k_iand X576 hx (hb hby at_48) (pc' := 49) rfl (fun v581 hv581 => ?_)
    refine key577 v581 ?_
    have qm : v581.toInt = i2.toInt % 536870912 := by rw [hv581]; exact c_mask _ _ 29 (by decide) (by decide)
    exact ⟨fun q => by rw [Int32.lt_iff_toInt_lt, show (0 : Int32).toInt = 0 from rfl] at q; omega, fun q => by rw [Int32.lt_iff_toInt_lt, show (536870911 : Int32).toInt = 536870911 from rfl] at q; omega⟩
   ·
    refine k_iconst X576 hx (hb hby at_41) (pc' := 42) rfl (z := (0 : Int32)) rfl ?_
    refine k_goto X576 hx (hb hby at_42) (pc' := 49) (by decide) ?_
    refine key577 (0 : Int32) ?_
    exact ⟨by decide, by decide⟩
  intro v582 hP583
  refine k_iastore X576 hx hZ e576 Vw576 ⟨by decide, by decide⟩ (i := 1) rfl (Nat.le_of_ble_eq_true rfl) (hb hby at_49) (pc' := 50) rfl (fun T584 h584 X584 e584 W584 V584 => ?_)
  have Vw584 : Arv Z h584 b568 k568 .int (4 : Int32) [(.int v574), (.int v582), (.int (0 : Int32)), (.int (0 : Int32))] (.int (0 : Int32)) := V584
  have N584 := Fr.snoc X584 N576 g_b568
  have Z584 : n0 ≤ h584.size := Nat.le_trans Z576 (Nat.le_of_eq W584.size.symm)
  refine k_aload X584 hx (hb hby at_50) rfl rfl (pc' := 52) rfl ?_
  refine k_iconst X584 hx (hb hby at_52) (pc' := 53) rfl (z := (2 : Int32)) rfl ?_
  suffices key585 : ∀ (v590 : Int32), (¬ v590 < 0 ∧ ¬ (536870911 : Int32) < v590) → KEnds p e below s 16 128 (Q0 n0) T584 (mkF m 69 #[.val (.int i0), .val (.int i1), .val (.int i2), .val (.int i3), .val (.int i4), .val (.int (3 : Int32)), .val (.ref b568), .unset, .unset, .unset, .unset, .unset, .unset, .unset, .unset, .unset, .unset, .unset] [(.int v590), (.int (2 : Int32)), (.ref b568)]) by
   refine k_iloadN X584 hx (hb hby at_53) rfl (pc' := 54) rfl ?_
   refine k_iconst X584 hx (hb hby at_54) (pc' := 55) rfl (z := (4 : Int32)) rfl ?_
   refine k_ishr X584 hx (hb hby at_55) (pc' := 56) rfl (fun v586 hv586 => ?_)
   refine k_iconst X584 hx (hb hby at_56) (pc' := 57) rfl (z := (1 : Int32)) rfl ?_
   refine k_iand X584 hx (hb hby at_57) (pc' := 58) rfl (fun v587 hv587 => ?_)
   refine k_if_eq X584 hx (hb hby at_58) (pn := 61) rfl (py := 65) (by decide) (fun hc588 => ?_) (fun hc588 => ?_)
   ·
    refine k_iloadN X584 hx (hb hby at_65) rfl (pc' := 66) rfl ?_
    refine k_ldc X584 hx hZ hown (hw _ (List.mem_of_getElem? (i := 1) rfl)) (hb hby at_66) (pc' := 68) rfl ?_
    refine k_iand X584 hx (hb hby at_68) (pc' := 69) rfl (fun v589 hv589 => ?_)
    refine key585 v589 ?_
    have qm : v589.toInt = i3.toInt % 536870912 := by rw [hv589]; exact c_mask _ _ 29 (by decide) (by decide)
    exact ⟨fun q => by rw [Int32.lt_iff_toInt_lt, show (0 : Int32).toInt = 0 from rfl] at q; omega, fun q => by rw [Int32.lt_iff_toInt_lt, show (536870911 : Int32).toInt = 536870911 from rfl] at q; omega⟩
   ·
    refine k_iconst X584 hx (hb hby at_61) (pc' := 62) rfl (z := (0 : Int32)) rfl ?_
    refine k_goto X584 hx (hb hby at_62) (pc' := 69) (by decide) ?_
    refine key585 (0 : Int32) ?_
    exact ⟨by decide, by decide⟩
  intro v590 hP591
  refine k_iastore X584 hx hZ e584 Vw584 ⟨by decide, by decide⟩ (i := 2) rfl (Nat.le_of_ble_eq_true rfl) (hb hby at_69) (pc' := 70) rfl (fun T592 h592 X592 e592 W592 V592 => ?_)
  have Vw592 : Arv Z h592 b568 k568 .int (4 : Int32) [(.int v574), (.int v582), (.int v590), (.int (0 : Int32))] (.int (0 : Int32)) := V592
  have N592 := Fr.snoc X592 N584 g_b568
  have Z592 : n0 ≤ h592.size := Nat.le_trans Z584 (Nat.le_of_eq W592.size.symm)
  refine k_aload X592 hx (hb hby at_70) rfl rfl (pc' := 72) rfl ?_
  refine k_iconst X592 hx (hb hby at_72) (pc' := 73) rfl (z := (3 : Int32)) rfl ?_
  suffices key593 : ∀ (v598 : Int32), (¬ v598 < 0 ∧ ¬ (536870911 : Int32) < v598) → KEnds p e below s 16 128 (Q0 n0) T592 (mkF m 90 #[.val (.int i0), .val (.int i1), .val (.int i2), .val (.int i3), .val (.int i4), .val (.int (3 : Int32)), .val (.ref b568), .unset, .unset, .unset, .unset, .unset, .unset, .unset, .unset, .unset, .unset, .unset] [(.int v598), (.int (3 : Int32)), (.ref b568)]) by
   refine k_iloadN X592 hx (hb hby at_73) rfl (pc' := 74) rfl ?_
   refine k_iconst X592 hx (hb hby at_74) (pc' := 75) rfl (z := (5 : Int32)) rfl ?_
   refine k_ishr X592 hx (hb hby at_75) (pc' := 76) rfl (fun v594 hv594 => ?_)
   refine k_iconst X592 hx (hb hby at_76) (pc' := 77) rfl (z := (1 : Int32)) rfl ?_
   refine k_iand X592 hx (hb hby at_77) (pc' := 78) rfl (fun v595 hv595 => ?_)
   refine k_if_eq X592 hx (hb hby at_78) (pn := 81) rfl (py := 85) (by decide) (fun hc596 => ?_) (fun hc596 => ?_)
   ·
    refine k_iload X592 hx (hb hby at_85) rfl (pc' := 87) rfl ?_
    refine k_ldc X592 hx hZ hown (hw _ (List.mem_of_getElem? (i := 1) rfl)) (hb hby at_87) (pc' := 89) rfl ?_
    refine k_iand X592 hx (hb hby at_89) (pc' := 90) rfl (fun v597 hv597 => ?_)
    refine key593 v597 ?_
    have qm : v597.toInt = i4.toInt % 536870912 := by rw [hv597]; exact c_mask _ _ 29 (by decide) (by decide)
    exact ⟨fun q => by rw [Int32.lt_iff_toInt_lt, show (0 : Int32).toInt = 0 from rfl] at q; omega, fun q => by rw [Int32.lt_iff_toInt_lt, show (536870911 : Int32).toInt = 536870911 from rfl] at q; omega⟩
   ·
    refine k_iconst X592 hx (hb hby at_81) (pc' := 82) rfl (z := (0 : Int32)) rfl ?_
    refine k_goto X592 hx (hb hby at_82) (pc' := 90) (by decide) ?_
    refine key593 (0 : Int32) ?_
    exact ⟨by decide, by decide⟩
  intro v598 hP599
  refine k_iastore X592 hx hZ e592 Vw592 ⟨by decide, by decide⟩ (i := 3) rfl (Nat.le_of_ble_eq_true rfl) (hb hby at_90) (pc' := 91) rfl (fun T600 h600 X600 e600 W600 V600 => ?_)
  have Vw600 : Arv Z h600 b568 k568 .int (4 : Int32) [(.int v574), (.int v582), (.int v590), (.int v598)] (.int (0 : Int32)) := V600
  have N600 := Fr.snoc X600 N592 g_b568
  have Z600 : n0 ≤ h600.size := Nat.le_trans Z592 (Nat.le_of_eq W600.size.symm)
  refine k_aload X600 hx (hb hby at_91) rfl rfl (pc' := 93) rfl ?_
  refine k_iconst X600 hx (hb hby at_93) (pc' := 94) rfl (z := (0 : Int32)) rfl ?_
  refine k_iaload X600 hx hZ e600 Vw600 ⟨by decide, by decide⟩ (v := (.int v574)) rfl (hb hby at_94) (pc' := 95) rfl ?_
  refine k_istore X600 hx (hb hby at_95) (Ls' := #[.val (.int i0), .val (.int i1), .val (.int i2), .val (.int i3), .val (.int i4), .val (.int (3 : Int32)), .val (.ref b568), .val (.int v574), .unset, .unset, .unset, .unset, .unset, .unset, .unset, .unset, .unset, .unset]) rfl (pc' := 97) rfl ?_
  refine k_iload X600 hx (hb hby at_97) rfl (pc' := 99) rfl ?_
  refine k_iconst X600 hx (hb hby at_99) (pc' := 100) rfl (z := (1 : Int32)) rfl ?_
  refine k_iadd X600 hx (hb hby at_100) (pc' := 101) rfl (fun v601 hv601 => ?_)
  refine k_aload X600 hx (hb hby at_101) rfl rfl (pc' := 103) rfl ?_
  refine k_iconst X600 hx (hb hby at_103) (pc' := 104) rfl (z := (1 : Int32)) rfl ?_
  refine k_iaload X600 hx hZ e600 Vw600 ⟨by decide, by decide⟩ (v := (.int v582)) rfl (hb hby at_104) (pc' := 105) rfl ?_
  refine k_iadd X600 hx (hb hby at_105) (pc' := 106) rfl (fun v602 hv602 => ?_)
  refine k_istore X600 hx (hb hby at_106) (Ls' := #[.val (.int i0), .val (.int i1), .val (.int i2), .val (.int i3), .val (.int i4), .val (.int (3 : Int32)), .val (.ref b568), .val (.int v574), .val (.int v602), .unset, .unset, .unset, .unset, .unset, .unset, .unset, .unset, .unset]) rfl (pc' := 108) rfl ?_
  refine k_iload X600 hx (hb hby at_108) rfl (pc' := 110) rfl ?_
  refine k_iconst X600 hx (hb hby at_110) (pc' := 111) rfl (z := (1 : Int32)) rfl ?_
  refine k_iadd X600 hx (hb hby at_111) (pc' := 112) rfl (fun v603 hv603 => ?_)
  refine k_aload X600 hx (hb hby at_112) rfl rfl (pc' := 114) rfl ?_
  refine k_iconst X600 hx (hb hby at_114) (pc' := 115) rfl (z := (2 : Int32)) rfl ?_
  refine k_iaload X600 hx hZ e600 Vw600 ⟨by decide, by decide⟩ (v := (.int v590)) rfl (hb hby at_115) (pc' := 116) rfl ?_
  refine k_iadd X600 hx (hb hby at_116) (pc' := 117) rfl (fun v604 hv604 => ?_)
  refine k_istore X600 hx (hb hby at_117) (Ls' := #[.val (.int i0), .val (.int i1), .val (.int i2), .val (.int i3), .val (.int i4), .val (.int (3 : Int32)), .val (.ref b568), .val (.int v574), .val (.int v602), .val (.int v604), .unset, .unset, .unset, .unset, .unset, .unset, .unset, .unset]) rfl (pc' := 119) rfl ?_
  refine k_iload X600 hx (hb hby at_119) rfl (pc' := 121) rfl ?_
  refine k_if_ne X600 hx (hb hby at_121) (pn := 124) rfl (py := 133) (by decide) (fun _ => ?_) (fun hc => absurd hc (by decide))
  refine k_iload X600 hx (hb hby at_133) rfl (pc' := 135) rfl ?_
  refine k_iconst X600 hx (hb hby at_135) (pc' := 136) rfl (z := (1 : Int32)) rfl ?_
  refine k_icmp_ne X600 hx (hb hby at_136) (pn := 139) rfl (py := 153) (by decide) (fun _ => ?_) (fun hc => absurd hc (by decide))
  refine k_iload X600 hx (hb hby at_153) rfl (pc' := 155) rfl ?_
  refine k_iconst X600 hx (hb hby at_155) (pc' := 156) rfl (z := (2 : Int32)) rfl ?_
  refine k_icmp_ne X600 hx (hb hby at_156) (pn := 159) rfl (py := 173) (by decide) (fun _ => ?_) (fun hc => absurd hc (by decide))
  refine k_iload X600 hx (hb hby at_173) rfl (pc' := 175) rfl ?_
  refine k_iconst X600 hx (hb hby at_175) (pc' := 176) rfl (z := (1 : Int32)) rfl ?_
  refine k_iadd X600 hx (hb hby at_176) (pc' := 177) rfl (fun v605 hv605 => ?_)
  refine k_aload X600 hx (hb hby at_177) rfl rfl (pc' := 179) rfl ?_
  refine k_iconst X600 hx (hb hby at_179) (pc' := 180) rfl (z := (3 : Int32)) rfl ?_
  refine k_iaload X600 hx hZ e600 Vw600 ⟨by decide, by decide⟩ (v := (.int v598)) rfl (hb hby at_180) (pc' := 181) rfl ?_
  refine k_iadd X600 hx (hb hby at_181) (pc' := 182) rfl (fun v606 hv606 => ?_)
  refine k_istore X600 hx (hb hby at_182) (Ls' := #[.val (.int i0), .val (.int i1), .val (.int i2), .val (.int i3), .val (.int i4), .val (.int (3 : Int32)), .val (.ref b568), .val (.int v574), .val (.int v602), .val (.int v604), .val (.int v606), .unset, .unset, .unset, .unset, .unset, .unset, .unset]) rfl (pc' := 184) rfl ?_
  refine k_iload X600 hx (hb hby at_184) rfl (pc' := 186) rfl ?_
  refine k_iload X600 hx (hb hby at_186) rfl (pc' := 188) rfl ?_
  refine k_iload X600 hx (hb hby at_188) rfl (pc' := 190) rfl ?_
  refine k_iload X600 hx (hb hby at_190) rfl (pc' := 192) rfl ?_
  refine k_callS X600 hx hZ hown (hw _ (List.mem_of_getElem? (i := 2) rfl)) (hw _ (List.mem_of_getElem? (i := 3) rfl)) (hw _ (List.mem_of_getElem? (i := 4) rfl)) (hw _ (List.mem_of_getElem? (i := 5) rfl)) (by decide) (rm1_607 l Z a0 hw [] v574 v602 v604 b568 k568 v582 v590 v598 h600 n0 Z600 Vw600 g_b568) (by decide) (by decide) e600 (by rw [hml]; rfl) (argsL := [(.int (3 : Int32)), (.int v574), (.int v602), (.int v604)]) (rest := []) (lenOf pd_0 rfl) rfl (W := 0) (Nat.le_refl _) rfl (hb hby at_192) (by decide) (by decide) (pc' := 195) rfl (fun T613 L613 r613 X613 q613 => ?_)
  obtain ⟨N613, q613⟩ := q613
  have N613' := Fr.app N600 N613
  obtain ⟨b614, k615, rfl, F616, F617, g_b614, lt618, Z619⟩ := q613
  show KEnds p e below s _ _ _ T613 (mkF m 195 #[.val (.int i0), .val (.int i1), .val (.int i2), .val (.int i3), .val (.int i4), .val (.int (3 : Int32)), .val (.ref b568), .val (.int v574), .val (.int v602), .val (.int v604), .val (.int v606), .unset, .unset, .unset, .unset, .unset, .unset, .unset] [(.ref b614)])
  refine k_astore X613 hx (hb hby at_195) rfl (Ls' := #[.val (.int i0), .val (.int i1), .val (.int i2), .val (.int i3), .val (.int i4), .val (.int (3 : Int32)), .val (.ref b568), .val (.int v574), .val (.int v602), .val (.int v604), .val (.int v606), .val (.ref b614), .unset, .unset, .unset, .unset, .unset, .unset]) rfl (pc' := 197) rfl ?_
  refine k_aload X613 hx (hb hby at_197) rfl rfl (pc' := 199) rfl ?_
  refine k_iload X613 hx (hb hby at_199) rfl (pc' := 201) rfl ?_
  refine k_callS X613 hx hZ hown (hw _ (List.mem_of_getElem? (i := 6) rfl)) (hw _ (List.mem_of_getElem? (i := 7) rfl)) (hw _ (List.mem_of_getElem? (i := 8) rfl)) (hw _ (List.mem_of_getElem? (i := 9) rfl)) (by decide) (rm2_620 l Z a0 hw [] b614 v606 b568 k568 v574 v582 v590 v598 k615 v602 v604 T613.heap n0 Z619 F616 g_b568 F617 g_b614 lt618) (by decide) (by decide) rfl (by rw [hml]; rfl) (argsL := [(.ref b614), (.int v606)]) (rest := []) (lenOf pd_1 rfl) rfl (W := 0) (Nat.le_refl _) rfl (hb hby at_201) (by decide) (by decide) (pc' := 204) rfl (fun T642 L642 r642 X642 q642 => ?_)
  obtain ⟨N642, q642⟩ := q642
  have N642' := Fr.app N613' N642
  rcases q642 with ⟨v643, v644, v645, h646, h647, h648, hc649, rfl, F650, F651, Z652⟩ | ⟨v653, v654, v655, v656, v657, h658, h659, h660, h661, h662, hc663, hc664, rfl, F665, F666, Z667⟩ | ⟨v668, v669, v670, v671, v672, v673, h674, h675, h676, h677, h678, h679, hc680, hc681, hc682, rfl, F683, F684, Z685⟩ | ⟨v686, v687, v688, h689, h690, h691, hc692, hc693, hc694, rfl, F695, F696, Z697⟩
  ·
   have hh698 : v605 = v645 := hv605.trans h648.symm
   subst hh698
   show KEnds p e below s _ _ _ T642 (mkF m 204 #[.val (.int i0), .val (.int i1), .val (.int i2), .val (.int i3), .val (.int i4), .val (.int (3 : Int32)), .val (.ref b568), .val (.int v574), .val (.int v602), .val (.int v604), .val (.int v606), .val (.ref b614), .unset, .unset, .unset, .unset, .unset, .unset] [(.int (1 : Int32))])
   refine k_istore X642 hx (hb hby at_204) (Ls' := #[.val (.int i0), .val (.int i1), .val (.int i2), .val (.int i3), .val (.int i4), .val (.int (3 : Int32)), .val (.ref b568), .val (.int v574), .val (.int v602), .val (.int v604), .val (.int v606), .val (.ref b614), .val (.int (1 : Int32)), .unset, .unset, .unset, .unset, .unset]) rfl (pc' := 206) rfl ?_
   refine k_iload X642 hx (hb hby at_206) rfl (pc' := 208) rfl ?_
   refine k_iconst X642 hx (hb hby at_208) (pc' := 209) rfl (z := (3 : Int32)) rfl ?_
   refine k_icmp_lt X642 hx (hb hby at_209) (pn := 212) rfl (py := 225) (by decide) (fun hc => absurd hc (by decide)) (fun _ => ?_)
   refine k_aload X642 hx (hb hby at_212) rfl rfl (pc' := 214) rfl ?_
   refine k_iconst X642 hx (hb hby at_214) (pc' := 215) rfl (z := (3 : Int32)) rfl ?_
   refine k_iaload X642 hx hZ rfl F650 ⟨by decide, by decide⟩ (v := (.int v598)) rfl (hb hby at_215) (pc' := 216) rfl ?_
   refine k_if_eq X642 hx (hb hby at_216) (pn := 219) rfl (py := 225) (by decide) (fun hc699 => ?_) (fun hc699 => ?_)
   ·
    refine k_iload X642 hx (hb hby at_225) rfl (pc' := 227) rfl ?_
    refine k_iconst X642 hx (hb hby at_227) (pc' := 228) rfl (z := (2 : Int32)) rfl ?_
    refine k_icmp_lt X642 hx (hb hby at_228) (pn := 231) rfl (py := 244) (by decide) (fun hc => absurd hc (by decide)) (fun _ => ?_)
    refine k_aload X642 hx (hb hby at_231) rfl rfl (pc' := 233) rfl ?_
    refine k_iconst X642 hx (hb hby at_233) (pc' := 234) rfl (z := (2 : Int32)) rfl ?_
    refine k_iaload X642 hx hZ rfl F650 ⟨by decide, by decide⟩ (v := (.int v590)) rfl (hb hby at_234) (pc' := 235) rfl ?_
    refine k_if_eq X642 hx (hb hby at_235) (pn := 238) rfl (py := 244) (by decide) (fun hc700 => ?_) (fun hc700 => ?_)
    ·
     refine k_iload X642 hx (hb hby at_244) rfl (pc' := 246) rfl ?_
     refine k_iconst X642 hx (hb hby at_246) (pc' := 247) rfl (z := (1 : Int32)) rfl ?_
     refine k_icmp_lt X642 hx (hb hby at_247) (pn := 250) rfl (py := 263) (by decide) (fun hc => absurd hc (by decide)) (fun _ => ?_)
     refine k_aload X642 hx (hb hby at_250) rfl rfl (pc' := 252) rfl ?_
     refine k_iconst X642 hx (hb hby at_252) (pc' := 253) rfl (z := (1 : Int32)) rfl ?_
     refine k_iaload X642 hx hZ rfl F650 ⟨by decide, by decide⟩ (v := (.int v582)) rfl (hb hby at_253) (pc' := 254) rfl ?_
     refine k_if_eq X642 hx (hb hby at_254) (pn := 257) rfl (py := 263) (by decide) (fun hc701 => ?_) (fun hc701 => ?_)
     ·
      refine k_iconst X642 hx (hb hby at_263) (pc' := 264) rfl (z := (0 : Int32)) rfl ?_
      refine k_istore X642 hx (hb hby at_264) (Ls' := #[.val (.int i0), .val (.int i1), .val (.int i2), .val (.int i3), .val (.int i4), .val (.int (3 : Int32)), .val (.ref b568), .val (.int v574), .val (.int v602), .val (.int v604), .val (.int v606), .val (.ref b614), .val (.int (1 : Int32)), .val (.int (0 : Int32)), .unset, .unset, .unset, .unset]) rfl (pc' := 266) rfl ?_
      refine k_iload X642 hx (hb hby at_266) rfl (pc' := 268) rfl ?_
      refine k_if_ne X642 hx (hb hby at_268) (pn := 271) rfl (py := 298) (by decide) (fun hc => absurd (by decide) hc) (fun _ => ?_)
      refine k_iload X642 hx (hb hby at_271) rfl (pc' := 273) rfl ?_
      refine k_if_ne X642 hx (hb hby at_273) (pn := 276) rfl (py := 296) (by decide) (fun _ => ?_) (fun hc => absurd hc (by decide))
      refine k_iconst X642 hx (hb hby at_296) (pc' := 297) rfl (z := (0 : Int32)) rfl ?_
      exfalso
      have := rng32 v574
      have : (0 : Int32).toInt = 0 := (by decide)
      have q703 := hP575.1; rw [Int32.lt_iff_toInt_lt] at q703
      have : (536870911 : Int32).toInt = 536870911 := (by decide)
      have q704 := hP575.2; rw [Int32.lt_iff_toInt_lt] at q704
      have := rng32 v582
      have q706 := hP583.1; rw [Int32.lt_iff_toInt_lt] at q706
      have q707 := hP583.2; rw [Int32.lt_iff_toInt_lt] at q707
      have := rng32 v590
      have q709 := hP591.1; rw [Int32.lt_iff_toInt_lt] at q709
      have q710 := hP591.2; rw [Int32.lt_iff_toInt_lt] at q710
      have := rng32 v598
      have q712 := hP599.1; rw [Int32.lt_iff_toInt_lt] at q712
      have q713 := hP599.2; rw [Int32.lt_iff_toInt_lt] at q713
      have := rng32 v604
      have := rng32 v603
      have := rng32 v602
      have := rng32 v601
      have : (1 : Int32).toInt = 1 := (by decide)
      have q714 : (v601.toInt - (v574.toInt + (1 : Int32).toInt)) % 4294967296 = 0 := (by rw [hv601]; exact c_iadd _ _)
      have q715 : (v602.toInt - (v601.toInt + v582.toInt)) % 4294967296 = 0 := (by rw [hv602]; exact c_iadd _ _)
      have q716 : (v603.toInt - (v602.toInt + (1 : Int32).toInt)) % 4294967296 = 0 := (by rw [hv603]; exact c_iadd _ _)
      have q717 : (v604.toInt - (v603.toInt + v590.toInt)) % 4294967296 = 0 := (by rw [hv604]; exact c_iadd _ _)
      have := rng32 v644
      have := rng32 v643
      have := rng32 v606
      have := rng32 v605
      have q718 : (v605.toInt - (v604.toInt + (1 : Int32).toInt)) % 4294967296 = 0 := (by rw [hv605]; exact c_iadd _ _)
      have q719 : (v606.toInt - (v605.toInt + v598.toInt)) % 4294967296 = 0 := (by rw [hv606]; exact c_iadd _ _)
      have : (3 : Int32).toInt = 3 := (by decide)
      have q720 : (v643.toInt - (v606.toInt - (3 : Int32).toInt)) % 4294967296 = 0 := (by rw [h646]; exact c_isub _ _)
      have : (2 : Int32).toInt = 2 := (by decide)
      have q721 : (v644.toInt - (v643.toInt + (2 : Int32).toInt)) % 4294967296 = 0 := (by rw [h647]; exact c_iadd _ _)
      have q722 : ¬ v604.toInt = v644.toInt := fun q => hc649 (Int32.toInt_inj.mp q)
      have q723 := congrArg Int32.toInt hc699
      have q724 := congrArg Int32.toInt hc700
      have q725 := congrArg Int32.toInt hc701
      omega
     ·
      refine k_iconst X642 hx (hb hby at_257) (pc' := 258) rfl (z := (1 : Int32)) rfl ?_
      refine k_istore X642 hx (hb hby at_258) (Ls' := #[.val (.int i0), .val (.int i1), .val (.int i2), .val (.int i3), .val (.int i4), .val (.int (3 : Int32)), .val (.ref b568), .val (.int v574), .val (.int v602), .val (.int v604), .val (.int v606), .val (.ref b614), .val (.int (1 : Int32)), .val (.int (1 : Int32)), .unset, .unset, .unset, .unset]) rfl (pc' := 260) rfl ?_
      refine k_goto X642 hx (hb hby at_260) (pc' := 266) (by decide) ?_
      refine k_iload X642 hx (hb hby at_266) rfl (pc' := 268) rfl ?_
      refine k_if_ne X642 hx (hb hby at_268) (pn := 271) rfl (py := 298) (by decide) (fun _ => ?_) (fun hc => absurd hc (by decide))
      refine k_aload X642 hx (hb hby at_298) rfl rfl (pc' := 300) rfl ?_
      refine k_iload X642 hx (hb hby at_300) rfl (pc' := 302) rfl ?_
      refine k_iaload X642 hx hZ rfl F650 ⟨by decide, by decide⟩ (v := (.int v582)) rfl (hb hby at_302) (pc' := 303) rfl ?_
      refine k_istore X642 hx (hb hby at_303) (Ls' := #[.val (.int i0), .val (.int i1), .val (.int i2), .val (.int i3), .val (.int i4), .val (.int (3 : Int32)), .val (.ref b568), .val (.int v574), .val (.int v602), .val (.int v604), .val (.int v606), .val (.ref b614), .val (.int (1 : Int32)), .val (.int (1 : Int32)), .val (.int v582), .unset, .unset, .unset]) rfl (pc' := 305) rfl ?_
      refine k_aload X642 hx (hb hby at_305) rfl rfl (pc' := 307) rfl ?_
      refine k_iload X642 hx (hb hby at_307) rfl (pc' := 309) rfl ?_
      refine k_iconst X642 hx (hb hby at_309) (pc' := 310) rfl (z := (0 : Int32)) rfl ?_
      refine k_iastore X642 hx hZ rfl F650 ⟨by decide, by decide⟩ (i := 1) rfl (Nat.le_of_ble_eq_true rfl) (hb hby at_310) (pc' := 311) rfl (fun T726 h726 X726 e726 W726 V726 => ?_)
      have Vw726 : Arv Z h726 b568 k568 .int (4 : Int32) [(.int v574), (.int (0 : Int32)), (.int v590), (.int v598)] (.int (0 : Int32)) := V726
      have N726 := Fr.snoc X726 N642' g_b568
      have Z726 : n0 ≤ h726.size := Nat.le_trans Z652 (Nat.le_of_eq W726.size.symm)
      refine k_aload X726 hx (hb hby at_311) rfl rfl (pc' := 313) rfl ?_
      refine k_iload X726 hx (hb hby at_313) rfl (pc' := 315) rfl ?_
      refine k_iconst X726 hx (hb hby at_315) (pc' := 316) rfl (z := (1 : Int32)) rfl ?_
      refine k_isubL X726 hx (hb hby at_316) (pc' := 317) rfl (z := (0 : Int32)) (by decide) ?_
      refine k_aload X726 hx (hb hby at_317) rfl rfl (pc' := 319) rfl ?_
      refine k_iload X726 hx (hb hby at_319) rfl (pc' := 321) rfl ?_
      refine k_iconst X726 hx (hb hby at_321) (pc' := 322) rfl (z := (1 : Int32)) rfl ?_
      refine k_isubL X726 hx (hb hby at_322) (pc' := 323) rfl (z := (0 : Int32)) (by decide) ?_
      refine k_iaload X726 hx hZ e726 Vw726 ⟨by decide, by decide⟩ (v := (.int v574)) rfl (hb hby at_323) (pc' := 324) rfl ?_
      refine k_iconst X726 hx (hb hby at_324) (pc' := 325) rfl (z := (1 : Int32)) rfl ?_
      refine k_iaddL X726 hx (hb hby at_325) (pc' := 326) rfl (z := v601) hv601.symm ?_
      refine k_iastore X726 hx hZ e726 Vw726 ⟨by decide, by decide⟩ (i := 0) rfl (Nat.le_of_ble_eq_true rfl) (hb hby at_326) (pc' := 327) rfl (fun T727 h727 X727 e727 W727 V727 => ?_)
      have Vw727 : Arv Z h727 b568 k568 .int (4 : Int32) [(.int v601), (.int (0 : Int32)), (.int v590), (.int v598)] (.int (0 : Int32)) := V727
      have N727 := Fr.snoc X727 N726 g_b568
      have Z727 : n0 ≤ h727.size := Nat.le_trans Z726 (Nat.le_of_eq W727.size.symm)
      refine k_aload X727 hx (hb hby at_327) rfl rfl (pc' := 329) rfl ?_
      refine k_iload X727 hx (hb hby at_329) rfl (pc' := 331) rfl ?_
      refine k_aload X727 hx (hb hby at_331) rfl rfl (pc' := 333) rfl ?_
      refine k_iload X727 hx (hb hby at_333) rfl (pc' := 335) rfl ?_
      refine k_iaload X727 hx hZ e727 Vw727 ⟨by decide, by decide⟩ (v := (.int v598)) rfl (hb hby at_335) (pc' := 336) rfl ?_
      refine k_iload X727 hx (hb hby at_336) rfl (pc' := 338) rfl ?_
      refine k_iadd X727 hx (hb hby at_338) (pc' := 339) rfl (fun v728 hv728 => ?_)
      refine k_iconst X727 hx (hb hby at_339) (pc' := 340) rfl (z := (1 : Int32)) rfl ?_
      refine k_isub X727 hx (hb hby at_340) (pc' := 341) rfl (fun v729 hv729 => ?_)
      refine k_iastore X727 hx hZ e727 Vw727 ⟨by decide, by decide⟩ (i := 3) rfl (Nat.le_of_ble_eq_true rfl) (hb hby at_341) (pc' := 342) rfl (fun T730 h730 X730 e730 W730 V730 => ?_)
      have Vw730 : Arv Z h730 b568 k568 .int (4 : Int32) [(.int v601), (.int (0 : Int32)), (.int v590), (.int v729)] (.int (0 : Int32)) := V730
      have N730 := Fr.snoc X730 N727 g_b568
      have Z730 : n0 ≤ h730.size := Nat.le_trans Z727 (Nat.le_of_eq W730.size.symm)
      refine k_aload X730 hx (hb hby at_342) rfl rfl (pc' := 344) rfl ?_
      refine k_iconst X730 hx (hb hby at_344) (pc' := 345) rfl (z := (0 : Int32)) rfl ?_
      refine k_iaload X730 hx hZ e730 Vw730 ⟨by decide, by decide⟩ (v := (.int v601)) rfl (hb hby at_345) (pc' := 346) rfl ?_
      refine k_istore X730 hx (hb hby at_346) (Ls' := #[.val (.int i0), .val (.int i1), .val (.int i2), .val (.int i3), .val (.int i4), .val (.int (3 : Int32)), .val (.ref b568), .val (.int v574), .val (.int v602), .val (.int v604), .val (.int v606), .val (.ref b614), .val (.int (1 : Int32)), .val (.int (1 : Int32)), .val (.int v582), .val (.int v601), .unset, .unset]) rfl (pc' := 348) rfl ?_
      refine k_iload X730 hx (hb hby at_348) rfl (pc' := 350) rfl ?_
      refine k_iconst X730 hx (hb hby at_350) (pc' := 351) rfl (z := (1 : Int32)) rfl ?_
      refine k_iadd X730 hx (hb hby at_351) (pc' := 352) rfl (fun v731 hv731 => ?_)
      refine k_aload X730 hx (hb hby at_352) rfl rfl (pc' := 354) rfl ?_
      refine k_iconst X730 hx (hb hby at_354) (pc' := 355) rfl (z := (1 : Int32)) rfl ?_
      refine k_iaload X730 hx hZ e730 Vw730 ⟨by decide, by decide⟩ (v := (.int (0 : Int32))) rfl (hb hby at_355) (pc' := 356) rfl ?_
      refine k_iaddL X730 hx (hb hby at_356) (pc' := 357) rfl (z := v731) (Int32.add_zero _) ?_
      refine k_istore X730 hx (hb hby at_357) (Ls' := #[.val (.int i0), .val (.int i1), .val (.int i2), .val (.int i3), .val (.int i4), .val (.int (3 : Int32)), .val (.ref b568), .val (.int v574), .val (.int v602), .val (.int v604), .val (.int v606), .val (.ref b614), .val (.int (1 : Int32)), .val (.int (1 : Int32)), .val (.int v582), .val (.int v601), .val (.int v731), .unset]) rfl (pc' := 359) rfl ?_
      refine k_iload X730 hx (hb hby at_359) rfl (pc' := 361) rfl ?_
      refine k_iconst X730 hx (hb hby at_361) (pc' := 362) rfl (z := (1 : Int32)) rfl ?_
      refine k_iadd X730 hx (hb hby at_362) (pc' := 363) rfl (fun v732 hv732 => ?_)
      refine k_aload X730 hx (hb hby at_363) rfl rfl (pc' := 365) rfl ?_
      refine k_iconst X730 hx (hb hby at_365) (pc' := 366) rfl (z := (2 : Int32)) rfl ?_
      refine k_iaload X730 hx hZ e730 Vw730 ⟨by decide, by decide⟩ (v := (.int v590)) rfl (hb hby at_366) (pc' := 367) rfl ?_
      refine k_iadd X730 hx (hb hby at_367) (pc' := 368) rfl (fun v733 hv733 => ?_)
      refine k_istore X730 hx (hb hby at_368) (Ls' := #[.val (.int i0), .val (.int i1), .val (.int i2), .val (.int i3), .val (.int i4), .val (.int (3 : Int32)), .val (.ref b568), .val (.int v574), .val (.int v602), .val (.int v604), .val (.int v606), .val (.ref b614), .val (.int (1 : Int32)), .val (.int (1 : Int32)), .val (.int v582), .val (.int v601), .val (.int v731), .val (.int v733)]) rfl (pc' := 370) rfl ?_
      refine k_iload X730 hx (hb hby at_370) rfl (pc' := 372) rfl ?_
      refine k_if_eq X730 hx (hb hby at_372) (pn := 375) rfl (py := 395) (by decide) (fun hc => absurd hc (by decide)) (fun _ => ?_)
      refine k_aload X730 hx (hb hby at_375) rfl rfl (pc' := 377) rfl ?_
      refine k_iload X730 hx (hb hby at_377) rfl (pc' := 379) rfl ?_
      refine k_iload X730 hx (hb hby at_379) rfl (pc' := 381) rfl ?_
      refine k_iload X730 hx (hb hby at_381) rfl (pc' := 383) rfl ?_
      refine k_iload X730 hx (hb hby at_383) rfl (pc' := 385) rfl ?_
      have F734 := (((F651.other W726 (Ne.symm (Nat.ne_of_lt lt618))).other W727 (Ne.symm (Nat.ne_of_lt lt618))).other W730 (Ne.symm (Nat.ne_of_lt lt618)))
      refine k_callS X730 hx hZ hown (hw _ (List.mem_of_getElem? (i := 10) rfl)) (hw _ (List.mem_of_getElem? (i := 11) rfl)) (hw _ (List.mem_of_getElem? (i := 4) rfl)) (hw _ (List.mem_of_getElem? (i := 12) rfl)) (by decide) (rm3_735 l Z a0 hw [] b614 v601 v731 v733 k615 v574 v602 v605 h730 n0 Z730 F734) (by decide) (by decide) e730 (by rw [hml]; rfl) (argsL := [(.ref b614), (.int (3 : Int32)), (.int v601), (.int v731), (.int v733)]) (rest := []) (lenOf pd_2 rfl) rfl (W := 0) (Nat.le_refl _) rfl (hb hby at_385) (by decide) (by decide) (pc' := 388) rfl (fun T739 L739 r739 X739 q739 => ?_)
      obtain ⟨N739, e739, q739⟩ := q739
      have N739' := Fr.app N730 N739
      rcases q739 with ⟨hc740, rfl⟩ | ⟨hc741, hc742, rfl⟩ | ⟨hc743, hc744, hc745, rfl⟩ | ⟨hc746, hc747, hc748, rfl⟩
      ·
       show KEnds p e below s _ _ _ T739 (mkF m 388 #[.val (.int i0), .val (.int i1), .val (.int i2), .val (.int i3), .val (.int i4), .val (.int (3 : Int32)), .val (.ref b568), .val (.int v574), .val (.int v602), .val (.int v604), .val (.int v606), .val (.ref b614), .val (.int (1 : Int32)), .val (.int (1 : Int32)), .val (.int v582), .val (.int v601), .val (.int v731), .val (.int v733)] [(.int (0 : Int32))])
       refine k_if_eq X739 hx (hb hby at_388) (pn := 391) rfl (py := 395) (by decide) (fun _ => ?_) (fun hc => absurd (by decide) hc)
       refine k_iconst X739 hx (hb hby at_395) (pc' := 396) rfl (z := (0 : Int32)) rfl ?_
       exfalso
       have := rng32 v574
       have : (0 : Int32).toInt = 0 := (by decide)
       have q750 := hP575.1; rw [Int32.lt_iff_toInt_lt] at q750
       have : (536870911 : Int32).toInt = 536870911 := (by decide)
       have q751 := hP575.2; rw [Int32.lt_iff_toInt_lt] at q751
       have := rng32 v582
       have q753 := hP583.1; rw [Int32.lt_iff_toInt_lt] at q753
       have q754 := hP583.2; rw [Int32.lt_iff_toInt_lt] at q754
       have := rng32 v590
       have q756 := hP591.1; rw [Int32.lt_iff_toInt_lt] at q756
       have q757 := hP591.2; rw [Int32.lt_iff_toInt_lt] at q757
       have := rng32 v598
       have q759 := hP599.1; rw [Int32.lt_iff_toInt_lt] at q759
       have q760 := hP599.2; rw [Int32.lt_iff_toInt_lt] at q760
       have := rng32 v604
       have := rng32 v603
       have := rng32 v602
       have := rng32 v601
       have : (1 : Int32).toInt = 1 := (by decide)
       have q761 : (v601.toInt - (v574.toInt + (1 : Int32).toInt)) % 4294967296 = 0 := (by rw [hv601]; exact c_iadd _ _)
       have q762 : (v602.toInt - (v601.toInt + v582.toInt)) % 4294967296 = 0 := (by rw [hv602]; exact c_iadd _ _)
       have q763 : (v603.toInt - (v602.toInt + (1 : Int32).toInt)) % 4294967296 = 0 := (by rw [hv603]; exact c_iadd _ _)
       have q764 : (v604.toInt - (v603.toInt + v590.toInt)) % 4294967296 = 0 := (by rw [hv604]; exact c_iadd _ _)
       have := rng32 v644
       have := rng32 v643
       have := rng32 v606
       have := rng32 v605
       have q765 : (v605.toInt - (v604.toInt + (1 : Int32).toInt)) % 4294967296 = 0 := (by rw [hv605]; exact c_iadd _ _)
       have q766 : (v606.toInt - (v605.toInt + v598.toInt)) % 4294967296 = 0 := (by rw [hv606]; exact c_iadd _ _)
       have : (3 : Int32).toInt = 3 := (by decide)
       have q767 : (v643.toInt - (v606.toInt - (3 : Int32).toInt)) % 4294967296 = 0 := (by rw [h646]; exact c_isub _ _)
       have : (2 : Int32).toInt = 2 := (by decide)
       have q768 : (v644.toInt - (v643.toInt + (2 : Int32).toInt)) % 4294967296 = 0 := (by rw [h647]; exact c_iadd _ _)
       have q769 : ¬ v604.toInt = v644.toInt := fun q => hc649 (Int32.toInt_inj.mp q)
       have q770 := congrArg Int32.toInt hc699
       have q771 := congrArg Int32.toInt hc700
       have q772 : ¬ v582.toInt = (0 : Int32).toInt := fun q => hc701 (Int32.toInt_inj.mp q)
       have q773 : ¬ v574.toInt = v601.toInt := fun q => hc740 (Int32.toInt_inj.mp q)
       omega
      ·
       show KEnds p e below s _ _ _ T739 (mkF m 388 #[.val (.int i0), .val (.int i1), .val (.int i2), .val (.int i3), .val (.int i4), .val (.int (3 : Int32)), .val (.ref b568), .val (.int v574), .val (.int v602), .val (.int v604), .val (.int v606), .val (.ref b614), .val (.int (1 : Int32)), .val (.int (1 : Int32)), .val (.int v582), .val (.int v601), .val (.int v731), .val (.int v733)] [(.int (0 : Int32))])
       refine k_if_eq X739 hx (hb hby at_388) (pn := 391) rfl (py := 395) (by decide) (fun _ => ?_) (fun hc => absurd (by decide) hc)
       refine k_iconst X739 hx (hb hby at_395) (pc' := 396) rfl (z := (0 : Int32)) rfl ?_
       exfalso
       have := rng32 v574
       have : (0 : Int32).toInt = 0 := (by decide)
       have q775 := hP575.1; rw [Int32.lt_iff_toInt_lt] at q775
       have : (536870911 : Int32).toInt = 536870911 := (by decide)
       have q776 := hP575.2; rw [Int32.lt_iff_toInt_lt] at q776
       have := rng32 v582
       have q778 := hP583.1; rw [Int32.lt_iff_toInt_lt] at q778
       have q779 := hP583.2; rw [Int32.lt_iff_toInt_lt] at q779
       have := rng32 v590
       have q781 := hP591.1; rw [Int32.lt_iff_toInt_lt] at q781
       have q782 := hP591.2; rw [Int32.lt_iff_toInt_lt] at q782
       have := rng32 v598
       have q784 := hP599.1; rw [Int32.lt_iff_toInt_lt] at q784
       have q785 := hP599.2; rw [Int32.lt_iff_toInt_lt] at q785
       have := rng32 v604
       have := rng32 v603
       have := rng32 v602
       have := rng32 v601
       have : (1 : Int32).toInt = 1 := (by decide)
       have q786 : (v601.toInt - (v574.toInt + (1 : Int32).toInt)) % 4294967296 = 0 := (by rw [hv601]; exact c_iadd _ _)
       have q787 : (v602.toInt - (v601.toInt + v582.toInt)) % 4294967296 = 0 := (by rw [hv602]; exact c_iadd _ _)
       have q788 : (v603.toInt - (v602.toInt + (1 : Int32).toInt)) % 4294967296 = 0 := (by rw [hv603]; exact c_iadd _ _)
       have q789 : (v604.toInt - (v603.toInt + v590.toInt)) % 4294967296 = 0 := (by rw [hv604]; exact c_iadd _ _)
       have := rng32 v644
       have := rng32 v643
       have := rng32 v606
       have := rng32 v605
       have q790 : (v605.toInt - (v604.toInt + (1 : Int32).toInt)) % 4294967296 = 0 := (by rw [hv605]; exact c_iadd _ _)
       have q791 : (v606.toInt - (v605.toInt + v598.toInt)) % 4294967296 = 0 := (by rw [hv606]; exact c_iadd _ _)
       have : (3 : Int32).toInt = 3 := (by decide)
       have q792 : (v643.toInt - (v606.toInt - (3 : Int32).toInt)) % 4294967296 = 0 := (by rw [h646]; exact c_isub _ _)
       have : (2 : Int32).toInt = 2 := (by decide)
       have q793 : (v644.toInt - (v643.toInt + (2 : Int32).toInt)) % 4294967296 = 0 := (by rw [h647]; exact c_iadd _ _)
       have q794 : ¬ v604.toInt = v644.toInt := fun q => hc649 (Int32.toInt_inj.mp q)
       have q795 := congrArg Int32.toInt hc699
       have q796 := congrArg Int32.toInt hc700
       have q797 : ¬ v582.toInt = (0 : Int32).toInt := fun q => hc701 (Int32.toInt_inj.mp q)
       have q798 := congrArg Int32.toInt hc741
       have := rng32 v731
       have q799 : (v731.toInt - (v601.toInt + (1 : Int32).toInt)) % 4294967296 = 0 := (by rw [hv731]; exact c_iadd _ _)
       have q800 : ¬ v602.toInt = v731.toInt := fun q => hc742 (Int32.toInt_inj.mp q)
       omega
      ·
       show KEnds p e below s _ _ _ T739 (mkF m 388 #[.val (.int i0), .val (.int i1), .val (.int i2), .val (.int i3), .val (.int i4), .val (.int (3 : Int32)), .val (.ref b568), .val (.int v574), .val (.int v602), .val (.int v604), .val (.int v606), .val (.ref b614), .val (.int (1 : Int32)), .val (.int (1 : Int32)), .val (.int v582), .val (.int v601), .val (.int v731), .val (.int v733)] [(.int (0 : Int32))])
       refine k_if_eq X739 hx (hb hby at_388) (pn := 391) rfl (py := 395) (by decide) (fun _ => ?_) (fun hc => absurd (by decide) hc)
       refine k_iconst X739 hx (hb hby at_395) (pc' := 396) rfl (z := (0 : Int32)) rfl ?_
       exfalso
       have := rng32 v574
       have : (0 : Int32).toInt = 0 := (by decide)
       have q802 := hP575.1; rw [Int32.lt_iff_toInt_lt] at q802
       have : (536870911 : Int32).toInt = 536870911 := (by decide)
       have q803 := hP575.2; rw [Int32.lt_iff_toInt_lt] at q803
       have := rng32 v582
       have q805 := hP583.1; rw [Int32.lt_iff_toInt_lt] at q805
       have q806 := hP583.2; rw [Int32.lt_iff_toInt_lt] at q806
       have := rng32 v590
       have q808 := hP591.1; rw [Int32.lt_iff_toInt_lt] at q808
       have q809 := hP591.2; rw [Int32.lt_iff_toInt_lt] at q809
       have := rng32 v598
       have q811 := hP599.1; rw [Int32.lt_iff_toInt_lt] at q811
       have q812 := hP599.2; rw [Int32.lt_iff_toInt_lt] at q812
       have := rng32 v604
       have := rng32 v603
       have := rng32 v602
       have := rng32 v601
       have : (1 : Int32).toInt = 1 := (by decide)
       have q813 : (v601.toInt - (v574.toInt + (1 : Int32).toInt)) % 4294967296 = 0 := (by rw [hv601]; exact c_iadd _ _)
       have q814 : (v602.toInt - (v601.toInt + v582.toInt)) % 4294967296 = 0 := (by rw [hv602]; exact c_iadd _ _)
       have q815 : (v603.toInt - (v602.toInt + (1 : Int32).toInt)) % 4294967296 = 0 := (by rw [hv603]; exact c_iadd _ _)
       have q816 : (v604.toInt - (v603.toInt + v590.toInt)) % 4294967296 = 0 := (by rw [hv604]; exact c_iadd _ _)
       have := rng32 v644
       have := rng32 v643
       have := rng32 v606
       have := rng32 v605
       have q817 : (v605.toInt - (v604.toInt + (1 : Int32).toInt)) % 4294967296 = 0 := (by rw [hv605]; exact c_iadd _ _)
       have q818 : (v606.toInt - (v605.toInt + v598.toInt)) % 4294967296 = 0 := (by rw [hv606]; exact c_iadd _ _)
       have : (3 : Int32).toInt = 3 := (by decide)
       have q819 : (v643.toInt - (v606.toInt - (3 : Int32).toInt)) % 4294967296 = 0 := (by rw [h646]; exact c_isub _ _)
       have : (2 : Int32).toInt = 2 := (by decide)
       have q820 : (v644.toInt - (v643.toInt + (2 : Int32).toInt)) % 4294967296 = 0 := (by rw [h647]; exact c_iadd _ _)
       have q821 : ¬ v604.toInt = v644.toInt := fun q => hc649 (Int32.toInt_inj.mp q)
       have q822 := congrArg Int32.toInt hc699
       have q823 := congrArg Int32.toInt hc700
       have q824 : ¬ v582.toInt = (0 : Int32).toInt := fun q => hc701 (Int32.toInt_inj.mp q)
       have q825 := congrArg Int32.toInt hc743
       have := rng32 v731
       have q826 : (v731.toInt - (v601.toInt + (1 : Int32).toInt)) % 4294967296 = 0 := (by rw [hv731]; exact c_iadd _ _)
       have q827 := congrArg Int32.toInt hc744
       have := rng32 v733
       have := rng32 v732
       have q828 : (v732.toInt - (v731.toInt + (1 : Int32).toInt)) % 4294967296 = 0 := (by rw [hv732]; exact c_iadd _ _)
       have q829 : (v733.toInt - (v732.toInt + v590.toInt)) % 4294967296 = 0 := (by rw [hv733]; exact c_iadd _ _)
       have q830 : ¬ v605.toInt = v733.toInt := fun q => hc745 (Int32.toInt_inj.mp q)
       omega
      ·
       show KEnds p e below s _ _ _ T739 (mkF m 388 #[.val (.int i0), .val (.int i1), .val (.int i2), .val (.int i3), .val (.int i4), .val (.int (3 : Int32)), .val (.ref b568), .val (.int v574), .val (.int v602), .val (.int v604), .val (.int v606), .val (.ref b614), .val (.int (1 : Int32)), .val (.int (1 : Int32)), .val (.int v582), .val (.int v601), .val (.int v731), .val (.int v733)] [(.int (1 : Int32))])
       refine k_if_eq X739 hx (hb hby at_388) (pn := 391) rfl (py := 395) (by decide) (fun hc => absurd hc (by decide)) (fun _ => ?_)
       refine k_iconst X739 hx (hb hby at_391) (pc' := 392) rfl (z := (1 : Int32)) rfl ?_
       refine k_goto X739 hx (hb hby at_392) (pc' := 396) (by decide) ?_
       exact k_retN X739 hx (t := .boolean) Bd.returns (by simp) (hb hby at_396) hlk (by decide) (by decide) (z' := (1 : Int32)) rfl ⟨rfl, N739'⟩
    ·
     refine k_iconst X642 hx (hb hby at_238) (pc' := 239) rfl (z := (2 : Int32)) rfl ?_
     refine k_istore X642 hx (hb hby at_239) (Ls' := #[.val (.int i0), .val (.int i1), .val (.int i2), .val (.int i3), .val (.int i4), .val (.int (3 : Int32)), .val (.ref b568), .val (.int v574), .val (.int v602), .val (.int v604), .val (.int v606), .val (.ref b614), .val (.int (1 : Int32)), .val (.int (2 : Int32)), .unset, .unset, .unset, .unset]) rfl (pc' := 241) rfl ?_
     refine k_goto X642 hx (hb hby at_241) (pc' := 266) (by decide) ?_
     refine k_iload X642 hx (hb hby at_266) rfl (pc' := 268) rfl ?_
     refine k_if_ne X642 hx (hb hby at_268) (pn := 271) rfl (py := 298) (by decide) (fun _ => ?_) (fun hc => absurd hc (by decide))
     refine k_aload X642 hx (hb hby at_298) rfl rfl (pc' := 300) rfl ?_
     refine k_iload X642 hx (hb hby at_300) rfl (pc' := 302) rfl ?_
     refine k_iaload X642 hx hZ rfl F650 ⟨by decide, by decide⟩ (v := (.int v590)) rfl (hb hby at_302) (pc' := 303) rfl ?_
     refine k_istore X642 hx (hb hby at_303) (Ls' := #[.val (.int i0), .val (.int i1), .val (.int i2), .val (.int i3), .val (.int i4), .val (.int (3 : Int32)), .val (.ref b568), .val (.int v574), .val (.int v602), .val (.int v604), .val (.int v606), .val (.ref b614), .val (.int (1 : Int32)), .val (.int (2 : Int32)), .val (.int v590), .unset, .unset, .unset]) rfl (pc' := 305) rfl ?_
     refine k_aload X642 hx (hb hby at_305) rfl rfl (pc' := 307) rfl ?_
     refine k_iload X642 hx (hb hby at_307) rfl (pc' := 309) rfl ?_
     refine k_iconst X642 hx (hb hby at_309) (pc' := 310) rfl (z := (0 : Int32)) rfl ?_
     refine k_iastore X642 hx hZ rfl F650 ⟨by decide, by decide⟩ (i := 2) rfl (Nat.le_of_ble_eq_true rfl) (hb hby at_310) (pc' := 311) rfl (fun T831 h831 X831 e831 W831 V831 => ?_)
     have Vw831 : Arv Z h831 b568 k568 .int (4 : Int32) [(.int v574), (.int v582), (.int (0 : Int32)), (.int v598)] (.int (0 : Int32)) := V831
     have N831 := Fr.snoc X831 N642' g_b568
     have Z831 : n0 ≤ h831.size := Nat.le_trans Z652 (Nat.le_of_eq W831.size.symm)
     refine k_aload X831 hx (hb hby at_311) rfl rfl (pc' := 313) rfl ?_
     refine k_iload X831 hx (hb hby at_313) rfl (pc' := 315) rfl ?_
     refine k_iconst X831 hx (hb hby at_315) (pc' := 316) rfl (z := (1 : Int32)) rfl ?_
     refine k_isubL X831 hx (hb hby at_316) (pc' := 317) rfl (z := (1 : Int32)) (by decide) ?_
     refine k_aload X831 hx (hb hby at_317) rfl rfl (pc' := 319) rfl ?_
     refine k_iload X831 hx (hb hby at_319) rfl (pc' := 321) rfl ?_
     refine k_iconst X831 hx (hb hby at_321) (pc' := 322) rfl (z := (1 : Int32)) rfl ?_
     refine k_isubL X831 hx (hb hby at_322) (pc' := 323) rfl (z := (1 : Int32)) (by decide) ?_
     refine k_iaload X831 hx hZ e831 Vw831 ⟨by decide, by decide⟩ (v := (.int v582)) rfl (hb hby at_323) (pc' := 324) rfl ?_
     refine k_iconst X831 hx (hb hby at_324) (pc' := 325) rfl (z := (1 : Int32)) rfl ?_
     refine k_iadd X831 hx (hb hby at_325) (pc' := 326) rfl (fun v832 hv832 => ?_)
     refine k_iastore X831 hx hZ e831 Vw831 ⟨by decide, by decide⟩ (i := 1) rfl (Nat.le_of_ble_eq_true rfl) (hb hby at_326) (pc' := 327) rfl (fun T833 h833 X833 e833 W833 V833 => ?_)
     have Vw833 : Arv Z h833 b568 k568 .int (4 : Int32) [(.int v574), (.int v832), (.int (0 : Int32)), (.int v598)] (.int (0 : Int32)) := V833
     have N833 := Fr.snoc X833 N831 g_b568
     have Z833 : n0 ≤ h833.size := Nat.le_trans Z831 (Nat.le_of_eq W833.size.symm)
     refine k_aload X833 hx (hb hby at_327) rfl rfl (pc' := 329) rfl ?_
     refine k_iload X833 hx (hb hby at_329) rfl (pc' := 331) rfl ?_
     refine k_aload X833 hx (hb hby at_331) rfl rfl (pc' := 333) rfl ?_
     refine k_iload X833 hx (hb hby at_333) rfl (pc' := 335) rfl ?_
     refine k_iaload X833 hx hZ e833 Vw833 ⟨by decide, by decide⟩ (v := (.int v598)) rfl (hb hby at_335) (pc' := 336) rfl ?_
     refine k_iload X833 hx (hb hby at_336) rfl (pc' := 338) rfl ?_
     refine k_iadd X833 hx (hb hby at_338) (pc' := 339) rfl (fun v834 hv834 => ?_)
     refine k_iconst X833 hx (hb hby at_339) (pc' := 340) rfl (z := (1 : Int32)) rfl ?_
     refine k_isub X833 hx (hb hby at_340) (pc' := 341) rfl (fun v835 hv835 => ?_)
     refine k_iastore X833 hx hZ e833 Vw833 ⟨by decide, by decide⟩ (i := 3) rfl (Nat.le_of_ble_eq_true rfl) (hb hby at_341) (pc' := 342) rfl (fun T836 h836 X836 e836 W836 V836 => ?_)
     have Vw836 : Arv Z h836 b568 k568 .int (4 : Int32) [(.int v574), (.int v832), (.int (0 : Int32)), (.int v835)] (.int (0 : Int32)) := V836
     have N836 := Fr.snoc X836 N833 g_b568
     have Z836 : n0 ≤ h836.size := Nat.le_trans Z833 (Nat.le_of_eq W836.size.symm)
     refine k_aload X836 hx (hb hby at_342) rfl rfl (pc' := 344) rfl ?_
     refine k_iconst X836 hx (hb hby at_344) (pc' := 345) rfl (z := (0 : Int32)) rfl ?_
     refine k_iaload X836 hx hZ e836 Vw836 ⟨by decide, by decide⟩ (v := (.int v574)) rfl (hb hby at_345) (pc' := 346) rfl ?_
     refine k_istore X836 hx (hb hby at_346) (Ls' := #[.val (.int i0), .val (.int i1), .val (.int i2), .val (.int i3), .val (.int i4), .val (.int (3 : Int32)), .val (.ref b568), .val (.int v574), .val (.int v602), .val (.int v604), .val (.int v606), .val (.ref b614), .val (.int (1 : Int32)), .val (.int (2 : Int32)), .val (.int v590), .val (.int v574), .unset, .unset]) rfl (pc' := 348) rfl ?_
     refine k_iload X836 hx (hb hby at_348) rfl (pc' := 350) rfl ?_
     refine k_iconst X836 hx (hb hby at_350) (pc' := 351) rfl (z := (1 : Int32)) rfl ?_
     refine k_iaddL X836 hx (hb hby at_351) (pc' := 352) rfl (z := v601) hv601.symm ?_
     refine k_aload X836 hx (hb hby at_352) rfl rfl (pc' := 354) rfl ?_
     refine k_iconst X836 hx (hb hby at_354) (pc' := 355) rfl (z := (1 : Int32)) rfl ?_
     refine k_iaload X836 hx hZ e836 Vw836 ⟨by decide, by decide⟩ (v := (.int v832)) rfl (hb hby at_355) (pc' := 356) rfl ?_
     refine k_iadd X836 hx (hb hby at_356) (pc' := 357) rfl (fun v837 hv837 => ?_)
     refine k_istore X836 hx (hb hby at_357) (Ls' := #[.val (.int i0), .val (.int i1), .val (.int i2), .val (.int i3), .val (.int i4), .val (.int (3 : Int32)), .val (.ref b568), .val (.int v574), .val (.int v602), .val (.int v604), .val (.int v606), .val (.ref b614), .val (.int (1 : Int32)), .val (.int (2 : Int32)), .val (.int v590), .val (.int v574), .val (.int v837), .unset]) rfl (pc' := 359) rfl ?_
     refine k_iload X836 hx (hb hby at_359) rfl (pc' := 361) rfl ?_
     refine k_iconst X836 hx (hb hby at_361) (pc' := 362) rfl (z := (1 : Int32)) rfl ?_
     refine k_iadd X836 hx (hb hby at_362) (pc' := 363) rfl (fun v838 hv838 => ?_)
     refine k_aload X836 hx (hb hby at_363) rfl rfl (pc' := 365) rfl ?_
     refine k_iconst X836 hx (hb hby at_365) (pc' := 366) rfl (z := (2 : Int32)) rfl ?_
     refine k_iaload X836 hx hZ e836 Vw836 ⟨by decide, by decide⟩ (v := (.int (0 : Int32))) rfl (hb hby at_366) (pc' := 367) rfl ?_
     refine k_iaddL X836 hx (hb hby at_367) (pc' := 368) rfl (z := v838) (Int32.add_zero _) ?_
     refine k_istore X836 hx (hb hby at_368) (Ls' := #[.val (.int i0), .val (.int i1), .val (.int i2), .val (.int i3), .val (.int i4), .val (.int (3 : Int32)), .val (.ref b568), .val (.int v574), .val (.int v602), .val (.int v604), .val (.int v606), .val (.ref b614), .val (.int (1 : Int32)), .val (.int (2 : Int32)), .val (.int v590), .val (.int v574), .val (.int v837), .val (.int v838)]) rfl (pc' := 370) rfl ?_
     refine k_iload X836 hx (hb hby at_370) rfl (pc' := 372) rfl ?_
     refine k_if_eq X836 hx (hb hby at_372) (pn := 375) rfl (py := 395) (by decide) (fun hc => absurd hc (by decide)) (fun _ => ?_)
     refine k_aload X836 hx (hb hby at_375) rfl rfl (pc' := 377) rfl ?_
     refine k_iload X836 hx (hb hby at_377) rfl (pc' := 379) rfl ?_
     refine k_iload X836 hx (hb hby at_379) rfl (pc' := 381) rfl ?_
     refine k_iload X836 hx (hb hby at_381) rfl (pc' := 383) rfl ?_
     refine k_iload X836 hx (hb hby at_383) rfl (pc' := 385) rfl ?_
     have F839 := (((F651.other W831 (Ne.symm (Nat.ne_of_lt lt618))).other W833 (Ne.symm (Nat.ne_of_lt lt618))).other W836 (Ne.symm (Nat.ne_of_lt lt618)))
     refine k_callS X836 hx hZ hown (hw _ (List.mem_of_getElem? (i := 10) rfl)) (hw _ (List.mem_of_getElem? (i := 11) rfl)) (hw _ (List.mem_of_getElem? (i := 4) rfl)) (hw _ (List.mem_of_getElem? (i := 12) rfl)) (by decide) (rm3_840 l Z a0 hw [] b614 v574 v837 v838 k615 v602 v605 h836 n0 Z836 F839) (by decide) (by decide) e836 (by rw [hml]; rfl) (argsL := [(.ref b614), (.int (3 : Int32)), (.int v574), (.int v837), (.int v838)]) (rest := []) (lenOf pd_2 rfl) rfl (W := 0) (Nat.le_refl _) rfl (hb hby at_385) (by decide) (by decide) (pc' := 388) rfl (fun T843 L843 r843 X843 q843 => ?_)
     obtain ⟨N843, e843, q843⟩ := q843
     have N843' := Fr.app N836 N843
     rcases q843 with ⟨hc844, rfl⟩ | ⟨hc845, hc846, rfl⟩ | ⟨hc847, hc848, rfl⟩
     ·
      show KEnds p e below s _ _ _ T843 (mkF m 388 #[.val (.int i0), .val (.int i1), .val (.int i2), .val (.int i3), .val (.int i4), .val (.int (3 : Int32)), .val (.ref b568), .val (.int v574), .val (.int v602), .val (.int v604), .val (.int v606), .val (.ref b614), .val (.int (1 : Int32)), .val (.int (2 : Int32)), .val (.int v590), .val (.int v574), .val (.int v837), .val (.int v838)] [(.int (0 : Int32))])
      refine k_if_eq X843 hx (hb hby at_388) (pn := 391) rfl (py := 395) (by decide) (fun _ => ?_) (fun hc => absurd (by decide) hc)
      refine k_iconst X843 hx (hb hby at_395) (pc' := 396) rfl (z := (0 : Int32)) rfl ?_
      exfalso
      have := rng32 v574
      have : (0 : Int32).toInt = 0 := (by decide)
      have q850 := hP575.1; rw [Int32.lt_iff_toInt_lt] at q850
      have : (536870911 : Int32).toInt = 536870911 := (by decide)
      have q851 := hP575.2; rw [Int32.lt_iff_toInt_lt] at q851
      have := rng32 v582
      have q853 := hP583.1; rw [Int32.lt_iff_toInt_lt] at q853
      have q854 := hP583.2; rw [Int32.lt_iff_toInt_lt] at q854
      have := rng32 v590
      have q856 := hP591.1; rw [Int32.lt_iff_toInt_lt] at q856
      have q857 := hP591.2; rw [Int32.lt_iff_toInt_lt] at q857
      have := rng32 v598
      have q859 := hP599.1; rw [Int32.lt_iff_toInt_lt] at q859
      have q860 := hP599.2; rw [Int32.lt_iff_toInt_lt] at q860
      have := rng32 v604
      have := rng32 v603
      have := rng32 v602
      have := rng32 v601
      have : (1 : Int32).toInt = 1 := (by decide)
      have q861 : (v601.toInt - (v574.toInt + (1 : Int32).toInt)) % 4294967296 = 0 := (by rw [hv601]; exact c_iadd _ _)
      have q862 : (v602.toInt - (v601.toInt + v582.toInt)) % 4294967296 = 0 := (by rw [hv602]; exact c_iadd _ _)
      have q863 : (v603.toInt - (v602.toInt + (1 : Int32).toInt)) % 4294967296 = 0 := (by rw [hv603]; exact c_iadd _ _)
      have q864 : (v604.toInt - (v603.toInt + v590.toInt)) % 4294967296 = 0 := (by rw [hv604]; exact c_iadd _ _)
      have := rng32 v644
      have := rng32 v643
      have := rng32 v606
      have := rng32 v605
      have q865 : (v605.toInt - (v604.toInt + (1 : Int32).toInt)) % 4294967296 = 0 := (by rw [hv605]; exact c_iadd _ _)
      have q866 : (v606.toInt - (v605.toInt + v598.toInt)) % 4294967296 = 0 := (by rw [hv606]; exact c_iadd _ _)
      have : (3 : Int32).toInt = 3 := (by decide)
      have q867 : (v643.toInt - (v606.toInt - (3 : Int32).toInt)) % 4294967296 = 0 := (by rw [h646]; exact c_isub _ _)
      have : (2 : Int32).toInt = 2 := (by decide)
      have q868 : (v644.toInt - (v643.toInt + (2 : Int32).toInt)) % 4294967296 = 0 := (by rw [h647]; exact c_iadd _ _)
      have q869 : ¬ v604.toInt = v644.toInt := fun q => hc649 (Int32.toInt_inj.mp q)
      have q870 := congrArg Int32.toInt hc699
      have q871 : ¬ v590.toInt = (0 : Int32).toInt := fun q => hc700 (Int32.toInt_inj.mp q)
      have := rng32 v837
      have := rng32 v832
      have q872 : (v832.toInt - (v582.toInt + (1 : Int32).toInt)) % 4294967296 = 0 := (by rw [hv832]; exact c_iadd _ _)
      have q873 : (v837.toInt - (v601.toInt + v832.toInt)) % 4294967296 = 0 := (by rw [hv837]; exact c_iadd _ _)
      have q874 : ¬ v602.toInt = v837.toInt := fun q => hc844 (Int32.toInt_inj.mp q)
      omega
     ·
      show KEnds p e below s _ _ _ T843 (mkF m 388 #[.val (.int i0), .val (.int i1), .val (.int i2), .val (.int i3), .val (.int i4), .val (.int (3 : Int32)), .val (.ref b568), .val (.int v574), .val (.int v602), .val (.int v604), .val (.int v606), .val (.ref b614), .val (.int (1 : Int32)), .val (.int (2 : Int32)), .val (.int v590), .val (.int v574), .val (.int v837), .val (.int v838)] [(.int (0 : Int32))])
      refine k_if_eq X843 hx (hb hby at_388) (pn := 391) rfl (py := 395) (by decide) (fun _ => ?_) (fun hc => absurd (by decide) hc)
      refine k_iconst X843 hx (hb hby at_395) (pc' := 396) rfl (z := (0 : Int32)) rfl ?_
      exfalso
      have := rng32 v574
      have : (0 : Int32).toInt = 0 := (by decide)
      have q876 := hP575.1; rw [Int32.lt_iff_toInt_lt] at q876
      have : (536870911 : Int32).toInt = 536870911 := (by decide)
      have q877 := hP575.2; rw [Int32.lt_iff_toInt_lt] at q877
      have := rng32 v582
      have q879 := hP583.1; rw [Int32.lt_iff_toInt_lt] at q879
      have q880 := hP583.2; rw [Int32.lt_iff_toInt_lt] at q880
      have := rng32 v590
      have q882 := hP591.1; rw [Int32.lt_iff_toInt_lt] at q882
      have q883 := hP591.2; rw [Int32.lt_iff_toInt_lt] at q883
      have := rng32 v598
      have q885 := hP599.1; rw [Int32.lt_iff_toInt_lt] at q885
      have q886 := hP599.2; rw [Int32.lt_iff_toInt_lt] at q886
      have := rng32 v604
      have := rng32 v603
      have := rng32 v602
      have := rng32 v601
      have : (1 : Int32).toInt = 1 := (by decide)
      have q887 : (v601.toInt - (v574.toInt + (1 : Int32).toInt)) % 4294967296 = 0 := (by rw [hv601]; exact c_iadd _ _)
      have q888 : (v602.toInt - (v601.toInt + v582.toInt)) % 4294967296 = 0 := (by rw [hv602]; exact c_iadd _ _)
      have q889 : (v603.toInt - (v602.toInt + (1 : Int32).toInt)) % 4294967296 = 0 := (by rw [hv603]; exact c_iadd _ _)
      have q890 : (v604.toInt - (v603.toInt + v590.toInt)) % 4294967296 = 0 := (by rw [hv604]; exact c_iadd _ _)
      have := rng32 v644
      have := rng32 v643
      have := rng32 v606
      have := rng32 v605
      have q891 : (v605.toInt - (v604.toInt + (1 : Int32).toInt)) % 4294967296 = 0 := (by rw [hv605]; exact c_iadd _ _)
      have q892 : (v606.toInt - (v605.toInt + v598.toInt)) % 4294967296 = 0 := (by rw [hv606]; exact c_iadd _ _)
      have : (3 : Int32).toInt = 3 := (by decide)
      have q893 : (v643.toInt - (v606.toInt - (3 : Int32).toInt)) % 4294967296 = 0 := (by rw [h646]; exact c_isub _ _)
      have : (2 : Int32).toInt = 2 := (by decide)
      have q894 : (v644.toInt - (v643.toInt + (2 : Int32).toInt)) % 4294967296 = 0 := (by rw [h647]; exact c_iadd _ _)
      have q895 : ¬ v604.toInt = v644.toInt := fun q => hc649 (Int32.toInt_inj.mp q)
      have q896 := congrArg Int32.toInt hc699
      have q897 : ¬ v590.toInt = (0 : Int32).toInt := fun q => hc700 (Int32.toInt_inj.mp q)
      have := rng32 v837
      have := rng32 v832
      have q898 : (v832.toInt - (v582.toInt + (1 : Int32).toInt)) % 4294967296 = 0 := (by rw [hv832]; exact c_iadd _ _)
      have q899 : (v837.toInt - (v601.toInt + v832.toInt)) % 4294967296 = 0 := (by rw [hv837]; exact c_iadd _ _)
      have q900 := congrArg Int32.toInt hc845
      have := rng32 v838
      have q901 : (v838.toInt - (v837.toInt + (1 : Int32).toInt)) % 4294967296 = 0 := (by rw [hv838]; exact c_iadd _ _)
      have q902 : ¬ v605.toInt = v838.toInt := fun q => hc846 (Int32.toInt_inj.mp q)
      omega
     ·
      show KEnds p e below s _ _ _ T843 (mkF m 388 #[.val (.int i0), .val (.int i1), .val (.int i2), .val (.int i3), .val (.int i4), .val (.int (3 : Int32)), .val (.ref b568), .val (.int v574), .val (.int v602), .val (.int v604), .val (.int v606), .val (.ref b614), .val (.int (1 : Int32)), .val (.int (2 : Int32)), .val (.int v590), .val (.int v574), .val (.int v837), .val (.int v838)] [(.int (1 : Int32))])
      refine k_if_eq X843 hx (hb hby at_388) (pn := 391) rfl (py := 395) (by decide) (fun hc => absurd hc (by decide)) (fun _ => ?_)
      refine k_iconst X843 hx (hb hby at_391) (pc' := 392) rfl (z := (1 : Int32)) rfl ?_
      refine k_goto X843 hx (hb hby at_392) (pc' := 396) (by decide) ?_
      exact k_retN X843 hx (t := .boolean) Bd.returns (by simp) (hb hby at_396) hlk (by decide) (by decide) (z' := (1 : Int32)) rfl ⟨rfl, N843'⟩
   ·
    refine k_iconst X642 hx (hb hby at_219) (pc' := 220) rfl (z := (3 : Int32)) rfl ?_
    refine k_istore X642 hx (hb hby at_220) (Ls' := #[.val (.int i0), .val (.int i1), .val (.int i2), .val (.int i3), .val (.int i4), .val (.int (3 : Int32)), .val (.ref b568), .val (.int v574), .val (.int v602), .val (.int v604), .val (.int v606), .val (.ref b614), .val (.int (1 : Int32)), .val (.int (3 : Int32)), .unset, .unset, .unset, .unset]) rfl (pc' := 222) rfl ?_
    refine k_goto X642 hx (hb hby at_222) (pc' := 266) (by decide) ?_
    refine k_iload X642 hx (hb hby at_266) rfl (pc' := 268) rfl ?_
    refine k_if_ne X642 hx (hb hby at_268) (pn := 271) rfl (py := 298) (by decide) (fun _ => ?_) (fun hc => absurd hc (by decide))
    refine k_aload X642 hx (hb hby at_298) rfl rfl (pc' := 300) rfl ?_
    refine k_iload X642 hx (hb hby at_300) rfl (pc' := 302) rfl ?_
    refine k_iaload X642 hx hZ rfl F650 ⟨by decide, by decide⟩ (v := (.int v598)) rfl (hb hby at_302) (pc' := 303) rfl ?_
    refine k_istore X642 hx (hb hby at_303) (Ls' := #[.val (.int i0), .val (.int i1), .val (.int i2), .val (.int i3), .val (.int i4), .val (.int (3 : Int32)), .val (.ref b568), .val (.int v574), .val (.int v602), .val (.int v604), .val (.int v606), .val (.ref b614), .val (.int (1 : Int32)), .val (.int (3 : Int32)), .val (.int v598), .unset, .unset, .unset]) rfl (pc' := 305) rfl ?_
    refine k_aload X642 hx (hb hby at_305) rfl rfl (pc' := 307) rfl ?_
    refine k_iload X642 hx (hb hby at_307) rfl (pc' := 309) rfl ?_
    refine k_iconst X642 hx (hb hby at_309) (pc' := 310) rfl (z := (0 : Int32)) rfl ?_
    refine k_iastore X642 hx hZ rfl F650 ⟨by decide, by decide⟩ (i := 3) rfl (Nat.le_of_ble_eq_true rfl) (hb hby at_310) (pc' := 311) rfl (fun T903 h903 X903 e903 W903 V903 => ?_)
    have Vw903 : Arv Z h903 b568 k568 .int (4 : Int32) [(.int v574), (.int v582), (.int v590), (.int (0 : Int32))] (.int (0 : Int32)) := V903
    have N903 := Fr.snoc X903 N642' g_b568
    have Z903 : n0 ≤ h903.size := Nat.le_trans Z652 (Nat.le_of_eq W903.size.symm)
    refine k_aload X903 hx (hb hby at_311) rfl rfl (pc' := 313) rfl ?_
    refine k_iload X903 hx (hb hby at_313) rfl (pc' := 315) rfl ?_
    refine k_iconst X903 hx (hb hby at_315) (pc' := 316) rfl (z := (1 : Int32)) rfl ?_
    refine k_isubL X903 hx (hb hby at_316) (pc' := 317) rfl (z := (2 : Int32)) (by decide) ?_
    refine k_aload X903 hx (hb hby at_317) rfl rfl (pc' := 319) rfl ?_
    refine k_iload X903 hx (hb hby at_319) rfl (pc' := 321) rfl ?_
    refine k_iconst X903 hx (hb hby at_321) (pc' := 322) rfl (z := (1 : Int32)) rfl ?_
    refine k_isubL X903 hx (hb hby at_322) (pc' := 323) rfl (z := (2 : Int32)) (by decide) ?_
    refine k_iaload X903 hx hZ e903 Vw903 ⟨by decide, by decide⟩ (v := (.int v590)) rfl (hb hby at_323) (pc' := 324) rfl ?_
    refine k_iconst X903 hx (hb hby at_324) (pc' := 325) rfl (z := (1 : Int32)) rfl ?_
    refine k_iadd X903 hx (hb hby at_325) (pc' := 326) rfl (fun v904 hv904 => ?_)
    refine k_iastore X903 hx hZ e903 Vw903 ⟨by decide, by decide⟩ (i := 2) rfl (Nat.le_of_ble_eq_true rfl) (hb hby at_326) (pc' := 327) rfl (fun T905 h905 X905 e905 W905 V905 => ?_)
    have Vw905 : Arv Z h905 b568 k568 .int (4 : Int32) [(.int v574), (.int v582), (.int v904), (.int (0 : Int32))] (.int (0 : Int32)) := V905
    have N905 := Fr.snoc X905 N903 g_b568
    have Z905 : n0 ≤ h905.size := Nat.le_trans Z903 (Nat.le_of_eq W905.size.symm)
    refine k_aload X905 hx (hb hby at_327) rfl rfl (pc' := 329) rfl ?_
    refine k_iload X905 hx (hb hby at_329) rfl (pc' := 331) rfl ?_
    refine k_aload X905 hx (hb hby at_331) rfl rfl (pc' := 333) rfl ?_
    refine k_iload X905 hx (hb hby at_333) rfl (pc' := 335) rfl ?_
    refine k_iaload X905 hx hZ e905 Vw905 ⟨by decide, by decide⟩ (v := (.int (0 : Int32))) rfl (hb hby at_335) (pc' := 336) rfl ?_
    refine k_iload X905 hx (hb hby at_336) rfl (pc' := 338) rfl ?_
    refine k_iaddL X905 hx (hb hby at_338) (pc' := 339) rfl (z := v598) (Int32.zero_add _) ?_
    refine k_iconst X905 hx (hb hby at_339) (pc' := 340) rfl (z := (1 : Int32)) rfl ?_
    refine k_isub X905 hx (hb hby at_340) (pc' := 341) rfl (fun v906 hv906 => ?_)
    refine k_iastore X905 hx hZ e905 Vw905 ⟨by decide, by decide⟩ (i := 3) rfl (Nat.le_of_ble_eq_true rfl) (hb hby at_341) (pc' := 342) rfl (fun T907 h907 X907 e907 W907 V907 => ?_)
    have Vw907 : Arv Z h907 b568 k568 .int (4 : Int32) [(.int v574), (.int v582), (.int v904), (.int v906)] (.int (0 : Int32)) := V907
    have N907 := Fr.snoc X907 N905 g_b568
    have Z907 : n0 ≤ h907.size := Nat.le_trans Z905 (Nat.le_of_eq W907.size.symm)
    refine k_aload X907 hx (hb hby at_342) rfl rfl (pc' := 344) rfl ?_
    refine k_iconst X907 hx (hb hby at_344) (pc' := 345) rfl (z := (0 : Int32)) rfl ?_
    refine k_iaload X907 hx hZ e907 Vw907 ⟨by decide, by decide⟩ (v := (.int v574)) rfl (hb hby at_345) (pc' := 346) rfl ?_
    refine k_istore X907 hx (hb hby at_346) (Ls' := #[.val (.int i0), .val (.int i1), .val (.int i2), .val (.int i3), .val (.int i4), .val (.int (3 : Int32)), .val (.ref b568), .val (.int v574), .val (.int v602), .val (.int v604), .val (.int v606), .val (.ref b614), .val (.int (1 : Int32)), .val (.int (3 : Int32)), .val (.int v598), .val (.int v574), .unset, .unset]) rfl (pc' := 348) rfl ?_
    refine k_iload X907 hx (hb hby at_348) rfl (pc' := 350) rfl ?_
    refine k_iconst X907 hx (hb hby at_350) (pc' := 351) rfl (z := (1 : Int32)) rfl ?_
    refine k_iaddL X907 hx (hb hby at_351) (pc' := 352) rfl (z := v601) hv601.symm ?_
    refine k_aload X907 hx (hb hby at_352) rfl rfl (pc' := 354) rfl ?_
    refine k_iconst X907 hx (hb hby at_354) (pc' := 355) rfl (z := (1 : Int32)) rfl ?_
    refine k_iaload X907 hx hZ e907 Vw907 ⟨by decide, by decide⟩ (v := (.int v582)) rfl (hb hby at_355) (pc' := 356) rfl ?_
    refine k_iaddL X907 hx (hb hby at_356) (pc' := 357) rfl (z := v602) hv602.symm ?_
    refine k_istore X907 hx (hb hby at_357) (Ls' := #[.val (.int i0), .val (.int i1), .val (.int i2), .val (.int i3), .val (.int i4), .val (.int (3 : Int32)), .val (.ref b568), .val (.int v574), .val (.int v602), .val (.int v604), .val (.int v606), .val (.ref b614), .val (.int (1 : Int32)), .val (.int (3 : Int32)), .val (.int v598), .val (.int v574), .val (.int v602), .unset]) rfl (pc' := 359) rfl ?_
    refine k_iload X907 hx (hb hby at_359) rfl (pc' := 361) rfl ?_
    refine k_iconst X907 hx (hb hby at_361) (pc' := 362) rfl (z := (1 : Int32)) rfl ?_
    refine k_iaddL X907 hx (hb hby at_362) (pc' := 363) rfl (z := v603) hv603.symm ?_
    refine k_aload X907 hx (hb hby at_363) rfl rfl (pc' := 365) rfl ?_
    refine k_iconst X907 hx (hb hby at_365) (pc' := 366) rfl (z := (2 : Int32)) rfl ?_
    refine k_iaload X907 hx hZ e907 Vw907 ⟨by decide, by decide⟩ (v := (.int v904)) rfl (hb hby at_366) (pc' := 367) rfl ?_
    refine k_iadd X907 hx (hb hby at_367) (pc' := 368) rfl (fun v908 hv908 => ?_)
    refine k_istore X907 hx (hb hby at_368) (Ls' := #[.val (.int i0), .val (.int i1), .val (.int i2), .val (.int i3), .val (.int i4), .val (.int (3 : Int32)), .val (.ref b568), .val (.int v574), .val (.int v602), .val (.int v604), .val (.int v606), .val (.ref b614), .val (.int (1 : Int32)), .val (.int (3 : Int32)), .val (.int v598), .val (.int v574), .val (.int v602), .val (.int v908)]) rfl (pc' := 370) rfl ?_
    refine k_iload X907 hx (hb hby at_370) rfl (pc' := 372) rfl ?_
    refine k_if_eq X907 hx (hb hby at_372) (pn := 375) rfl (py := 395) (by decide) (fun hc => absurd hc (by decide)) (fun _ => ?_)
    refine k_aload X907 hx (hb hby at_375) rfl rfl (pc' := 377) rfl ?_
    refine k_iload X907 hx (hb hby at_377) rfl (pc' := 379) rfl ?_
    refine k_iload X907 hx (hb hby at_379) rfl (pc' := 381) rfl ?_
    refine k_iload X907 hx (hb hby at_381) rfl (pc' := 383) rfl ?_
    refine k_iload X907 hx (hb hby at_383) rfl (pc' := 385) rfl ?_
    have F909 := (((F651.other W903 (Ne.symm (Nat.ne_of_lt lt618))).other W905 (Ne.symm (Nat.ne_of_lt lt618))).other W907 (Ne.symm (Nat.ne_of_lt lt618)))
    refine k_callS X907 hx hZ hown (hw _ (List.mem_of_getElem? (i := 10) rfl)) (hw _ (List.mem_of_getElem? (i := 11) rfl)) (hw _ (List.mem_of_getElem? (i := 4) rfl)) (hw _ (List.mem_of_getElem? (i := 12) rfl)) (by decide) (rm3_910 l Z a0 hw [] b614 v574 v602 v908 k615 v605 h907 n0 Z907 F909) (by decide) (by decide) e907 (by rw [hml]; rfl) (argsL := [(.ref b614), (.int (3 : Int32)), (.int v574), (.int v602), (.int v908)]) (rest := []) (lenOf pd_2 rfl) rfl (W := 0) (Nat.le_refl _) rfl (hb hby at_385) (by decide) (by decide) (pc' := 388) rfl (fun T912 L912 r912 X912 q912 => ?_)
    obtain ⟨N912, e912, q912⟩ := q912
    have N912' := Fr.app N907 N912
    rcases q912 with ⟨hc913, rfl⟩ | ⟨hc914, rfl⟩
    ·
     show KEnds p e below s _ _ _ T912 (mkF m 388 #[.val (.int i0), .val (.int i1), .val (.int i2), .val (.int i3), .val (.int i4), .val (.int (3 : Int32)), .val (.ref b568), .val (.int v574), .val (.int v602), .val (.int v604), .val (.int v606), .val (.ref b614), .val (.int (1 : Int32)), .val (.int (3 : Int32)), .val (.int v598), .val (.int v574), .val (.int v602), .val (.int v908)] [(.int (0 : Int32))])
     refine k_if_eq X912 hx (hb hby at_388) (pn := 391) rfl (py := 395) (by decide) (fun _ => ?_) (fun hc => absurd (by decide) hc)
     refine k_iconst X912 hx (hb hby at_395) (pc' := 396) rfl (z := (0 : Int32)) rfl ?_
     exfalso
     have := rng32 v574
     have : (0 : Int32).toInt = 0 := (by decide)
     have q916 := hP575.1; rw [Int32.lt_iff_toInt_lt] at q916
     have : (536870911 : Int32).toInt = 536870911 := (by decide)
     have q917 := hP575.2; rw [Int32.lt_iff_toInt_lt] at q917
     have := rng32 v582
     have q919 := hP583.1; rw [Int32.lt_iff_toInt_lt] at q919
     have q920 := hP583.2; rw [Int32.lt_iff_toInt_lt] at q920
     have := rng32 v590
     have q922 := hP591.1; rw [Int32.lt_iff_toInt_lt] at q922
     have q923 := hP591.2; rw [Int32.lt_iff_toInt_lt] at q923
     have := rng32 v598
     have q925 := hP599.1; rw [Int32.lt_iff_toInt_lt] at q925
     have q926 := hP599.2; rw [Int32.lt_iff_toInt_lt] at q926
     have := rng32 v604
     have := rng32 v603
     have := rng32 v602
     have := rng32 v601
     have : (1 : Int32).toInt = 1 := (by decide)
     have q927 : (v601.toInt - (v574.toInt + (1 : Int32).toInt)) % 4294967296 = 0 := (by rw [hv601]; exact c_iadd _ _)
     have q928 : (v602.toInt - (v601.toInt + v582.toInt)) % 4294967296 = 0 := (by rw [hv602]; exact c_iadd _ _)
     have q929 : (v603.toInt - (v602.toInt + (1 : Int32).toInt)) % 4294967296 = 0 := (by rw [hv603]; exact c_iadd _ _)
     have q930 : (v604.toInt - (v603.toInt + v590.toInt)) % 4294967296 = 0 := (by rw [hv604]; exact c_iadd _ _)
     have := rng32 v644
     have := rng32 v643
     have := rng32 v606
     have := rng32 v605
     have q931 : (v605.toInt - (v604.toInt + (1 : Int32).toInt)) % 4294967296 = 0 := (by rw [hv605]; exact c_iadd _ _)
     have q932 : (v606.toInt - (v605.toInt + v598.toInt)) % 4294967296 = 0 := (by rw [hv606]; exact c_iadd _ _)
     have : (3 : Int32).toInt = 3 := (by decide)
     have q933 : (v643.toInt - (v606.toInt - (3 : Int32).toInt)) % 4294967296 = 0 := (by rw [h646]; exact c_isub _ _)
     have : (2 : Int32).toInt = 2 := (by decide)
     have q934 : (v644.toInt - (v643.toInt + (2 : Int32).toInt)) % 4294967296 = 0 := (by rw [h647]; exact c_iadd _ _)
     have q935 : ¬ v604.toInt = v644.toInt := fun q => hc649 (Int32.toInt_inj.mp q)
     have q936 : ¬ v598.toInt = (0 : Int32).toInt := fun q => hc699 (Int32.toInt_inj.mp q)
     have := rng32 v908
     have := rng32 v904
     have q937 : (v904.toInt - (v590.toInt + (1 : Int32).toInt)) % 4294967296 = 0 := (by rw [hv904]; exact c_iadd _ _)
     have q938 : (v908.toInt - (v603.toInt + v904.toInt)) % 4294967296 = 0 := (by rw [hv908]; exact c_iadd _ _)
     have q939 : ¬ v605.toInt = v908.toInt := fun q => hc913 (Int32.toInt_inj.mp q)
     omega
    ·
     show KEnds p e below s _ _ _ T912 (mkF m 388 #[.val (.int i0), .val (.int i1), .val (.int i2), .val (.int i3), .val (.int i4), .val (.int (3 : Int32)), .val (.ref b568), .val (.int v574), .val (.int v602), .val (.int v604), .val (.int v606), .val (.ref b614), .val (.int (1 : Int32)), .val (.int (3 : Int32)), .val (.int v598), .val (.int v574), .val (.int v602), .val (.int v908)] [(.int (1 : Int32))])
     refine k_if_eq X912 hx (hb hby at_388) (pn := 391) rfl (py := 395) (by decide) (fun hc => absurd hc (by decide)) (fun _ => ?_)
     refine k_iconst X912 hx (hb hby at_391) (pc' := 392) rfl (z := (1 : Int32)) rfl ?_
     refine k_goto X912 hx (hb hby at_392) (pc' := 396) (by decide) ?_
     exact k_retN X912 hx (t := .boolean) Bd.returns (by simp) (hb hby at_396) hlk (by decide) (by decide) (z' := (1 : Int32)) rfl ⟨rfl, N912'⟩
  ·
   have hh940 : v603 = v656 := hv603.trans h661.symm
   subst hh940
   show KEnds p e below s _ _ _ T642 (mkF m 204 #[.val (.int i0), .val (.int i1), .val (.int i2), .val (.int i3), .val (.int i4), .val (.int (3 : Int32)), .val (.ref b568), .val (.int v574), .val (.int v602), .val (.int v604), .val (.int v606), .val (.ref b614), .unset, .unset, .unset, .unset, .unset, .unset] [(.int (1 : Int32))])
   refine k_istore X642 hx (hb hby at_204) (Ls' := #[.val (.int i0), .val (.int i1), .val (.int i2), .val (.int i3), .val (.int i4), .val (.int (3 : Int32)), .val (.ref b568), .val (.int v574), .val (.int v602), .val (.int v604), .val (.int v606), .val (.ref b614), .val (.int (1 : Int32)), .unset, .unset, .unset, .unset, .unset]) rfl (pc' := 206) rfl ?_
   refine k_iload X642 hx (hb hby at_206) rfl (pc' := 208) rfl ?_
   refine k_iconst X642 hx (hb hby at_208) (pc' := 209) rfl (z := (3 : Int32)) rfl ?_
   refine k_icmp_lt X642 hx (hb hby at_209) (pn := 212) rfl (py := 225) (by decide) (fun hc => absurd hc (by decide)) (fun _ => ?_)
   refine k_aload X642 hx (hb hby at_212) rfl rfl (pc' := 214) rfl ?_
   refine k_iconst X642 hx (hb hby at_214) (pc' := 215) rfl (z := (3 : Int32)) rfl ?_
   refine k_iaload X642 hx hZ rfl F665 ⟨by decide, by decide⟩ (v := (.int v598)) rfl (hb hby at_215) (pc' := 216) rfl ?_
   refine k_if_eq X642 hx (hb hby at_216) (pn := 219) rfl (py := 225) (by decide) (fun hc941 => ?_) (fun hc941 => ?_)
   ·
    refine k_iload X642 hx (hb hby at_225) rfl (pc' := 227) rfl ?_
    refine k_iconst X642 hx (hb hby at_227) (pc' := 228) rfl (z := (2 : Int32)) rfl ?_
    refine k_icmp_lt X642 hx (hb hby at_228) (pn := 231) rfl (py := 244) (by decide) (fun hc => absurd hc (by decide)) (fun _ => ?_)
    refine k_aload X642 hx (hb hby at_231) rfl rfl (pc' := 233) rfl ?_
    refine k_iconst X642 hx (hb hby at_233) (pc' := 234) rfl (z := (2 : Int32)) rfl ?_
    refine k_iaload X642 hx hZ rfl F665 ⟨by decide, by decide⟩ (v := (.int v590)) rfl (hb hby at_234) (pc' := 235) rfl ?_
    refine k_if_eq X642 hx (hb hby at_235) (pn := 238) rfl (py := 244) (by decide) (fun hc942 => ?_) (fun hc942 => ?_)
    ·
     refine k_iload X642 hx (hb hby at_244) rfl (pc' := 246) rfl ?_
     refine k_iconst X642 hx (hb hby at_246) (pc' := 247) rfl (z := (1 : Int32)) rfl ?_
     refine k_icmp_lt X642 hx (hb hby at_247) (pn := 250) rfl (py := 263) (by decide) (fun hc => absurd hc (by decide)) (fun _ => ?_)
     refine k_aload X642 hx (hb hby at_250) rfl rfl (pc' := 252) rfl ?_
     refine k_iconst X642 hx (hb hby at_252) (pc' := 253) rfl (z := (1 : Int32)) rfl ?_
     refine k_iaload X642 hx hZ rfl F665 ⟨by decide, by decide⟩ (v := (.int v582)) rfl (hb hby at_253) (pc' := 254) rfl ?_
     refine k_if_eq X642 hx (hb hby at_254) (pn := 257) rfl (py := 263) (by decide) (fun hc943 => ?_) (fun hc943 => ?_)
     ·
      refine k_iconst X642 hx (hb hby at_263) (pc' := 264) rfl (z := (0 : Int32)) rfl ?_
      refine k_istore X642 hx (hb hby at_264) (Ls' := #[.val (.int i0), .val (.int i1), .val (.int i2), .val (.int i3), .val (.int i4), .val (.int (3 : Int32)), .val (.ref b568), .val (.int v574), .val (.int v602), .val (.int v604), .val (.int v606), .val (.ref b614), .val (.int (1 : Int32)), .val (.int (0 : Int32)), .unset, .unset, .unset, .unset]) rfl (pc' := 266) rfl ?_
      refine k_iload X642 hx (hb hby at_266) rfl (pc' := 268) rfl ?_
      refine k_if_ne X642 hx (hb hby at_268) (pn := 271) rfl (py := 298) (by decide) (fun hc => absurd (by decide) hc) (fun _ => ?_)
      refine k_iload X642 hx (hb hby at_271) rfl (pc' := 273) rfl ?_
      refine k_if_ne X642 hx (hb hby at_273) (pn := 276) rfl (py := 296) (by decide) (fun _ => ?_) (fun hc => absurd hc (by decide))
      refine k_iconst X642 hx (hb hby at_296) (pc' := 297) rfl (z := (0 : Int32)) rfl ?_
      exfalso
      have := rng32 v574
      have : (0 : Int32).toInt = 0 := (by decide)
      have q945 := hP575.1; rw [Int32.lt_iff_toInt_lt] at q945
      have : (536870911 : Int32).toInt = 536870911 := (by decide)
      have q946 := hP575.2; rw [Int32.lt_iff_toInt_lt] at q946
      have := rng32 v582
      have q948 := hP583.1; rw [Int32.lt_iff_toInt_lt] at q948
      have q949 := hP583.2; rw [Int32.lt_iff_toInt_lt] at q949
      have := rng32 v590
      have q951 := hP591.1; rw [Int32.lt_iff_toInt_lt] at q951
      have q952 := hP591.2; rw [Int32.lt_iff_toInt_lt] at q952
      have := rng32 v598
      have q954 := hP599.1; rw [Int32.lt_iff_toInt_lt] at q954
      have q955 := hP599.2; rw [Int32.lt_iff_toInt_lt] at q955
      have := rng32 v604
      have := rng32 v603
      have := rng32 v602
      have := rng32 v601
      have : (1 : Int32).toInt = 1 := (by decide)
      have q956 : (v601.toInt - (v574.toInt + (1 : Int32).toInt)) % 4294967296 = 0 := (by rw [hv601]; exact c_iadd _ _)
      have q957 : (v602.toInt - (v601.toInt + v582.toInt)) % 4294967296 = 0 := (by rw [hv602]; exact c_iadd _ _)
      have q958 : (v603.toInt - (v602.toInt + (1 : Int32).toInt)) % 4294967296 = 0 := (by rw [hv603]; exact c_iadd _ _)
      have q959 : (v604.toInt - (v603.toInt + v590.toInt)) % 4294967296 = 0 := (by rw [hv604]; exact c_iadd _ _)
      have := rng32 v654
      have := rng32 v653
      have := rng32 v606
      have := rng32 v605
      have q960 : (v605.toInt - (v604.toInt + (1 : Int32).toInt)) % 4294967296 = 0 := (by rw [hv605]; exact c_iadd _ _)
      have q961 : (v606.toInt - (v605.toInt + v598.toInt)) % 4294967296 = 0 := (by rw [hv606]; exact c_iadd _ _)
      have : (3 : Int32).toInt = 3 := (by decide)
      have q962 : (v653.toInt - (v606.toInt - (3 : Int32).toInt)) % 4294967296 = 0 := (by rw [h658]; exact c_isub _ _)
      have : (2 : Int32).toInt = 2 := (by decide)
      have q963 : (v654.toInt - (v653.toInt + (2 : Int32).toInt)) % 4294967296 = 0 := (by rw [h659]; exact c_iadd _ _)
      have q964 := congrArg Int32.toInt hc663
      have := rng32 v655
      have q965 : (v655.toInt - (v653.toInt + (1 : Int32).toInt)) % 4294967296 = 0 := (by rw [h660]; exact c_iadd _ _)
      have q966 : ¬ v602.toInt = v655.toInt := fun q => hc664 (Int32.toInt_inj.mp q)
      have q967 := congrArg Int32.toInt hc941
      have q968 := congrArg Int32.toInt hc942
      have q969 := congrArg Int32.toInt hc943
      omega
     ·
      refine k_iconst X642 hx (hb hby at_257) (pc' := 258) rfl (z := (1 : Int32)) rfl ?_
      refine k_istore X642 hx (hb hby at_258) (Ls' := #[.val (.int i0), .val (.int i1), .val (.int i2), .val (.int i3), .val (.int i4), .val (.int (3 : Int32)), .val (.ref b568), .val (.int v574), .val (.int v602), .val (.int v604), .val (.int v606), .val (.ref b614), .val (.int (1 : Int32)), .val (.int (1 : Int32)), .unset, .unset, .unset, .unset]) rfl (pc' := 260) rfl ?_
      refine k_goto X642 hx (hb hby at_260) (pc' := 266) (by decide) ?_
      refine k_iload X642 hx (hb hby at_266) rfl (pc' := 268) rfl ?_
      refine k_if_ne X642 hx (hb hby at_268) (pn := 271) rfl (py := 298) (by decide) (fun _ => ?_) (fun hc => absurd hc (by decide))
      refine k_aload X642 hx (hb hby at_298) rfl rfl (pc' := 300) rfl ?_
      refine k_iload X642 hx (hb hby at_300) rfl (pc' := 302) rfl ?_
      refine k_iaload X642 hx hZ rfl F665 ⟨by decide, by decide⟩ (v := (.int v582)) rfl (hb hby at_302) (pc' := 303) rfl ?_
      refine k_istore X642 hx (hb hby at_303) (Ls' := #[.val (.int i0), .val (.int i1), .val (.int i2), .val (.int i3), .val (.int i4), .val (.int (3 : Int32)), .val (.ref b568), .val (.int v574), .val (.int v602), .val (.int v604), .val (.int v606), .val (.ref b614), .val (.int (1 : Int32)), .val (.int (1 : Int32)), .val (.int v582), .unset, .unset, .unset]) rfl (pc' := 305) rfl ?_
      refine k_aload X642 hx (hb hby at_305) rfl rfl (pc' := 307) rfl ?_
      refine k_iload X642 hx (hb hby at_307) rfl (pc' := 309) rfl ?_
      refine k_iconst X642 hx (hb hby at_309) (pc' := 310) rfl (z := (0 : Int32)) rfl ?_
      refine k_iastore X642 hx hZ rfl F665 ⟨by decide, by decide⟩ (i := 1) rfl (Nat.le_of_ble_eq_true rfl) (hb hby at_310) (pc' := 311) rfl (fun T970 h970 X970 e970 W970 V970 => ?_)
      have Vw970 : Arv Z h970 b568 k568 .int (4 : Int32) [(.int v574), (.int (0 : Int32)), (.int v590), (.int v598)] (.int (0 : Int32)) := V970
      have N970 := Fr.snoc X970 N642' g_b568
      have Z970 : n0 ≤ h970.size := Nat.le_trans Z667 (Nat.le_of_eq W970.size.symm)
      refine k_aload X970 hx (hb hby at_311) rfl rfl (pc' := 313) rfl ?_
      refine k_iload X970 hx (hb hby at_313) rfl (pc' := 315) rfl ?_
      refine k_iconst X970 hx (hb hby at_315) (pc' := 316) rfl (z := (1 : Int32)) rfl ?_
      refine k_isubL X970 hx (hb hby at_316) (pc' := 317) rfl (z := (0 : Int32)) (by decide) ?_
      refine k_aload X970 hx (hb hby at_317) rfl rfl (pc' := 319) rfl ?_
      refine k_iload X970 hx (hb hby at_319) rfl (pc' := 321) rfl ?_
      refine k_iconst X970 hx (hb hby at_321) (pc' := 322) rfl (z := (1 : Int32)) rfl ?_
      refine k_isubL X970 hx (hb hby at_322) (pc' := 323) rfl (z := (0 : Int32)) (by decide) ?_
      refine k_iaload X970 hx hZ e970 Vw970 ⟨by decide, by decide⟩ (v := (.int v574)) rfl (hb hby at_323) (pc' := 324) rfl ?_
      refine k_iconst X970 hx (hb hby at_324) (pc' := 325) rfl (z := (1 : Int32)) rfl ?_
      refine k_iaddL X970 hx (hb hby at_325) (pc' := 326) rfl (z := v601) hv601.symm ?_
      refine k_iastore X970 hx hZ e970 Vw970 ⟨by decide, by decide⟩ (i := 0) rfl (Nat.le_of_ble_eq_true rfl) (hb hby at_326) (pc' := 327) rfl (fun T971 h971 X971 e971 W971 V971 => ?_)
      have Vw971 : Arv Z h971 b568 k568 .int (4 : Int32) [(.int v601), (.int (0 : Int32)), (.int v590), (.int v598)] (.int (0 : Int32)) := V971
      have N971 := Fr.snoc X971 N970 g_b568
      have Z971 : n0 ≤ h971.size := Nat.le_trans Z970 (Nat.le_of_eq W971.size.symm)
      refine k_aload X971 hx (hb hby at_327) rfl rfl (pc' := 329) rfl ?_
      refine k_iload X971 hx (hb hby at_329) rfl (pc' := 331) rfl ?_
      refine k_aload X971 hx (hb hby at_331) rfl rfl (pc' := 333) rfl ?_
      refine k_iload X971 hx (hb hby at_333) rfl (pc' := 335) rfl ?_
      refine k_iaload X971 hx hZ e971 Vw971 ⟨by decide, by decide⟩ (v := (.int v598)) rfl (hb hby at_335) (pc' := 336) rfl ?_
      refine k_iload X971 hx (hb hby at_336) rfl (pc' := 338) rfl ?_
      refine k_iadd X971 hx (hb hby at_338) (pc' := 339) rfl (fun v972 hv972 => ?_)
      refine k_iconst X971 hx (hb hby at_339) (pc' := 340) rfl (z := (1 : Int32)) rfl ?_
      refine k_isub X971 hx (hb hby at_340) (pc' := 341) rfl (fun v973 hv973 => ?_)
      refine k_iastore X971 hx hZ e971 Vw971 ⟨by decide, by decide⟩ (i := 3) rfl (Nat.le_of_ble_eq_true rfl) (hb hby at_341) (pc' := 342) rfl (fun T974 h974 X974 e974 W974 V974 => ?_)
      have Vw974 : Arv Z h974 b568 k568 .int (4 : Int32) [(.int v601), (.int (0 : Int32)), (.int v590), (.int v973)] (.int (0 : Int32)) := V974
      have N974 := Fr.snoc X974 N971 g_b568
      have Z974 : n0 ≤ h974.size := Nat.le_trans Z971 (Nat.le_of_eq W974.size.symm)
      refine k_aload X974 hx (hb hby at_342) rfl rfl (pc' := 344) rfl ?_
      refine k_iconst X974 hx (hb hby at_344) (pc' := 345) rfl (z := (0 : Int32)) rfl ?_
      refine k_iaload X974 hx hZ e974 Vw974 ⟨by decide, by decide⟩ (v := (.int v601)) rfl (hb hby at_345) (pc' := 346) rfl ?_
      refine k_istore X974 hx (hb hby at_346) (Ls' := #[.val (.int i0), .val (.int i1), .val (.int i2), .val (.int i3), .val (.int i4), .val (.int (3 : Int32)), .val (.ref b568), .val (.int v574), .val (.int v602), .val (.int v604), .val (.int v606), .val (.ref b614), .val (.int (1 : Int32)), .val (.int (1 : Int32)), .val (.int v582), .val (.int v601), .unset, .unset]) rfl (pc' := 348) rfl ?_
      refine k_iload X974 hx (hb hby at_348) rfl (pc' := 350) rfl ?_
      refine k_iconst X974 hx (hb hby at_350) (pc' := 351) rfl (z := (1 : Int32)) rfl ?_
      refine k_iadd X974 hx (hb hby at_351) (pc' := 352) rfl (fun v975 hv975 => ?_)
      refine k_aload X974 hx (hb hby at_352) rfl rfl (pc' := 354) rfl ?_
      refine k_iconst X974 hx (hb hby at_354) (pc' := 355) rfl (z := (1 : Int32)) rfl ?_
      refine k_iaload X974 hx hZ e974 Vw974 ⟨by decide, by decide⟩ (v := (.int (0 : Int32))) rfl (hb hby at_355) (pc' := 356) rfl ?_
      refine k_iaddL X974 hx (hb hby at_356) (pc' := 357) rfl (z := v975) (Int32.add_zero _) ?_
      refine k_istore X974 hx (hb hby at_357) (Ls' := #[.val (.int i0), .val (.int i1), .val (.int i2), .val (.int i3), .val (.int i4), .val (.int (3 : Int32)), .val (.ref b568), .val (.int v574), .val (.int v602), .val (.int v604), .val (.int v606), .val (.ref b614), .val (.int (1 : Int32)), .val (.int (1 : Int32)), .val (.int v582), .val (.int v601), .val (.int v975), .unset]) rfl (pc' := 359) rfl ?_
      refine k_iload X974 hx (hb hby at_359) rfl (pc' := 361) rfl ?_
      refine k_iconst X974 hx (hb hby at_361) (pc' := 362) rfl (z := (1 : Int32)) rfl ?_
      refine k_iadd X974 hx (hb hby at_362) (pc' := 363) rfl (fun v976 hv976 => ?_)
      refine k_aload X974 hx (hb hby at_363) rfl rfl (pc' := 365) rfl ?_
      refine k_iconst X974 hx (hb hby at_365) (pc' := 366) rfl (z := (2 : Int32)) rfl ?_
      refine k_iaload X974 hx hZ e974 Vw974 ⟨by decide, by decide⟩ (v := (.int v590)) rfl (hb hby at_366) (pc' := 367) rfl ?_
      refine k_iadd X974 hx (hb hby at_367) (pc' := 368) rfl (fun v977 hv977 => ?_)
      refine k_istore X974 hx (hb hby at_368) (Ls' := #[.val (.int i0), .val (.int i1), .val (.int i2), .val (.int i3), .val (.int i4), .val (.int (3 : Int32)), .val (.ref b568), .val (.int v574), .val (.int v602), .val (.int v604), .val (.int v606), .val (.ref b614), .val (.int (1 : Int32)), .val (.int (1 : Int32)), .val (.int v582), .val (.int v601), .val (.int v975), .val (.int v977)]) rfl (pc' := 370) rfl ?_
      refine k_iload X974 hx (hb hby at_370) rfl (pc' := 372) rfl ?_
      refine k_if_eq X974 hx (hb hby at_372) (pn := 375) rfl (py := 395) (by decide) (fun hc => absurd hc (by decide)) (fun _ => ?_)
      refine k_aload X974 hx (hb hby at_375) rfl rfl (pc' := 377) rfl ?_
      refine k_iload X974 hx (hb hby at_377) rfl (pc' := 379) rfl ?_
      refine k_iload X974 hx (hb hby at_379) rfl (pc' := 381) rfl ?_
      refine k_iload X974 hx (hb hby at_381) rfl (pc' := 383) rfl ?_
      refine k_iload X974 hx (hb hby at_383) rfl (pc' := 385) rfl ?_
      have F978 := (((F666.other W970 (Ne.symm (Nat.ne_of_lt lt618))).other W971 (Ne.symm (Nat.ne_of_lt lt618))).other W974 (Ne.symm (Nat.ne_of_lt lt618)))
      refine k_callS X974 hx hZ hown (hw _ (List.mem_of_getElem? (i := 10) rfl)) (hw _ (List.mem_of_getElem? (i := 11) rfl)) (hw _ (List.mem_of_getElem? (i := 4) rfl)) (hw _ (List.mem_of_getElem? (i := 12) rfl)) (by decide) (rm3_735 l Z a0 hw [] b614 v601 v975 v977 k615 v574 v603 v657 h974 n0 Z974 F978) (by decide) (by decide) e974 (by rw [hml]; rfl) (argsL := [(.ref b614), (.int (3 : Int32)), (.int v601), (.int v975), (.int v977)]) (rest := []) (lenOf pd_2 rfl) rfl (W := 0) (Nat.le_refl _) rfl (hb hby at_385) (by decide) (by decide) (pc' := 388) rfl (fun T979 L979 r979 X979 q979 => ?_)
      obtain ⟨N979, e979, q979⟩ := q979
      have N979' := Fr.app N974 N979
      rcases q979 with ⟨hc980, rfl⟩ | ⟨hc981, hc982, rfl⟩ | ⟨hc983, hc984, hc985, rfl⟩ | ⟨hc986, hc987, hc988, rfl⟩
      ·
       show KEnds p e below s _ _ _ T979 (mkF m 388 #[.val (.int i0), .val (.int i1), .val (.int i2), .val (.int i3), .val (.int i4), .val (.int (3 : Int32)), .val (.ref b568), .val (.int v574), .val (.int v602), .val (.int v604), .val (.int v606), .val (.ref b614), .val (.int (1 : Int32)), .val (.int (1 : Int32)), .val (.int v582), .val (.int v601), .val (.int v975), .val (.int v977)] [(.int (0 : Int32))])
       refine k_if_eq X979 hx (hb hby at_388) (pn := 391) rfl (py := 395) (by decide) (fun _ => ?_) (fun hc => absurd (by decide) hc)
       refine k_iconst X979 hx (hb hby at_395) (pc' := 396) rfl (z := (0 : Int32)) rfl ?_
       exfalso
       have := rng32 v574
       have : (0 : Int32).toInt = 0 := (by decide)
       have q990 := hP575.1; rw [Int32.lt_iff_toInt_lt] at q990
       have : (536870911 : Int32).toInt = 536870911 := (by decide)
       have q991 := hP575.2; rw [Int32.lt_iff_toInt_lt] at q991
       have := rng32 v582
       have q993 := hP583.1; rw [Int32.lt_iff_toInt_lt] at q993
       have q994 := hP583.2; rw [Int32.lt_iff_toInt_lt] at q994
       have := rng32 v590
       have q996 := hP591.1; rw [Int32.lt_iff_toInt_lt] at q996
       have q997 := hP591.2; rw [Int32.lt_iff_toInt_lt] at q997
       have := rng32 v598
       have q999 := hP599.1; rw [Int32.lt_iff_toInt_lt] at q999
       have q1000 := hP599.2; rw [Int32.lt_iff_toInt_lt] at q1000
       have := rng32 v604
       have := rng32 v603
       have := rng32 v602
       have := rng32 v601
       have : (1 : Int32).toInt = 1 := (by decide)
       have q1001 : (v601.toInt - (v574.toInt + (1 : Int32).toInt)) % 4294967296 = 0 := (by rw [hv601]; exact c_iadd _ _)
       have q1002 : (v602.toInt - (v601.toInt + v582.toInt)) % 4294967296 = 0 := (by rw [hv602]; exact c_iadd _ _)
       have q1003 : (v603.toInt - (v602.toInt + (1 : Int32).toInt)) % 4294967296 = 0 := (by rw [hv603]; exact c_iadd _ _)
       have q1004 : (v604.toInt - (v603.toInt + v590.toInt)) % 4294967296 = 0 := (by rw [hv604]; exact c_iadd _ _)
       have := rng32 v654
       have := rng32 v653
       have := rng32 v606
       have := rng32 v605
       have q1005 : (v605.toInt - (v604.toInt + (1 : Int32).toInt)) % 4294967296 = 0 := (by rw [hv605]; exact c_iadd _ _)
       have q1006 : (v606.toInt - (v605.toInt + v598.toInt)) % 4294967296 = 0 := (by rw [hv606]; exact c_iadd _ _)
       have : (3 : Int32).toInt = 3 := (by decide)
       have q1007 : (v653.toInt - (v606.toInt - (3 : Int32).toInt)) % 4294967296 = 0 := (by rw [h658]; exact c_isub _ _)
       have : (2 : Int32).toInt = 2 := (by decide)
       have q1008 : (v654.toInt - (v653.toInt + (2 : Int32).toInt)) % 4294967296 = 0 := (by rw [h659]; exact c_iadd _ _)
       have q1009 := congrArg Int32.toInt hc663
       have := rng32 v655
       have q1010 : (v655.toInt - (v653.toInt + (1 : Int32).toInt)) % 4294967296 = 0 := (by rw [h660]; exact c_iadd _ _)
       have q1011 : ¬ v602.toInt = v655.toInt := fun q => hc664 (Int32.toInt_inj.mp q)
       have q1012 := congrArg Int32.toInt hc941
       have q1013 := congrArg Int32.toInt hc942
       have q1014 : ¬ v582.toInt = (0 : Int32).toInt := fun q => hc943 (Int32.toInt_inj.mp q)
       have q1015 : ¬ v574.toInt = v601.toInt := fun q => hc980 (Int32.toInt_inj.mp q)
       omega
      ·
       show KEnds p e below s _ _ _ T979 (mkF m 388 #[.val (.int i0), .val (.int i1), .val (.int i2), .val (.int i3), .val (.int i4), .val (.int (3 : Int32)), .val (.ref b568), .val (.int v574), .val (.int v602), .val (.int v604), .val (.int v606), .val (.ref b614), .val (.int (1 : Int32)), .val (.int (1 : Int32)), .val (.int v582), .val (.int v601), .val (.int v975), .val (.int v977)] [(.int (0 : Int32))])
       refine k_if_eq X979 hx (hb hby at_388) (pn := 391) rfl (py := 395) (by decide) (fun _ => ?_) (fun hc => absurd (by decide) hc)
       refine k_iconst X979 hx (hb hby at_395) (pc' := 396) rfl (z := (0 : Int32)) rfl ?_
       exfalso
       have := rng32 v574
       have : (0 : Int32).toInt = 0 := (by decide)
       have q1017 := hP575.1; rw [Int32.lt_iff_toInt_lt] at q1017
       have : (536870911 : Int32).toInt = 536870911 := (by decide)
       have q1018 := hP575.2; rw [Int32.lt_iff_toInt_lt] at q1018
       have := rng32 v582
       have q1020 := hP583.1; rw [Int32.lt_iff_toInt_lt] at q1020
       have q1021 := hP583.2; rw [Int32.lt_iff_toInt_lt] at q1021
       have := rng32 v590
       have q1023 := hP591.1; rw [Int32.lt_iff_toInt_lt] at q1023
       have q1024 := hP591.2; rw [Int32.lt_iff_toInt_lt] at q1024
       have := rng32 v598
       have q1026 := hP599.1; rw [Int32.lt_iff_toInt_lt] at q1026
       have q1027 := hP599.2; rw [Int32.lt_iff_toInt_lt] at q1027
       have := rng32 v604
       have := rng32 v603
       have := rng32 v602
       have := rng32 v601
       have : (1 : Int32).toInt = 1 := (by decide)
       have q1028 : (v601.toInt - (v574.toInt + (1 : Int32).toInt)) % 4294967296 = 0 := (by rw [hv601]; exact c_iadd _ _)
       have q1029 : (v602.toInt - (v601.toInt + v582.toInt)) % 4294967296 = 0 := (by rw [hv602]; exact c_iadd _ _)
       have q1030 : (v603.toInt - (v602.toInt + (1 : Int32).toInt)) % 4294967296 = 0 := (by rw [hv603]; exact c_iadd _ _)
       have q1031 : (v604.toInt - (v603.toInt + v590.toInt)) % 4294967296 = 0 := (by rw [hv604]; exact c_iadd _ _)
       have := rng32 v654
       have := rng32 v653
       have := rng32 v606
       have := rng32 v605
       have q1032 : (v605.toInt - (v604.toInt + (1 : Int32).toInt)) % 4294967296 = 0 := (by rw [hv605]; exact c_iadd _ _)
       have q1033 : (v606.toInt - (v605.toInt + v598.toInt)) % 4294967296 = 0 := (by rw [hv606]; exact c_iadd _ _)
       have : (3 : Int32).toInt = 3 := (by decide)
       have q1034 : (v653.toInt - (v606.toInt - (3 : Int32).toInt)) % 4294967296 = 0 := (by rw [h658]; exact c_isub _ _)
       have : (2 : Int32).toInt = 2 := (by decide)
       have q1035 : (v654.toInt - (v653.toInt + (2 : Int32).toInt)) % 4294967296 = 0 := (by rw [h659]; exact c_iadd _ _)
       have q1036 := congrArg Int32.toInt hc663
       have := rng32 v655
       have q1037 : (v655.toInt - (v653.toInt + (1 : Int32).toInt)) % 4294967296 = 0 := (by rw [h660]; exact c_iadd _ _)
       have q1038 : ¬ v602.toInt = v655.toInt := fun q => hc664 (Int32.toInt_inj.mp q)
       have q1039 := congrArg Int32.toInt hc941
       have q1040 := congrArg Int32.toInt hc942
       have q1041 : ¬ v582.toInt = (0 : Int32).toInt := fun q => hc943 (Int32.toInt_inj.mp q)
       have q1042 := congrArg Int32.toInt hc981
       have := rng32 v975
       have q1043 : (v975.toInt - (v601.toInt + (1 : Int32).toInt)) % 4294967296 = 0 := (by rw [hv975]; exact c_iadd _ _)
       have q1044 : ¬ v603.toInt = v975.toInt := fun q => hc982 (Int32.toInt_inj.mp q)
       omega
      ·
       show KEnds p e below s _ _ _ T979 (mkF m 388 #[.val (.int i0), .val (.int i1), .val (.int i2), .val (.int i3), .val (.int i4), .val (.int (3 : Int32)), .val (.ref b568), .val (.int v574), .val (.int v602), .val (.int v604), .val (.int v606), .val (.ref b614), .val (.int (1 : Int32)), .val (.int (1 : Int32)), .val (.int v582), .val (.int v601), .val (.int v975), .val (.int v977)] [(.int (0 : Int32))])
       refine k_if_eq X979 hx (hb hby at_388) (pn := 391) rfl (py := 395) (by decide) (fun _ => ?_) (fun hc => absurd (by decide) hc)
       refine k_iconst X979 hx (hb hby at_395) (pc' := 396) rfl (z := (0 : Int32)) rfl ?_
       exfalso
       have := rng32 v574
       have : (0 : Int32).toInt = 0 := (by decide)
       have q1046 := hP575.1; rw [Int32.lt_iff_toInt_lt] at q1046
       have : (536870911 : Int32).toInt = 536870911 := (by decide)
       have q1047 := hP575.2; rw [Int32.lt_iff_toInt_lt] at q1047
       have := rng32 v582
       have q1049 := hP583.1; rw [Int32.lt_iff_toInt_lt] at q1049
       have q1050 := hP583.2; rw [Int32.lt_iff_toInt_lt] at q1050
       have := rng32 v590
       have q1052 := hP591.1; rw [Int32.lt_iff_toInt_lt] at q1052
       have q1053 := hP591.2; rw [Int32.lt_iff_toInt_lt] at q1053
       have := rng32 v598
       have q1055 := hP599.1; rw [Int32.lt_iff_toInt_lt] at q1055
       have q1056 := hP599.2; rw [Int32.lt_iff_toInt_lt] at q1056
       have := rng32 v604
       have := rng32 v603
       have := rng32 v602
       have := rng32 v601
       have : (1 : Int32).toInt = 1 := (by decide)
       have q1057 : (v601.toInt - (v574.toInt + (1 : Int32).toInt)) % 4294967296 = 0 := (by rw [hv601]; exact c_iadd _ _)
       have q1058 : (v602.toInt - (v601.toInt + v582.toInt)) % 4294967296 = 0 := (by rw [hv602]; exact c_iadd _ _)
       have q1059 : (v603.toInt - (v602.toInt + (1 : Int32).toInt)) % 4294967296 = 0 := (by rw [hv603]; exact c_iadd _ _)
       have q1060 : (v604.toInt - (v603.toInt + v590.toInt)) % 4294967296 = 0 := (by rw [hv604]; exact c_iadd _ _)
       have := rng32 v654
       have := rng32 v653
       have := rng32 v606
       have := rng32 v605
       have q1061 : (v605.toInt - (v604.toInt + (1 : Int32).toInt)) % 4294967296 = 0 := (by rw [hv605]; exact c_iadd _ _)
       have q1062 : (v606.toInt - (v605.toInt + v598.toInt)) % 4294967296 = 0 := (by rw [hv606]; exact c_iadd _ _)
       have : (3 : Int32).toInt = 3 := (by decide)
       have q1063 : (v653.toInt - (v606.toInt - (3 : Int32).toInt)) % 4294967296 = 0 := (by rw [h658]; exact c_isub _ _)
       have : (2 : Int32).toInt = 2 := (by decide)
       have q1064 : (v654.toInt - (v653.toInt + (2 : Int32).toInt)) % 4294967296 = 0 := (by rw [h659]; exact c_iadd _ _)
       have q1065 := congrArg Int32.toInt hc663
       have := rng32 v655
       have q1066 : (v655.toInt - (v653.toInt + (1 : Int32).toInt)) % 4294967296 = 0 := (by rw [h660]; exact c_iadd _ _)
       have q1067 : ¬ v602.toInt = v655.toInt := fun q => hc664 (Int32.toInt_inj.mp q)
       have q1068 := congrArg Int32.toInt hc941
       have q1069 := congrArg Int32.toInt hc942
       have q1070 : ¬ v582.toInt = (0 : Int32).toInt := fun q => hc943 (Int32.toInt_inj.mp q)
       have q1071 := congrArg Int32.toInt hc983
       have := rng32 v975
       have q1072 : (v975.toInt - (v601.toInt + (1 : Int32).toInt)) % 4294967296 = 0 := (by rw [hv975]; exact c_iadd _ _)
       have q1073 := congrArg Int32.toInt hc984
       have := rng32 v657
       have q1074 : (v657.toInt - (v603.toInt + (1 : Int32).toInt)) % 4294967296 = 0 := (by rw [h662]; exact c_iadd _ _)
       have := rng32 v977
       have := rng32 v976
       have q1075 : (v976.toInt - (v975.toInt + (1 : Int32).toInt)) % 4294967296 = 0 := (by rw [hv976]; exact c_iadd _ _)
       have q1076 : (v977.toInt - (v976.toInt + v590.toInt)) % 4294967296 = 0 := (by rw [hv977]; exact c_iadd _ _)
       have q1077 : ¬ v657.toInt = v977.toInt := fun q => hc985 (Int32.toInt_inj.mp q)
       omega
      ·
       show KEnds p e below s _ _ _ T979 (mkF m 388 #[.val (.int i0), .val (.int i1), .val (.int i2), .val (.int i3), .val (.int i4), .val (.int (3 : Int32)), .val (.ref b568), .val (.int v574), .val (.int v602), .val (.int v604), .val (.int v606), .val (.ref b614), .val (.int (1 : Int32)), .val (.int (1 : Int32)), .val (.int v582), .val (.int v601), .val (.int v975), .val (.int v977)] [(.int (1 : Int32))])
       refine k_if_eq X979 hx (hb hby at_388) (pn := 391) rfl (py := 395) (by decide) (fun hc => absurd hc (by decide)) (fun _ => ?_)
       refine k_iconst X979 hx (hb hby at_391) (pc' := 392) rfl (z := (1 : Int32)) rfl ?_
       refine k_goto X979 hx (hb hby at_392) (pc' := 396) (by decide) ?_
       exact k_retN X979 hx (t := .boolean) Bd.returns (by simp) (hb hby at_396) hlk (by decide) (by decide) (z' := (1 : Int32)) rfl ⟨rfl, N979'⟩
    ·
     refine k_iconst X642 hx (hb hby at_238) (pc' := 239) rfl (z := (2 : Int32)) rfl ?_
     refine k_istore X642 hx (hb hby at_239) (Ls' := #[.val (.int i0), .val (.int i1), .val (.int i2), .val (.int i3), .val (.int i4), .val (.int (3 : Int32)), .val (.ref b568), .val (.int v574), .val (.int v602), .val (.int v604), .val (.int v606), .val (.ref b614), .val (.int (1 : Int32)), .val (.int (2 : Int32)), .unset, .unset, .unset, .unset]) rfl (pc' := 241) rfl ?_
     refine k_goto X642 hx (hb hby at_241) (pc' := 266) (by decide) ?_
     refine k_iload X642 hx (hb hby at_266) rfl (pc' := 268) rfl ?_
     refine k_if_ne X642 hx (hb hby at_268) (pn := 271) rfl (py := 298) (by decide) (fun _ => ?_) (fun hc => absurd hc (by decide))
     refine k_aload X642 hx (hb hby at_298) rfl rfl (pc' := 300) rfl ?_
     refine k_iload X642 hx (hb hby at_300) rfl (pc' := 302) rfl ?_
     refine k_iaload X642 hx hZ rfl F665 ⟨by decide, by decide⟩ (v := (.int v590)) rfl (hb hby at_302) (pc' := 303) rfl ?_
     refine k_istore X642 hx (hb hby at_303) (Ls' := #[.val (.int i0), .val (.int i1), .val (.int i2), .val (.int i3), .val (.int i4), .val (.int (3 : Int32)), .val (.ref b568), .val (.int v574), .val (.int v602), .val (.int v604), .val (.int v606), .val (.ref b614), .val (.int (1 : Int32)), .val (.int (2 : Int32)), .val (.int v590), .unset, .unset, .unset]) rfl (pc' := 305) rfl ?_
     refine k_aload X642 hx (hb hby at_305) rfl rfl (pc' := 307) rfl ?_
     refine k_iload X642 hx (hb hby at_307) rfl (pc' := 309) rfl ?_
     refine k_iconst X642 hx (hb hby at_309) (pc' := 310) rfl (z := (0 : Int32)) rfl ?_
     refine k_iastore X642 hx hZ rfl F665 ⟨by decide, by decide⟩ (i := 2) rfl (Nat.le_of_ble_eq_true rfl) (hb hby at_310) (pc' := 311) rfl (fun T1078 h1078 X1078 e1078 W1078 V1078 => ?_)
     have Vw1078 : Arv Z h1078 b568 k568 .int (4 : Int32) [(.int v574), (.int v582), (.int (0 : Int32)), (.int v598)] (.int (0 : Int32)) := V1078
     have N1078 := Fr.snoc X1078 N642' g_b568
     have Z1078 : n0 ≤ h1078.size := Nat.le_trans Z667 (Nat.le_of_eq W1078.size.symm)
     refine k_aload X1078 hx (hb hby at_311) rfl rfl (pc' := 313) rfl ?_
     refine k_iload X1078 hx (hb hby at_313) rfl (pc' := 315) rfl ?_
     refine k_iconst X1078 hx (hb hby at_315) (pc' := 316) rfl (z := (1 : Int32)) rfl ?_
     refine k_isubL X1078 hx (hb hby at_316) (pc' := 317) rfl (z := (1 : Int32)) (by decide) ?_
     refine k_aload X1078 hx (hb hby at_317) rfl rfl (pc' := 319) rfl ?_
     refine k_iload X1078 hx (hb hby at_319) rfl (pc' := 321) rfl ?_
     refine k_iconst X1078 hx (hb hby at_321) (pc' := 322) rfl (z := (1 : Int32)) rfl ?_
     refine k_isubL X1078 hx (hb hby at_322) (pc' := 323) rfl (z := (1 : Int32)) (by decide) ?_
     refine k_iaload X1078 hx hZ e1078 Vw1078 ⟨by decide, by decide⟩ (v := (.int v582)) rfl (hb hby at_323) (pc' := 324) rfl ?_
     refine k_iconst X1078 hx (hb hby at_324) (pc' := 325) rfl (z := (1 : Int32)) rfl ?_
     refine k_iadd X1078 hx (hb hby at_325) (pc' := 326) rfl (fun v1079 hv1079 => ?_)
     refine k_iastore X1078 hx hZ e1078 Vw1078 ⟨by decide, by decide⟩ (i := 1) rfl (Nat.le_of_ble_eq_true rfl) (hb hby at_326) (pc' := 327) rfl (fun T1080 h1080 X1080 e1080 W1080 V1080 => ?_)
     have Vw1080 : Arv Z h1080 b568 k568 .int (4 : Int32) [(.int v574), (.int v1079), (.int (0 : Int32)), (.int v598)] (.int (0 : Int32)) := V1080
     have N1080 := Fr.snoc X1080 N1078 g_b568
     have Z1080 : n0 ≤ h1080.size := Nat.le_trans Z1078 (Nat.le_of_eq W1080.size.symm)
     refine k_aload X1080 hx (hb hby at_327) rfl rfl (pc' := 329) rfl ?_
     refine k_iload X1080 hx (hb hby at_329) rfl (pc' := 331) rfl ?_
     refine k_aload X1080 hx (hb hby at_331) rfl rfl (pc' := 333) rfl ?_
     refine k_iload X1080 hx (hb hby at_333) rfl (pc' := 335) rfl ?_
     refine k_iaload X1080 hx hZ e1080 Vw1080 ⟨by decide, by decide⟩ (v := (.int v598)) rfl (hb hby at_335) (pc' := 336) rfl ?_
     refine k_iload X1080 hx (hb hby at_336) rfl (pc' := 338) rfl ?_
     refine k_iadd X1080 hx (hb hby at_338) (pc' := 339) rfl (fun v1081 hv1081 => ?_)
     refine k_iconst X1080 hx (hb hby at_339) (pc' := 340) rfl (z := (1 : Int32)) rfl ?_
     refine k_isub X1080 hx (hb hby at_340) (pc' := 341) rfl (fun v1082 hv1082 => ?_)
     refine k_iastore X1080 hx hZ e1080 Vw1080 ⟨by decide, by decide⟩ (i := 3) rfl (Nat.le_of_ble_eq_true rfl) (hb hby at_341) (pc' := 342) rfl (fun T1083 h1083 X1083 e1083 W1083 V1083 => ?_)
     have Vw1083 : Arv Z h1083 b568 k568 .int (4 : Int32) [(.int v574), (.int v1079), (.int (0 : Int32)), (.int v1082)] (.int (0 : Int32)) := V1083
     have N1083 := Fr.snoc X1083 N1080 g_b568
     have Z1083 : n0 ≤ h1083.size := Nat.le_trans Z1080 (Nat.le_of_eq W1083.size.symm)
     refine k_aload X1083 hx (hb hby at_342) rfl rfl (pc' := 344) rfl ?_
     refine k_iconst X1083 hx (hb hby at_344) (pc' := 345) rfl (z := (0 : Int32)) rfl ?_
     refine k_iaload X1083 hx hZ e1083 Vw1083 ⟨by decide, by decide⟩ (v := (.int v574)) rfl (hb hby at_345) (pc' := 346) rfl ?_
     refine k_istore X1083 hx (hb hby at_346) (Ls' := #[.val (.int i0), .val (.int i1), .val (.int i2), .val (.int i3), .val (.int i4), .val (.int (3 : Int32)), .val (.ref b568), .val (.int v574), .val (.int v602), .val (.int v604), .val (.int v606), .val (.ref b614), .val (.int (1 : Int32)), .val (.int (2 : Int32)), .val (.int v590), .val (.int v574), .unset, .unset]) rfl (pc' := 348) rfl ?_
     refine k_iload X1083 hx (hb hby at_348) rfl (pc' := 350) rfl ?_
     refine k_iconst X1083 hx (hb hby at_350) (pc' := 351) rfl (z := (1 : Int32)) rfl ?_
     refine k_iaddL X1083 hx (hb hby at_351) (pc' := 352) rfl (z := v601) hv601.symm ?_
     refine k_aload X1083 hx (hb hby at_352) rfl rfl (pc' := 354) rfl ?_
     refine k_iconst X1083 hx (hb hby at_354) (pc' := 355) rfl (z := (1 : Int32)) rfl ?_
     refine k_iaload X1083 hx hZ e1083 Vw1083 ⟨by decide, by decide⟩ (v := (.int v1079)) rfl (hb hby at_355) (pc' := 356) rfl ?_
     refine k_iadd X1083 hx (hb hby at_356) (pc' := 357) rfl (fun v1084 hv1084 => ?_)
     refine k_istore X1083 hx (hb hby at_357) (Ls' := #[.val (.int i0), .val (.int i1), .val (.int i2), .val (.int i3), .val (.int i4), .val (.int (3 : Int32)), .val (.ref b568), .val (.int v574), .val (.int v602), .val (.int v604), .val (.int v606), .val (.ref b614), .val (.int (1 : Int32)), .val (.int (2 : Int32)), .val (.int v590), .val (.int v574), .val (.int v1084), .unset]) rfl (pc' := 359) rfl ?_
     refine k_iload X1083 hx (hb hby at_359) rfl (pc' := 361) rfl ?_
     refine k_iconst X1083 hx (hb hby at_361) (pc' := 362) rfl (z := (1 : Int32)) rfl ?_
     refine k_iadd X1083 hx (hb hby at_362) (pc' := 363) rfl (fun v1085 hv1085 => ?_)
     refine k_aload X1083 hx (hb hby at_363) rfl rfl (pc' := 365) rfl ?_
     refine k_iconst X1083 hx (hb hby at_365) (pc' := 366) rfl (z := (2 : Int32)) rfl ?_
     refine k_iaload X1083 hx hZ e1083 Vw1083 ⟨by decide, by decide⟩ (v := (.int (0 : Int32))) rfl (hb hby at_366) (pc' := 367) rfl ?_
     refine k_iaddL X1083 hx (hb hby at_367) (pc' := 368) rfl (z := v1085) (Int32.add_zero _) ?_
     refine k_istore X1083 hx (hb hby at_368) (Ls' := #[.val (.int i0), .val (.int i1), .val (.int i2), .val (.int i3), .val (.int i4), .val (.int (3 : Int32)), .val (.ref b568), .val (.int v574), .val (.int v602), .val (.int v604), .val (.int v606), .val (.ref b614), .val (.int (1 : Int32)), .val (.int (2 : Int32)), .val (.int v590), .val (.int v574), .val (.int v1084), .val (.int v1085)]) rfl (pc' := 370) rfl ?_
     refine k_iload X1083 hx (hb hby at_370) rfl (pc' := 372) rfl ?_
     refine k_if_eq X1083 hx (hb hby at_372) (pn := 375) rfl (py := 395) (by decide) (fun hc => absurd hc (by decide)) (fun _ => ?_)
     refine k_aload X1083 hx (hb hby at_375) rfl rfl (pc' := 377) rfl ?_
     refine k_iload X1083 hx (hb hby at_377) rfl (pc' := 379) rfl ?_
     refine k_iload X1083 hx (hb hby at_379) rfl (pc' := 381) rfl ?_
     refine k_iload X1083 hx (hb hby at_381) rfl (pc' := 383) rfl ?_
     refine k_iload X1083 hx (hb hby at_383) rfl (pc' := 385) rfl ?_
     have F1086 := (((F666.other W1078 (Ne.symm (Nat.ne_of_lt lt618))).other W1080 (Ne.symm (Nat.ne_of_lt lt618))).other W1083 (Ne.symm (Nat.ne_of_lt lt618)))
     refine k_callS X1083 hx hZ hown (hw _ (List.mem_of_getElem? (i := 10) rfl)) (hw _ (List.mem_of_getElem? (i := 11) rfl)) (hw _ (List.mem_of_getElem? (i := 4) rfl)) (hw _ (List.mem_of_getElem? (i := 12) rfl)) (by decide) (rm3_840 l Z a0 hw [] b614 v574 v1084 v1085 k615 v603 v657 h1083 n0 Z1083 F1086) (by decide) (by decide) e1083 (by rw [hml]; rfl) (argsL := [(.ref b614), (.int (3 : Int32)), (.int v574), (.int v1084), (.int v1085)]) (rest := []) (lenOf pd_2 rfl) rfl (W := 0) (Nat.le_refl _) rfl (hb hby at_385) (by decide) (by decide) (pc' := 388) rfl (fun T1087 L1087 r1087 X1087 q1087 => ?_)
     obtain ⟨N1087, e1087, q1087⟩ := q1087
     have N1087' := Fr.app N1083 N1087
     rcases q1087 with ⟨hc1088, rfl⟩ | ⟨hc1089, hc1090, rfl⟩ | ⟨hc1091, hc1092, rfl⟩
     ·
      show KEnds p e below s _ _ _ T1087 (mkF m 388 #[.val (.int i0), .val (.int i1), .val (.int i2), .val (.int i3), .val (.int i4), .val (.int (3 : Int32)), .val (.ref b568), .val (.int v574), .val (.int v602), .val (.int v604), .val (.int v606), .val (.ref b614), .val (.int (1 : Int32)), .val (.int (2 : Int32)), .val (.int v590), .val (.int v574), .val (.int v1084), .val (.int v1085)] [(.int (0 : Int32))])
      refine k_if_eq X1087 hx (hb hby at_388) (pn := 391) rfl (py := 395) (by decide) (fun _ => ?_) (fun hc => absurd (by decide) hc)
      refine k_iconst X1087 hx (hb hby at_395) (pc' := 396) rfl (z := (0 : Int32)) rfl ?_
      exfalso
      have := rng32 v574
      have : (0 : Int32).toInt = 0 := (by decide)
      have q1094 := hP575.1; rw [Int32.lt_iff_toInt_lt] at q1094
      have : (536870911 : Int32).toInt = 536870911 := (by decide)
      have q1095 := hP575.2; rw [Int32.lt_iff_toInt_lt] at q1095
      have := rng32 v582
      have q1097 := hP583.1; rw [Int32.lt_iff_toInt_lt] at q1097
      have q1098 := hP583.2; rw [Int32.lt_iff_toInt_lt] at q1098
      have := rng32 v590
      have q1100 := hP591.1; rw [Int32.lt_iff_toInt_lt] at q1100
      have q1101 := hP591.2; rw [Int32.lt_iff_toInt_lt] at q1101
      have := rng32 v598
      have q1103 := hP599.1; rw [Int32.lt_iff_toInt_lt] at q1103
      have q1104 := hP599.2; rw [Int32.lt_iff_toInt_lt] at q1104
      have := rng32 v604
      have := rng32 v603
      have := rng32 v602
      have := rng32 v601
      have : (1 : Int32).toInt = 1 := (by decide)
      have q1105 : (v601.toInt - (v574.toInt + (1 : Int32).toInt)) % 4294967296 = 0 := (by rw [hv601]; exact c_iadd _ _)
      have q1106 : (v602.toInt - (v601.toInt + v582.toInt)) % 4294967296 = 0 := (by rw [hv602]; exact c_iadd _ _)
      have q1107 : (v603.toInt - (v602.toInt + (1 : Int32).toInt)) % 4294967296 = 0 := (by rw [hv603]; exact c_iadd _ _)
      have q1108 : (v604.toInt - (v603.toInt + v590.toInt)) % 4294967296 = 0 := (by rw [hv604]; exact c_iadd _ _)
      have := rng32 v654
      have := rng32 v653
      have := rng32 v606
      have := rng32 v605
      have q1109 : (v605.toInt - (v604.toInt + (1 : Int32).toInt)) % 4294967296 = 0 := (by rw [hv605]; exact c_iadd _ _)
      have q1110 : (v606.toInt - (v605.toInt + v598.toInt)) % 4294967296 = 0 := (by rw [hv606]; exact c_iadd _ _)
      have : (3 : Int32).toInt = 3 := (by decide)
      have q1111 : (v653.toInt - (v606.toInt - (3 : Int32).toInt)) % 4294967296 = 0 := (by rw [h658]; exact c_isub _ _)
      have : (2 : Int32).toInt = 2 := (by decide)
      have q1112 : (v654.toInt - (v653.toInt + (2 : Int32).toInt)) % 4294967296 = 0 := (by rw [h659]; exact c_iadd _ _)
      have q1113 := congrArg Int32.toInt hc663
      have := rng32 v655
      have q1114 : (v655.toInt - (v653.toInt + (1 : Int32).toInt)) % 4294967296 = 0 := (by rw [h660]; exact c_iadd _ _)
      have q1115 : ¬ v602.toInt = v655.toInt := fun q => hc664 (Int32.toInt_inj.mp q)
      have q1116 := congrArg Int32.toInt hc941
      have q1117 : ¬ v590.toInt = (0 : Int32).toInt := fun q => hc942 (Int32.toInt_inj.mp q)
      have := rng32 v1084
      have := rng32 v1079
      have q1118 : (v1079.toInt - (v582.toInt + (1 : Int32).toInt)) % 4294967296 = 0 := (by rw [hv1079]; exact c_iadd _ _)
      have q1119 : (v1084.toInt - (v601.toInt + v1079.toInt)) % 4294967296 = 0 := (by rw [hv1084]; exact c_iadd _ _)
      have q1120 : ¬ v603.toInt = v1084.toInt := fun q => hc1088 (Int32.toInt_inj.mp q)
      omega
     ·
      show KEnds p e below s _ _ _ T1087 (mkF m 388 #[.val (.int i0), .val (.int i1), .val (.int i2), .val (.int i3), .val (.int i4), .val (.int (3 : Int32)), .val (.ref b568), .val (.int v574), .val (.int v602), .val (.int v604), .val (.int v606), .val (.ref b614), .val (.int (1 : Int32)), .val (.int (2 : Int32)), .val (.int v590), .val (.int v574), .val (.int v1084), .val (.int v1085)] [(.int (0 : Int32))])
      refine k_if_eq X1087 hx (hb hby at_388) (pn := 391) rfl (py := 395) (by decide) (fun _ => ?_) (fun hc => absurd (by decide) hc)
      refine k_iconst X1087 hx (hb hby at_395) (pc' := 396) rfl (z := (0 : Int32)) rfl ?_
      exfalso
      have := rng32 v574
      have : (0 : Int32).toInt = 0 := (by decide)
      have q1122 := hP575.1; rw [Int32.lt_iff_toInt_lt] at q1122
      have : (536870911 : Int32).toInt = 536870911 := (by decide)
      have q1123 := hP575.2; rw [Int32.lt_iff_toInt_lt] at q1123
      have := rng32 v582
      have q1125 := hP583.1; rw [Int32.lt_iff_toInt_lt] at q1125
      have q1126 := hP583.2; rw [Int32.lt_iff_toInt_lt] at q1126
      have := rng32 v590
      have q1128 := hP591.1; rw [Int32.lt_iff_toInt_lt] at q1128
      have q1129 := hP591.2; rw [Int32.lt_iff_toInt_lt] at q1129
      have := rng32 v598
      have q1131 := hP599.1; rw [Int32.lt_iff_toInt_lt] at q1131
      have q1132 := hP599.2; rw [Int32.lt_iff_toInt_lt] at q1132
      have := rng32 v604
      have := rng32 v603
      have := rng32 v602
      have := rng32 v601
      have : (1 : Int32).toInt = 1 := (by decide)
      have q1133 : (v601.toInt - (v574.toInt + (1 : Int32).toInt)) % 4294967296 = 0 := (by rw [hv601]; exact c_iadd _ _)
      have q1134 : (v602.toInt - (v601.toInt + v582.toInt)) % 4294967296 = 0 := (by rw [hv602]; exact c_iadd _ _)
      have q1135 : (v603.toInt - (v602.toInt + (1 : Int32).toInt)) % 4294967296 = 0 := (by rw [hv603]; exact c_iadd _ _)
      have q1136 : (v604.toInt - (v603.toInt + v590.toInt)) % 4294967296 = 0 := (by rw [hv604]; exact c_iadd _ _)
      have := rng32 v654
      have := rng32 v653
      have := rng32 v606
      have := rng32 v605
      have q1137 : (v605.toInt - (v604.toInt + (1 : Int32).toInt)) % 4294967296 = 0 := (by rw [hv605]; exact c_iadd _ _)
      have q1138 : (v606.toInt - (v605.toInt + v598.toInt)) % 4294967296 = 0 := (by rw [hv606]; exact c_iadd _ _)
      have : (3 : Int32).toInt = 3 := (by decide)
      have q1139 : (v653.toInt - (v606.toInt - (3 : Int32).toInt)) % 4294967296 = 0 := (by rw [h658]; exact c_isub _ _)
      have : (2 : Int32).toInt = 2 := (by decide)
      have q1140 : (v654.toInt - (v653.toInt + (2 : Int32).toInt)) % 4294967296 = 0 := (by rw [h659]; exact c_iadd _ _)
      have q1141 := congrArg Int32.toInt hc663
      have := rng32 v655
      have q1142 : (v655.toInt - (v653.toInt + (1 : Int32).toInt)) % 4294967296 = 0 := (by rw [h660]; exact c_iadd _ _)
      have q1143 : ¬ v602.toInt = v655.toInt := fun q => hc664 (Int32.toInt_inj.mp q)
      have q1144 := congrArg Int32.toInt hc941
      have q1145 : ¬ v590.toInt = (0 : Int32).toInt := fun q => hc942 (Int32.toInt_inj.mp q)
      have := rng32 v1084
      have := rng32 v1079
      have q1146 : (v1079.toInt - (v582.toInt + (1 : Int32).toInt)) % 4294967296 = 0 := (by rw [hv1079]; exact c_iadd _ _)
      have q1147 : (v1084.toInt - (v601.toInt + v1079.toInt)) % 4294967296 = 0 := (by rw [hv1084]; exact c_iadd _ _)
      have q1148 := congrArg Int32.toInt hc1089
      have := rng32 v657
      have q1149 : (v657.toInt - (v603.toInt + (1 : Int32).toInt)) % 4294967296 = 0 := (by rw [h662]; exact c_iadd _ _)
      have := rng32 v1085
      have q1150 : (v1085.toInt - (v1084.toInt + (1 : Int32).toInt)) % 4294967296 = 0 := (by rw [hv1085]; exact c_iadd _ _)
      have q1151 : ¬ v657.toInt = v1085.toInt := fun q => hc1090 (Int32.toInt_inj.mp q)
      omega
     ·
      show KEnds p e below s _ _ _ T1087 (mkF m 388 #[.val (.int i0), .val (.int i1), .val (.int i2), .val (.int i3), .val (.int i4), .val (.int (3 : Int32)), .val (.ref b568), .val (.int v574), .val (.int v602), .val (.int v604), .val (.int v606), .val (.ref b614), .val (.int (1 : Int32)), .val (.int (2 : Int32)), .val (.int v590), .val (.int v574), .val (.int v1084), .val (.int v1085)] [(.int (1 : Int32))])
      refine k_if_eq X1087 hx (hb hby at_388) (pn := 391) rfl (py := 395) (by decide) (fun hc => absurd hc (by decide)) (fun _ => ?_)
      refine k_iconst X1087 hx (hb hby at_391) (pc' := 392) rfl (z := (1 : Int32)) rfl ?_
      refine k_goto X1087 hx (hb hby at_392) (pc' := 396) (by decide) ?_
      exact k_retN X1087 hx (t := .boolean) Bd.returns (by simp) (hb hby at_396) hlk (by decide) (by decide) (z' := (1 : Int32)) rfl ⟨rfl, N1087'⟩
   ·
    refine k_iconst X642 hx (hb hby at_219) (pc' := 220) rfl (z := (3 : Int32)) rfl ?_
    refine k_istore X642 hx (hb hby at_220) (Ls' := #[.val (.int i0), .val (.int i1), .val (.int i2), .val (.int i3), .val (.int i4), .val (.int (3 : Int32)), .val (.ref b568), .val (.int v574), .val (.int v602), .val (.int v604), .val (.int v606), .val (.ref b614), .val (.int (1 : Int32)), .val (.int (3 : Int32)), .unset, .unset, .unset, .unset]) rfl (pc' := 222) rfl ?_
    refine k_goto X642 hx (hb hby at_222) (pc' := 266) (by decide) ?_
    refine k_iload X642 hx (hb hby at_266) rfl (pc' := 268) rfl ?_
    refine k_if_ne X642 hx (hb hby at_268) (pn := 271) rfl (py := 298) (by decide) (fun _ => ?_) (fun hc => absurd hc (by decide))
    refine k_aload X642 hx (hb hby at_298) rfl rfl (pc' := 300) rfl ?_
    refine k_iload X642 hx (hb hby at_300) rfl (pc' := 302) rfl ?_
    refine k_iaload X642 hx hZ rfl F665 ⟨by decide, by decide⟩ (v := (.int v598)) rfl (hb hby at_302) (pc' := 303) rfl ?_
    refine k_istore X642 hx (hb hby at_303) (Ls' := #[.val (.int i0), .val (.int i1), .val (.int i2), .val (.int i3), .val (.int i4), .val (.int (3 : Int32)), .val (.ref b568), .val (.int v574), .val (.int v602), .val (.int v604), .val (.int v606), .val (.ref b614), .val (.int (1 : Int32)), .val (.int (3 : Int32)), .val (.int v598), .unset, .unset, .unset]) rfl (pc' := 305) rfl ?_
    refine k_aload X642 hx (hb hby at_305) rfl rfl (pc' := 307) rfl ?_
    refine k_iload X642 hx (hb hby at_307) rfl (pc' := 309) rfl ?_
    refine k_iconst X642 hx (hb hby at_309) (pc' := 310) rfl (z := (0 : Int32)) rfl ?_
    refine k_iastore X642 hx hZ rfl F665 ⟨by decide, by decide⟩ (i := 3) rfl (Nat.le_of_ble_eq_true rfl) (hb hby at_310) (pc' := 311) rfl (fun T1152 h1152 X1152 e1152 W1152 V1152 => ?_)
    have Vw1152 : Arv Z h1152 b568 k568 .int (4 : Int32) [(.int v574), (.int v582), (.int v590), (.int (0 : Int32))] (.int (0 : Int32)) := V1152
    have N1152 := Fr.snoc X1152 N642' g_b568
    have Z1152 : n0 ≤ h1152.size := Nat.le_trans Z667 (Nat.le_of_eq W1152.size.symm)
    refine k_aload X1152 hx (hb hby at_311) rfl rfl (pc' := 313) rfl ?_
    refine k_iload X1152 hx (hb hby at_313) rfl (pc' := 315) rfl ?_
    refine k_iconst X1152 hx (hb hby at_315) (pc' := 316) rfl (z := (1 : Int32)) rfl ?_
    refine k_isubL X1152 hx (hb hby at_316) (pc' := 317) rfl (z := (2 : Int32)) (by decide) ?_
    refine k_aload X1152 hx (hb hby at_317) rfl rfl (pc' := 319) rfl ?_
    refine k_iload X1152 hx (hb hby at_319) rfl (pc' := 321) rfl ?_
    refine k_iconst X1152 hx (hb hby at_321) (pc' := 322) rfl (z := (1 : Int32)) rfl ?_
    refine k_isubL X1152 hx (hb hby at_322) (pc' := 323) rfl (z := (2 : Int32)) (by decide) ?_
    refine k_iaload X1152 hx hZ e1152 Vw1152 ⟨by decide, by decide⟩ (v := (.int v590)) rfl (hb hby at_323) (pc' := 324) rfl ?_
    refine k_iconst X1152 hx (hb hby at_324) (pc' := 325) rfl (z := (1 : Int32)) rfl ?_
    refine k_iadd X1152 hx (hb hby at_325) (pc' := 326) rfl (fun v1153 hv1153 => ?_)
    refine k_iastore X1152 hx hZ e1152 Vw1152 ⟨by decide, by decide⟩ (i := 2) rfl (Nat.le_of_ble_eq_true rfl) (hb hby at_326) (pc' := 327) rfl (fun T1154 h1154 X1154 e1154 W1154 V1154 => ?_)
    have Vw1154 : Arv Z h1154 b568 k568 .int (4 : Int32) [(.int v574), (.int v582), (.int v1153), (.int (0 : Int32))] (.int (0 : Int32)) := V1154
    have N1154 := Fr.snoc X1154 N1152 g_b568
    have Z1154 : n0 ≤ h1154.size := Nat.le_trans Z1152 (Nat.le_of_eq W1154.size.symm)
    refine k_aload X1154 hx (hb hby at_327) rfl rfl (pc' := 329) rfl ?_
    refine k_iload X1154 hx (hb hby at_329) rfl (pc' := 331) rfl ?_
    refine k_aload X1154 hx (hb hby at_331) rfl rfl (pc' := 333) rfl ?_
    refine k_iload X1154 hx (hb hby at_333) rfl (pc' := 335) rfl ?_
    refine k_iaload X1154 hx hZ e1154 Vw1154 ⟨by decide, by decide⟩ (v := (.int (0 : Int32))) rfl (hb hby at_335) (pc' := 336) rfl ?_
    refine k_iload X1154 hx (hb hby at_336) rfl (pc' := 338) rfl ?_
    refine k_iaddL X1154 hx (hb hby at_338) (pc' := 339) rfl (z := v598) (Int32.zero_add _) ?_
    refine k_iconst X1154 hx (hb hby at_339) (pc' := 340) rfl (z := (1 : Int32)) rfl ?_
    refine k_isub X1154 hx (hb hby at_340) (pc' := 341) rfl (fun v1155 hv1155 => ?_)
    refine k_iastore X1154 hx hZ e1154 Vw1154 ⟨by decide, by decide⟩ (i := 3) rfl (Nat.le_of_ble_eq_true rfl) (hb hby at_341) (pc' := 342) rfl (fun T1156 h1156 X1156 e1156 W1156 V1156 => ?_)
    have Vw1156 : Arv Z h1156 b568 k568 .int (4 : Int32) [(.int v574), (.int v582), (.int v1153), (.int v1155)] (.int (0 : Int32)) := V1156
    have N1156 := Fr.snoc X1156 N1154 g_b568
    have Z1156 : n0 ≤ h1156.size := Nat.le_trans Z1154 (Nat.le_of_eq W1156.size.symm)
    refine k_aload X1156 hx (hb hby at_342) rfl rfl (pc' := 344) rfl ?_
    refine k_iconst X1156 hx (hb hby at_344) (pc' := 345) rfl (z := (0 : Int32)) rfl ?_
    refine k_iaload X1156 hx hZ e1156 Vw1156 ⟨by decide, by decide⟩ (v := (.int v574)) rfl (hb hby at_345) (pc' := 346) rfl ?_
    refine k_istore X1156 hx (hb hby at_346) (Ls' := #[.val (.int i0), .val (.int i1), .val (.int i2), .val (.int i3), .val (.int i4), .val (.int (3 : Int32)), .val (.ref b568), .val (.int v574), .val (.int v602), .val (.int v604), .val (.int v606), .val (.ref b614), .val (.int (1 : Int32)), .val (.int (3 : Int32)), .val (.int v598), .val (.int v574), .unset, .unset]) rfl (pc' := 348) rfl ?_
    refine k_iload X1156 hx (hb hby at_348) rfl (pc' := 350) rfl ?_
    refine k_iconst X1156 hx (hb hby at_350) (pc' := 351) rfl (z := (1 : Int32)) rfl ?_
    refine k_iaddL X1156 hx (hb hby at_351) (pc' := 352) rfl (z := v601) hv601.symm ?_
    refine k_aload X1156 hx (hb hby at_352) rfl rfl (pc' := 354) rfl ?_
    refine k_iconst X1156 hx (hb hby at_354) (pc' := 355) rfl (z := (1 : Int32)) rfl ?_
    refine k_iaload X1156 hx hZ e1156 Vw1156 ⟨by decide, by decide⟩ (v := (.int v582)) rfl (hb hby at_355) (pc' := 356) rfl ?_
    refine k_iaddL X1156 hx (hb hby at_356) (pc' := 357) rfl (z := v602) hv602.symm ?_
    refine k_istore X1156 hx (hb hby at_357) (Ls' := #[.val (.int i0), .val (.int i1), .val (.int i2), .val (.int i3), .val (.int i4), .val (.int (3 : Int32)), .val (.ref b568), .val (.int v574), .val (.int v602), .val (.int v604), .val (.int v606), .val (.ref b614), .val (.int (1 : Int32)), .val (.int (3 : Int32)), .val (.int v598), .val (.int v574), .val (.int v602), .unset]) rfl (pc' := 359) rfl ?_
    refine k_iload X1156 hx (hb hby at_359) rfl (pc' := 361) rfl ?_
    refine k_iconst X1156 hx (hb hby at_361) (pc' := 362) rfl (z := (1 : Int32)) rfl ?_
    refine k_iaddL X1156 hx (hb hby at_362) (pc' := 363) rfl (z := v603) hv603.symm ?_
    refine k_aload X1156 hx (hb hby at_363) rfl rfl (pc' := 365) rfl ?_
    refine k_iconst X1156 hx (hb hby at_365) (pc' := 366) rfl (z := (2 : Int32)) rfl ?_
    refine k_iaload X1156 hx hZ e1156 Vw1156 ⟨by decide, by decide⟩ (v := (.int v1153)) rfl (hb hby at_366) (pc' := 367) rfl ?_
    refine k_iadd X1156 hx (hb hby at_367) (pc' := 368) rfl (fun v1157 hv1157 => ?_)
    refine k_istore X1156 hx (hb hby at_368) (Ls' := #[.val (.int i0), .val (.int i1), .val (.int i2), .val (.int i3), .val (.int i4), .val (.int (3 : Int32)), .val (.ref b568), .val (.int v574), .val (.int v602), .val (.int v604), .val (.int v606), .val (.ref b614), .val (.int (1 : Int32)), .val (.int (3 : Int32)), .val (.int v598), .val (.int v574), .val (.int v602), .val (.int v1157)]) rfl (pc' := 370) rfl ?_
    refine k_iload X1156 hx (hb hby at_370) rfl (pc' := 372) rfl ?_
    refine k_if_eq X1156 hx (hb hby at_372) (pn := 375) rfl (py := 395) (by decide) (fun hc => absurd hc (by decide)) (fun _ => ?_)
    refine k_aload X1156 hx (hb hby at_375) rfl rfl (pc' := 377) rfl ?_
    refine k_iload X1156 hx (hb hby at_377) rfl (pc' := 379) rfl ?_
    refine k_iload X1156 hx (hb hby at_379) rfl (pc' := 381) rfl ?_
    refine k_iload X1156 hx (hb hby at_381) rfl (pc' := 383) rfl ?_
    refine k_iload X1156 hx (hb hby at_383) rfl (pc' := 385) rfl ?_
    have F1158 := (((F666.other W1152 (Ne.symm (Nat.ne_of_lt lt618))).other W1154 (Ne.symm (Nat.ne_of_lt lt618))).other W1156 (Ne.symm (Nat.ne_of_lt lt618)))
    refine k_callS X1156 hx hZ hown (hw _ (List.mem_of_getElem? (i := 10) rfl)) (hw _ (List.mem_of_getElem? (i := 11) rfl)) (hw _ (List.mem_of_getElem? (i := 4) rfl)) (hw _ (List.mem_of_getElem? (i := 12) rfl)) (by decide) (rm3_840 l Z a0 hw [] b614 v574 v602 v1157 k615 v603 v657 h1156 n0 Z1156 F1158) (by decide) (by decide) e1156 (by rw [hml]; rfl) (argsL := [(.ref b614), (.int (3 : Int32)), (.int v574), (.int v602), (.int v1157)]) (rest := []) (lenOf pd_2 rfl) rfl (W := 0) (Nat.le_refl _) rfl (hb hby at_385) (by decide) (by decide) (pc' := 388) rfl (fun T1159 L1159 r1159 X1159 q1159 => ?_)
    obtain ⟨N1159, e1159, q1159⟩ := q1159
    have N1159' := Fr.app N1156 N1159
    rcases q1159 with ⟨hc1160, rfl⟩ | ⟨hc1161, hc1162, rfl⟩ | ⟨hc1163, hc1164, rfl⟩
    ·
     show KEnds p e below s _ _ _ T1159 (mkF m 388 #[.val (.int i0), .val (.int i1), .val (.int i2), .val (.int i3), .val (.int i4), .val (.int (3 : Int32)), .val (.ref b568), .val (.int v574), .val (.int v602), .val (.int v604), .val (.int v606), .val (.ref b614), .val (.int (1 : Int32)), .val (.int (3 : Int32)), .val (.int v598), .val (.int v574), .val (.int v602), .val (.int v1157)] [(.int (0 : Int32))])
     refine k_if_eq X1159 hx (hb hby at_388) (pn := 391) rfl (py := 395) (by decide) (fun _ => ?_) (fun hc => absurd (by decide) hc)
     refine k_iconst X1159 hx (hb hby at_395) (pc' := 396) rfl (z := (0 : Int32)) rfl ?_
     exfalso
     have := rng32 v574
     have : (0 : Int32).toInt = 0 := (by decide)
     have q1166 := hP575.1; rw [Int32.lt_iff_toInt_lt] at q1166
     have : (536870911 : Int32).toInt = 536870911 := (by decide)
     have q1167 := hP575.2; rw [Int32.lt_iff_toInt_lt] at q1167
     have := rng32 v582
     have q1169 := hP583.1; rw [Int32.lt_iff_toInt_lt] at q1169
     have q1170 := hP583.2; rw [Int32.lt_iff_toInt_lt] at q1170
     have := rng32 v590
     have q1172 := hP591.1; rw [Int32.lt_iff_toInt_lt] at q1172
     have q1173 := hP591.2; rw [Int32.lt_iff_toInt_lt] at q1173
     have := rng32 v598
     have q1175 := hP599.1; rw [Int32.lt_iff_toInt_lt] at q1175
     have q1176 := hP599.2; rw [Int32.lt_iff_toInt_lt] at q1176
     have := rng32 v604
     have := rng32 v603
     have := rng32 v602
     have := rng32 v601
     have : (1 : Int32).toInt = 1 := (by decide)
     have q1177 : (v601.toInt - (v574.toInt + (1 : Int32).toInt)) % 4294967296 = 0 := (by rw [hv601]; exact c_iadd _ _)
     have q1178 : (v602.toInt - (v601.toInt + v582.toInt)) % 4294967296 = 0 := (by rw [hv602]; exact c_iadd _ _)
     have q1179 : (v603.toInt - (v602.toInt + (1 : Int32).toInt)) % 4294967296 = 0 := (by rw [hv603]; exact c_iadd _ _)
     have q1180 : (v604.toInt - (v603.toInt + v590.toInt)) % 4294967296 = 0 := (by rw [hv604]; exact c_iadd _ _)
     have := rng32 v654
     have := rng32 v653
     have := rng32 v606
     have := rng32 v605
     have q1181 : (v605.toInt - (v604.toInt + (1 : Int32).toInt)) % 4294967296 = 0 := (by rw [hv605]; exact c_iadd _ _)
     have q1182 : (v606.toInt - (v605.toInt + v598.toInt)) % 4294967296 = 0 := (by rw [hv606]; exact c_iadd _ _)
     have : (3 : Int32).toInt = 3 := (by decide)
     have q1183 : (v653.toInt - (v606.toInt - (3 : Int32).toInt)) % 4294967296 = 0 := (by rw [h658]; exact c_isub _ _)
     have : (2 : Int32).toInt = 2 := (by decide)
     have q1184 : (v654.toInt - (v653.toInt + (2 : Int32).toInt)) % 4294967296 = 0 := (by rw [h659]; exact c_iadd _ _)
     have q1185 := congrArg Int32.toInt hc663
     have := rng32 v655
     have q1186 : (v655.toInt - (v653.toInt + (1 : Int32).toInt)) % 4294967296 = 0 := (by rw [h660]; exact c_iadd _ _)
     have q1187 : ¬ v602.toInt = v655.toInt := fun q => hc664 (Int32.toInt_inj.mp q)
     have q1188 : ¬ v598.toInt = (0 : Int32).toInt := fun q => hc941 (Int32.toInt_inj.mp q)
     have q1189 : ¬ v603.toInt = v602.toInt := fun q => hc1160 (Int32.toInt_inj.mp q)
     omega
    ·
     show KEnds p e below s _ _ _ T1159 (mkF m 388 #[.val (.int i0), .val (.int i1), .val (.int i2), .val (.int i3), .val (.int i4), .val (.int (3 : Int32)), .val (.ref b568), .val (.int v574), .val (.int v602), .val (.int v604), .val (.int v606), .val (.ref b614), .val (.int (1 : Int32)), .val (.int (3 : Int32)), .val (.int v598), .val (.int v574), .val (.int v602), .val (.int v1157)] [(.int (0 : Int32))])
     refine k_if_eq X1159 hx (hb hby at_388) (pn := 391) rfl (py := 395) (by decide) (fun _ => ?_) (fun hc => absurd (by decide) hc)
     refine k_iconst X1159 hx (hb hby at_395) (pc' := 396) rfl (z := (0 : Int32)) rfl ?_
     exfalso
     have := rng32 v574
     have : (0 : Int32).toInt = 0 := (by decide)
     have q1191 := hP575.1; rw [Int32.lt_iff_toInt_lt] at q1191
     have : (536870911 : Int32).toInt = 536870911 := (by decide)
     have q1192 := hP575.2; rw [Int32.lt_iff_toInt_lt] at q1192
     have := rng32 v582
     have q1194 := hP583.1; rw [Int32.lt_iff_toInt_lt] at q1194
     have q1195 := hP583.2; rw [Int32.lt_iff_toInt_lt] at q1195
     have := rng32 v590
     have q1197 := hP591.1; rw [Int32.lt_iff_toInt_lt] at q1197
     have q1198 := hP591.2; rw [Int32.lt_iff_toInt_lt] at q1198
     have := rng32 v598
     have q1200 := hP599.1; rw [Int32.lt_iff_toInt_lt] at q1200
     have q1201 := hP599.2; rw [Int32.lt_iff_toInt_lt] at q1201
     have := rng32 v604
     have := rng32 v603
     have := rng32 v602
     have := rng32 v601
     have : (1 : Int32).toInt = 1 := (by decide)
     have q1202 : (v601.toInt - (v574.toInt + (1 : Int32).toInt)) % 4294967296 = 0 := (by rw [hv601]; exact c_iadd _ _)
     have q1203 : (v602.toInt - (v601.toInt + v582.toInt)) % 4294967296 = 0 := (by rw [hv602]; exact c_iadd _ _)
     have q1204 : (v603.toInt - (v602.toInt + (1 : Int32).toInt)) % 4294967296 = 0 := (by rw [hv603]; exact c_iadd _ _)
     have q1205 : (v604.toInt - (v603.toInt + v590.toInt)) % 4294967296 = 0 := (by rw [hv604]; exact c_iadd _ _)
     have := rng32 v654
     have := rng32 v653
     have := rng32 v606
     have := rng32 v605
     have q1206 : (v605.toInt - (v604.toInt + (1 : Int32).toInt)) % 4294967296 = 0 := (by rw [hv605]; exact c_iadd _ _)
     have q1207 : (v606.toInt - (v605.toInt + v598.toInt)) % 4294967296 = 0 := (by rw [hv606]; exact c_iadd _ _)
     have : (3 : Int32).toInt = 3 := (by decide)
     have q1208 : (v653.toInt - (v606.toInt - (3 : Int32).toInt)) % 4294967296 = 0 := (by rw [h658]; exact c_isub _ _)
     have : (2 : Int32).toInt = 2 := (by decide)
     have q1209 : (v654.toInt - (v653.toInt + (2 : Int32).toInt)) % 4294967296 = 0 := (by rw [h659]; exact c_iadd _ _)
     have q1210 := congrArg Int32.toInt hc663
     have := rng32 v655
     have q1211 : (v655.toInt - (v653.toInt + (1 : Int32).toInt)) % 4294967296 = 0 := (by rw [h660]; exact c_iadd _ _)
     have q1212 : ¬ v602.toInt = v655.toInt := fun q => hc664 (Int32.toInt_inj.mp q)
     have q1213 : ¬ v598.toInt = (0 : Int32).toInt := fun q => hc941 (Int32.toInt_inj.mp q)
     have q1214 := congrArg Int32.toInt hc1161
     have := rng32 v657
     have q1215 : (v657.toInt - (v603.toInt + (1 : Int32).toInt)) % 4294967296 = 0 := (by rw [h662]; exact c_iadd _ _)
     have := rng32 v1157
     have := rng32 v1153
     have q1216 : (v1153.toInt - (v590.toInt + (1 : Int32).toInt)) % 4294967296 = 0 := (by rw [hv1153]; exact c_iadd _ _)
     have q1217 : (v1157.toInt - (v603.toInt + v1153.toInt)) % 4294967296 = 0 := (by rw [hv1157]; exact c_iadd _ _)
     have q1218 : ¬ v657.toInt = v1157.toInt := fun q => hc1162 (Int32.toInt_inj.mp q)
     omega
    ·
     show KEnds p e below s _ _ _ T1159 (mkF m 388 #[.val (.int i0), .val (.int i1), .val (.int i2), .val (.int i3), .val (.int i4), .val (.int (3 : Int32)), .val (.ref b568), .val (.int v574), .val (.int v602), .val (.int v604), .val (.int v606), .val (.ref b614), .val (.int (1 : Int32)), .val (.int (3 : Int32)), .val (.int v598), .val (.int v574), .val (.int v602), .val (.int v1157)] [(.int (1 : Int32))])
     refine k_if_eq X1159 hx (hb hby at_388) (pn := 391) rfl (py := 395) (by decide) (fun hc => absurd hc (by decide)) (fun _ => ?_)
     refine k_iconst X1159 hx (hb hby at_391) (pc' := 392) rfl (z := (1 : Int32)) rfl ?_
     refine k_goto X1159 hx (hb hby at_392) (pc' := 396) (by decide) ?_
     exact k_retN X1159 hx (t := .boolean) Bd.returns (by simp) (hb hby at_396) hlk (by decide) (by decide) (z' := (1 : Int32)) rfl ⟨rfl, N1159'⟩
  ·
   have hh1219 : v601 = v671 := hv601.trans h677.symm
   subst hh1219
   show KEnds p e below s _ _ _ T642 (mkF m 204 #[.val (.int i0), .val (.int i1), .val (.int i2), .val (.int i3), .val (.int i4), .val (.int (3 : Int32)), .val (.ref b568), .val (.int v574), .val (.int v602), .val (.int v604), .val (.int v606), .val (.ref b614), .unset, .unset, .unset, .unset, .unset, .unset] [(.int (1 : Int32))])
   refine k_istore X642 hx (hb hby at_204) (Ls' := #[.val (.int i0), .val (.int i1), .val (.int i2), .val (.int i3), .val (.int i4), .val (.int (3 : Int32)), .val (.ref b568), .val (.int v574), .val (.int v602), .val (.int v604), .val (.int v606), .val (.ref b614), .val (.int (1 : Int32)), .unset, .unset, .unset, .unset, .unset]) rfl (pc' := 206) rfl ?_
   refine k_iload X642 hx (hb hby at_206) rfl (pc' := 208) rfl ?_
   refine k_iconst X642 hx (hb hby at_208) (pc' := 209) rfl (z := (3 : Int32)) rfl ?_
   refine k_icmp_lt X642 hx (hb hby at_209) (pn := 212) rfl (py := 225) (by decide) (fun hc => absurd hc (by decide)) (fun _ => ?_)
   refine k_aload X642 hx (hb hby at_212) rfl rfl (pc' := 214) rfl ?_
   refine k_iconst X642 hx (hb hby at_214) (pc' := 215) rfl (z := (3 : Int32)) rfl ?_
   refine k_iaload X642 hx hZ rfl F683 ⟨by decide, by decide⟩ (v := (.int v598)) rfl (hb hby at_215) (pc' := 216) rfl ?_
   refine k_if_eq X642 hx (hb hby at_216) (pn := 219) rfl (py := 225) (by decide) (fun hc1220 => ?_) (fun hc1220 => ?_)
   ·
    refine k_iload X642 hx (hb hby at_225) rfl (pc' := 227) rfl ?_
    refine k_iconst X642 hx (hb hby at_227) (pc' := 228) rfl (z := (2 : Int32)) rfl ?_
    refine k_icmp_lt X642 hx (hb hby at_228) (pn := 231) rfl (py := 244) (by decide) (fun hc => absurd hc (by decide)) (fun _ => ?_)
    refine k_aload X642 hx (hb hby at_231) rfl rfl (pc' := 233) rfl ?_
    refine k_iconst X642 hx (hb hby at_233) (pc' := 234) rfl (z := (2 : Int32)) rfl ?_
    refine k_iaload X642 hx hZ rfl F683 ⟨by decide, by decide⟩ (v := (.int v590)) rfl (hb hby at_234) (pc' := 235) rfl ?_
    refine k_if_eq X642 hx (hb hby at_235) (pn := 238) rfl (py := 244) (by decide) (fun hc1221 => ?_) (fun hc1221 => ?_)
    ·
     refine k_iload X642 hx (hb hby at_244) rfl (pc' := 246) rfl ?_
     refine k_iconst X642 hx (hb hby at_246) (pc' := 247) rfl (z := (1 : Int32)) rfl ?_
     refine k_icmp_lt X642 hx (hb hby at_247) (pn := 250) rfl (py := 263) (by decide) (fun hc => absurd hc (by decide)) (fun _ => ?_)
     refine k_aload X642 hx (hb hby at_250) rfl rfl (pc' := 252) rfl ?_
     refine k_iconst X642 hx (hb hby at_252) (pc' := 253) rfl (z := (1 : Int32)) rfl ?_
     refine k_iaload X642 hx hZ rfl F683 ⟨by decide, by decide⟩ (v := (.int v582)) rfl (hb hby at_253) (pc' := 254) rfl ?_
     refine k_if_eq X642 hx (hb hby at_254) (pn := 257) rfl (py := 263) (by decide) (fun hc1222 => ?_) (fun hc1222 => ?_)
     ·
      refine k_iconst X642 hx (hb hby at_263) (pc' := 264) rfl (z := (0 : Int32)) rfl ?_
      refine k_istore X642 hx (hb hby at_264) (Ls' := #[.val (.int i0), .val (.int i1), .val (.int i2), .val (.int i3), .val (.int i4), .val (.int (3 : Int32)), .val (.ref b568), .val (.int v574), .val (.int v602), .val (.int v604), .val (.int v606), .val (.ref b614), .val (.int (1 : Int32)), .val (.int (0 : Int32)), .unset, .unset, .unset, .unset]) rfl (pc' := 266) rfl ?_
      refine k_iload X642 hx (hb hby at_266) rfl (pc' := 268) rfl ?_
      refine k_if_ne X642 hx (hb hby at_268) (pn := 271) rfl (py := 298) (by decide) (fun hc => absurd (by decide) hc) (fun _ => ?_)
      refine k_iload X642 hx (hb hby at_271) rfl (pc' := 273) rfl ?_
      refine k_if_ne X642 hx (hb hby at_273) (pn := 276) rfl (py := 296) (by decide) (fun _ => ?_) (fun hc => absurd hc (by decide))
      refine k_iconst X642 hx (hb hby at_296) (pc' := 297) rfl (z := (0 : Int32)) rfl ?_
      exfalso
      have := rng32 v574
      have : (0 : Int32).toInt = 0 := (by decide)
      have q1224 := hP575.1; rw [Int32.lt_iff_toInt_lt] at q1224
      have : (536870911 : Int32).toInt = 536870911 := (by decide)
      have q1225 := hP575.2; rw [Int32.lt_iff_toInt_lt] at q1225
      have := rng32 v582
      have q1227 := hP583.1; rw [Int32.lt_iff_toInt_lt] at q1227
      have q1228 := hP583.2; rw [Int32.lt_iff_toInt_lt] at q1228
      have := rng32 v590
      have q1230 := hP591.1; rw [Int32.lt_iff_toInt_lt] at q1230
      have q1231 := hP591.2; rw [Int32.lt_iff_toInt_lt] at q1231
      have := rng32 v598
      have q1233 := hP599.1; rw [Int32.lt_iff_toInt_lt] at q1233
      have q1234 := hP599.2; rw [Int32.lt_iff_toInt_lt] at q1234
      have := rng32 v604
      have := rng32 v603
      have := rng32 v602
      have := rng32 v601
      have : (1 : Int32).toInt = 1 := (by decide)
      have q1235 : (v601.toInt - (v574.toInt + (1 : Int32).toInt)) % 4294967296 = 0 := (by rw [hv601]; exact c_iadd _ _)
      have q1236 : (v602.toInt - (v601.toInt + v582.toInt)) % 4294967296 = 0 := (by rw [hv602]; exact c_iadd _ _)
      have q1237 : (v603.toInt - (v602.toInt + (1 : Int32).toInt)) % 4294967296 = 0 := (by rw [hv603]; exact c_iadd _ _)
      have q1238 : (v604.toInt - (v603.toInt + v590.toInt)) % 4294967296 = 0 := (by rw [hv604]; exact c_iadd _ _)
      have := rng32 v669
      have := rng32 v668
      have := rng32 v606
      have := rng32 v605
      have q1239 : (v605.toInt - (v604.toInt + (1 : Int32).toInt)) % 4294967296 = 0 := (by rw [hv605]; exact c_iadd _ _)
      have q1240 : (v606.toInt - (v605.toInt + v598.toInt)) % 4294967296 = 0 := (by rw [hv606]; exact c_iadd _ _)
      have : (3 : Int32).toInt = 3 := (by decide)
      have q1241 : (v668.toInt - (v606.toInt - (3 : Int32).toInt)) % 4294967296 = 0 := (by rw [h674]; exact c_isub _ _)
      have : (2 : Int32).toInt = 2 := (by decide)
      have q1242 : (v669.toInt - (v668.toInt + (2 : Int32).toInt)) % 4294967296 = 0 := (by rw [h675]; exact c_iadd _ _)
      have q1243 := congrArg Int32.toInt hc680
      have := rng32 v670
      have q1244 : (v670.toInt - (v668.toInt + (1 : Int32).toInt)) % 4294967296 = 0 := (by rw [h676]; exact c_iadd _ _)
      have q1245 := congrArg Int32.toInt hc681
      have q1246 : ¬ v574.toInt = v668.toInt := fun q => hc682 (Int32.toInt_inj.mp q)
      have q1247 := congrArg Int32.toInt hc1220
      have q1248 := congrArg Int32.toInt hc1221
      have q1249 := congrArg Int32.toInt hc1222
      omega
     ·
      refine k_iconst X642 hx (hb hby at_257) (pc' := 258) rfl (z := (1 : Int32)) rfl ?_
      refine k_istore X642 hx (hb hby at_258) (Ls' := #[.val (.int i0), .val (.int i1), .val (.int i2), .val (.int i3), .val (.int i4), .val (.int (3 : Int32)), .val (.ref b568), .val (.int v574), .val (.int v602), .val (.int v604), .val (.int v606), .val (.ref b614), .val (.int (1 : Int32)), .val (.int (1 : Int32)), .unset, .unset, .unset, .unset]) rfl (pc' := 260) rfl ?_
      refine k_goto X642 hx (hb hby at_260) (pc' := 266) (by decide) ?_
      refine k_iload X642 hx (hb hby at_266) rfl (pc' := 268) rfl ?_
      refine k_if_ne X642 hx (hb hby at_268) (pn := 271) rfl (py := 298) (by decide) (fun _ => ?_) (fun hc => absurd hc (by decide))
      refine k_aload X642 hx (hb hby at_298) rfl rfl (pc' := 300) rfl ?_
      refine k_iload X642 hx (hb hby at_300) rfl (pc' := 302) rfl ?_
      refine k_iaload X642 hx hZ rfl F683 ⟨by decide, by decide⟩ (v := (.int v582)) rfl (hb hby at_302) (pc' := 303) rfl ?_
      refine k_istore X642 hx (hb hby at_303) (Ls' := #[.val (.int i0), .val (.int i1), .val (.int i2), .val (.int i3), .val (.int i4), .val (.int (3 : Int32)), .val (.ref b568), .val (.int v574), .val (.int v602), .val (.int v604), .val (.int v606), .val (.ref b614), .val (.int (1 : Int32)), .val (.int (1 : Int32)), .val (.int v582), .unset, .unset, .unset]) rfl (pc' := 305) rfl ?_
      refine k_aload X642 hx (hb hby at_305) rfl rfl (pc' := 307) rfl ?_
      refine k_iload X642 hx (hb hby at_307) rfl (pc' := 309) rfl ?_
      refine k_iconst X642 hx (hb hby at_309) (pc' := 310) rfl (z := (0 : Int32)) rfl ?_
      refine k_iastore X642 hx hZ rfl F683 ⟨by decide, by decide⟩ (i := 1) rfl (Nat.le_of_ble_eq_true rfl) (hb hby at_310) (pc' := 311) rfl (fun T1250 h1250 X1250 e1250 W1250 V1250 => ?_)
      have Vw1250 : Arv Z h1250 b568 k568 .int (4 : Int32) [(.int v574), (.int (0 : Int32)), (.int v590), (.int v598)] (.int (0 : Int32)) := V1250
      have N1250 := Fr.snoc X1250 N642' g_b568
      have Z1250 : n0 ≤ h1250.size := Nat.le_trans Z685 (Nat.le_of_eq W1250.size.symm)
      refine k_aload X1250 hx (hb hby at_311) rfl rfl (pc' := 313) rfl ?_
      refine k_iload X1250 hx (hb hby at_313) rfl (pc' := 315) rfl ?_
      refine k_iconst X1250 hx (hb hby at_315) (pc' := 316) rfl (z := (1 : Int32)) rfl ?_
      refine k_isubL X1250 hx (hb hby at_316) (pc' := 317) rfl (z := (0 : Int32)) (by decide) ?_
      refine k_aload X1250 hx (hb hby at_317) rfl rfl (pc' := 319) rfl ?_
      refine k_iload X1250 hx (hb hby at_319) rfl (pc' := 321) rfl ?_
      refine k_iconst X1250 hx (hb hby at_321) (pc' := 322) rfl (z := (1 : Int32)) rfl ?_
      refine k_isubL X1250 hx (hb hby at_322) (pc' := 323) rfl (z := (0 : Int32)) (by decide) ?_
      refine k_iaload X1250 hx hZ e1250 Vw1250 ⟨by decide, by decide⟩ (v := (.int v574)) rfl (hb hby at_323) (pc' := 324) rfl ?_
      refine k_iconst X1250 hx (hb hby at_324) (pc' := 325) rfl (z := (1 : Int32)) rfl ?_
      refine k_iaddL X1250 hx (hb hby at_325) (pc' := 326) rfl (z := v601) hv601.symm ?_
      refine k_iastore X1250 hx hZ e1250 Vw1250 ⟨by decide, by decide⟩ (i := 0) rfl (Nat.le_of_ble_eq_true rfl) (hb hby at_326) (pc' := 327) rfl (fun T1251 h1251 X1251 e1251 W1251 V1251 => ?_)
      have Vw1251 : Arv Z h1251 b568 k568 .int (4 : Int32) [(.int v601), (.int (0 : Int32)), (.int v590), (.int v598)] (.int (0 : Int32)) := V1251
      have N1251 := Fr.snoc X1251 N1250 g_b568
      have Z1251 : n0 ≤ h1251.size := Nat.le_trans Z1250 (Nat.le_of_eq W1251.size.symm)
      refine k_aload X1251 hx (hb hby at_327) rfl rfl (pc' := 329) rfl ?_
      refine k_iload X1251 hx (hb hby at_329) rfl (pc' := 331) rfl ?_
      refine k_aload X1251 hx (hb hby at_331) rfl rfl (pc' := 333) rfl ?_
      refine k_iload X1251 hx (hb hby at_333) rfl (pc' := 335) rfl ?_
      refine k_iaload X1251 hx hZ e1251 Vw1251 ⟨by decide, by decide⟩ (v := (.int v598)) rfl (hb hby at_335) (pc' := 336) rfl ?_
      refine k_iload X1251 hx (hb hby at_336) rfl (pc' := 338) rfl ?_
      refine k_iadd X1251 hx (hb hby at_338) (pc' := 339) rfl (fun v1252 hv1252 => ?_)
      refine k_iconst X1251 hx (hb hby at_339) (pc' := 340) rfl (z := (1 : Int32)) rfl ?_
      refine k_isub X1251 hx (hb hby at_340) (pc' := 341) rfl (fun v1253 hv1253 => ?_)
      refine k_iastore X1251 hx hZ e1251 Vw1251 ⟨by decide, by decide⟩ (i := 3) rfl (Nat.le_of_ble_eq_true rfl) (hb hby at_341) (pc' := 342) rfl (fun T1254 h1254 X1254 e1254 W1254 V1254 => ?_)
      have Vw1254 : Arv Z h1254 b568 k568 .int (4 : Int32) [(.int v601), (.int (0 : Int32)), (.int v590), (.int v1253)] (.int (0 : Int32)) := V1254
      have N1254 := Fr.snoc X1254 N1251 g_b568
      have Z1254 : n0 ≤ h1254.size := Nat.le_trans Z1251 (Nat.le_of_eq W1254.size.symm)
      refine k_aload X1254 hx (hb hby at_342) rfl rfl (pc' := 344) rfl ?_
      refine k_iconst X1254 hx (hb hby at_344) (pc' := 345) rfl (z := (0 : Int32)) rfl ?_
      refine k_iaload X1254 hx hZ e1254 Vw1254 ⟨by decide, by decide⟩ (v := (.int v601)) rfl (hb hby at_345) (pc' := 346) rfl ?_
      refine k_istore X1254 hx (hb hby at_346) (Ls' := #[.val (.int i0), .val (.int i1), .val (.int i2), .val (.int i3), .val (.int i4), .val (.int (3 : Int32)), .val (.ref b568), .val (.int v574), .val (.int v602), .val (.int v604), .val (.int v606), .val (.ref b614), .val (.int (1 : Int32)), .val (.int (1 : Int32)), .val (.int v582), .val (.int v601), .unset, .unset]) rfl (pc' := 348) rfl ?_
      refine k_iload X1254 hx (hb hby at_348) rfl (pc' := 350) rfl ?_
      refine k_iconst X1254 hx (hb hby at_350) (pc' := 351) rfl (z := (1 : Int32)) rfl ?_
      refine k_iaddL X1254 hx (hb hby at_351) (pc' := 352) rfl (z := v672) h678.symm ?_
      refine k_aload X1254 hx (hb hby at_352) rfl rfl (pc' := 354) rfl ?_
      refine k_iconst X1254 hx (hb hby at_354) (pc' := 355) rfl (z := (1 : Int32)) rfl ?_
      refine k_iaload X1254 hx hZ e1254 Vw1254 ⟨by decide, by decide⟩ (v := (.int (0 : Int32))) rfl (hb hby at_355) (pc' := 356) rfl ?_
      refine k_iaddL X1254 hx (hb hby at_356) (pc' := 357) rfl (z := v672) (Int32.add_zero _) ?_
      refine k_istore X1254 hx (hb hby at_357) (Ls' := #[.val (.int i0), .val (.int i1), .val (.int i2), .val (.int i3), .val (.int i4), .val (.int (3 : Int32)), .val (.ref b568), .val (.int v574), .val (.int v602), .val (.int v604), .val (.int v606), .val (.ref b614), .val (.int (1 : Int32)), .val (.int (1 : Int32)), .val (.int v582), .val (.int v601), .val (.int v672), .unset]) rfl (pc' := 359) rfl ?_
      refine k_iload X1254 hx (hb hby at_359) rfl (pc' := 361) rfl ?_
      refine k_iconst X1254 hx (hb hby at_361) (pc' := 362) rfl (z := (1 : Int32)) rfl ?_
      refine k_iaddL X1254 hx (hb hby at_362) (pc' := 363) rfl (z := v673) h679.symm ?_
      refine k_aload X1254 hx (hb hby at_363) rfl rfl (pc' := 365) rfl ?_
      refine k_iconst X1254 hx (hb hby at_365) (pc' := 366) rfl (z := (2 : Int32)) rfl ?_
      refine k_iaload X1254 hx hZ e1254 Vw1254 ⟨by decide, by decide⟩ (v := (.int v590)) rfl (hb hby at_366) (pc' := 367) rfl ?_
      refine k_iadd X1254 hx (hb hby at_367) (pc' := 368) rfl (fun v1255 hv1255 => ?_)
      refine k_istore X1254 hx (hb hby at_368) (Ls' := #[.val (.int i0), .val (.int i1), .val (.int i2), .val (.int i3), .val (.int i4), .val (.int (3 : Int32)), .val (.ref b568), .val (.int v574), .val (.int v602), .val (.int v604), .val (.int v606), .val (.ref b614), .val (.int (1 : Int32)), .val (.int (1 : Int32)), .val (.int v582), .val (.int v601), .val (.int v672), .val (.int v1255)]) rfl (pc' := 370) rfl ?_
      refine k_iload X1254 hx (hb hby at_370) rfl (pc' := 372) rfl ?_
      refine k_if_eq X1254 hx (hb hby at_372) (pn := 375) rfl (py := 395) (by decide) (fun hc => absurd hc (by decide)) (fun _ => ?_)
      refine k_aload X1254 hx (hb hby at_375) rfl rfl (pc' := 377) rfl ?_
      refine k_iload X1254 hx (hb hby at_377) rfl (pc' := 379) rfl ?_
      refine k_iload X1254 hx (hb hby at_379) rfl (pc' := 381) rfl ?_
      refine k_iload X1254 hx (hb hby at_381) rfl (pc' := 383) rfl ?_
      refine k_iload X1254 hx (hb hby at_383) rfl (pc' := 385) rfl ?_
      have F1256 := (((F684.other W1250 (Ne.symm (Nat.ne_of_lt lt618))).other W1251 (Ne.symm (Nat.ne_of_lt lt618))).other W1254 (Ne.symm (Nat.ne_of_lt lt618)))
      refine k_callS X1254 hx hZ hown (hw _ (List.mem_of_getElem? (i := 10) rfl)) (hw _ (List.mem_of_getElem? (i := 11) rfl)) (hw _ (List.mem_of_getElem? (i := 4) rfl)) (hw _ (List.mem_of_getElem? (i := 12) rfl)) (by decide) (rm3_910 l Z a0 hw [] b614 v601 v672 v1255 k615 v673 h1254 n0 Z1254 F1256) (by decide) (by decide) e1254 (by rw [hml]; rfl) (argsL := [(.ref b614), (.int (3 : Int32)), (.int v601), (.int v672), (.int v1255)]) (rest := []) (lenOf pd_2 rfl) rfl (W := 0) (Nat.le_refl _) rfl (hb hby at_385) (by decide) (by decide) (pc' := 388) rfl (fun T1257 L1257 r1257 X1257 q1257 => ?_)
      obtain ⟨N1257, e1257, q1257⟩ := q1257
      have N1257' := Fr.app N1254 N1257
      rcases q1257 with ⟨hc1258, rfl⟩ | ⟨hc1259, rfl⟩
      ·
       show KEnds p e below s _ _ _ T1257 (mkF m 388 #[.val (.int i0), .val (.int i1), .val (.int i2), .val (.int i3), .val (.int i4), .val (.int (3 : Int32)), .val (.ref b568), .val (.int v574), .val (.int v602), .val (.int v604), .val (.int v606), .val (.ref b614), .val (.int (1 : Int32)), .val (.int (1 : Int32)), .val (.int v582), .val (.int v601), .val (.int v672), .val (.int v1255)] [(.int (0 : Int32))])
       refine k_if_eq X1257 hx (hb hby at_388) (pn := 391) rfl (py := 395) (by decide) (fun _ => ?_) (fun hc => absurd (by decide) hc)
       refine k_iconst X1257 hx (hb hby at_395) (pc' := 396) rfl (z := (0 : Int32)) rfl ?_
       exfalso
       have := rng32 v574
       have : (0 : Int32).toInt = 0 := (by decide)
       have q1261 := hP575.1; rw [Int32.lt_iff_toInt_lt] at q1261
       have : (536870911 : Int32).toInt = 536870911 := (by decide)
       have q1262 := hP575.2; rw [Int32.lt_iff_toInt_lt] at q1262
       have := rng32 v582
       have q1264 := hP583.1; rw [Int32.lt_iff_toInt_lt] at q1264
       have q1265 := hP583.2; rw [Int32.lt_iff_toInt_lt] at q1265
       have := rng32 v590
       have q1267 := hP591.1; rw [Int32.lt_iff_toInt_lt] at q1267
       have q1268 := hP591.2; rw [Int32.lt_iff_toInt_lt] at q1268
       have := rng32 v598
       have q1270 := hP599.1; rw [Int32.lt_iff_toInt_lt] at q1270
       have q1271 := hP599.2; rw [Int32.lt_iff_toInt_lt] at q1271
       have := rng32 v604
       have := rng32 v603
       have := rng32 v602
       have := rng32 v601
       have : (1 : Int32).toInt = 1 := (by decide)
       have q1272 : (v601.toInt - (v574.toInt + (1 : Int32).toInt)) % 4294967296 = 0 := (by rw [hv601]; exact c_iadd _ _)
       have q1273 : (v602.toInt - (v601.toInt + v582.toInt)) % 4294967296 = 0 := (by rw [hv602]; exact c_iadd _ _)
       have q1274 : (v603.toInt - (v602.toInt + (1 : Int32).toInt)) % 4294967296 = 0 := (by rw [hv603]; exact c_iadd _ _)
       have q1275 : (v604.toInt - (v603.toInt + v590.toInt)) % 4294967296 = 0 := (by rw [hv604]; exact c_iadd _ _)
       have := rng32 v669
       have := rng32 v668
       have := rng32 v606
       have := rng32 v605
       have q1276 : (v605.toInt - (v604.toInt + (1 : Int32).toInt)) % 4294967296 = 0 := (by rw [hv605]; exact c_iadd _ _)
       have q1277 : (v606.toInt - (v605.toInt + v598.toInt)) % 4294967296 = 0 := (by rw [hv606]; exact c_iadd _ _)
       have : (3 : Int32).toInt = 3 := (by decide)
       have q1278 : (v668.toInt - (v606.toInt - (3 : Int32).toInt)) % 4294967296 = 0 := (by rw [h674]; exact c_isub _ _)
       have : (2 : Int32).toInt = 2 := (by decide)
       have q1279 : (v669.toInt - (v668.toInt + (2 : Int32).toInt)) % 4294967296 = 0 := (by rw [h675]; exact c_iadd _ _)
       have q1280 := congrArg Int32.toInt hc680
       have := rng32 v670
       have q1281 : (v670.toInt - (v668.toInt + (1 : Int32).toInt)) % 4294967296 = 0 := (by rw [h676]; exact c_iadd _ _)
       have q1282 := congrArg Int32.toInt hc681
       have q1283 : ¬ v574.toInt = v668.toInt := fun q => hc682 (Int32.toInt_inj.mp q)
       have q1284 := congrArg Int32.toInt hc1220
       have q1285 := congrArg Int32.toInt hc1221
       have q1286 : ¬ v582.toInt = (0 : Int32).toInt := fun q => hc1222 (Int32.toInt_inj.mp q)
       have := rng32 v673
       have := rng32 v672
       have q1287 : (v672.toInt - (v601.toInt + (1 : Int32).toInt)) % 4294967296 = 0 := (by rw [h678]; exact c_iadd _ _)
       have q1288 : (v673.toInt - (v672.toInt + (1 : Int32).toInt)) % 4294967296 = 0 := (by rw [h679]; exact c_iadd _ _)
       have := rng32 v1255
       have q1289 : (v1255.toInt - (v673.toInt + v590.toInt)) % 4294967296 = 0 := (by rw [hv1255]; exact c_iadd _ _)
       have q1290 : ¬ v673.toInt = v1255.toInt := fun q => hc1258 (Int32.toInt_inj.mp q)
       omega
      ·
       show KEnds p e below s _ _ _ T1257 (mkF m 388 #[.val (.int i0), .val (.int i1), .val (.int i2), .val (.int i3), .val (.int i4), .val (.int (3 : Int32)), .val (.ref b568), .val (.int v574), .val (.int v602), .val (.int v604), .val (.int v606), .val (.ref b614), .val (.int (1 : Int32)), .val (.int (1 : Int32)), .val (.int v582), .val (.int v601), .val (.int v672), .val (.int v1255)] [(.int (1 : Int32))])
       refine k_if_eq X1257 hx (hb hby at_388) (pn := 391) rfl (py := 395) (by decide) (fun hc => absurd hc (by decide)) (fun _ => ?_)
       refine k_iconst X1257 hx (hb hby at_391) (pc' := 392) rfl (z := (1 : Int32)) rfl ?_
       refine k_goto X1257 hx (hb hby at_392) (pc' := 396) (by decide) ?_
       exact k_retN X1257 hx (t := .boolean) Bd.returns (by simp) (hb hby at_396) hlk (by decide) (by decide) (z' := (1 : Int32)) rfl ⟨rfl, N1257'⟩
    ·
     refine k_iconst X642 hx (hb hby at_238) (pc' := 239) rfl (z := (2 : Int32)) rfl ?_
     refine k_istore X642 hx (hb hby at_239) (Ls' := #[.val (.int i0), .val (.int i1), .val (.int i2), .val (.int i3), .val (.int i4), .val (.int (3 : Int32)), .val (.ref b568), .val (.int v574), .val (.int v602), .val (.int v604), .val (.int v606), .val (.ref b614), .val (.int (1 : Int32)), .val (.int (2 : Int32)), .unset, .unset, .unset, .unset]) rfl (pc' := 241) rfl ?_
     refine k_goto X642 hx (hb hby at_241) (pc' := 266) (by decide) ?_
     refine k_iload X642 hx (hb hby at_266) rfl (pc' := 268) rfl ?_
     refine k_if_ne X642 hx (hb hby at_268) (pn := 271) rfl (py := 298) (by decide) (fun _ => ?_) (fun hc => absurd hc (by decide))
     refine k_aload X642 hx (hb hby at_298) rfl rfl (pc' := 300) rfl ?_
     refine k_iload X642 hx (hb hby at_300) rfl (pc' := 302) rfl ?_
     refine k_iaload X642 hx hZ rfl F683 ⟨by decide, by decide⟩ (v := (.int v590)) rfl (hb hby at_302) (pc' := 303) rfl ?_
     refine k_istore X642 hx (hb hby at_303) (Ls' := #[.val (.int i0), .val (.int i1), .val (.int i2), .val (.int i3), .val (.int i4), .val (.int (3 : Int32)), .val (.ref b568), .val (.int v574), .val (.int v602), .val (.int v604), .val (.int v606), .val (.ref b614), .val (.int (1 : Int32)), .val (.int (2 : Int32)), .val (.int v590), .unset, .unset, .unset]) rfl (pc' := 305) rfl ?_
     refine k_aload X642 hx (hb hby at_305) rfl rfl (pc' := 307) rfl ?_
     refine k_iload X642 hx (hb hby at_307) rfl (pc' := 309) rfl ?_
     refine k_iconst X642 hx (hb hby at_309) (pc' := 310) rfl (z := (0 : Int32)) rfl ?_
     refine k_iastore X642 hx hZ rfl F683 ⟨by decide, by decide⟩ (i := 2) rfl (Nat.le_of_ble_eq_true rfl) (hb hby at_310) (pc' := 311) rfl (fun T1291 h1291 X1291 e1291 W1291 V1291 => ?_)
     have Vw1291 : Arv Z h1291 b568 k568 .int (4 : Int32) [(.int v574), (.int v582), (.int (0 : Int32)), (.int v598)] (.int (0 : Int32)) := V1291
     have N1291 := Fr.snoc X1291 N642' g_b568
     have Z1291 : n0 ≤ h1291.size := Nat.le_trans Z685 (Nat.le_of_eq W1291.size.symm)
     refine k_aload X1291 hx (hb hby at_311) rfl rfl (pc' := 313) rfl ?_
     refine k_iload X1291 hx (hb hby at_313) rfl (pc' := 315) rfl ?_
     refine k_iconst X1291 hx (hb hby at_315) (pc' := 316) rfl (z := (1 : Int32)) rfl ?_
     refine k_isubL X1291 hx (hb hby at_316) (pc' := 317) rfl (z := (1 : Int32)) (by decide) ?_
     refine k_aload X1291 hx (hb hby at_317) rfl rfl (pc' := 319) rfl ?_
     refine k_iload X1291 hx (hb hby at_319) rfl (pc' := 321) rfl ?_
     refine k_iconst X1291 hx (hb hby at_321) (pc' := 322) rfl (z := (1 : Int32)) rfl ?_
     refine k_isubL X1291 hx (hb hby at_322) (pc' := 323) rfl (z := (1 : Int32)) (by decide) ?_
     refine k_iaload X1291 hx hZ e1291 Vw1291 ⟨by decide, by decide⟩ (v := (.int v582)) rfl (hb hby at_323) (pc' := 324) rfl ?_
     refine k_iconst X1291 hx (hb hby at_324) (pc' := 325) rfl (z := (1 : Int32)) rfl ?_
     refine k_iadd X1291 hx (hb hby at_325) (pc' := 326) rfl (fun v1292 hv1292 => ?_)
     refine k_iastore X1291 hx hZ e1291 Vw1291 ⟨by decide, by decide⟩ (i := 1) rfl (Nat.le_of_ble_eq_true rfl) (hb hby at_326) (pc' := 327) rfl (fun T1293 h1293 X1293 e1293 W1293 V1293 => ?_)
     have Vw1293 : Arv Z h1293 b568 k568 .int (4 : Int32) [(.int v574), (.int v1292), (.int (0 : Int32)), (.int v598)] (.int (0 : Int32)) := V1293
     have N1293 := Fr.snoc X1293 N1291 g_b568
     have Z1293 : n0 ≤ h1293.size := Nat.le_trans Z1291 (Nat.le_of_eq W1293.size.symm)
     refine k_aload X1293 hx (hb hby at_327) rfl rfl (pc' := 329) rfl ?_
     refine k_iload X1293 hx (hb hby at_329) rfl (pc' := 331) rfl ?_
     refine k_aload X1293 hx (hb hby at_331) rfl rfl (pc' := 333) rfl ?_
     refine k_iload X1293 hx (hb hby at_333) rfl (pc' := 335) rfl ?_
     refine k_iaload X1293 hx hZ e1293 Vw1293 ⟨by decide, by decide⟩ (v := (.int v598)) rfl (hb hby at_335) (pc' := 336) rfl ?_
     refine k_iload X1293 hx (hb hby at_336) rfl (pc' := 338) rfl ?_
     refine k_iadd X1293 hx (hb hby at_338) (pc' := 339) rfl (fun v1294 hv1294 => ?_)
     refine k_iconst X1293 hx (hb hby at_339) (pc' := 340) rfl (z := (1 : Int32)) rfl ?_
     refine k_isub X1293 hx (hb hby at_340) (pc' := 341) rfl (fun v1295 hv1295 => ?_)
     refine k_iastore X1293 hx hZ e1293 Vw1293 ⟨by decide, by decide⟩ (i := 3) rfl (Nat.le_of_ble_eq_true rfl) (hb hby at_341) (pc' := 342) rfl (fun T1296 h1296 X1296 e1296 W1296 V1296 => ?_)
     have Vw1296 : Arv Z h1296 b568 k568 .int (4 : Int32) [(.int v574), (.int v1292), (.int (0 : Int32)), (.int v1295)] (.int (0 : Int32)) := V1296
     have N1296 := Fr.snoc X1296 N1293 g_b568
     have Z1296 : n0 ≤ h1296.size := Nat.le_trans Z1293 (Nat.le_of_eq W1296.size.symm)
     refine k_aload X1296 hx (hb hby at_342) rfl rfl (pc' := 344) rfl ?_
     refine k_iconst X1296 hx (hb hby at_344) (pc' := 345) rfl (z := (0 : Int32)) rfl ?_
     refine k_iaload X1296 hx hZ e1296 Vw1296 ⟨by decide, by decide⟩ (v := (.int v574)) rfl (hb hby at_345) (pc' := 346) rfl ?_
     refine k_istore X1296 hx (hb hby at_346) (Ls' := #[.val (.int i0), .val (.int i1), .val (.int i2), .val (.int i3), .val (.int i4), .val (.int (3 : Int32)), .val (.ref b568), .val (.int v574), .val (.int v602), .val (.int v604), .val (.int v606), .val (.ref b614), .val (.int (1 : Int32)), .val (.int (2 : Int32)), .val (.int v590), .val (.int v574), .unset, .unset]) rfl (pc' := 348) rfl ?_
     refine k_iload X1296 hx (hb hby at_348) rfl (pc' := 350) rfl ?_
     refine k_iconst X1296 hx (hb hby at_350) (pc' := 351) rfl (z := (1 : Int32)) rfl ?_
     refine k_iaddL X1296 hx (hb hby at_351) (pc' := 352) rfl (z := v601) hv601.symm ?_
     refine k_aload X1296 hx (hb hby at_352) rfl rfl (pc' := 354) rfl ?_
     refine k_iconst X1296 hx (hb hby at_354) (pc' := 355) rfl (z := (1 : Int32)) rfl ?_
     refine k_iaload X1296 hx hZ e1296 Vw1296 ⟨by decide, by decide⟩ (v := (.int v1292)) rfl (hb hby at_355) (pc' := 356) rfl ?_
     refine k_iadd X1296 hx (hb hby at_356) (pc' := 357) rfl (fun v1297 hv1297 => ?_)
     refine k_istore X1296 hx (hb hby at_357) (Ls' := #[.val (.int i0), .val (.int i1), .val (.int i2), .val (.int i3), .val (.int i4), .val (.int (3 : Int32)), .val (.ref b568), .val (.int v574), .val (.int v602), .val (.int v604), .val (.int v606), .val (.ref b614), .val (.int (1 : Int32)), .val (.int (2 : Int32)), .val (.int v590), .val (.int v574), .val (.int v1297), .unset]) rfl (pc' := 359) rfl ?_
     refine k_iload X1296 hx (hb hby at_359) rfl (pc' := 361) rfl ?_
     refine k_iconst X1296 hx (hb hby at_361) (pc' := 362) rfl (z := (1 : Int32)) rfl ?_
     refine k_iadd X1296 hx (hb hby at_362) (pc' := 363) rfl (fun v1298 hv1298 => ?_)
     refine k_aload X1296 hx (hb hby at_363) rfl rfl (pc' := 365) rfl ?_
     refine k_iconst X1296 hx (hb hby at_365) (pc' := 366) rfl (z := (2 : Int32)) rfl ?_
     refine k_iaload X1296 hx hZ e1296 Vw1296 ⟨by decide, by decide⟩ (v := (.int (0 : Int32))) rfl (hb hby at_366) (pc' := 367) rfl ?_
     refine k_iaddL X1296 hx (hb hby at_367) (pc' := 368) rfl (z := v1298) (Int32.add_zero _) ?_
     refine k_istore X1296 hx (hb hby at_368) (Ls' := #[.val (.int i0), .val (.int i1), .val (.int i2), .val (.int i3), .val (.int i4), .val (.int (3 : Int32)), .val (.ref b568), .val (.int v574), .val (.int v602), .val (.int v604), .val (.int v606), .val (.ref b614), .val (.int (1 : Int32)), .val (.int (2 : Int32)), .val (.int v590), .val (.int v574), .val (.int v1297), .val (.int v1298)]) rfl (pc' := 370) rfl ?_
     refine k_iload X1296 hx (hb hby at_370) rfl (pc' := 372) rfl ?_
     refine k_if_eq X1296 hx (hb hby at_372) (pn := 375) rfl (py := 395) (by decide) (fun hc => absurd hc (by decide)) (fun _ => ?_)
     refine k_aload X1296 hx (hb hby at_375) rfl rfl (pc' := 377) rfl ?_
     refine k_iload X1296 hx (hb hby at_377) rfl (pc' := 379) rfl ?_
     refine k_iload X1296 hx (hb hby at_379) rfl (pc' := 381) rfl ?_
     refine k_iload X1296 hx (hb hby at_381) rfl (pc' := 383) rfl ?_
     refine k_iload X1296 hx (hb hby at_383) rfl (pc' := 385) rfl ?_
     have F1299 := (((F684.other W1291 (Ne.symm (Nat.ne_of_lt lt618))).other W1293 (Ne.symm (Nat.ne_of_lt lt618))).other W1296 (Ne.symm (Nat.ne_of_lt lt618)))
     refine k_callS X1296 hx hZ hown (hw _ (List.mem_of_getElem? (i := 10) rfl)) (hw _ (List.mem_of_getElem? (i := 11) rfl)) (hw _ (List.mem_of_getElem? (i := 4) rfl)) (hw _ (List.mem_of_getElem? (i := 12) rfl)) (by decide) (rm3_735 l Z a0 hw [] b614 v574 v1297 v1298 k615 v601 v672 v673 h1296 n0 Z1296 F1299) (by decide) (by decide) e1296 (by rw [hml]; rfl) (argsL := [(.ref b614), (.int (3 : Int32)), (.int v574), (.int v1297), (.int v1298)]) (rest := []) (lenOf pd_2 rfl) rfl (W := 0) (Nat.le_refl _) rfl (hb hby at_385) (by decide) (by decide) (pc' := 388) rfl (fun T1300 L1300 r1300 X1300 q1300 => ?_)
     obtain ⟨N1300, e1300, q1300⟩ := q1300
     have N1300' := Fr.app N1296 N1300
     rcases q1300 with ⟨hc1301, rfl⟩ | ⟨hc1302, hc1303, rfl⟩ | ⟨hc1304, hc1305, hc1306, rfl⟩ | ⟨hc1307, hc1308, hc1309, rfl⟩
     ·
      show KEnds p e below s _ _ _ T1300 (mkF m 388 #[.val (.int i0), .val (.int i1), .val (.int i2), .val (.int i3), .val (.int i4), .val (.int (3 : Int32)), .val (.ref b568), .val (.int v574), .val (.int v602), .val (.int v604), .val (.int v606), .val (.ref b614), .val (.int (1 : Int32)), .val (.int (2 : Int32)), .val (.int v590), .val (.int v574), .val (.int v1297), .val (.int v1298)] [(.int (0 : Int32))])
      refine k_if_eq X1300 hx (hb hby at_388) (pn := 391) rfl (py := 395) (by decide) (fun _ => ?_) (fun hc => absurd (by decide) hc)
      refine k_iconst X1300 hx (hb hby at_395) (pc' := 396) rfl (z := (0 : Int32)) rfl ?_
      exfalso
      have := rng32 v574
      have : (0 : Int32).toInt = 0 := (by decide)
      have q1311 := hP575.1; rw [Int32.lt_iff_toInt_lt] at q1311
      have : (536870911 : Int32).toInt = 536870911 := (by decide)
      have q1312 := hP575.2; rw [Int32.lt_iff_toInt_lt] at q1312
      have := rng32 v582
      have q1314 := hP583.1; rw [Int32.lt_iff_toInt_lt] at q1314
      have q1315 := hP583.2; rw [Int32.lt_iff_toInt_lt] at q1315
      have := rng32 v590
      have q1317 := hP591.1; rw [Int32.lt_iff_toInt_lt] at q1317
      have q1318 := hP591.2; rw [Int32.lt_iff_toInt_lt] at q1318
      have := rng32 v598
      have q1320 := hP599.1; rw [Int32.lt_iff_toInt_lt] at q1320
      have q1321 := hP599.2; rw [Int32.lt_iff_toInt_lt] at q1321
      have := rng32 v604
      have := rng32 v603
      have := rng32 v602
      have := rng32 v601
      have : (1 : Int32).toInt = 1 := (by decide)
      have q1322 : (v601.toInt - (v574.toInt + (1 : Int32).toInt)) % 4294967296 = 0 := (by rw [hv601]; exact c_iadd _ _)
      have q1323 : (v602.toInt - (v601.toInt + v582.toInt)) % 4294967296 = 0 := (by rw [hv602]; exact c_iadd _ _)
      have q1324 : (v603.toInt - (v602.toInt + (1 : Int32).toInt)) % 4294967296 = 0 := (by rw [hv603]; exact c_iadd _ _)
      have q1325 : (v604.toInt - (v603.toInt + v590.toInt)) % 4294967296 = 0 := (by rw [hv604]; exact c_iadd _ _)
      have := rng32 v669
      have := rng32 v668
      have := rng32 v606
      have := rng32 v605
      have q1326 : (v605.toInt - (v604.toInt + (1 : Int32).toInt)) % 4294967296 = 0 := (by rw [hv605]; exact c_iadd _ _)
      have q1327 : (v606.toInt - (v605.toInt + v598.toInt)) % 4294967296 = 0 := (by rw [hv606]; exact c_iadd _ _)
      have : (3 : Int32).toInt = 3 := (by decide)
      have q1328 : (v668.toInt - (v606.toInt - (3 : Int32).toInt)) % 4294967296 = 0 := (by rw [h674]; exact c_isub _ _)
      have : (2 : Int32).toInt = 2 := (by decide)
      have q1329 : (v669.toInt - (v668.toInt + (2 : Int32).toInt)) % 4294967296 = 0 := (by rw [h675]; exact c_iadd _ _)
      have q1330 := congrArg Int32.toInt hc680
      have := rng32 v670
      have q1331 : (v670.toInt - (v668.toInt + (1 : Int32).toInt)) % 4294967296 = 0 := (by rw [h676]; exact c_iadd _ _)
      have q1332 := congrArg Int32.toInt hc681
      have q1333 : ¬ v574.toInt = v668.toInt := fun q => hc682 (Int32.toInt_inj.mp q)
      have q1334 := congrArg Int32.toInt hc1220
      have q1335 : ¬ v590.toInt = (0 : Int32).toInt := fun q => hc1221 (Int32.toInt_inj.mp q)
      have q1336 : ¬ v601.toInt = v574.toInt := fun q => hc1301 (Int32.toInt_inj.mp q)
      omega
     ·
      show KEnds p e below s _ _ _ T1300 (mkF m 388 #[.val (.int i0), .val (.int i1), .val (.int i2), .val (.int i3), .val (.int i4), .val (.int (3 : Int32)), .val (.ref b568), .val (.int v574), .val (.int v602), .val (.int v604), .val (.int v606), .val (.ref b614), .val (.int (1 : Int32)), .val (.int (2 : Int32)), .val (.int v590), .val (.int v574), .val (.int v1297), .val (.int v1298)] [(.int (0 : Int32))])
      refine k_if_eq X1300 hx (hb hby at_388) (pn := 391) rfl (py := 395) (by decide) (fun _ => ?_) (fun hc => absurd (by decide) hc)
      refine k_iconst X1300 hx (hb hby at_395) (pc' := 396) rfl (z := (0 : Int32)) rfl ?_
      exfalso
      have := rng32 v574
      have : (0 : Int32).toInt = 0 := (by decide)
      have q1338 := hP575.1; rw [Int32.lt_iff_toInt_lt] at q1338
      have : (536870911 : Int32).toInt = 536870911 := (by decide)
      have q1339 := hP575.2; rw [Int32.lt_iff_toInt_lt] at q1339
      have := rng32 v582
      have q1341 := hP583.1; rw [Int32.lt_iff_toInt_lt] at q1341
      have q1342 := hP583.2; rw [Int32.lt_iff_toInt_lt] at q1342
      have := rng32 v590
      have q1344 := hP591.1; rw [Int32.lt_iff_toInt_lt] at q1344
      have q1345 := hP591.2; rw [Int32.lt_iff_toInt_lt] at q1345
      have := rng32 v598
      have q1347 := hP599.1; rw [Int32.lt_iff_toInt_lt] at q1347
      have q1348 := hP599.2; rw [Int32.lt_iff_toInt_lt] at q1348
      have := rng32 v604
      have := rng32 v603
      have := rng32 v602
      have := rng32 v601
      have : (1 : Int32).toInt = 1 := (by decide)
      have q1349 : (v601.toInt - (v574.toInt + (1 : Int32).toInt)) % 4294967296 = 0 := (by rw [hv601]; exact c_iadd _ _)
      have q1350 : (v602.toInt - (v601.toInt + v582.toInt)) % 4294967296 = 0 := (by rw [hv602]; exact c_iadd _ _)
      have q1351 : (v603.toInt - (v602.toInt + (1 : Int32).toInt)) % 4294967296 = 0 := (by rw [hv603]; exact c_iadd _ _)
      have q1352 : (v604.toInt - (v603.toInt + v590.toInt)) % 4294967296 = 0 := (by rw [hv604]; exact c_iadd _ _)
      have := rng32 v669
      have := rng32 v668
      have := rng32 v606
      have := rng32 v605
      have q1353 : (v605.toInt - (v604.toInt + (1 : Int32).toInt)) % 4294967296 = 0 := (by rw [hv605]; exact c_iadd _ _)
      have q1354 : (v606.toInt - (v605.toInt + v598.toInt)) % 4294967296 = 0 := (by rw [hv606]; exact c_iadd _ _)
      have : (3 : Int32).toInt = 3 := (by decide)
      have q1355 : (v668.toInt - (v606.toInt - (3 : Int32).toInt)) % 4294967296 = 0 := (by rw [h674]; exact c_isub _ _)
      have : (2 : Int32).toInt = 2 := (by decide)
      have q1356 : (v669.toInt - (v668.toInt + (2 : Int32).toInt)) % 4294967296 = 0 := (by rw [h675]; exact c_iadd _ _)
      have q1357 := congrArg Int32.toInt hc680
      have := rng32 v670
      have q1358 : (v670.toInt - (v668.toInt + (1 : Int32).toInt)) % 4294967296 = 0 := (by rw [h676]; exact c_iadd _ _)
      have q1359 := congrArg Int32.toInt hc681
      have q1360 : ¬ v574.toInt = v668.toInt := fun q => hc682 (Int32.toInt_inj.mp q)
      have q1361 := congrArg Int32.toInt hc1220
      have q1362 : ¬ v590.toInt = (0 : Int32).toInt := fun q => hc1221 (Int32.toInt_inj.mp q)
      have q1363 := congrArg Int32.toInt hc1302
      have := rng32 v672
      have q1364 : (v672.toInt - (v601.toInt + (1 : Int32).toInt)) % 4294967296 = 0 := (by rw [h678]; exact c_iadd _ _)
      have := rng32 v1297
      have := rng32 v1292
      have q1365 : (v1292.toInt - (v582.toInt + (1 : Int32).toInt)) % 4294967296 = 0 := (by rw [hv1292]; exact c_iadd _ _)
      have q1366 : (v1297.toInt - (v601.toInt + v1292.toInt)) % 4294967296 = 0 := (by rw [hv1297]; exact c_iadd _ _)
      have q1367 : ¬ v672.toInt = v1297.toInt := fun q => hc1303 (Int32.toInt_inj.mp q)
      omega
     ·
      show KEnds p e below s _ _ _ T1300 (mkF m 388 #[.val (.int i0), .val (.int i1), .val (.int i2), .val (.int i3), .val (.int i4), .val (.int (3 : Int32)), .val (.ref b568), .val (.int v574), .val (.int v602), .val (.int v604), .val (.int v606), .val (.ref b614), .val (.int (1 : Int32)), .val (.int (2 : Int32)), .val (.int v590), .val (.int v574), .val (.int v1297), .val (.int v1298)] [(.int (0 : Int32))])
      refine k_if_eq X1300 hx (hb hby at_388) (pn := 391) rfl (py := 395) (by decide) (fun _ => ?_) (fun hc => absurd (by decide) hc)
      refine k_iconst X1300 hx (hb hby at_395) (pc' := 396) rfl (z := (0 : Int32)) rfl ?_
      exfalso
      have := rng32 v574
      have : (0 : Int32).toInt = 0 := (by decide)
      have q1369 := hP575.1; rw [Int32.lt_iff_toInt_lt] at q1369
      have : (536870911 : Int32).toInt = 536870911 := (by decide)
      have q1370 := hP575.2; rw [Int32.lt_iff_toInt_lt] at q1370
      have := rng32 v582
      have q1372 := hP583.1; rw [Int32.lt_iff_toInt_lt] at q1372
      have q1373 := hP583.2; rw [Int32.lt_iff_toInt_lt] at q1373
      have := rng32 v590
      have q1375 := hP591.1; rw [Int32.lt_iff_toInt_lt] at q1375
      have q1376 := hP591.2; rw [Int32.lt_iff_toInt_lt] at q1376
      have := rng32 v598
      have q1378 := hP599.1; rw [Int32.lt_iff_toInt_lt] at q1378
      have q1379 := hP599.2; rw [Int32.lt_iff_toInt_lt] at q1379
      have := rng32 v604
      have := rng32 v603
      have := rng32 v602
      have := rng32 v601
      have : (1 : Int32).toInt = 1 := (by decide)
      have q1380 : (v601.toInt - (v574.toInt + (1 : Int32).toInt)) % 4294967296 = 0 := (by rw [hv601]; exact c_iadd _ _)
      have q1381 : (v602.toInt - (v601.toInt + v582.toInt)) % 4294967296 = 0 := (by rw [hv602]; exact c_iadd _ _)
      have q1382 : (v603.toInt - (v602.toInt + (1 : Int32).toInt)) % 4294967296 = 0 := (by rw [hv603]; exact c_iadd _ _)
      have q1383 : (v604.toInt - (v603.toInt + v590.toInt)) % 4294967296 = 0 := (by rw [hv604]; exact c_iadd _ _)
      have := rng32 v669
      have := rng32 v668
      have := rng32 v606
      have := rng32 v605
      have q1384 : (v605.toInt - (v604.toInt + (1 : Int32).toInt)) % 4294967296 = 0 := (by rw [hv605]; exact c_iadd _ _)
      have q1385 : (v606.toInt - (v605.toInt + v598.toInt)) % 4294967296 = 0 := (by rw [hv606]; exact c_iadd _ _)
      have : (3 : Int32).toInt = 3 := (by decide)
      have q1386 : (v668.toInt - (v606.toInt - (3 : Int32).toInt)) % 4294967296 = 0 := (by rw [h674]; exact c_isub _ _)
      have : (2 : Int32).toInt = 2 := (by decide)
      have q1387 : (v669.toInt - (v668.toInt + (2 : Int32).toInt)) % 4294967296 = 0 := (by rw [h675]; exact c_iadd _ _)
      have q1388 := congrArg Int32.toInt hc680
      have := rng32 v670
      have q1389 : (v670.toInt - (v668.toInt + (1 : Int32).toInt)) % 4294967296 = 0 := (by rw [h676]; exact c_iadd _ _)
      have q1390 := congrArg Int32.toInt hc681
      have q1391 : ¬ v574.toInt = v668.toInt := fun q => hc682 (Int32.toInt_inj.mp q)
      have q1392 := congrArg Int32.toInt hc1220
      have q1393 : ¬ v590.toInt = (0 : Int32).toInt := fun q => hc1221 (Int32.toInt_inj.mp q)
      have q1394 := congrArg Int32.toInt hc1304
      have := rng32 v672
      have q1395 : (v672.toInt - (v601.toInt + (1 : Int32).toInt)) % 4294967296 = 0 := (by rw [h678]; exact c_iadd _ _)
      have := rng32 v1297
      have := rng32 v1292
      have q1396 : (v1292.toInt - (v582.toInt + (1 : Int32).toInt)) % 4294967296 = 0 := (by rw [hv1292]; exact c_iadd _ _)
      have q1397 : (v1297.toInt - (v601.toInt + v1292.toInt)) % 4294967296 = 0 := (by rw [hv1297]; exact c_iadd _ _)
      have q1398 := congrArg Int32.toInt hc1305
      have := rng32 v673
      have q1399 : (v673.toInt - (v672.toInt + (1 : Int32).toInt)) % 4294967296 = 0 := (by rw [h679]; exact c_iadd _ _)
      have := rng32 v1298
      have q1400 : (v1298.toInt - (v1297.toInt + (1 : Int32).toInt)) % 4294967296 = 0 := (by rw [hv1298]; exact c_iadd _ _)
      have q1401 : ¬ v673.toInt = v1298.toInt := fun q => hc1306 (Int32.toInt_inj.mp q)
      omega
     ·
      show KEnds p e below s _ _ _ T1300 (mkF m 388 #[.val (.int i0), .val (.int i1), .val (.int i2), .val (.int i3), .val (.int i4), .val (.int (3 : Int32)), .val (.ref b568), .val (.int v574), .val (.int v602), .val (.int v604), .val (.int v606), .val (.ref b614), .val (.int (1 : Int32)), .val (.int (2 : Int32)), .val (.int v590), .val (.int v574), .val (.int v1297), .val (.int v1298)] [(.int (1 : Int32))])
      refine k_if_eq X1300 hx (hb hby at_388) (pn := 391) rfl (py := 395) (by decide) (fun hc => absurd hc (by decide)) (fun _ => ?_)
      refine k_iconst X1300 hx (hb hby at_391) (pc' := 392) rfl (z := (1 : Int32)) rfl ?_
      refine k_goto X1300 hx (hb hby at_392) (pc' := 396) (by decide) ?_
      exact k_retN X1300 hx (t := .boolean) Bd.returns (by simp) (hb hby at_396) hlk (by decide) (by decide) (z' := (1 : Int32)) rfl ⟨rfl, N1300'⟩
   ·
    refine k_iconst X642 hx (hb hby at_219) (pc' := 220) rfl (z := (3 : Int32)) rfl ?_
    refine k_istore X642 hx (hb hby at_220) (Ls' := #[.val (.int i0), .val (.int i1), .val (.int i2), .val (.int i3), .val (.int i4), .val (.int (3 : Int32)), .val (.ref b568), .val (.int v574), .val (.int v602), .val (.int v604), .val (.int v606), .val (.ref b614), .val (.int (1 : Int32)), .val (.int (3 : Int32)), .unset, .unset, .unset, .unset]) rfl (pc' := 222) rfl ?_
    refine k_goto X642 hx (hb hby at_222) (pc' := 266) (by decide) ?_
    refine k_iload X642 hx (hb hby at_266) rfl (pc' := 268) rfl ?_
    refine k_if_ne X642 hx (hb hby at_268) (pn := 271) rfl (py := 298) (by decide) (fun _ => ?_) (fun hc => absurd hc (by decide))
    refine k_aload X642 hx (hb hby at_298) rfl rfl (pc' := 300) rfl ?_
    refine k_iload X642 hx (hb hby at_300) rfl (pc' := 302) rfl ?_
    refine k_iaload X642 hx hZ rfl F683 ⟨by decide, by decide⟩ (v := (.int v598)) rfl (hb hby at_302) (pc' := 303) rfl ?_
    refine k_istore X642 hx (hb hby at_303) (Ls' := #[.val (.int i0), .val (.int i1), .val (.int i2), .val (.int i3), .val (.int i4), .val (.int (3 : Int32)), .val (.ref b568), .val (.int v574), .val (.int v602), .val (.int v604), .val (.int v606), .val (.ref b614), .val (.int (1 : Int32)), .val (.int (3 : Int32)), .val (.int v598), .unset, .unset, .unset]) rfl (pc' := 305) rfl ?_
    refine k_aload X642 hx (hb hby at_305) rfl rfl (pc' := 307) rfl ?_
    refine k_iload X642 hx (hb hby at_307) rfl (pc' := 309) rfl ?_
    refine k_iconst X642 hx (hb hby at_309) (pc' := 310) rfl (z := (0 : Int32)) rfl ?_
    refine k_iastore X642 hx hZ rfl F683 ⟨by decide, by decide⟩ (i := 3) rfl (Nat.le_of_ble_eq_true rfl) (hb hby at_310) (pc' := 311) rfl (fun T1402 h1402 X1402 e1402 W1402 V1402 => ?_)
    have Vw1402 : Arv Z h1402 b568 k568 .int (4 : Int32) [(.int v574), (.int v582), (.int v590), (.int (0 : Int32))] (.int (0 : Int32)) := V1402
    have N1402 := Fr.snoc X1402 N642' g_b568
    have Z1402 : n0 ≤ h1402.size := Nat.le_trans Z685 (Nat.le_of_eq W1402.size.symm)
    refine k_aload X1402 hx (hb hby at_311) rfl rfl (pc' := 313) rfl ?_
    refine k_iload X1402 hx (hb hby at_313) rfl (pc' := 315) rfl ?_
    refine k_iconst X1402 hx (hb hby at_315) (pc' := 316) rfl (z := (1 : Int32)) rfl ?_
    refine k_isubL X1402 hx (hb hby at_316) (pc' := 317) rfl (z := (2 : Int32)) (by decide) ?_
    refine k_aload X1402 hx (hb hby at_317) rfl rfl (pc' := 319) rfl ?_
    refine k_iload X1402 hx (hb hby at_319) rfl (pc' := 321) rfl ?_
    refine k_iconst X1402 hx (hb hby at_321) (pc' := 322) rfl (z := (1 : Int32)) rfl ?_
    refine k_isubL X1402 hx (hb hby at_322) (pc' := 323) rfl (z := (2 : Int32)) (by decide) ?_
    refine k_iaload X1402 hx hZ e1402 Vw1402 ⟨by decide, by decide⟩ (v := (.int v590)) rfl (hb hby at_323) (pc' := 324) rfl ?_
    refine k_iconst X1402 hx (hb hby at_324) (pc' := 325) rfl (z := (1 : Int32)) rfl ?_
    refine k_iadd X1402 hx (hb hby at_325) (pc' := 326) rfl (fun v1403 hv1403 => ?_)
    refine k_iastore X1402 hx hZ e1402 Vw1402 ⟨by decide, by decide⟩ (i := 2) rfl (Nat.le_of_ble_eq_true rfl) (hb hby at_326) (pc' := 327) rfl (fun T1404 h1404 X1404 e1404 W1404 V1404 => ?_)
    have Vw1404 : Arv Z h1404 b568 k568 .int (4 : Int32) [(.int v574), (.int v582), (.int v1403), (.int (0 : Int32))] (.int (0 : Int32)) := V1404
    have N1404 := Fr.snoc X1404 N1402 g_b568
    have Z1404 : n0 ≤ h1404.size := Nat.le_trans Z1402 (Nat.le_of_eq W1404.size.symm)
    refine k_aload X1404 hx (hb hby at_327) rfl rfl (pc' := 329) rfl ?_
    refine k_iload X1404 hx (hb hby at_329) rfl (pc' := 331) rfl ?_
    refine k_aload X1404 hx (hb hby at_331) rfl rfl (pc' := 333) rfl ?_
    refine k_iload X1404 hx (hb hby at_333) rfl (pc' := 335) rfl ?_
    refine k_iaload X1404 hx hZ e1404 Vw1404 ⟨by decide, by decide⟩ (v := (.int (0 : Int32))) rfl (hb hby at_335) (pc' := 336) rfl ?_
    refine k_iload X1404 hx (hb hby at_336) rfl (pc' := 338) rfl ?_
    refine k_iaddL X1404 hx (hb hby at_338) (pc' := 339) rfl (z := v598) (Int32.zero_add _) ?_
    refine k_iconst X1404 hx (hb hby at_339) (pc' := 340) rfl (z := (1 : Int32)) rfl ?_
    refine k_isub X1404 hx (hb hby at_340) (pc' := 341) rfl (fun v1405 hv1405 => ?_)
    refine k_iastore X1404 hx hZ e1404 Vw1404 ⟨by decide, by decide⟩ (i := 3) rfl (Nat.le_of_ble_eq_true rfl) (hb hby at_341) (pc' := 342) rfl (fun T1406 h1406 X1406 e1406 W1406 V1406 => ?_)
    have Vw1406 : Arv Z h1406 b568 k568 .int (4 : Int32) [(.int v574), (.int v582), (.int v1403), (.int v1405)] (.int (0 : Int32)) := V1406
    have N1406 := Fr.snoc X1406 N1404 g_b568
    have Z1406 : n0 ≤ h1406.size := Nat.le_trans Z1404 (Nat.le_of_eq W1406.size.symm)
    refine k_aload X1406 hx (hb hby at_342) rfl rfl (pc' := 344) rfl ?_
    refine k_iconst X1406 hx (hb hby at_344) (pc' := 345) rfl (z := (0 : Int32)) rfl ?_
    refine k_iaload X1406 hx hZ e1406 Vw1406 ⟨by decide, by decide⟩ (v := (.int v574)) rfl (hb hby at_345) (pc' := 346) rfl ?_
    refine k_istore X1406 hx (hb hby at_346) (Ls' := #[.val (.int i0), .val (.int i1), .val (.int i2), .val (.int i3), .val (.int i4), .val (.int (3 : Int32)), .val (.ref b568), .val (.int v574), .val (.int v602), .val (.int v604), .val (.int v606), .val (.ref b614), .val (.int (1 : Int32)), .val (.int (3 : Int32)), .val (.int v598), .val (.int v574), .unset, .unset]) rfl (pc' := 348) rfl ?_
    refine k_iload X1406 hx (hb hby at_348) rfl (pc' := 350) rfl ?_
    refine k_iconst X1406 hx (hb hby at_350) (pc' := 351) rfl (z := (1 : Int32)) rfl ?_
    refine k_iaddL X1406 hx (hb hby at_351) (pc' := 352) rfl (z := v601) hv601.symm ?_
    refine k_aload X1406 hx (hb hby at_352) rfl rfl (pc' := 354) rfl ?_
    refine k_iconst X1406 hx (hb hby at_354) (pc' := 355) rfl (z := (1 : Int32)) rfl ?_
    refine k_iaload X1406 hx hZ e1406 Vw1406 ⟨by decide, by decide⟩ (v := (.int v582)) rfl (hb hby at_355) (pc' := 356) rfl ?_
    refine k_iaddL X1406 hx (hb hby at_356) (pc' := 357) rfl (z := v602) hv602.symm ?_
    refine k_istore X1406 hx (hb hby at_357) (Ls' := #[.val (.int i0), .val (.int i1), .val (.int i2), .val (.int i3), .val (.int i4), .val (.int (3 : Int32)), .val (.ref b568), .val (.int v574), .val (.int v602), .val (.int v604), .val (.int v606), .val (.ref b614), .val (.int (1 : Int32)), .val (.int (3 : Int32)), .val (.int v598), .val (.int v574), .val (.int v602), .unset]) rfl (pc' := 359) rfl ?_
    refine k_iload X1406 hx (hb hby at_359) rfl (pc' := 361) rfl ?_
    refine k_iconst X1406 hx (hb hby at_361) (pc' := 362) rfl (z := (1 : Int32)) rfl ?_
    refine k_iaddL X1406 hx (hb hby at_362) (pc' := 363) rfl (z := v603) hv603.symm ?_
    refine k_aload X1406 hx (hb hby at_363) rfl rfl (pc' := 365) rfl ?_
    refine k_iconst X1406 hx (hb hby at_365) (pc' := 366) rfl (z := (2 : Int32)) rfl ?_
    refine k_iaload X1406 hx hZ e1406 Vw1406 ⟨by decide, by decide⟩ (v := (.int v1403)) rfl (hb hby at_366) (pc' := 367) rfl ?_
    refine k_iadd X1406 hx (hb hby at_367) (pc' := 368) rfl (fun v1407 hv1407 => ?_)
    refine k_istore X1406 hx (hb hby at_368) (Ls' := #[.val (.int i0), .val (.int i1), .val (.int i2), .val (.int i3), .val (.int i4), .val (.int (3 : Int32)), .val (.ref b568), .val (.int v574), .val (.int v602), .val (.int v604), .val (.int v606), .val (.ref b614), .val (.int (1 : Int32)), .val (.int (3 : Int32)), .val (.int v598), .val (.int v574), .val (.int v602), .val (.int v1407)]) rfl (pc' := 370) rfl ?_
    refine k_iload X1406 hx (hb hby at_370) rfl (pc' := 372) rfl ?_
    refine k_if_eq X1406 hx (hb hby at_372) (pn := 375) rfl (py := 395) (by decide) (fun hc => absurd hc (by decide)) (fun _ => ?_)
    refine k_aload X1406 hx (hb hby at_375) rfl rfl (pc' := 377) rfl ?_
    refine k_iload X1406 hx (hb hby at_377) rfl (pc' := 379) rfl ?_
    refine k_iload X1406 hx (hb hby at_379) rfl (pc' := 381) rfl ?_
    refine k_iload X1406 hx (hb hby at_381) rfl (pc' := 383) rfl ?_
    refine k_iload X1406 hx (hb hby at_383) rfl (pc' := 385) rfl ?_
    have F1408 := (((F684.other W1402 (Ne.symm (Nat.ne_of_lt lt618))).other W1404 (Ne.symm (Nat.ne_of_lt lt618))).other W1406 (Ne.symm (Nat.ne_of_lt lt618)))
    refine k_callS X1406 hx hZ hown (hw _ (List.mem_of_getElem? (i := 10) rfl)) (hw _ (List.mem_of_getElem? (i := 11) rfl)) (hw _ (List.mem_of_getElem? (i := 4) rfl)) (hw _ (List.mem_of_getElem? (i := 12) rfl)) (by decide) (rm3_735 l Z a0 hw [] b614 v574 v602 v1407 k615 v601 v672 v673 h1406 n0 Z1406 F1408) (by decide) (by decide) e1406 (by rw [hml]; rfl) (argsL := [(.ref b614), (.int (3 : Int32)), (.int v574), (.int v602), (.int v1407)]) (rest := []) (lenOf pd_2 rfl) rfl (W := 0) (Nat.le_refl _) rfl (hb hby at_385) (by decide) (by decide) (pc' := 388) rfl (fun T1409 L1409 r1409 X1409 q1409 => ?_)
    obtain ⟨N1409, e1409, q1409⟩ := q1409
    have N1409' := Fr.app N1406 N1409
    rcases q1409 with ⟨hc1410, rfl⟩ | ⟨hc1411, hc1412, rfl⟩ | ⟨hc1413, hc1414, hc1415, rfl⟩ | ⟨hc1416, hc1417, hc1418, rfl⟩
    ·
     show KEnds p e below s _ _ _ T1409 (mkF m 388 #[.val (.int i0), .val (.int i1), .val (.int i2), .val (.int i3), .val (.int i4), .val (.int (3 : Int32)), .val (.ref b568), .val (.int v574), .val (.int v602), .val (.int v604), .val (.int v606), .val (.ref b614), .val (.int (1 : Int32)), .val (.int (3 : Int32)), .val (.int v598), .val (.int v574), .val (.int v602), .val (.int v1407)] [(.int (0 : Int32))])
     refine k_if_eq X1409 hx (hb hby at_388) (pn := 391) rfl (py := 395) (by decide) (fun _ => ?_) (fun hc => absurd (by decide) hc)
     refine k_iconst X1409 hx (hb hby at_395) (pc' := 396) rfl (z := (0 : Int32)) rfl ?_
     exfalso
     have := rng32 v574
     have : (0 : Int32).toInt = 0 := (by decide)
     have q1420 := hP575.1; rw [Int32.lt_iff_toInt_lt] at q1420
     have : (536870911 : Int32).toInt = 536870911 := (by decide)
     have q1421 := hP575.2; rw [Int32.lt_iff_toInt_lt] at q1421
     have := rng32 v582
     have q1423 := hP583.1; rw [Int32.lt_iff_toInt_lt] at q1423
     have q1424 := hP583.2; rw [Int32.lt_iff_toInt_lt] at q1424
     have := rng32 v590
     have q1426 := hP591.1; rw [Int32.lt_iff_toInt_lt] at q1426
     have q1427 := hP591.2; rw [Int32.lt_iff_toInt_lt] at q1427
     have := rng32 v598
     have q1429 := hP599.1; rw [Int32.lt_iff_toInt_lt] at q1429
     have q1430 := hP599.2; rw [Int32.lt_iff_toInt_lt] at q1430
     have := rng32 v604
     have := rng32 v603
     have := rng32 v602
     have := rng32 v601
     have : (1 : Int32).toInt = 1 := (by decide)
     have q1431 : (v601.toInt - (v574.toInt + (1 : Int32).toInt)) % 4294967296 = 0 := (by rw [hv601]; exact c_iadd _ _)
     have q1432 : (v602.toInt - (v601.toInt + v582.toInt)) % 4294967296 = 0 := (by rw [hv602]; exact c_iadd _ _)
     have q1433 : (v603.toInt - (v602.toInt + (1 : Int32).toInt)) % 4294967296 = 0 := (by rw [hv603]; exact c_iadd _ _)
     have q1434 : (v604.toInt - (v603.toInt + v590.toInt)) % 4294967296 = 0 := (by rw [hv604]; exact c_iadd _ _)
     have := rng32 v669
     have := rng32 v668
     have := rng32 v606
     have := rng32 v605
     have q1435 : (v605.toInt - (v604.toInt + (1 : Int32).toInt)) % 4294967296 = 0 := (by rw [hv605]; exact c_iadd _ _)
     have q1436 : (v606.toInt - (v605.toInt + v598.toInt)) % 4294967296 = 0 := (by rw [hv606]; exact c_iadd _ _)
     have : (3 : Int32).toInt = 3 := (by decide)
     have q1437 : (v668.toInt - (v606.toInt - (3 : Int32).toInt)) % 4294967296 = 0 := (by rw [h674]; exact c_isub _ _)
     have : (2 : Int32).toInt = 2 := (by decide)
     have q1438 : (v669.toInt - (v668.toInt + (2 : Int32).toInt)) % 4294967296 = 0 := (by rw [h675]; exact c_iadd _ _)
     have q1439 := congrArg Int32.toInt hc680
     have := rng32 v670
     have q1440 : (v670.toInt - (v668.toInt + (1 : Int32).toInt)) % 4294967296 = 0 := (by rw [h676]; exact c_iadd _ _)
     have q1441 := congrArg Int32.toInt hc681
     have q1442 : ¬ v574.toInt = v668.toInt := fun q => hc682 (Int32.toInt_inj.mp q)
     have q1443 : ¬ v598.toInt = (0 : Int32).toInt := fun q => hc1220 (Int32.toInt_inj.mp q)
     have q1444 : ¬ v601.toInt = v574.toInt := fun q => hc1410 (Int32.toInt_inj.mp q)
     omega
    ·
     show KEnds p e below s _ _ _ T1409 (mkF m 388 #[.val (.int i0), .val (.int i1), .val (.int i2), .val (.int i3), .val (.int i4), .val (.int (3 : Int32)), .val (.ref b568), .val (.int v574), .val (.int v602), .val (.int v604), .val (.int v606), .val (.ref b614), .val (.int (1 : Int32)), .val (.int (3 : Int32)), .val (.int v598), .val (.int v574), .val (.int v602), .val (.int v1407)] [(.int (0 : Int32))])
     refine k_if_eq X1409 hx (hb hby at_388) (pn := 391) rfl (py := 395) (by decide) (fun _ => ?_) (fun hc => absurd (by decide) hc)
     refine k_iconst X1409 hx (hb hby at_395) (pc' := 396) rfl (z := (0 : Int32)) rfl ?_
     exfalso
     have := rng32 v574
     have : (0 : Int32).toInt = 0 := (by decide)
     have q1446 := hP575.1; rw [Int32.lt_iff_toInt_lt] at q1446
     have : (536870911 : Int32).toInt = 536870911 := (by decide)
     have q1447 := hP575.2; rw [Int32.lt_iff_toInt_lt] at q1447
     have := rng32 v582
     have q1449 := hP583.1; rw [Int32.lt_iff_toInt_lt] at q1449
     have q1450 := hP583.2; rw [Int32.lt_iff_toInt_lt] at q1450
     have := rng32 v590
     have q1452 := hP591.1; rw [Int32.lt_iff_toInt_lt] at q1452
     have q1453 := hP591.2; rw [Int32.lt_iff_toInt_lt] at q1453
     have := rng32 v598
     have q1455 := hP599.1; rw [Int32.lt_iff_toInt_lt] at q1455
     have q1456 := hP599.2; rw [Int32.lt_iff_toInt_lt] at q1456
     have := rng32 v604
     have := rng32 v603
     have := rng32 v602
     have := rng32 v601
     have : (1 : Int32).toInt = 1 := (by decide)
     have q1457 : (v601.toInt - (v574.toInt + (1 : Int32).toInt)) % 4294967296 = 0 := (by rw [hv601]; exact c_iadd _ _)
     have q1458 : (v602.toInt - (v601.toInt + v582.toInt)) % 4294967296 = 0 := (by rw [hv602]; exact c_iadd _ _)
     have q1459 : (v603.toInt - (v602.toInt + (1 : Int32).toInt)) % 4294967296 = 0 := (by rw [hv603]; exact c_iadd _ _)
     have q1460 : (v604.toInt - (v603.toInt + v590.toInt)) % 4294967296 = 0 := (by rw [hv604]; exact c_iadd _ _)
     have := rng32 v669
     have := rng32 v668
     have := rng32 v606
     have := rng32 v605
     have q1461 : (v605.toInt - (v604.toInt + (1 : Int32).toInt)) % 4294967296 = 0 := (by rw [hv605]; exact c_iadd _ _)
     have q1462 : (v606.toInt - (v605.toInt + v598.toInt)) % 4294967296 = 0 := (by rw [hv606]; exact c_iadd _ _)
     have : (3 : Int32).toInt = 3 := (by decide)
     have q1463 : (v668.toInt - (v606.toInt - (3 : Int32).toInt)) % 4294967296 = 0 := (by rw [h674]; exact c_isub _ _)
     have : (2 : Int32).toInt = 2 := (by decide)
     have q1464 : (v669.toInt - (v668.toInt + (2 : Int32).toInt)) % 4294967296 = 0 := (by rw [h675]; exact c_iadd _ _)
     have q1465 := congrArg Int32.toInt hc680
     have := rng32 v670
     have q1466 : (v670.toInt - (v668.toInt + (1 : Int32).toInt)) % 4294967296 = 0 := (by rw [h676]; exact c_iadd _ _)
     have q1467 := congrArg Int32.toInt hc681
     have q1468 : ¬ v574.toInt = v668.toInt := fun q => hc682 (Int32.toInt_inj.mp q)
     have q1469 : ¬ v598.toInt = (0 : Int32).toInt := fun q => hc1220 (Int32.toInt_inj.mp q)
     have q1470 := congrArg Int32.toInt hc1411
     have := rng32 v672
     have q1471 : (v672.toInt - (v601.toInt + (1 : Int32).toInt)) % 4294967296 = 0 := (by rw [h678]; exact c_iadd _ _)
     have q1472 : ¬ v672.toInt = v602.toInt := fun q => hc1412 (Int32.toInt_inj.mp q)
     omega
    ·
     show KEnds p e below s _ _ _ T1409 (mkF m 388 #[.val (.int i0), .val (.int i1), .val (.int i2), .val (.int i3), .val (.int i4), .val (.int (3 : Int32)), .val (.ref b568), .val (.int v574), .val (.int v602), .val (.int v604), .val (.int v606), .val (.ref b614), .val (.int (1 : Int32)), .val (.int (3 : Int32)), .val (.int v598), .val (.int v574), .val (.int v602), .val (.int v1407)] [(.int (0 : Int32))])
     refine k_if_eq X1409 hx (hb hby at_388) (pn := 391) rfl (py := 395) (by decide) (fun _ => ?_) (fun hc => absurd (by decide) hc)
     refine k_iconst X1409 hx (hb hby at_395) (pc' := 396) rfl (z := (0 : Int32)) rfl ?_
     exfalso
     have := rng32 v574
     have : (0 : Int32).toInt = 0 := (by decide)
     have q1474 := hP575.1; rw [Int32.lt_iff_toInt_lt] at q1474
     have : (536870911 : Int32).toInt = 536870911 := (by decide)
     have q1475 := hP575.2; rw [Int32.lt_iff_toInt_lt] at q1475
     have := rng32 v582
     have q1477 := hP583.1; rw [Int32.lt_iff_toInt_lt] at q1477
     have q1478 := hP583.2; rw [Int32.lt_iff_toInt_lt] at q1478
     have := rng32 v590
     have q1480 := hP591.1; rw [Int32.lt_iff_toInt_lt] at q1480
     have q1481 := hP591.2; rw [Int32.lt_iff_toInt_lt] at q1481
     have := rng32 v598
     have q1483 := hP599.1; rw [Int32.lt_iff_toInt_lt] at q1483
     have q1484 := hP599.2; rw [Int32.lt_iff_toInt_lt] at q1484
     have := rng32 v604
     have := rng32 v603
     have := rng32 v602
     have := rng32 v601
     have : (1 : Int32).toInt = 1 := (by decide)
     have q1485 : (v601.toInt - (v574.toInt + (1 : Int32).toInt)) % 4294967296 = 0 := (by rw [hv601]; exact c_iadd _ _)
     have q1486 : (v602.toInt - (v601.toInt + v582.toInt)) % 4294967296 = 0 := (by rw [hv602]; exact c_iadd _ _)
     have q1487 : (v603.toInt - (v602.toInt + (1 : Int32).toInt)) % 4294967296 = 0 := (by rw [hv603]; exact c_iadd _ _)
     have q1488 : (v604.toInt - (v603.toInt + v590.toInt)) % 4294967296 = 0 := (by rw [hv604]; exact c_iadd _ _)
     have := rng32 v669
     have := rng32 v668
     have := rng32 v606
     have := rng32 v605
     have q1489 : (v605.toInt - (v604.toInt + (1 : Int32).toInt)) % 4294967296 = 0 := (by rw [hv605]; exact c_iadd _ _)
     have q1490 : (v606.toInt - (v605.toInt + v598.toInt)) % 4294967296 = 0 := (by rw [hv606]; exact c_iadd _ _)
     have : (3 : Int32).toInt = 3 := (by decide)
     have q1491 : (v668.toInt - (v606.toInt - (3 : Int32).toInt)) % 4294967296 = 0 := (by rw [h674]; exact c_isub _ _)
     have : (2 : Int32).toInt = 2 := (by decide)
     have q1492 : (v669.toInt - (v668.toInt + (2 : Int32).toInt)) % 4294967296 = 0 := (by rw [h675]; exact c_iadd _ _)
     have q1493 := congrArg Int32.toInt hc680
     have := rng32 v670
     have q1494 : (v670.toInt - (v668.toInt + (1 : Int32).toInt)) % 4294967296 = 0 := (by rw [h676]; exact c_iadd _ _)
     have q1495 := congrArg Int32.toInt hc681
     have q1496 : ¬ v574.toInt = v668.toInt := fun q => hc682 (Int32.toInt_inj.mp q)
     have q1497 : ¬ v598.toInt = (0 : Int32).toInt := fun q => hc1220 (Int32.toInt_inj.mp q)
     have q1498 := congrArg Int32.toInt hc1413
     have := rng32 v672
     have q1499 : (v672.toInt - (v601.toInt + (1 : Int32).toInt)) % 4294967296 = 0 := (by rw [h678]; exact c_iadd _ _)
     have q1500 := congrArg Int32.toInt hc1414
     have := rng32 v673
     have q1501 : (v673.toInt - (v672.toInt + (1 : Int32).toInt)) % 4294967296 = 0 := (by rw [h679]; exact c_iadd _ _)
     have := rng32 v1407
     have := rng32 v1403
     have q1502 : (v1403.toInt - (v590.toInt + (1 : Int32).toInt)) % 4294967296 = 0 := (by rw [hv1403]; exact c_iadd _ _)
     have q1503 : (v1407.toInt - (v603.toInt + v1403.toInt)) % 4294967296 = 0 := (by rw [hv1407]; exact c_iadd _ _)
     have q1504 : ¬ v673.toInt = v1407.toInt := fun q => hc1415 (Int32.toInt_inj.mp q)
     omega
    ·
     show KEnds p e below s _ _ _ T1409 (mkF m 388 #[.val (.int i0), .val (.int i1), .val (.int i2), .val (.int i3), .val (.int i4), .val (.int (3 : Int32)), .val (.ref b568), .val (.int v574), .val (.int v602), .val (.int v604), .val (.int v606), .val (.ref b614), .val (.int (1 : Int32)), .val (.int (3 : Int32)), .val (.int v598), .val (.int v574), .val (.int v602), .val (.int v1407)] [(.int (1 : Int32))])
     refine k_if_eq X1409 hx (hb hby at_388) (pn := 391) rfl (py := 395) (by decide) (fun hc => absurd hc (by decide)) (fun _ => ?_)
     refine k_iconst X1409 hx (hb hby at_391) (pc' := 392) rfl (z := (1 : Int32)) rfl ?_
     refine k_goto X1409 hx (hb hby at_392) (pc' := 396) (by decide) ?_
     exact k_retN X1409 hx (t := .boolean) Bd.returns (by simp) (hb hby at_396) hlk (by decide) (by decide) (z' := (1 : Int32)) rfl ⟨rfl, N1409'⟩
  ·
   show KEnds p e below s _ _ _ T642 (mkF m 204 #[.val (.int i0), .val (.int i1), .val (.int i2), .val (.int i3), .val (.int i4), .val (.int (3 : Int32)), .val (.ref b568), .val (.int v574), .val (.int v602), .val (.int v604), .val (.int v606), .val (.ref b614), .unset, .unset, .unset, .unset, .unset, .unset] [(.int (0 : Int32))])
   refine k_istore X642 hx (hb hby at_204) (Ls' := #[.val (.int i0), .val (.int i1), .val (.int i2), .val (.int i3), .val (.int i4), .val (.int (3 : Int32)), .val (.ref b568), .val (.int v574), .val (.int v602), .val (.int v604), .val (.int v606), .val (.ref b614), .val (.int (0 : Int32)), .unset, .unset, .unset, .unset, .unset]) rfl (pc' := 206) rfl ?_
   refine k_iload X642 hx (hb hby at_206) rfl (pc' := 208) rfl ?_
   refine k_iconst X642 hx (hb hby at_208) (pc' := 209) rfl (z := (3 : Int32)) rfl ?_
   refine k_icmp_lt X642 hx (hb hby at_209) (pn := 212) rfl (py := 225) (by decide) (fun hc => absurd hc (by decide)) (fun _ => ?_)
   refine k_aload X642 hx (hb hby at_212) rfl rfl (pc' := 214) rfl ?_
   refine k_iconst X642 hx (hb hby at_214) (pc' := 215) rfl (z := (3 : Int32)) rfl ?_
   refine k_iaload X642 hx hZ rfl F695 ⟨by decide, by decide⟩ (v := (.int v598)) rfl (hb hby at_215) (pc' := 216) rfl ?_
   refine k_if_eq X642 hx (hb hby at_216) (pn := 219) rfl (py := 225) (by decide) (fun hc1505 => ?_) (fun hc1505 => ?_)
   ·
    refine k_iload X642 hx (hb hby at_225) rfl (pc' := 227) rfl ?_
    refine k_iconst X642 hx (hb hby at_227) (pc' := 228) rfl (z := (2 : Int32)) rfl ?_
    refine k_icmp_lt X642 hx (hb hby at_228) (pn := 231) rfl (py := 244) (by decide) (fun hc => absurd hc (by decide)) (fun _ => ?_)
    refine k_aload X642 hx (hb hby at_231) rfl rfl (pc' := 233) rfl ?_
    refine k_iconst X642 hx (hb hby at_233) (pc' := 234) rfl (z := (2 : Int32)) rfl ?_
    refine k_iaload X642 hx hZ rfl F695 ⟨by decide, by decide⟩ (v := (.int v590)) rfl (hb hby at_234) (pc' := 235) rfl ?_
    refine k_if_eq X642 hx (hb hby at_235) (pn := 238) rfl (py := 244) (by decide) (fun hc1506 => ?_) (fun hc1506 => ?_)
    ·
     refine k_iload X642 hx (hb hby at_244) rfl (pc' := 246) rfl ?_
     refine k_iconst X642 hx (hb hby at_246) (pc' := 247) rfl (z := (1 : Int32)) rfl ?_
     refine k_icmp_lt X642 hx (hb hby at_247) (pn := 250) rfl (py := 263) (by decide) (fun hc => absurd hc (by decide)) (fun _ => ?_)
     refine k_aload X642 hx (hb hby at_250) rfl rfl (pc' := 252) rfl ?_
     refine k_iconst X642 hx (hb hby at_252) (pc' := 253) rfl (z := (1 : Int32)) rfl ?_
     refine k_iaload X642 hx hZ rfl F695 ⟨by decide, by decide⟩ (v := (.int v582)) rfl (hb hby at_253) (pc' := 254) rfl ?_
     refine k_if_eq X642 hx (hb hby at_254) (pn := 257) rfl (py := 263) (by decide) (fun hc1507 => ?_) (fun hc1507 => ?_)
     ·
      refine k_iconst X642 hx (hb hby at_263) (pc' := 264) rfl (z := (0 : Int32)) rfl ?_
      refine k_istore X642 hx (hb hby at_264) (Ls' := #[.val (.int i0), .val (.int i1), .val (.int i2), .val (.int i3), .val (.int i4), .val (.int (3 : Int32)), .val (.ref b568), .val (.int v574), .val (.int v602), .val (.int v604), .val (.int v606), .val (.ref b614), .val (.int (0 : Int32)), .val (.int (0 : Int32)), .unset, .unset, .unset, .unset]) rfl (pc' := 266) rfl ?_
      refine k_iload X642 hx (hb hby at_266) rfl (pc' := 268) rfl ?_
      refine k_if_ne X642 hx (hb hby at_268) (pn := 271) rfl (py := 298) (by decide) (fun hc => absurd (by decide) hc) (fun _ => ?_)
      refine k_iload X642 hx (hb hby at_271) rfl (pc' := 273) rfl ?_
      refine k_if_ne X642 hx (hb hby at_273) (pn := 276) rfl (py := 296) (by decide) (fun hc => absurd (by decide) hc) (fun _ => ?_)
      refine k_aload X642 hx (hb hby at_276) rfl rfl (pc' := 278) rfl ?_
      refine k_iload X642 hx (hb hby at_278) rfl (pc' := 280) rfl ?_
      refine k_iload X642 hx (hb hby at_280) rfl (pc' := 282) rfl ?_
      refine k_iload X642 hx (hb hby at_282) rfl (pc' := 284) rfl ?_
      refine k_iload X642 hx (hb hby at_284) rfl (pc' := 286) rfl ?_
      refine k_callS X642 hx hZ hown (hw _ (List.mem_of_getElem? (i := 10) rfl)) (hw _ (List.mem_of_getElem? (i := 11) rfl)) (hw _ (List.mem_of_getElem? (i := 4) rfl)) (hw _ (List.mem_of_getElem? (i := 12) rfl)) (by decide) (rm3_1508 l Z a0 hw [] b614 v574 v602 v604 k615 T642.heap n0 Z697 F696) (by decide) (by decide) rfl (by rw [hml]; rfl) (argsL := [(.ref b614), (.int (3 : Int32)), (.int v574), (.int v602), (.int v604)]) (rest := []) (lenOf pd_2 rfl) rfl (W := 0) (Nat.le_refl _) rfl (hb hby at_286) (by decide) (by decide) (pc' := 289) rfl (fun T1509 L1509 r1509 X1509 q1509 => ?_)
      obtain ⟨N1509, e1509, q1509⟩ := q1509
      have N1509' := Fr.app N642' N1509
      obtain rfl := q1509
      show KEnds p e below s _ _ _ T1509 (mkF m 289 #[.val (.int i0), .val (.int i1), .val (.int i2), .val (.int i3), .val (.int i4), .val (.int (3 : Int32)), .val (.ref b568), .val (.int v574), .val (.int v602), .val (.int v604), .val (.int v606), .val (.ref b614), .val (.int (0 : Int32)), .val (.int (0 : Int32)), .unset, .unset, .unset, .unset] [(.int (1 : Int32))])
      refine k_if_eq X1509 hx (hb hby at_289) (pn := 292) rfl (py := 296) (by decide) (fun hc => absurd hc (by decide)) (fun _ => ?_)
      refine k_iconst X1509 hx (hb hby at_292) (pc' := 293) rfl (z := (1 : Int32)) rfl ?_
      refine k_goto X1509 hx (hb hby at_293) (pc' := 297) (by decide) ?_
      exact k_retN X1509 hx (t := .boolean) Bd.returns (by simp) (hb hby at_297) hlk (by decide) (by decide) (z' := (1 : Int32)) rfl ⟨rfl, N1509'⟩
     ·
      refine k_iconst X642 hx (hb hby at_257) (pc' := 258) rfl (z := (1 : Int32)) rfl ?_
      refine k_istore X642 hx (hb hby at_258) (Ls' := #[.val (.int i0), .val (.int i1), .val (.int i2), .val (.int i3), .val (.int i4), .val (.int (3 : Int32)), .val (.ref b568), .val (.int v574), .val (.int v602), .val (.int v604), .val (.int v606), .val (.ref b614), .val (.int (0 : Int32)), .val (.int (1 : Int32)), .unset, .unset, .unset, .unset]) rfl (pc' := 260) rfl ?_
      refine k_goto X642 hx (hb hby at_260) (pc' := 266) (by decide) ?_
      refine k_iload X642 hx (hb hby at_266) rfl (pc' := 268) rfl ?_
      refine k_if_ne X642 hx (hb hby at_268) (pn := 271) rfl (py := 298) (by decide) (fun _ => ?_) (fun hc => absurd hc (by decide))
      refine k_aload X642 hx (hb hby at_298) rfl rfl (pc' := 300) rfl ?_
      refine k_iload X642 hx (hb hby at_300) rfl (pc' := 302) rfl ?_
      refine k_iaload X642 hx hZ rfl F695 ⟨by decide, by decide⟩ (v := (.int v582)) rfl (hb hby at_302) (pc' := 303) rfl ?_
      refine k_istore X642 hx (hb hby at_303) (Ls' := #[.val (.int i0), .val (.int i1), .val (.int i2), .val (.int i3), .val (.int i4), .val (.int (3 : Int32)), .val (.ref b568), .val (.int v574), .val (.int v602), .val (.int v604), .val (.int v606), .val (.ref b614), .val (.int (0 : Int32)), .val (.int (1 : Int32)), .val (.int v582), .unset, .unset, .unset]) rfl (pc' := 305) rfl ?_
      refine k_aload X642 hx (hb hby at_305) rfl rfl (pc' := 307) rfl ?_
      refine k_iload X642 hx (hb hby at_307) rfl (pc' := 309) rfl ?_
      refine k_iconst X642 hx (hb hby at_309) (pc' := 310) rfl (z := (0 : Int32)) rfl ?_
      refine k_iastore X642 hx hZ rfl F695 ⟨by decide, by decide⟩ (i := 1) rfl (Nat.le_of_ble_eq_true rfl) (hb hby at_310) (pc' := 311) rfl (fun T1510 h1510 X1510 e1510 W1510 V1510 => ?_)
      have Vw1510 : Arv Z h1510 b568 k568 .int (4 : Int32) [(.int v574), (.int (0 : Int32)), (.int v590), (.int v598)] (.int (0 : Int32)) := V1510
      have N1510 := Fr.snoc X1510 N642' g_b568
      have Z1510 : n0 ≤ h1510.size := Nat.le_trans Z697 (Nat.le_of_eq W1510.size.symm)
      refine k_aload X1510 hx (hb hby at_311) rfl rfl (pc' := 313) rfl ?_
      refine k_iload X1510 hx (hb hby at_313) rfl (pc' := 315) rfl ?_
      refine k_iconst X1510 hx (hb hby at_315) (pc' := 316) rfl (z := (1 : Int32)) rfl ?_
      refine k_isubL X1510 hx (hb hby at_316) (pc' := 317) rfl (z := (0 : Int32)) (by decide) ?_
      refine k_aload X1510 hx (hb hby at_317) rfl rfl (pc' := 319) rfl ?_
      refine k_iload X1510 hx (hb hby at_319) rfl (pc' := 321) rfl ?_
      refine k_iconst X1510 hx (hb hby at_321) (pc' := 322) rfl (z := (1 : Int32)) rfl ?_
      refine k_isubL X1510 hx (hb hby at_322) (pc' := 323) rfl (z := (0 : Int32)) (by decide) ?_
      refine k_iaload X1510 hx hZ e1510 Vw1510 ⟨by decide, by decide⟩ (v := (.int v574)) rfl (hb hby at_323) (pc' := 324) rfl ?_
      refine k_iconst X1510 hx (hb hby at_324) (pc' := 325) rfl (z := (1 : Int32)) rfl ?_
      refine k_iaddL X1510 hx (hb hby at_325) (pc' := 326) rfl (z := v601) hv601.symm ?_
      refine k_iastore X1510 hx hZ e1510 Vw1510 ⟨by decide, by decide⟩ (i := 0) rfl (Nat.le_of_ble_eq_true rfl) (hb hby at_326) (pc' := 327) rfl (fun T1511 h1511 X1511 e1511 W1511 V1511 => ?_)
      have Vw1511 : Arv Z h1511 b568 k568 .int (4 : Int32) [(.int v601), (.int (0 : Int32)), (.int v590), (.int v598)] (.int (0 : Int32)) := V1511
      have N1511 := Fr.snoc X1511 N1510 g_b568
      have Z1511 : n0 ≤ h1511.size := Nat.le_trans Z1510 (Nat.le_of_eq W1511.size.symm)
      refine k_aload X1511 hx (hb hby at_327) rfl rfl (pc' := 329) rfl ?_
      refine k_iload X1511 hx (hb hby at_329) rfl (pc' := 331) rfl ?_
      refine k_aload X1511 hx (hb hby at_331) rfl rfl (pc' := 333) rfl ?_
      refine k_iload X1511 hx (hb hby at_333) rfl (pc' := 335) rfl ?_
      refine k_iaload X1511 hx hZ e1511 Vw1511 ⟨by decide, by decide⟩ (v := (.int v598)) rfl (hb hby at_335) (pc' := 336) rfl ?_
      refine k_iload X1511 hx (hb hby at_336) rfl (pc' := 338) rfl ?_
      refine k_iadd X1511 hx (hb hby at_338) (pc' := 339) rfl (fun v1512 hv1512 => ?_)
      refine k_iconst X1511 hx (hb hby at_339) (pc' := 340) rfl (z := (1 : Int32)) rfl ?_
      refine k_isub X1511 hx (hb hby at_340) (pc' := 341) rfl (fun v1513 hv1513 => ?_)
      refine k_iastore X1511 hx hZ e1511 Vw1511 ⟨by decide, by decide⟩ (i := 3) rfl (Nat.le_of_ble_eq_true rfl) (hb hby at_341) (pc' := 342) rfl (fun T1514 h1514 X1514 e1514 W1514 V1514 => ?_)
      have Vw1514 : Arv Z h1514 b568 k568 .int (4 : Int32) [(.int v601), (.int (0 : Int32)), (.int v590), (.int v1513)] (.int (0 : Int32)) := V1514
      have N1514 := Fr.snoc X1514 N1511 g_b568
      have Z1514 : n0 ≤ h1514.size := Nat.le_trans Z1511 (Nat.le_of_eq W1514.size.symm)
      refine k_aload X1514 hx (hb hby at_342) rfl rfl (pc' := 344) rfl ?_
      refine k_iconst X1514 hx (hb hby at_344) (pc' := 345) rfl (z := (0 : Int32)) rfl ?_
      refine k_iaload X1514 hx hZ e1514 Vw1514 ⟨by decide, by decide⟩ (v := (.int v601)) rfl (hb hby at_345) (pc' := 346) rfl ?_
      refine k_istore X1514 hx (hb hby at_346) (Ls' := #[.val (.int i0), .val (.int i1), .val (.int i2), .val (.int i3), .val (.int i4), .val (.int (3 : Int32)), .val (.ref b568), .val (.int v574), .val (.int v602), .val (.int v604), .val (.int v606), .val (.ref b614), .val (.int (0 : Int32)), .val (.int (1 : Int32)), .val (.int v582), .val (.int v601), .unset, .unset]) rfl (pc' := 348) rfl ?_
      refine k_iload X1514 hx (hb hby at_348) rfl (pc' := 350) rfl ?_
      refine k_iconst X1514 hx (hb hby at_350) (pc' := 351) rfl (z := (1 : Int32)) rfl ?_
      refine k_iadd X1514 hx (hb hby at_351) (pc' := 352) rfl (fun v1515 hv1515 => ?_)
      refine k_aload X1514 hx (hb hby at_352) rfl rfl (pc' := 354) rfl ?_
      refine k_iconst X1514 hx (hb hby at_354) (pc' := 355) rfl (z := (1 : Int32)) rfl ?_
      refine k_iaload X1514 hx hZ e1514 Vw1514 ⟨by decide, by decide⟩ (v := (.int (0 : Int32))) rfl (hb hby at_355) (pc' := 356) rfl ?_
      refine k_iaddL X1514 hx (hb hby at_356) (pc' := 357) rfl (z := v1515) (Int32.add_zero _) ?_
      refine k_istore X1514 hx (hb hby at_357) (Ls' := #[.val (.int i0), .val (.int i1), .val (.int i2), .val (.int i3), .val (.int i4), .val (.int (3 : Int32)), .val (.ref b568), .val (.int v574), .val (.int v602), .val (.int v604), .val (.int v606), .val (.ref b614), .val (.int (0 : Int32)), .val (.int (1 : Int32)), .val (.int v582), .val (.int v601), .val (.int v1515), .unset]) rfl (pc' := 359) rfl ?_
      refine k_iload X1514 hx (hb hby at_359) rfl (pc' := 361) rfl ?_
      refine k_iconst X1514 hx (hb hby at_361) (pc' := 362) rfl (z := (1 : Int32)) rfl ?_
      refine k_iadd X1514 hx (hb hby at_362) (pc' := 363) rfl (fun v1516 hv1516 => ?_)
      refine k_aload X1514 hx (hb hby at_363) rfl rfl (pc' := 365) rfl ?_
      refine k_iconst X1514 hx (hb hby at_365) (pc' := 366) rfl (z := (2 : Int32)) rfl ?_
      refine k_iaload X1514 hx hZ e1514 Vw1514 ⟨by decide, by decide⟩ (v := (.int v590)) rfl (hb hby at_366) (pc' := 367) rfl ?_
      refine k_iadd X1514 hx (hb hby at_367) (pc' := 368) rfl (fun v1517 hv1517 => ?_)
      refine k_istore X1514 hx (hb hby at_368) (Ls' := #[.val (.int i0), .val (.int i1), .val (.int i2), .val (.int i3), .val (.int i4), .val (.int (3 : Int32)), .val (.ref b568), .val (.int v574), .val (.int v602), .val (.int v604), .val (.int v606), .val (.ref b614), .val (.int (0 : Int32)), .val (.int (1 : Int32)), .val (.int v582), .val (.int v601), .val (.int v1515), .val (.int v1517)]) rfl (pc' := 370) rfl ?_
      refine k_iload X1514 hx (hb hby at_370) rfl (pc' := 372) rfl ?_
      refine k_if_eq X1514 hx (hb hby at_372) (pn := 375) rfl (py := 395) (by decide) (fun _ => ?_) (fun hc => absurd (by decide) hc)
      refine k_iconst X1514 hx (hb hby at_395) (pc' := 396) rfl (z := (0 : Int32)) rfl ?_
      exfalso
      have := rng32 v574
      have : (0 : Int32).toInt = 0 := (by decide)
      have q1519 := hP575.1; rw [Int32.lt_iff_toInt_lt] at q1519
      have : (536870911 : Int32).toInt = 536870911 := (by decide)
      have q1520 := hP575.2; rw [Int32.lt_iff_toInt_lt] at q1520
      have := rng32 v582
      have q1522 := hP583.1; rw [Int32.lt_iff_toInt_lt] at q1522
      have q1523 := hP583.2; rw [Int32.lt_iff_toInt_lt] at q1523
      have := rng32 v590
      have q1525 := hP591.1; rw [Int32.lt_iff_toInt_lt] at q1525
      have q1526 := hP591.2; rw [Int32.lt_iff_toInt_lt] at q1526
      have := rng32 v598
      have q1528 := hP599.1; rw [Int32.lt_iff_toInt_lt] at q1528
      have q1529 := hP599.2; rw [Int32.lt_iff_toInt_lt] at q1529
      have := rng32 v604
      have := rng32 v603
      have := rng32 v602
      have := rng32 v601
      have : (1 : Int32).toInt = 1 := (by decide)
      have q1530 : (v601.toInt - (v574.toInt + (1 : Int32).toInt)) % 4294967296 = 0 := (by rw [hv601]; exact c_iadd _ _)
      have q1531 : (v602.toInt - (v601.toInt + v582.toInt)) % 4294967296 = 0 := (by rw [hv602]; exact c_iadd _ _)
      have q1532 : (v603.toInt - (v602.toInt + (1 : Int32).toInt)) % 4294967296 = 0 := (by rw [hv603]; exact c_iadd _ _)
      have q1533 : (v604.toInt - (v603.toInt + v590.toInt)) % 4294967296 = 0 := (by rw [hv604]; exact c_iadd _ _)
      have := rng32 v687
      have := rng32 v686
      have := rng32 v606
      have := rng32 v605
      have q1534 : (v605.toInt - (v604.toInt + (1 : Int32).toInt)) % 4294967296 = 0 := (by rw [hv605]; exact c_iadd _ _)
      have q1535 : (v606.toInt - (v605.toInt + v598.toInt)) % 4294967296 = 0 := (by rw [hv606]; exact c_iadd _ _)
      have : (3 : Int32).toInt = 3 := (by decide)
      have q1536 : (v686.toInt - (v606.toInt - (3 : Int32).toInt)) % 4294967296 = 0 := (by rw [h689]; exact c_isub _ _)
      have : (2 : Int32).toInt = 2 := (by decide)
      have q1537 : (v687.toInt - (v686.toInt + (2 : Int32).toInt)) % 4294967296 = 0 := (by rw [h690]; exact c_iadd _ _)
      have q1538 := congrArg Int32.toInt hc692
      have := rng32 v688
      have q1539 : (v688.toInt - (v686.toInt + (1 : Int32).toInt)) % 4294967296 = 0 := (by rw [h691]; exact c_iadd _ _)
      have q1540 := congrArg Int32.toInt hc693
      have q1541 := congrArg Int32.toInt hc694
      have q1542 := congrArg Int32.toInt hc1505
      have q1543 := congrArg Int32.toInt hc1506
      have q1544 : ¬ v582.toInt = (0 : Int32).toInt := fun q => hc1507 (Int32.toInt_inj.mp q)
      omega
    ·
     refine k_iconst X642 hx (hb hby at_238) (pc' := 239) rfl (z := (2 : Int32)) rfl ?_
     refine k_istore X642 hx (hb hby at_239) (Ls' := #[.val (.int i0), .val (.int i1), .val (.int i2), .val (.int i3), .val (.int i4), .val (.int (3 : Int32)), .val (.ref b568), .val (.int v574), .val (.int v602), .val (.int v604), .val (.int v606), .val (.ref b614), .val (.int (0 : Int32)), .val (.int (2 : Int32)), .unset, .unset, .unset, .unset]) rfl (pc' := 241) rfl ?_
     refine k_goto X642 hx (hb hby at_241) (pc' := 266) (by decide) ?_
     refine k_iload X642 hx (hb hby at_266) rfl (pc' := 268) rfl ?_
     refine k_if_ne X642 hx (hb hby at_268) (pn := 271) rfl (py := 298) (by decide) (fun _ => ?_) (fun hc => absurd hc (by decide))
     refine k_aload X642 hx (hb hby at_298) rfl rfl (pc' := 300) rfl ?_
     refine k_iload X642 hx (hb hby at_300) rfl (pc' := 302) rfl ?_
     refine k_iaload X642 hx hZ rfl F695 ⟨by decide, by decide⟩ (v := (.int v590)) rfl (hb hby at_302) (pc' := 303) rfl ?_
     refine k_istore X642 hx (hb hby at_303) (Ls' := #[.val (.int i0), .val (.int i1), .val (.int i2), .val (.int i3), .val (.int i4), .val (.int (3 : Int32)), .val (.ref b568), .val (.int v574), .val (.int v602), .val (.int v604), .val (.int v606), .val (.ref b614), .val (.int (0 : Int32)), .val (.int (2 : Int32)), .val (.int v590), .unset, .unset, .unset]) rfl (pc' := 305) rfl ?_
     refine k_aload X642 hx (hb hby at_305) rfl rfl (pc' := 307) rfl ?_
     refine k_iload X642 hx (hb hby at_307) rfl (pc' := 309) rfl ?_
     refine k_iconst X642 hx (hb hby at_309) (pc' := 310) rfl (z := (0 : Int32)) rfl ?_
     refine k_iastore X642 hx hZ rfl F695 ⟨by decide, by decide⟩ (i := 2) rfl (Nat.le_of_ble_eq_true rfl) (hb hby at_310) (pc' := 311) rfl (fun T1545 h1545 X1545 e1545 W1545 V1545 => ?_)
     have Vw1545 : Arv Z h1545 b568 k568 .int (4 : Int32) [(.int v574), (.int v582), (.int (0 : Int32)), (.int v598)] (.int (0 : Int32)) := V1545
     have N1545 := Fr.snoc X1545 N642' g_b568
     have Z1545 : n0 ≤ h1545.size := Nat.le_trans Z697 (Nat.le_of_eq W1545.size.symm)
     refine k_aload X1545 hx (hb hby at_311) rfl rfl (pc' := 313) rfl ?_
     refine k_iload X1545 hx (hb hby at_313) rfl (pc' := 315) rfl ?_
     refine k_iconst X1545 hx (hb hby at_315) (pc' := 316) rfl (z := (1 : Int32)) rfl ?_
     refine k_isubL X1545 hx (hb hby at_316) (pc' := 317) rfl (z := (1 : Int32)) (by decide) ?_
     refine k_aload X1545 hx (hb hby at_317) rfl rfl (pc' := 319) rfl ?_
     refine k_iload X1545 hx (hb hby at_319) rfl (pc' := 321) rfl ?_
     refine k_iconst X1545 hx (hb hby at_321) (pc' := 322) rfl (z := (1 : Int32)) rfl ?_
     refine k_isubL X1545 hx (hb hby at_322) (pc' := 323) rfl (z := (1 : Int32)) (by decide) ?_
     refine k_iaload X1545 hx hZ e1545 Vw1545 ⟨by decide, by decide⟩ (v := (.int v582)) rfl (hb hby at_323) (pc' := 324) rfl ?_
     refine k_iconst X1545 hx (hb hby at_324) (pc' := 325) rfl (z := (1 : Int32)) rfl ?_
     refine k_iadd X1545 hx (hb hby at_325) (pc' := 326) rfl (fun v1546 hv1546 => ?_)
     refine k_iastore X1545 hx hZ e1545 Vw1545 ⟨by decide, by decide⟩ (i := 1) rfl (Nat.le_of_ble_eq_true rfl) (hb hby at_326) (pc' := 327) rfl (fun T1547 h1547 X1547 e1547 W1547 V1547 => ?_)
     have Vw1547 : Arv Z h1547 b568 k568 .int (4 : Int32) [(.int v574), (.int v1546), (.int (0 : Int32)), (.int v598)] (.int (0 : Int32)) := V1547
     have N1547 := Fr.snoc X1547 N1545 g_b568
     have Z1547 : n0 ≤ h1547.size := Nat.le_trans Z1545 (Nat.le_of_eq W1547.size.symm)
     refine k_aload X1547 hx (hb hby at_327) rfl rfl (pc' := 329) rfl ?_
     refine k_iload X1547 hx (hb hby at_329) rfl (pc' := 331) rfl ?_
     refine k_aload X1547 hx (hb hby at_331) rfl rfl (pc' := 333) rfl ?_
     refine k_iload X1547 hx (hb hby at_333) rfl (pc' := 335) rfl ?_
     refine k_iaload X1547 hx hZ e1547 Vw1547 ⟨by decide, by decide⟩ (v := (.int v598)) rfl (hb hby at_335) (pc' := 336) rfl ?_
     refine k_iload X1547 hx (hb hby at_336) rfl (pc' := 338) rfl ?_
     refine k_iadd X1547 hx (hb hby at_338) (pc' := 339) rfl (fun v1548 hv1548 => ?_)
     refine k_iconst X1547 hx (hb hby at_339) (pc' := 340) rfl (z := (1 : Int32)) rfl ?_
     refine k_isub X1547 hx (hb hby at_340) (pc' := 341) rfl (fun v1549 hv1549 => ?_)
     refine k_iastore X1547 hx hZ e1547 Vw1547 ⟨by decide, by decide⟩ (i := 3) rfl (Nat.le_of_ble_eq_true rfl) (hb hby at_341) (pc' := 342) rfl (fun T1550 h1550 X1550 e1550 W1550 V1550 => ?_)
     have Vw1550 : Arv Z h1550 b568 k568 .int (4 : Int32) [(.int v574), (.int v1546), (.int (0 : Int32)), (.int v1549)] (.int (0 : Int32)) := V1550
     have N1550 := Fr.snoc X1550 N1547 g_b568
     have Z1550 : n0 ≤ h1550.size := Nat.le_trans Z1547 (Nat.le_of_eq W1550.size.symm)
     refine k_aload X1550 hx (hb hby at_342) rfl rfl (pc' := 344) rfl ?_
     refine k_iconst X1550 hx (hb hby at_344) (pc' := 345) rfl (z := (0 : Int32)) rfl ?_
     refine k_iaload X1550 hx hZ e1550 Vw1550 ⟨by decide, by decide⟩ (v := (.int v574)) rfl (hb hby at_345) (pc' := 346) rfl ?_
     refine k_istore X1550 hx (hb hby at_346) (Ls' := #[.val (.int i0), .val (.int i1), .val (.int i2), .val (.int i3), .val (.int i4), .val (.int (3 : Int32)), .val (.ref b568), .val (.int v574), .val (.int v602), .val (.int v604), .val (.int v606), .val (.ref b614), .val (.int (0 : Int32)), .val (.int (2 : Int32)), .val (.int v590), .val (.int v574), .unset, .unset]) rfl (pc' := 348) rfl ?_
     refine k_iload X1550 hx (hb hby at_348) rfl (pc' := 350) rfl ?_
     refine k_iconst X1550 hx (hb hby at_350) (pc' := 351) rfl (z := (1 : Int32)) rfl ?_
     refine k_iaddL X1550 hx (hb hby at_351) (pc' := 352) rfl (z := v601) hv601.symm ?_
     refine k_aload X1550 hx (hb hby at_352) rfl rfl (pc' := 354) rfl ?_
     refine k_iconst X1550 hx (hb hby at_354) (pc' := 355) rfl (z := (1 : Int32)) rfl ?_
     refine k_iaload X1550 hx hZ e1550 Vw1550 ⟨by decide, by decide⟩ (v := (.int v1546)) rfl (hb hby at_355) (pc' := 356) rfl ?_
     refine k_iadd X1550 hx (hb hby at_356) (pc' := 357) rfl (fun v1551 hv1551 => ?_)
     refine k_istore X1550 hx (hb hby at_357) (Ls' := #[.val (.int i0), .val (.int i1), .val (.int i2), .val (.int i3), .val (.int i4), .val (.int (3 : Int32)), .val (.ref b568), .val (.int v574), .val (.int v602), .val (.int v604), .val (.int v606), .val (.ref b614), .val (.int (0 : Int32)), .val (.int (2 : Int32)), .val (.int v590), .val (.int v574), .val (.int v1551), .unset]) rfl (pc' := 359) rfl ?_
     refine k_iload X1550 hx (hb hby at_359) rfl (pc' := 361) rfl ?_
     refine k_iconst X1550 hx (hb hby at_361) (pc' := 362) rfl (z := (1 : Int32)) rfl ?_
     refine k_iadd X1550 hx (hb hby at_362) (pc' := 363) rfl (fun v1552 hv1552 => ?_)
     refine k_aload X1550 hx (hb hby at_363) rfl rfl (pc' := 365) rfl ?_
     refine k_iconst X1550 hx (hb hby at_365) (pc' := 366) rfl (z := (2 : Int32)) rfl ?_
     refine k_iaload X1550 hx hZ e1550 Vw1550 ⟨by decide, by decide⟩ (v := (.int (0 : Int32))) rfl (hb hby at_366) (pc' := 367) rfl ?_
     refine k_iaddL X1550 hx (hb hby at_367) (pc' := 368) rfl (z := v1552) (Int32.add_zero _) ?_
     refine k_istore X1550 hx (hb hby at_368) (Ls' := #[.val (.int i0), .val (.int i1), .val (.int i2), .val (.int i3), .val (.int i4), .val (.int (3 : Int32)), .val (.ref b568), .val (.int v574), .val (.int v602), .val (.int v604), .val (.int v606), .val (.ref b614), .val (.int (0 : Int32)), .val (.int (2 : Int32)), .val (.int v590), .val (.int v574), .val (.int v1551), .val (.int v1552)]) rfl (pc' := 370) rfl ?_
     refine k_iload X1550 hx (hb hby at_370) rfl (pc' := 372) rfl ?_
     refine k_if_eq X1550 hx (hb hby at_372) (pn := 375) rfl (py := 395) (by decide) (fun _ => ?_) (fun hc => absurd (by decide) hc)
     refine k_iconst X1550 hx (hb hby at_395) (pc' := 396) rfl (z := (0 : Int32)) rfl ?_
     exfalso
     have := rng32 v574
     have : (0 : Int32).toInt = 0 := (by decide)
     have q1554 := hP575.1; rw [Int32.lt_iff_toInt_lt] at q1554
     have : (536870911 : Int32).toInt = 536870911 := (by decide)
     have q1555 := hP575.2; rw [Int32.lt_iff_toInt_lt] at q1555
     have := rng32 v582
     have q1557 := hP583.1; rw [Int32.lt_iff_toInt_lt] at q1557
     have q1558 := hP583.2; rw [Int32.lt_iff_toInt_lt] at q1558
     have := rng32 v590
     have q1560 := hP591.1; rw [Int32.lt_iff_toInt_lt] at q1560
     have q1561 := hP591.2; rw [Int32.lt_iff_toInt_lt] at q1561
     have := rng32 v598
     have q1563 := hP599.1; rw [Int32.lt_iff_toInt_lt] at q1563
     have q1564 := hP599.2; rw [Int32.lt_iff_toInt_lt] at q1564
     have := rng32 v604
     have := rng32 v603
     have := rng32 v602
     have := rng32 v601
     have : (1 : Int32).toInt = 1 := (by decide)
     have q1565 : (v601.toInt - (v574.toInt + (1 : Int32).toInt)) % 4294967296 = 0 := (by rw [hv601]; exact c_iadd _ _)
     have q1566 : (v602.toInt - (v601.toInt + v582.toInt)) % 4294967296 = 0 := (by rw [hv602]; exact c_iadd _ _)
     have q1567 : (v603.toInt - (v602.toInt + (1 : Int32).toInt)) % 4294967296 = 0 := (by rw [hv603]; exact c_iadd _ _)
     have q1568 : (v604.toInt - (v603.toInt + v590.toInt)) % 4294967296 = 0 := (by rw [hv604]; exact c_iadd _ _)
     have := rng32 v687
     have := rng32 v686
     have := rng32 v606
     have := rng32 v605
     have q1569 : (v605.toInt - (v604.toInt + (1 : Int32).toInt)) % 4294967296 = 0 := (by rw [hv605]; exact c_iadd _ _)
     have q1570 : (v606.toInt - (v605.toInt + v598.toInt)) % 4294967296 = 0 := (by rw [hv606]; exact c_iadd _ _)
     have : (3 : Int32).toInt = 3 := (by decide)
     have q1571 : (v686.toInt - (v606.toInt - (3 : Int32).toInt)) % 4294967296 = 0 := (by rw [h689]; exact c_isub _ _)
     have : (2 : Int32).toInt = 2 := (by decide)
     have q1572 : (v687.toInt - (v686.toInt + (2 : Int32).toInt)) % 4294967296 = 0 := (by rw [h690]; exact c_iadd _ _)
     have q1573 := congrArg Int32.toInt hc692
     have := rng32 v688
     have q1574 : (v688.toInt - (v686.toInt + (1 : Int32).toInt)) % 4294967296 = 0 := (by rw [h691]; exact c_iadd _ _)
     have q1575 := congrArg Int32.toInt hc693
     have q1576 := congrArg Int32.toInt hc694
     have q1577 := congrArg Int32.toInt hc1505
     have q1578 : ¬ v590.toInt = (0 : Int32).toInt := fun q => hc1506 (Int32.toInt_inj.mp q)
     omega
   ·
    refine k_iconst X642 hx (hb hby at_219) (pc' := 220) rfl (z := (3 : Int32)) rfl ?_
    refine k_istore X642 hx (hb hby at_220) (Ls' := #[.val (.int i0), .val (.int i1), .val (.int i2), .val (.int i3), .val (.int i4), .val (.int (3 : Int32)), .val (.ref b568), .val (.int v574), .val (.int v602), .val (.int v604), .val (.int v606), .val (.ref b614), .val (.int (0 : Int32)), .val (.int (3 : Int32)), .unset, .unset, .unset, .unset]) rfl (pc' := 222) rfl ?_
    refine k_goto X642 hx (hb hby at_222) (pc' := 266) (by decide) ?_
    refine k_iload X642 hx (hb hby at_266) rfl (pc' := 268) rfl ?_
    refine k_if_ne X642 hx (hb hby at_268) (pn := 271) rfl (py := 298) (by decide) (fun _ => ?_) (fun hc => absurd hc (by decide))
    refine k_aload X642 hx (hb hby at_298) rfl rfl (pc' := 300) rfl ?_
    refine k_iload X642 hx (hb hby at_300) rfl (pc' := 302) rfl ?_
    refine k_iaload X642 hx hZ rfl F695 ⟨by decide, by decide⟩ (v := (.int v598)) rfl (hb hby at_302) (pc' := 303) rfl ?_
    refine k_istore X642 hx (hb hby at_303) (Ls' := #[.val (.int i0), .val (.int i1), .val (.int i2), .val (.int i3), .val (.int i4), .val (.int (3 : Int32)), .val (.ref b568), .val (.int v574), .val (.int v602), .val (.int v604), .val (.int v606), .val (.ref b614), .val (.int (0 : Int32)), .val (.int (3 : Int32)), .val (.int v598), .unset, .unset, .unset]) rfl (pc' := 305) rfl ?_
    refine k_aload X642 hx (hb hby at_305) rfl rfl (pc' := 307) rfl ?_
    refine k_iload X642 hx (hb hby at_307) rfl (pc' := 309) rfl ?_
    refine k_iconst X642 hx (hb hby at_309) (pc' := 310) rfl (z := (0 : Int32)) rfl ?_
    refine k_iastore X642 hx hZ rfl F695 ⟨by decide, by decide⟩ (i := 3) rfl (Nat.le_of_ble_eq_true rfl) (hb hby at_310) (pc' := 311) rfl (fun T1579 h1579 X1579 e1579 W1579 V1579 => ?_)
    have Vw1579 : Arv Z h1579 b568 k568 .int (4 : Int32) [(.int v574), (.int v582), (.int v590), (.int (0 : Int32))] (.int (0 : Int32)) := V1579
    have N1579 := Fr.snoc X1579 N642' g_b568
    have Z1579 : n0 ≤ h1579.size := Nat.le_trans Z697 (Nat.le_of_eq W1579.size.symm)
    refine k_aload X1579 hx (hb hby at_311) rfl rfl (pc' := 313) rfl ?_
    refine k_iload X1579 hx (hb hby at_313) rfl (pc' := 315) rfl ?_
    refine k_iconst X1579 hx (hb hby at_315) (pc' := 316) rfl (z := (1 : Int32)) rfl ?_
    refine k_isubL X1579 hx (hb hby at_316) (pc' := 317) rfl (z := (2 : Int32)) (by decide) ?_
    refine k_aload X1579 hx (hb hby at_317) rfl rfl (pc' := 319) rfl ?_
    refine k_iload X1579 hx (hb hby at_319) rfl (pc' := 321) rfl ?_
    refine k_iconst X1579 hx (hb hby at_321) (pc' := 322) rfl (z := (1 : Int32)) rfl ?_
    refine k_isubL X1579 hx (hb hby at_322) (pc' := 323) rfl (z := (2 : Int32)) (by decide) ?_
    refine k_iaload X1579 hx hZ e1579 Vw1579 ⟨by decide, by decide⟩ (v := (.int v590)) rfl (hb hby at_323) (pc' := 324) rfl ?_
    refine k_iconst X1579 hx (hb hby at_324) (pc' := 325) rfl (z := (1 : Int32)) rfl ?_
    refine k_iadd X1579 hx (hb hby at_325) (pc' := 326) rfl (fun v1580 hv1580 => ?_)
    refine k_iastore X1579 hx hZ e1579 Vw1579 ⟨by decide, by decide⟩ (i := 2) rfl (Nat.le_of_ble_eq_true rfl) (hb hby at_326) (pc' := 327) rfl (fun T1581 h1581 X1581 e1581 W1581 V1581 => ?_)
    have Vw1581 : Arv Z h1581 b568 k568 .int (4 : Int32) [(.int v574), (.int v582), (.int v1580), (.int (0 : Int32))] (.int (0 : Int32)) := V1581
    have N1581 := Fr.snoc X1581 N1579 g_b568
    have Z1581 : n0 ≤ h1581.size := Nat.le_trans Z1579 (Nat.le_of_eq W1581.size.symm)
    refine k_aload X1581 hx (hb hby at_327) rfl rfl (pc' := 329) rfl ?_
    refine k_iload X1581 hx (hb hby at_329) rfl (pc' := 331) rfl ?_
    refine k_aload X1581 hx (hb hby at_331) rfl rfl (pc' := 333) rfl ?_
    refine k_iload X1581 hx (hb hby at_333) rfl (pc' := 335) rfl ?_
    refine k_iaload X1581 hx hZ e1581 Vw1581 ⟨by decide, by decide⟩ (v := (.int (0 : Int32))) rfl (hb hby at_335) (pc' := 336) rfl ?_
    refine k_iload X1581 hx (hb hby at_336) rfl (pc' := 338) rfl ?_
    refine k_iaddL X1581 hx (hb hby at_338) (pc' := 339) rfl (z := v598) (Int32.zero_add _) ?_
    refine k_iconst X1581 hx (hb hby at_339) (pc' := 340) rfl (z := (1 : Int32)) rfl ?_
    refine k_isub X1581 hx (hb hby at_340) (pc' := 341) rfl (fun v1582 hv1582 => ?_)
    refine k_iastore X1581 hx hZ e1581 Vw1581 ⟨by decide, by decide⟩ (i := 3) rfl (Nat.le_of_ble_eq_true rfl) (hb hby at_341) (pc' := 342) rfl (fun T1583 h1583 X1583 e1583 W1583 V1583 => ?_)
    have Vw1583 : Arv Z h1583 b568 k568 .int (4 : Int32) [(.int v574), (.int v582), (.int v1580), (.int v1582)] (.int (0 : Int32)) := V1583
    have N1583 := Fr.snoc X1583 N1581 g_b568
    have Z1583 : n0 ≤ h1583.size := Nat.le_trans Z1581 (Nat.le_of_eq W1583.size.symm)
    refine k_aload X1583 hx (hb hby at_342) rfl rfl (pc' := 344) rfl ?_
    refine k_iconst X1583 hx (hb hby at_344) (pc' := 345) rfl (z := (0 : Int32)) rfl ?_
    refine k_iaload X1583 hx hZ e1583 Vw1583 ⟨by decide, by decide⟩ (v := (.int v574)) rfl (hb hby at_345) (pc' := 346) rfl ?_
    refine k_istore X1583 hx (hb hby at_346) (Ls' := #[.val (.int i0), .val (.int i1), .val (.int i2), .val (.int i3), .val (.int i4), .val (.int (3 : Int32)), .val (.ref b568), .val (.int v574), .val (.int v602), .val (.int v604), .val (.int v606), .val (.ref b614), .val (.int (0 : Int32)), .val (.int (3 : Int32)), .val (.int v598), .val (.int v574), .unset, .unset]) rfl (pc' := 348) rfl ?_
    refine k_iload X1583 hx (hb hby at_348) rfl (pc' := 350) rfl ?_
    refine k_iconst X1583 hx (hb hby at_350) (pc' := 351) rfl (z := (1 : Int32)) rfl ?_
    refine k_iaddL X1583 hx (hb hby at_351) (pc' := 352) rfl (z := v601) hv601.symm ?_
    refine k_aload X1583 hx (hb hby at_352) rfl rfl (pc' := 354) rfl ?_
    refine k_iconst X1583 hx (hb hby at_354) (pc' := 355) rfl (z := (1 : Int32)) rfl ?_
    refine k_iaload X1583 hx hZ e1583 Vw1583 ⟨by decide, by decide⟩ (v := (.int v582)) rfl (hb hby at_355) (pc' := 356) rfl ?_
    refine k_iaddL X1583 hx (hb hby at_356) (pc' := 357) rfl (z := v602) hv602.symm ?_
    refine k_istore X1583 hx (hb hby at_357) (Ls' := #[.val (.int i0), .val (.int i1), .val (.int i2), .val (.int i3), .val (.int i4), .val (.int (3 : Int32)), .val (.ref b568), .val (.int v574), .val (.int v602), .val (.int v604), .val (.int v606), .val (.ref b614), .val (.int (0 : Int32)), .val (.int (3 : Int32)), .val (.int v598), .val (.int v574), .val (.int v602), .unset]) rfl (pc' := 359) rfl ?_
    refine k_iload X1583 hx (hb hby at_359) rfl (pc' := 361) rfl ?_
    refine k_iconst X1583 hx (hb hby at_361) (pc' := 362) rfl (z := (1 : Int32)) rfl ?_
    refine k_iaddL X1583 hx (hb hby at_362) (pc' := 363) rfl (z := v603) hv603.symm ?_
    refine k_aload X1583 hx (hb hby at_363) rfl rfl (pc' := 365) rfl ?_
    refine k_iconst X1583 hx (hb hby at_365) (pc' := 366) rfl (z := (2 : Int32)) rfl ?_
    refine k_iaload X1583 hx hZ e1583 Vw1583 ⟨by decide, by decide⟩ (v := (.int v1580)) rfl (hb hby at_366) (pc' := 367) rfl ?_
    refine k_iadd X1583 hx (hb hby at_367) (pc' := 368) rfl (fun v1584 hv1584 => ?_)
    refine k_istore X1583 hx (hb hby at_368) (Ls' := #[.val (.int i0), .val (.int i1), .val (.int i2), .val (.int i3), .val (.int i4), .val (.int (3 : Int32)), .val (.ref b568), .val (.int v574), .val (.int v602), .val (.int v604), .val (.int v606), .val (.ref b614), .val (.int (0 : Int32)), .val (.int (3 : Int32)), .val (.int v598), .val (.int v574), .val (.int v602), .val (.int v1584)]) rfl (pc' := 370) rfl ?_
    refine k_iload X1583 hx (hb hby at_370) rfl (pc' := 372) rfl ?_
    refine k_if_eq X1583 hx (hb hby at_372) (pn := 375) rfl (py := 395) (by decide) (fun _ => ?_) (fun hc => absurd (by decide) hc)
    refine k_iconst X1583 hx (hb hby at_395) (pc' := 396) rfl (z := (0 : Int32)) rfl ?_
    exfalso
    have := rng32 v574
    have : (0 : Int32).toInt = 0 := (by decide)
    have q1586 := hP575.1; rw [Int32.lt_iff_toInt_lt] at q1586
    have : (536870911 : Int32).toInt = 536870911 := (by decide)
    have q1587 := hP575.2; rw [Int32.lt_iff_toInt_lt] at q1587
    have := rng32 v582
    have q1589 := hP583.1; rw [Int32.lt_iff_toInt_lt] at q1589
    have q1590 := hP583.2; rw [Int32.lt_iff_toInt_lt] at q1590
    have := rng32 v590
    have q1592 := hP591.1; rw [Int32.lt_iff_toInt_lt] at q1592
    have q1593 := hP591.2; rw [Int32.lt_iff_toInt_lt] at q1593
    have := rng32 v598
    have q1595 := hP599.1; rw [Int32.lt_iff_toInt_lt] at q1595
    have q1596 := hP599.2; rw [Int32.lt_iff_toInt_lt] at q1596
    have := rng32 v604
    have := rng32 v603
    have := rng32 v602
    have := rng32 v601
    have : (1 : Int32).toInt = 1 := (by decide)
    have q1597 : (v601.toInt - (v574.toInt + (1 : Int32).toInt)) % 4294967296 = 0 := (by rw [hv601]; exact c_iadd _ _)
    have q1598 : (v602.toInt - (v601.toInt + v582.toInt)) % 4294967296 = 0 := (by rw [hv602]; exact c_iadd _ _)
    have q1599 : (v603.toInt - (v602.toInt + (1 : Int32).toInt)) % 4294967296 = 0 := (by rw [hv603]; exact c_iadd _ _)
    have q1600 : (v604.toInt - (v603.toInt + v590.toInt)) % 4294967296 = 0 := (by rw [hv604]; exact c_iadd _ _)
    have := rng32 v687
    have := rng32 v686
    have := rng32 v606
    have := rng32 v605
    have q1601 : (v605.toInt - (v604.toInt + (1 : Int32).toInt)) % 4294967296 = 0 := (by rw [hv605]; exact c_iadd _ _)
    have q1602 : (v606.toInt - (v605.toInt + v598.toInt)) % 4294967296 = 0 := (by rw [hv606]; exact c_iadd _ _)
    have : (3 : Int32).toInt = 3 := (by decide)
    have q1603 : (v686.toInt - (v606.toInt - (3 : Int32).toInt)) % 4294967296 = 0 := (by rw [h689]; exact c_isub _ _)
    have : (2 : Int32).toInt = 2 := (by decide)
    have q1604 : (v687.toInt - (v686.toInt + (2 : Int32).toInt)) % 4294967296 = 0 := (by rw [h690]; exact c_iadd _ _)
    have q1605 := congrArg Int32.toInt hc692
    have := rng32 v688
    have q1606 : (v688.toInt - (v686.toInt + (1 : Int32).toInt)) % 4294967296 = 0 := (by rw [h691]; exact c_iadd _ _)
    have q1607 := congrArg Int32.toInt hc693
    have q1608 := congrArg Int32.toInt hc694
    have q1609 : ¬ v598.toInt = (0 : Int32).toInt := fun q => hc1505 (Int32.toInt_inj.mp q)
    omega
set_option maxRecDepth 65536 in
set_option maxHeartbeats 40000000 in
theorem comes_1 {Post : Tables → Env → Array Value → State → Outcome → State → Prop} (hpost : ∀ tb e args s v u, (limb_1_1.after args s (.returned v) u = true ∧ limb_1_2.after args s (.returned v) u = true ∧ True) → FrameEnd s (.returned v) u (Jvm.fieldLocs frame_1_writes args s ++ Jvm.arrayLocs frame_1_arrays args s ++ Jvm.staticLocs frame_1_statics s) 16 128 → Post tb e args s (.returned v) u) :
    ArmFor flags0 classFile x code maxLocals ret World_1 tables_1 room_1 Calls_1 rest_1 Pre_1 Post := by
  intro l hfl _ _ p e ha hc hk s m args below hf hA hF happ hP
  obtain ⟨hcalls, hrest, hpre⟩ := hP
  obtain ⟨-, -, -, hnamed, -, -, -, hat⟩ := (Spec.applies_iff hf).mp happ
  obtain ⟨hg, hn⟩ := and_e (Cond.before_iff.mp (show (Jvm.Cond.and given_1 narrow_1).before args s = true from hpre))
  obtain ⟨g1610, g1611⟩ := and_e hg
  obtain ⟨g1612, g1613⟩ := and_e g1611
  obtain ⟨g1614, g1615⟩ := and_e g1613
  obtain ⟨g1616, g1617⟩ := and_e g1615
  obtain ⟨g1618, g1619⟩ := and_e g1617
  obtain ⟨w0, w1, w2, w3, w4, rfl⟩ : ∃ w0 w1 w2 w3 w4 : Value, args = #[w0, w1, w2, w3, w4] := by
    have hs : args.size = 5 := by simpa [Cond.value, given_1] using g1610
    obtain ⟨L⟩ := args
    match L, hs with
    | [w0, w1, w2, w3, w4], _ => exact ⟨w0, w1, w2, w3, w4, rfl⟩
  have hw := fun d (hd : d ∈ tables_1) => atoms_spec (ws := Jvm.Cond.code x code maxLocals ret :: tables_1) hat d (List.mem_cons_of_mem _ hd)
  obtain ⟨i0, ei0⟩ := is_v g1612
  obtain rfl : w0 = (.int i0) := Option.some.inj ei0
  obtain ⟨i1, ei1⟩ := is_v g1614
  obtain rfl : w1 = (.int i1) := Option.some.inj ei1
  obtain ⟨i2, ei2⟩ := is_v g1616
  obtain rfl : w2 = (.int i2) := Option.some.inj ei2
  obtain ⟨i3, ei3⟩ := is_v g1618
  obtain rfl : w3 = (.int i3) := Option.some.inj ei3
  obtain ⟨i4, ei4⟩ := is_v g1619
  obtain rfl : w4 = (.int i4) := Option.some.inj ei4
  obtain ⟨n, o, h1, h2, h3, _, L, rfl, ⟨rfl, N⟩, hq⟩ := rm0 l s _ hw tables_1 i0 i1 i2 i3 i4 s.heap s.heap.size (Nat.le_refl _) p e ha hc hk s m _ below hf ((Spec.applies_iff_loose hf).mp happ).1 ⟨rfl, State.Warmed39.refl s, rfl⟩ trivial
  refine ⟨n, _, h1, h2, h3, hpost _ _ _ _ _ _ ⟨Cond.after_iff.mpr rfl, Cond.after_iff.mpr (eq_i res_at (Term.int_eval (1)) rfl), trivial⟩ ⟨hq.1, hq.2.1, (hq.2.2.sift fun y hy => Or.inr (N y hy)).mono (by decide) (by decide)⟩⟩
theorem main_1_1 : Claimed_1_1 := comes_1 fun _ _ _ _ _ _ h hF => ⟨h.1, hF⟩
theorem main_1_2 : Claimed_1_2 := comes_1 fun _ _ _ _ _ _ h hF => ⟨h.2.1, hF⟩
end Jvm.Pilot.@@N@@
namespace Jvm.Pilot.@@N@@
open Jvm Jvm.ClassFile Sem Op Lib Jvm.Free Jvm.Stand Jvm.Pilot.@@N@@.Jvm.D
/-! MADE BY PROGRAM (witnessworld.py) out of the Statement's table words and the real class files: 9 classes; the members and pool entries that the words name. The judged class is class 1, her method 1. -/
namespace start1
open Jvm.ClassFile
def u (s : String) : CpInfo := .utf8 (stringToUtf16 s)
/-- a pool by its gaps: so many unusable entries, then the entry; so many at the end -/
def gap : Nat → List CpInfo → List CpInfo
  | 0, r => r
  | n + 1, r => .unusable :: gap n r
def poolList (es : List (Nat × CpInfo)) (last : Nat) : List CpInfo := es.foldr (fun e r => gap e.1 (e.2 :: r)) (gap last [])
def pool (es : List (Nat × CpInfo)) (last : Nat) : Array CpInfo := ⟨poolList es last⟩
def fileOf (pool : Array CpInfo) (this : Nat) (attrs : Array Attribute := #[]) (ms : Array MethodInfo := #[]) (fl : Nat := 33) (sup : Nat := 0) (ifs : Array Nat := #[]) (fds : Array FieldInfo := #[]) : ClassFile where
  minorVersion := 0
  majorVersion := 65
  constantPool := pool
  accessFlags := fl
  thisClass := this
  superClass := sup
  interfaces := ifs
  fields := fds
  methods := ms
  attributes := attrs
def plain (name : String) (sup : Option ClassId) : Class where
  name := name
  kind := .ordinary
  loader := none
  accessFlags := 33
  super := sup
  interfaces := #[]
  cf := none
  fields := #[]
  methods := #[]
  instanceTypes := #[]
  staticTypes := #[]
  resolved := #[]
  callSites := []
  init := .initialized
  statics := none
  mirror := none

def pool0 : Array CpInfo := pool [(5, u "<init>"), (0, u "()V"), (1, .class_ 10), (1, u "java/lang/Object")] 113

def k0m0 : Method := { name := "<init>", desc := "()V", sig := { parameters := [], returnType := none }, accessFlags := 1, code := none }
/-- java/lang/Object -/
def k0 : Class := { plain "java/lang/Object" none with
  accessFlags := 33
  interfaces := #[]
  cf := some (fileOf pool0 8 #[] #[{ accessFlags := 1, nameIndex := 5, descriptorIndex := 6, attributes := #[] }] 33 0 #[] #[])
  fields := #[]
  methods := #[k0m0]
  instanceTypes := #[]
  staticTypes := #[]
  resolved := Array.replicate 124 none
  statics := none }

def pool1 : Array CpInfo := pool [(2, .class_ 4), (1, u "java/lang/Object"), (0, u "<init>"), (0, u "()V"), (0, .class_ 8), (0, u "com/example/kallimachos/kallimachos/subsets/CombinationsNextPinLaw"), (0, .integer 536870911), (0, .methodref 7 11), (0, .nameAndType 12 13), (0, u "make"), (0, u "(IIII)[I"), (0, .methodref 15 16), (0, .class_ 17), (0, .nameAndType 18 19), (0, u "com/example/kallimachos/kallimachos/subsets/Combinations"), (0, u "next"), (0, u "([II)Z"), (0, .methodref 7 21), (0, .nameAndType 22 23), (0, u "same"), (0, u "([IIIII)Z"), (0, u "M"), (0, u "I"), (3, u "law"), (0, u "(IIIII)Z")] 5

def k1m0 : Method := { name := "<init>", desc := "()V", sig := { parameters := [], returnType := none }, accessFlags := 2, code := none }
def k1c1 : Code := { maxStack := 5, maxLocals := 18, code := code, exceptionTable := #[], attributes := #[] }
def k1m1 : Method := { name := "law", desc := "(IIIII)Z", sig := { parameters := [.int, .int, .int, .int, .int], returnType := some .boolean }, accessFlags := 9, code := some k1c1 }
def k1c2 : Code := { maxStack := 4, maxLocals := 4, code := method_3_code, exceptionTable := #[], attributes := #[] }
def k1m2 : Method := { name := "make", desc := "(IIII)[I", sig := { parameters := [.int, .int, .int, .int], returnType := some (.array .int) }, accessFlags := 10, code := some k1c2 }
def k1c3 : Code := { maxStack := 2, maxLocals := 5, code := method_4_code, exceptionTable := #[], attributes := #[] }
def k1m3 : Method := { name := "same", desc := "([IIIII)Z", sig := { parameters := [(.array .int), .int, .int, .int, .int], returnType := some .boolean }, accessFlags := 10, code := some k1c3 }
/-- com/example/kallimachos/kallimachos/subsets/CombinationsNextPinLaw -/
def k1 : Class := { plain "com/example/kallimachos/kallimachos/subsets/CombinationsNextPinLaw" (some 0) with
  accessFlags := 49
  interfaces := #[]
  cf := some (fileOf pool1 7 #[] #[{ accessFlags := 2, nameIndex := 5, descriptorIndex := 6, attributes := #[] }, { accessFlags := 9, nameIndex := 29, descriptorIndex := 30, attributes := #[] }, { accessFlags := 10, nameIndex := 12, descriptorIndex := 13, attributes := #[] }, { accessFlags := 10, nameIndex := 22, descriptorIndex := 23, attributes := #[] }] 49 2 #[] #[{ accessFlags := 26, nameIndex := 24, descriptorIndex := 25, attributes := #[] }])
  fields := #[{ name := "M", type := .int, accessFlags := 26, slot := 0, constantValue := 0 }]
  methods := #[k1m0, k1m1, k1m2, k1m3]
  instanceTypes := #[]
  staticTypes := #[.int]
  resolved := Array.replicate 36 none
  statics := none }

def pool2 : Array CpInfo := pool [(2, .class_ 4), (1, u "java/lang/Object"), (0, u "<init>"), (0, u "()V"), (25, .class_ 33), (0, u "com/example/kallimachos/kallimachos/subsets/Combinations"), (5, u "next"), (0, u "([II)Z")] 4

def k2m0 : Method := { name := "<init>", desc := "()V", sig := { parameters := [], returnType := none }, accessFlags := 2, code := none }
def k2c1 : Code := { maxStack := 5, maxLocals := 4, code := prog_31_method_3_code, exceptionTable := #[], attributes := #[] }
def k2m1 : Method := { name := "next", desc := "([II)Z", sig := { parameters := [(.array .int), .int], returnType := some .boolean }, accessFlags := 8, code := some k2c1 }
/-- com/example/kallimachos/kallimachos/subsets/Combinations -/
def k2 : Class := { plain "com/example/kallimachos/kallimachos/subsets/Combinations" (some 0) with
  accessFlags := 48
  interfaces := #[]
  cf := some (fileOf pool2 32 #[] #[{ accessFlags := 2, nameIndex := 5, descriptorIndex := 6, attributes := #[] }, { accessFlags := 8, nameIndex := 39, descriptorIndex := 40, attributes := #[] }] 48 2 #[] #[])
  fields := #[]
  methods := #[k2m0, k2m1]
  instanceTypes := #[]
  staticTypes := #[]
  resolved := Array.replicate 45 none
  statics := none }

def pool3 : Array CpInfo := pool [(1, u "java/lang/Cloneable"), (0, .class_ 1), (0, u "java/lang/Object"), (0, .class_ 3)] 3

/-- java/lang/Cloneable -/
def k3 : Class := { plain "java/lang/Cloneable" (some 0) with
  accessFlags := 1537
  interfaces := #[]
  cf := some (fileOf pool3 2 #[] #[] 1537 4 #[] #[])
  fields := #[]
  methods := #[]
  instanceTypes := #[]
  staticTypes := #[]
  resolved := Array.replicate 8 none
  statics := none }

def pool4 : Array CpInfo := pool [(1, u "java/io/Serializable"), (0, .class_ 1), (0, u "java/lang/Object"), (0, .class_ 3)] 3

/-- java/io/Serializable -/
def k4 : Class := { plain "java/io/Serializable" (some 0) with
  accessFlags := 1537
  interfaces := #[]
  cf := some (fileOf pool4 2 #[] #[] 1537 4 #[] #[])
  fields := #[]
  methods := #[]
  instanceTypes := #[]
  staticTypes := #[]
  resolved := Array.replicate 8 none
  statics := none }

/-- the primitive byte -/
def k5 : Class := { plain "byte" none with kind := .primitive 'B', accessFlags := 0x411 }
/-- [B -/
def k6 : Class := { plain "[B" (some 0) with kind := .array 5 .byte, interfaces := #[3, 4], accessFlags := 1041 }

/-- the primitive int -/
def k7 : Class := { plain "int" none with kind := .primitive 'I', accessFlags := 0x411 }
/-- [I -/
def k8 : Class := { plain "[I" (some 0) with kind := .array 7 .int, interfaces := #[3, 4], accessFlags := 1041 }

def heap : Heap := #[]
def classes : Array Class := #[k0, k1, k2, k3, k4, k5, k6, k7, k8]
def interned : List (Array UInt16 × Addr) := []
def slotsUsed : Nat := 0
def theMethod : MethodId := ⟨1, 1⟩
def args0 : Array Value := #[.int 5, .int 7, .int 1, .int 3, .int 2]
def aboutOver (below : List Frame) : State where
  vm := { classes := classes, interned := interned.toArray }
  heap := heap
  slotsUsed := slotsUsed
  threads := #[{ frames := .invoking theMethod args0 :: below }]
def below0 : List Frame := [.native { method := ⟨0, 0⟩, args := #[] }]
def about1 : State := aboutOver below0
def p0 : Program := .bare "" "" ""
def e0 : Env := launch0.env 0 0 0
theorem w_frames : about1.frames = Frame.invoking theMethod args0 :: below0 := rfl
set_option maxRecDepth 65536 in
theorem w_args : argsFit about1.vm theMethod args0 = true := by decide +kernel
set_option maxRecDepth 65536 in
theorem w_heap : heapFits about1 = true := by decide +kernel
set_option maxRecDepth 65536 in
theorem w_runnable : about1.curStatus? = some .runnable := by decide +kernel
set_option maxRecDepth 65536 in
theorem w_alone : about1.alone = true := by decide +kernel
set_option maxRecDepth 65536 in
theorem w_named : about1.methodNamed? x = some theMethod := by decide +kernel
set_option maxRecDepth 65536 in
theorem w_hears : about1.hears theMethod below0 = true := by decide +kernel
set_option maxRecDepth 65536 in
theorem w_ripe : about1.ripe theMethod args0 below0 = true := by decide +kernel
theorem w_running : about1.status = .running := rfl
set_option maxRecDepth 65536 in
theorem w_room : about1.hasRoom e0.platform room_1 = true :=
  launch0.hasRoom_least _ room_1 (by decide +kernel) (by decide +kernel) (by decide +kernel) (by decide +kernel) (by decide +kernel) (by decide +kernel)
theorem allAtoms_all (ts : List Jvm.Cond) (a : Array Jvm.Value) (st : Jvm.State) : (allAtoms ts).before a st = ts.all (fun c => c.before a st) := by
  induction ts with
  | nil => rfl
  | cons c t ih =>
    show (Jvm.Cond.and c (allAtoms t)).before a st = _
    rw [Jvm.Cond.before_and, ih, List.all_cons]
def words1 : List Jvm.Cond := Jvm.Cond.code x code maxLocals ret :: tables_1
/-- a 'code' word, met by the world's own term for the bytes: nothing is compared byte by byte -/
theorem code_word {y : MethodName} {bytes : ByteArray} {mx : Nat} {rt : Option FieldType} {a : Array Value} {s : State} {m : MethodId} {meth : Method} {c : Code} (h1 : s.methodNamed? y = some m) (h2 : s.vm.method? m = some meth) (h3 : meth.code = some c) (h4 : c.code = bytes)
    (h5 : (c.maxLocals == mx && c.exceptionTable.isEmpty && decide (c.maxStack ≤ mostOperands) && decide (meth.sig.returnType = rt) && !meth.locks && decide (parseMethodDescriptor y.desc = some meth.sig)) = true) : (Jvm.Cond.code y bytes mx rt).before a s = true := by
  simp only [Bool.and_eq_true, beq_iff_eq, Bool.not_eq_true', decide_eq_true_eq] at h5
  obtain ⟨⟨⟨⟨⟨g1, g2⟩, g3⟩, g4⟩, g5⟩, g6⟩ := h5
  simp [Cond.before, Cond.holds, Cond.value, h1, h2, h3, h4, g1, g2, g3, g4, g5, g6]
def isCode : Jvm.Cond → Bool
  | .code _ _ _ _ => true
  | _ => false
theorem all_split {L : List Jvm.Cond} {P : Jvm.Cond → Bool} (h1 : L.all (fun c => isCode c || P c) = true) (h2 : ∀ c ∈ L.filter isCode, P c = true) : L.all P = true := by
  refine List.all_eq_true.mpr fun c hc => ?_
  have h := List.all_eq_true.mp h1 c hc
  rcases Bool.eq_false_or_eq_true (isCode c) with hi | hi
  · exact h2 c (List.mem_filter.mpr ⟨hc, hi⟩)
  · simpa [hi] using h
set_option maxRecDepth 65536 in
theorem w_c0 : (Jvm.Cond.code x code maxLocals ret).before args0 about1 = true := code_word (m := ⟨1, 1⟩) (meth := k1m1) (c := k1c1) (by decide +kernel) rfl rfl rfl (by decide +kernel)
set_option maxRecDepth 65536 in
theorem w_c1 : (Jvm.Cond.code ({ cls := "com/example/kallimachos/kallimachos/subsets/CombinationsNextPinLaw", name := "make", desc := "(IIII)[I" } : Jvm.MethodName) method_3_code (4 : Nat) (Option.some (Jvm.ClassFile.FieldType.array Jvm.ClassFile.FieldType.int))).before args0 about1 = true := code_word (m := ⟨1, 2⟩) (meth := k1m2) (c := k1c2) (by decide +kernel) rfl rfl rfl (by decide +kernel)
set_option maxRecDepth 65536 in
theorem w_c2 : (Jvm.Cond.code ({ cls := "com/example/kallimachos/kallimachos/subsets/Combinations", name := "next", desc := "([II)Z" } : Jvm.MethodName) prog_31_method_3_code (4 : Nat) (Option.some Jvm.ClassFile.FieldType.boolean)).before args0 about1 = true := code_word (m := ⟨2, 1⟩) (meth := k2m1) (c := k2c1) (by decide +kernel) rfl rfl rfl (by decide +kernel)
set_option maxRecDepth 65536 in
theorem w_c3 : (Jvm.Cond.code ({ cls := "com/example/kallimachos/kallimachos/subsets/CombinationsNextPinLaw", name := "same", desc := "([IIIII)Z" } : Jvm.MethodName) method_4_code (5 : Nat) (Option.some Jvm.ClassFile.FieldType.boolean)).before args0 about1 = true := code_word (m := ⟨1, 3⟩) (meth := k1m3) (c := k1c3) (by decide +kernel) rfl rfl rfl (by decide +kernel)
def codes1 : List Jvm.Cond := [Jvm.Cond.code x code maxLocals ret, Jvm.Cond.code ({ cls := "com/example/kallimachos/kallimachos/subsets/CombinationsNextPinLaw", name := "make", desc := "(IIII)[I" } : Jvm.MethodName) method_3_code (4 : Nat) (Option.some (Jvm.ClassFile.FieldType.array Jvm.ClassFile.FieldType.int)), Jvm.Cond.code ({ cls := "com/example/kallimachos/kallimachos/subsets/Combinations", name := "next", desc := "([II)Z" } : Jvm.MethodName) prog_31_method_3_code (4 : Nat) (Option.some Jvm.ClassFile.FieldType.boolean), Jvm.Cond.code ({ cls := "com/example/kallimachos/kallimachos/subsets/CombinationsNextPinLaw", name := "same", desc := "([IIIII)Z" } : Jvm.MethodName) method_4_code (5 : Nat) (Option.some Jvm.ClassFile.FieldType.boolean)]
set_option maxRecDepth 65536 in
theorem codes_eq : words1.filter isCode = codes1 := rfl
theorem w_codes : ∀ c ∈ words1.filter isCode, c.before args0 about1 = true := by
  rw [codes_eq]
  intro c hc
  simp only [codes1, List.mem_cons, List.not_mem_nil, or_false] at hc
  rcases hc with rfl | rfl | rfl | rfl
  · exact w_c0
  · exact w_c1
  · exact w_c2
  · exact w_c3
set_option maxRecDepth 65536 in
theorem w_t1 : words1.all (fun c => isCode c || c.before args0 about1) = true := by decide +kernel
theorem w_tables : (allAtoms (Jvm.Cond.code x code maxLocals ret :: tables_1)).before args0 about1 = true := by
  rw [allAtoms_all]
  show words1.all (fun c => c.before args0 about1) = true
  refine all_split ?_ w_codes
  rw [w_t1]
set_option maxRecDepth 65536 in
theorem w_case : (Jvm.Cond.and given_1 narrow_1).before args0 about1 = true := by decide +kernel
theorem w_applies : (headSpec (Jvm.Cond.code x code maxLocals ret :: tables_1) room_1).applies x e0.platform about1 = true :=
  (Spec.applies_iff w_frames).mpr ⟨w_running, w_runnable, w_alone, w_named, w_hears, w_ripe, w_room, w_tables⟩
theorem atStart : AtStart classFile x code maxLocals ret World_1 tables_1 room_1 Calls_1 rest_1 Pre_1 launch0 p0 e0 about1 theMethod args0 below0 :=
  ⟨lists_1, trivial, launch0.admits_env _ _ _, launch0.least_env, fairChoices_fair.cas, fairChoices_fair.clock, w_frames, w_args, w_heap, w_applies, trivial, trivial, w_case⟩
end start1
theorem witness_1 : WitnessClaimed_1 := ⟨start1.p0, start1.e0, start1.about1, start1.theMethod, start1.args0, start1.below0, start1.atStart⟩
end Jvm.Pilot.@@N@@
