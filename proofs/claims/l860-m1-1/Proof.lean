import JvmDerived
import JvmDerived.Pilot.@@N@@Statement
import JvmDerived.Pilot.@@N@@Code
set_option linter.unusedVariables false
set_option linter.unusedSimpArgs false
namespace Jvm.OwnK
open Sem ClassFile Op Lib Jvm.Stand Jvm.Free Jvm.LawKit Jvm.RoadKit
section
variable {p : Program} {l : Launch} {e : Env} {R : Room} {s : State} {m : MethodId} {args : Array Value} {below : List Frame} {meth : Method} {c : Code} {T : State} {locs : List Loc} {cells slots : Nat} {Cn Sn : Nat} {Q : Option Value → Heap → List Loc → Prop}
/-- from the frame f the run comes to an end that Q takes -/
def KEnds (p : Program) (e : Env) (below : List Frame) (s : State) (Cn Sn : Nat) (Q : Option Value → Heap → List Loc → Prop) (T : State) (f : JFrame) : Prop :=
  ∃ s₂ o, Steps p.tables e below (T.setTop f) s₂ ∧ s₂.status = .running ∧ Ended s₂ below o ∧ ∃ v L, o = .returned v ∧ Q v s₂.heap L ∧ FrameEnd s o s₂ L Cn Sn
theorem k_via {T' : State} {f f' : JFrame} (st : ∀ t, Steps p.tables e below (T'.setTop f') t → Steps p.tables e below (T.setTop f) t) (k : KEnds p e below s Cn Sn Q T' f') : KEnds p e below s Cn Sn Q T f := by
  obtain ⟨s₂, o, h, r⟩ := k
  exact ⟨s₂, o, st _ h, r⟩
theorem k_iloadN (X : Stand p l e R s m args below meth c T locs cells slots) (hx : p.tables.exec = Jvm.exec) {pc pc' : Nat} {Ls : Array Slot} {St : List Value} {i : Fin 4} {v : Int32} (hd : decode c.code pc = .ok (.iload_n i, 1)) (hl : Ls[i.val]? = some (.val (.int v))) (hpc : pc + 1 = pc') (k : KEnds p e below s Cn Sn Q T (mkF m pc' Ls (.int v :: St))) : KEnds p e below s Cn Sn Q T (mkF m pc Ls (St)) := by
  subst hpc; exact k_via (fun t h => XS.iloadN X.here hx rfl hd hl h) k
theorem k_iload (X : Stand p l e R s m args below meth c T locs cells slots) (hx : p.tables.exec = Jvm.exec) {pc pc' : Nat} {Ls : Array Slot} {St : List Value} {i : Nat} {v : Int32} (hd : decode c.code pc = .ok (.iload i, 2)) (hl : Ls[i]? = some (.val (.int v))) (hpc : pc + 2 = pc') (k : KEnds p e below s Cn Sn Q T (mkF m pc' Ls (.int v :: St))) : KEnds p e below s Cn Sn Q T (mkF m pc Ls (St)) := by
  subst hpc; exact k_via (fun t h => XS.iload X.here hx rfl hd hl h) k
theorem k_istore (X : Stand p l e R s m args below meth c T locs cells slots) (hx : p.tables.exec = Jvm.exec) {pc pc' : Nat} {Ls : Array Slot} {St : List Value} {i : Nat} {v : Int32} {Ls' : Array Slot} (hd : decode c.code pc = .ok (.istore i, 2)) (hl : storeLocals Ls i (.int v) = some Ls') (hpc : pc + 2 = pc') (k : KEnds p e below s Cn Sn Q T (mkF m pc' Ls' (St))) : KEnds p e below s Cn Sn Q T (mkF m pc Ls (.int v :: St)) := by
  subst hpc; exact k_via (fun t h => XS.istore X.here hx rfl hd rfl hl h) k
theorem k_aload (X : Stand p l e R s m args below meth c T locs cells slots) (hx : p.tables.exec = Jvm.exec) {pc pc' : Nat} {Ls : Array Slot} {St : List Value} {i : Nat} {v : Value} (hd : decode c.code pc = .ok (.aload i, 2)) (hl : Ls[i]? = some (.val v)) (hv : v.isRef = true) (hpc : pc + 2 = pc') (k : KEnds p e below s Cn Sn Q T (mkF m pc' Ls (v :: St))) : KEnds p e below s Cn Sn Q T (mkF m pc Ls (St)) := by
  subst hpc; exact k_via (fun t h => XS.aload X.here hx rfl hd hl hv h) k
theorem k_astore (X : Stand p l e R s m args below meth c T locs cells slots) (hx : p.tables.exec = Jvm.exec) {pc pc' : Nat} {Ls : Array Slot} {St : List Value} {i : Nat} {v : Value} {Ls' : Array Slot} (hd : decode c.code pc = .ok (.astore i, 2)) (hv : v.isRef = true) (hl : storeLocals Ls i v = some Ls') (hpc : pc + 2 = pc') (k : KEnds p e below s Cn Sn Q T (mkF m pc' Ls' (St))) : KEnds p e below s Cn Sn Q T (mkF m pc Ls (v :: St)) := by
  subst hpc; exact k_via (fun t h => XS.astore X.here hx rfl hd rfl hv hl h) k
theorem k_iconst (X : Stand p l e R s m args below meth c T locs cells slots) (hx : p.tables.exec = Jvm.exec) {pc pc' : Nat} {Ls : Array Slot} {St : List Value} {i : Int} {z : Int32} (hd : decode c.code pc = .ok (.iconst i, 1)) (hpc : pc + 1 = pc') (hz : Int32.ofInt i = z) (k : KEnds p e below s Cn Sn Q T (mkF m pc' Ls (.int z :: St))) : KEnds p e below s Cn Sn Q T (mkF m pc Ls St) := by
  subst hpc hz; exact k_via (fun t h => XS.iconst X.here hx rfl hd h) k
theorem k_bipush (X : Stand p l e R s m args below meth c T locs cells slots) (hx : p.tables.exec = Jvm.exec) {pc pc' : Nat} {Ls : Array Slot} {St : List Value} {i : Int} {z : Int32} (hd : decode c.code pc = .ok (.bipush i, 2)) (hpc : pc + 2 = pc') (hz : (Int8.ofInt i).toInt32 = z) (k : KEnds p e below s Cn Sn Q T (mkF m pc' Ls (.int z :: St))) : KEnds p e below s Cn Sn Q T (mkF m pc Ls St) := by
  subst hpc hz; exact k_via (fun t h => XS.bipush X.here hx rfl hd h) k
theorem k_iadd (X : Stand p l e R s m args below meth c T locs cells slots) (hx : p.tables.exec = Jvm.exec) {pc pc' : Nat} {Ls : Array Slot} {St : List Value} {x y : Int32} (hd : decode c.code pc = .ok (.iadd, 1))  (hpc : pc + 1 = pc') (k : ∀ z : Int32, z = x + y → KEnds p e below s Cn Sn Q T (mkF m pc' Ls (.int z :: St))) : KEnds p e below s Cn Sn Q T (mkF m pc Ls (.int y :: .int x :: St)) := by
  subst hpc; exact k_via (fun t h => XS.iadd X.here hx rfl hd rfl h) (k _ rfl)
theorem k_isub (X : Stand p l e R s m args below meth c T locs cells slots) (hx : p.tables.exec = Jvm.exec) {pc pc' : Nat} {Ls : Array Slot} {St : List Value} {x y : Int32} (hd : decode c.code pc = .ok (.isub, 1))  (hpc : pc + 1 = pc') (k : ∀ z : Int32, z = x - y → KEnds p e below s Cn Sn Q T (mkF m pc' Ls (.int z :: St))) : KEnds p e below s Cn Sn Q T (mkF m pc Ls (.int y :: .int x :: St)) := by
  subst hpc; exact k_via (fun t h => XS.isub X.here hx rfl hd rfl h) (k _ rfl)
theorem k_iand (X : Stand p l e R s m args below meth c T locs cells slots) (hx : p.tables.exec = Jvm.exec) {pc pc' : Nat} {Ls : Array Slot} {St : List Value} {x y : Int32} (hd : decode c.code pc = .ok (.iand, 1))  (hpc : pc + 1 = pc') (k : ∀ z : Int32, z = x &&& y → KEnds p e below s Cn Sn Q T (mkF m pc' Ls (.int z :: St))) : KEnds p e below s Cn Sn Q T (mkF m pc Ls (.int y :: .int x :: St)) := by
  subst hpc; exact k_via (fun t h => XS.iand X.here hx rfl hd rfl h) (k _ rfl)
theorem k_ior (X : Stand p l e R s m args below meth c T locs cells slots) (hx : p.tables.exec = Jvm.exec) {pc pc' : Nat} {Ls : Array Slot} {St : List Value} {x y : Int32} (hd : decode c.code pc = .ok (.ior, 1))  (hpc : pc + 1 = pc') (k : ∀ z : Int32, z = x ||| y → KEnds p e below s Cn Sn Q T (mkF m pc' Ls (.int z :: St))) : KEnds p e below s Cn Sn Q T (mkF m pc Ls (.int y :: .int x :: St)) := by
  subst hpc; exact k_via (fun t h => XS.ior X.here hx rfl hd rfl h) (k _ rfl)
theorem k_irem (X : Stand p l e R s m args below meth c T locs cells slots) (hx : p.tables.exec = Jvm.exec) {pc pc' : Nat} {Ls : Array Slot} {St : List Value} {x y : Int32} (hd : decode c.code pc = .ok (.irem, 1)) (hy : y ≠ 0) (hpc : pc + 1 = pc') (k : ∀ z : Int32, z = x % y → KEnds p e below s Cn Sn Q T (mkF m pc' Ls (.int z :: St))) : KEnds p e below s Cn Sn Q T (mkF m pc Ls (.int y :: .int x :: St)) := by
  subst hpc; exact k_via (fun t h => iremM X hx rfl hd rfl hy h) (k _ rfl)
theorem k_dup (X : Stand p l e R s m args below meth c T locs cells slots) (hx : p.tables.exec = Jvm.exec) {pc pc' : Nat} {Ls : Array Slot} {St : List Value} {v : Value} (hd : decode c.code pc = .ok (.dup, 1)) (hv : v.category = 1) (hpc : pc + 1 = pc') (k : KEnds p e below s Cn Sn Q T (mkF m pc' Ls (v :: v :: St))) : KEnds p e below s Cn Sn Q T (mkF m pc Ls (v :: St)) := by
  subst hpc; exact k_via (fun t h => XS.dup X.here hx rfl hd rfl hv h) k
theorem k_goto (X : Stand p l e R s m args below meth c T locs cells slots) (hx : p.tables.exec = Jvm.exec) {pc pc' : Nat} {Ls : Array Slot} {St : List Value} {o : Int} (hd : decode c.code pc = .ok (.goto o, 3)) (hp : (pc : Int) + o = (pc' : Int)) (k : KEnds p e below s Cn Sn Q T (mkF m pc' Ls St)) : KEnds p e below s Cn Sn Q T (mkF m pc Ls St) :=
  k_via (fun t h => XS.goto X.here hx rfl (pc0 := pc) rfl hd (by omega) (by omega) h) k
theorem k_icmp_lt (X : Stand p l e R s m args below meth c T locs cells slots) (hx : p.tables.exec = Jvm.exec) {pc pn py : Nat} {Ls : Array Slot} {St : List Value} {x y : Int32} {o : Int} (hd : decode c.code pc = .ok (.if_icmp .lt o, 3)) (hn : pc + 3 = pn) (hp : (pc : Int) + o = (py : Int)) (ky : x < y → KEnds p e below s Cn Sn Q T (mkF m py Ls St)) (kn : ¬ x < y → KEnds p e below s Cn Sn Q T (mkF m pn Ls St)) : KEnds p e below s Cn Sn Q T (mkF m pc Ls (.int y :: .int x :: St)) := by
  subst hn
  by_cases hc : x < y
  · exact k_via (fun t h => XS.icmpYes X.here hx rfl (pc0 := pc) rfl hd rfl (tlt hc).1 (by omega) (by omega) h) (ky hc)
  · exact k_via (fun t h => XS.icmpNo X.here hx rfl hd rfl (flt hc).1 h) (kn hc)
theorem k_icmp_ge (X : Stand p l e R s m args below meth c T locs cells slots) (hx : p.tables.exec = Jvm.exec) {pc pn py : Nat} {Ls : Array Slot} {St : List Value} {x y : Int32} {o : Int} (hd : decode c.code pc = .ok (.if_icmp .ge o, 3)) (hn : pc + 3 = pn) (hp : (pc : Int) + o = (py : Int)) (ky : ¬ x < y → KEnds p e below s Cn Sn Q T (mkF m py Ls St)) (kn : x < y → KEnds p e below s Cn Sn Q T (mkF m pn Ls St)) : KEnds p e below s Cn Sn Q T (mkF m pc Ls (.int y :: .int x :: St)) := by
  subst hn
  by_cases hc : x < y
  · exact k_via (fun t h => XS.icmpNo X.here hx rfl hd rfl (tlt hc).2.1 h) (kn hc)
  · exact k_via (fun t h => XS.icmpYes X.here hx rfl (pc0 := pc) rfl hd rfl (flt hc).2.1 (by omega) (by omega) h) (ky hc)
theorem k_if_ge (X : Stand p l e R s m args below meth c T locs cells slots) (hx : p.tables.exec = Jvm.exec) {pc pn py : Nat} {Ls : Array Slot} {St : List Value} {x : Int32} {o : Int} (hd : decode c.code pc = .ok (.ifCond .ge o, 3)) (hn : pc + 3 = pn) (hp : (pc : Int) + o = (py : Int)) (ky : ¬ x < (0 : Int32) → KEnds p e below s Cn Sn Q T (mkF m py Ls St)) (kn : x < (0 : Int32) → KEnds p e below s Cn Sn Q T (mkF m pn Ls St)) : KEnds p e below s Cn Sn Q T (mkF m pc Ls (.int x :: St)) := by
  subst hn
  by_cases hc : x < (0 : Int32)
  · exact k_via (fun t h => XS.ifNo X.here hx rfl hd rfl ((if0 _ _).trans (tlt hc).2.1) h) (kn hc)
  · exact k_via (fun t h => XS.ifYes X.here hx rfl (pc0 := pc) rfl hd rfl ((if0 _ _).trans (flt hc).2.1) (by omega) (by omega) h) (ky hc)
theorem k_icmp_gt (X : Stand p l e R s m args below meth c T locs cells slots) (hx : p.tables.exec = Jvm.exec) {pc pn py : Nat} {Ls : Array Slot} {St : List Value} {x y : Int32} {o : Int} (hd : decode c.code pc = .ok (.if_icmp .gt o, 3)) (hn : pc + 3 = pn) (hp : (pc : Int) + o = (py : Int)) (ky : y < x → KEnds p e below s Cn Sn Q T (mkF m py Ls St)) (kn : ¬ y < x → KEnds p e below s Cn Sn Q T (mkF m pn Ls St)) : KEnds p e below s Cn Sn Q T (mkF m pc Ls (.int y :: .int x :: St)) := by
  subst hn
  by_cases hc : y < x
  · exact k_via (fun t h => XS.icmpYes X.here hx rfl (pc0 := pc) rfl hd rfl (tlt hc).2.2.1 (by omega) (by omega) h) (ky hc)
  · exact k_via (fun t h => XS.icmpNo X.here hx rfl hd rfl (flt hc).2.2.1 h) (kn hc)
theorem k_icmp_le (X : Stand p l e R s m args below meth c T locs cells slots) (hx : p.tables.exec = Jvm.exec) {pc pn py : Nat} {Ls : Array Slot} {St : List Value} {x y : Int32} {o : Int} (hd : decode c.code pc = .ok (.if_icmp .le o, 3)) (hn : pc + 3 = pn) (hp : (pc : Int) + o = (py : Int)) (ky : ¬ y < x → KEnds p e below s Cn Sn Q T (mkF m py Ls St)) (kn : y < x → KEnds p e below s Cn Sn Q T (mkF m pn Ls St)) : KEnds p e below s Cn Sn Q T (mkF m pc Ls (.int y :: .int x :: St)) := by
  subst hn
  by_cases hc : y < x
  · exact k_via (fun t h => XS.icmpNo X.here hx rfl hd rfl (tlt hc).2.2.2 h) (kn hc)
  · exact k_via (fun t h => XS.icmpYes X.here hx rfl (pc0 := pc) rfl hd rfl (flt hc).2.2.2 (by omega) (by omega) h) (ky hc)
theorem k_icmp_eq (X : Stand p l e R s m args below meth c T locs cells slots) (hx : p.tables.exec = Jvm.exec) {pc pn py : Nat} {Ls : Array Slot} {St : List Value} {x y : Int32} {o : Int} (hd : decode c.code pc = .ok (.if_icmp .eq o, 3)) (hn : pc + 3 = pn) (hp : (pc : Int) + o = (py : Int)) (ky : x = y → KEnds p e below s Cn Sn Q T (mkF m py Ls St)) (kn : ¬ x = y → KEnds p e below s Cn Sn Q T (mkF m pn Ls St)) : KEnds p e below s Cn Sn Q T (mkF m pc Ls (.int y :: .int x :: St)) := by
  subst hn
  by_cases hc : x = y
  · exact k_via (fun t h => XS.icmpYes X.here hx rfl (pc0 := pc) rfl hd rfl (teq hc).1 (by omega) (by omega) h) (ky hc)
  · exact k_via (fun t h => XS.icmpNo X.here hx rfl hd rfl (feq hc).1 h) (kn hc)
theorem k_if_eq (X : Stand p l e R s m args below meth c T locs cells slots) (hx : p.tables.exec = Jvm.exec) {pc pn py : Nat} {Ls : Array Slot} {St : List Value} {x : Int32} {o : Int} (hd : decode c.code pc = .ok (.ifCond .eq o, 3)) (hn : pc + 3 = pn) (hp : (pc : Int) + o = (py : Int)) (ky : x = (0 : Int32) → KEnds p e below s Cn Sn Q T (mkF m py Ls St)) (kn : ¬ x = (0 : Int32) → KEnds p e below s Cn Sn Q T (mkF m pn Ls St)) : KEnds p e below s Cn Sn Q T (mkF m pc Ls (.int x :: St)) := by
  subst hn
  by_cases hc : x = (0 : Int32)
  · exact k_via (fun t h => XS.ifYes X.here hx rfl (pc0 := pc) rfl hd rfl ((if0 _ _).trans (teq hc).1) (by omega) (by omega) h) (ky hc)
  · exact k_via (fun t h => XS.ifNo X.here hx rfl hd rfl ((if0 _ _).trans (feq hc).1) h) (kn hc)
theorem k_icmp_ne (X : Stand p l e R s m args below meth c T locs cells slots) (hx : p.tables.exec = Jvm.exec) {pc pn py : Nat} {Ls : Array Slot} {St : List Value} {x y : Int32} {o : Int} (hd : decode c.code pc = .ok (.if_icmp .ne o, 3)) (hn : pc + 3 = pn) (hp : (pc : Int) + o = (py : Int)) (ky : ¬ x = y → KEnds p e below s Cn Sn Q T (mkF m py Ls St)) (kn : x = y → KEnds p e below s Cn Sn Q T (mkF m pn Ls St)) : KEnds p e below s Cn Sn Q T (mkF m pc Ls (.int y :: .int x :: St)) := by
  subst hn
  by_cases hc : x = y
  · exact k_via (fun t h => XS.icmpNo X.here hx rfl hd rfl (teq hc).2 h) (kn hc)
  · exact k_via (fun t h => XS.icmpYes X.here hx rfl (pc0 := pc) rfl hd rfl (feq hc).2 (by omega) (by omega) h) (ky hc)
theorem k_if_ne (X : Stand p l e R s m args below meth c T locs cells slots) (hx : p.tables.exec = Jvm.exec) {pc pn py : Nat} {Ls : Array Slot} {St : List Value} {x : Int32} {o : Int} (hd : decode c.code pc = .ok (.ifCond .ne o, 3)) (hn : pc + 3 = pn) (hp : (pc : Int) + o = (py : Int)) (ky : ¬ x = (0 : Int32) → KEnds p e below s Cn Sn Q T (mkF m py Ls St)) (kn : x = (0 : Int32) → KEnds p e below s Cn Sn Q T (mkF m pn Ls St)) : KEnds p e below s Cn Sn Q T (mkF m pc Ls (.int x :: St)) := by
  subst hn
  by_cases hc : x = (0 : Int32)
  · exact k_via (fun t h => XS.ifNo X.here hx rfl hd rfl ((if0 _ _).trans (teq hc).2) h) (kn hc)
  · exact k_via (fun t h => XS.ifYes X.here hx rfl (pc0 := pc) rfl hd rfl ((if0 _ _).trans (feq hc).2) (by omega) (by omega) h) (ky hc)
theorem k_d_xlt_xlt {x a b : Int32} (h : x < a) (q : ¬ b < a) : x < b := by
  simp only [Int32.lt_iff_toInt_lt, ← Int32.toInt_inj] at *; omega
theorem k_d_nalt_xlt {x a b : Int32} (h : x < a) (q : ¬ b < a) : ¬ b < x := by
  simp only [Int32.lt_iff_toInt_lt, ← Int32.toInt_inj] at *; omega
theorem k_d_ne_xlt {x a b : Int32} (h : x < a) (q : ¬ b < a) : ¬ x = b := by
  simp only [Int32.lt_iff_toInt_lt, ← Int32.toInt_inj] at *; omega
theorem k_retN (X : Stand p l e R s m args below meth c T locs cells slots) (hx : p.tables.exec = Jvm.exec) {pc : Nat} {Ls : Array Slot} {St : List Value} {t : FieldType} {z z' : Int32} (hret : meth.sig.returnType = some t) (ht : t = .boolean ∨ t = .byte ∨ t = .char ∨ t = .short) (hd : decode c.code pc = .ok (.ireturn, 1)) (hlk : meth.locks = false) (hC : cells ≤ Cn) (hS : slots ≤ Sn) (hz : nar t z = z') (q : Q (some (.int z')) T.heap locs) : KEnds p e below s Cn Sn Q T (mkF m pc Ls (.int z :: St)) := by
  subst hz
  obtain ⟨fs, hr, hrun, hended, hW, hsame⟩ := X.leave (v := some (.int (nar t z))) (fun h => by rw [hret] at h; cases h) hlk
  exact ⟨_, _, retN X hx hret ht hd hr, hrun, hended, _, _, rfl, q, ⟨_, rfl⟩, hW, hsame.mono hC hS⟩
theorem k_retI (X : Stand p l e R s m args below meth c T locs cells slots) (hx : p.tables.exec = Jvm.exec) {pc : Nat} {Ls : Array Slot} {St : List Value} {z : Int32} (hret : meth.sig.returnType = some .int) (hd : decode c.code pc = .ok (.ireturn, 1)) (hlk : meth.locks = false) (hC : cells ≤ Cn) (hS : slots ≤ Sn) (q : Q (some (.int z)) T.heap locs) : KEnds p e below s Cn Sn Q T (mkF m pc Ls (.int z :: St)) := by
  obtain ⟨fs, hr, hrun, hended, hW, hsame⟩ := X.leave (v := some (.int z)) (fun h => by rw [hret] at h; cases h) hlk
  exact ⟨_, _, retOut X hx hret rfl (Or.inl ⟨rfl, Or.inl rfl, _, rfl⟩) hd hr, hrun, hended, _, _, rfl, q, ⟨_, rfl⟩, hW, hsame.mono hC hS⟩
variable {Z : State} {a0 : Array Value} {h : Heap} {own : String}
theorem k_ldc (X : Stand p l e R s m args below meth c T locs cells slots) (hx : p.tables.exec = Jvm.exec) (hZ : Z.Warmed39 s.vm) (hown : s.vm.findClass own = some m.cls) {pc pc' : Nat} {Ls : Array Slot} {St : List Value} {index : Nat} {v : Int32} (w : (Cond.constant own index v).before a0 Z = true) (hd : decode c.code pc = .ok (.ldc index, 2)) (hpc : pc + 2 = pc') (k : KEnds p e below s Cn Sn Q T (mkF m pc' Ls (.int v :: St))) : KEnds p e below s Cn Sn Q T (mkF m pc Ls St) := by
  subst hpc; exact k_via (X.ldcInt hx hown (mvT hZ w) (g := mkF m pc Ls St) rfl hd) k
theorem k_newA (X : Stand p l e R s m args below meth c T locs cells slots) (hx : p.tables.exec = Jvm.exec) (hZ : Z.Warmed39 s.vm) {pc pc' : Nat} {Ls : Array Slot} {St : List Value} {aty : ArrayType} (w : (Cond.arrayClass (newarray.typeOf aty)).before a0 Z = true) (eT : T.heap = h) (hd : decode c.code pc = .ok (.newarray aty, 2)) {n : Int32} (hn : ¬ n < 0) {cap : Nat} (hcap : n.toNatClampNeg ≤ cap) (hb : cap * 8 ≤ 536870912) (hc : cells + 1 ≤ R.cells) (hl : slots + cap ≤ R.slots) (hpc : pc + 2 = pc') (k : ∀ T' h' a cA, a = h.size → Stand p l e R s m args below meth c T' locs (cells + 1) (slots + cap) → T'.heap = h' → Ext h h' → Arv Z h' a cA (newarray.typeOf aty) n (List.replicate cap (defaultValue (newarray.typeOf aty))) (defaultValue (newarray.typeOf aty)) → KEnds p e below s Cn Sn Q T' (mkF m pc' Ls (.ref a :: St))) : KEnds p e below s Cn Sn Q T (mkF m pc Ls (.int n :: St)) := by
  subst hpc
  obtain ⟨T', h', cA, X', e', E', A', st⟩ := newP X hx hZ w eT (g := mkF m pc Ls (.int n :: St)) rfl hd rfl hn hcap hb hc hl
  exact k_via st (k T' h' _ cA rfl X' e' E' ((Arv.new A' hn).pad (pad_rep [] _ cap)))
theorem k_iastore (X : Stand p l e R s m args below meth c T locs cells slots) (hx : p.tables.exec = Jvm.exec) (hZ : Z.Warmed39 s.vm) {pc pc' : Nat} {Ls : Array Slot} {St : List Value} (eT : T.heap = h) {a : Addr} {kA : ClassId} {z j : Int32} {x : Int32} {vs : List Value} {dv : Value} (F : Arv Z h a kA .int z vs dv) (hj : ¬ j < 0 ∧ j < z) {i : Nat} (hi : j.toNatClampNeg = i) (hil : i < vs.length) (hd : decode c.code pc = .ok (.iastore, 1)) (hpc : pc + 1 = pc') (k : ∀ T' h', Stand p l e R s m args below meth c T' (locs ++ [⟨a, j.toNatClampNeg⟩]) cells slots → T'.heap = h' → Wr h h' a j.toNatClampNeg (.int (x)) → Arv Z h' a kA .int z (vs.set i (.int (x))) dv → KEnds p e below s Cn Sn Q T' (mkF m pc' Ls St)) : KEnds p e below s Cn Sn Q T (mkF m pc Ls (.int x :: .int j :: .ref a :: St)) := by
  subst hpc
  obtain ⟨cl, A, q1, S, N, H, G⟩ := F
  obtain ⟨T', h', X', e', W', st⟩ := stI X hx hZ eT A (inb_of S hj) (g := mkF m pc Ls (.int x :: .int j :: .ref a :: St)) rfl rfl hd
  exact k_via st (k T' h' X' e' W' (Arv.set A q1 S N H G rfl W' i hi hil))
theorem k_alen (X : Stand p l e R s m args below meth c T locs cells slots) (hx : p.tables.exec = Jvm.exec) (hZ : Z.Warmed39 s.vm) {pc pc' : Nat} {Ls : Array Slot} {St : List Value} (eT : T.heap = h) {a : Addr} {kA : ClassId} {ty : FieldType} {z : Int32} {vs : List Value} {dv : Value} (F : Arv Z h a kA ty z vs dv) (hd : decode c.code pc = .ok (.arraylength, 1)) (hpc : pc + 1 = pc') (k : KEnds p e below s Cn Sn Q T (mkF m pc' Ls (.int z :: St))) : KEnds p e below s Cn Sn Q T (mkF m pc Ls (.ref a :: St)) := by
  subst hpc
  obtain ⟨cl, A, q1, S, N, H, G⟩ := F
  refine k_via (fun t hs => X.arraylength hx (by rw [eT]; exact A.1) (State.isArrayOf_alike hZ.alike A.2.1) (g := mkF m pc Ls (.ref a :: St)) rfl rfl hd t ?_) k
  rw [len_of S N]; exact hs
theorem k_callS (X : Stand p l e R s m args below meth c T locs cells slots) (hx : p.tables.exec = Jvm.exec) (hZ : Z.Warmed39 s.vm) (hown : s.vm.findClass own = some m.cls) {pc pc' : Nat} {Ls : Array Slot} {St : List Value} {y : MethodName} {bytes : ByteArray} {maxL : Nat} {ret : Option FieldType} {rm : Room} {index W : Nat} {as' : Array Value} {Q' : Option Value → Heap → List Loc → Prop} (w1 : (Cond.methodLink own index y).before a0 Z = true) (w2 : (Cond.static y).before a0 Z = true) (w3 : (Cond.initialized y.cls).before a0 Z = true) (w4 : (Cond.code y bytes maxL ret).before a0 Z = true) (hy : y.cls ≠ "java/lang/invoke/MethodHandle" ∧ y.cls ≠ "java/lang/invoke/VarHandle") (hM : MetFree l y (head1 [Cond.code y bytes maxL ret] rm) (fun a U => a = as' ∧ Z.Warmed39 U.vm ∧ U.heap = h) (fun _ _ _ _ _ => True) (fun _ U o U' => ∃ v L, o = .returned v ∧ Q' v U'.heap L ∧ FrameEnd U o U' L rm.cells rm.slots)) (hf : rm.frames + 1 ≤ R.frames) (hl : W + (maxL + 11) + rm.locals ≤ R.locals) (eT : T.heap = h) (hsize : Ls.size = c.maxLocals) {argsL rest : List Value} (hlen : ∀ sig, parseMethodDescriptor y.desc = some sig → argsL.length = sig.parameters.length) (hst : St = argsL.reverse ++ rest) (hW : (rest.map fun v => v.category).sum ≤ W) (has : argsL.toArray = as') (hd : decode c.code pc = .ok (.invokestatic index, 3)) (hce : cells + rm.cells ≤ R.cells) (hsl : slots + rm.slots ≤ R.slots) (hpc : pc + 3 = pc') (k : ∀ T' L v, Stand p l e R s m args below meth c T' (locs ++ L) (cells + rm.cells) (slots + rm.slots) → Q' v T'.heap L → KEnds p e below s Cn Sn Q T' (mkF m pc' Ls (v.toList ++ rest))) : KEnds p e below s Cn Sn Q T (mkF m pc Ls St) := by
  subst hpc
  obtain ⟨v, _, ⟨T', L', k', n'⟩, -, X', ⟨Lc, hQ, l', y', z'⟩, st⟩ := Jvm.LawKit.callS X hx (y := y) hown (mvT hZ w1) (mvT hZ w2) (mvT hZ w3) (mvT hZ w4) hy (backOf (W := W) hM hZ w4 w3 hf hl) (g := mkF m pc Ls St) rfl hsize hlen hst (by show 2 * 0 + _ ≤ _; omega) hd (fun _ _ => ⟨has, eT, hce, hsl⟩)
  dsimp only [Pt.U, Pt.locs, Pt.cells, Pt.slots] at X' l' y' z' st hQ
  subst l' y' z'
  exact k_via st (k T' Lc v X' hQ)
theorem k_ialoadS (X : Stand p l e R s m args below meth c T locs cells slots) (hx : p.tables.exec = Jvm.exec) (hZ : Z.Warmed39 s.vm) {pc pc' : Nat} {Ls : Array Slot} {St : List Value} (eT : T.heap = h) {a : Addr} {kA : ClassId} {z j : Int32} {vs : List Value} {dv : Value} (F : Arv Z h a kA .int z vs dv) (hj : ¬ j < 0 ∧ j < z) (hd : decode c.code pc = .ok (.iaload, 1)) (hpc : pc + 1 = pc') (k : ∀ x : Int32, vs.getD j.toNatClampNeg dv = .int x → KEnds p e below s Cn Sn Q T (mkF m pc' Ls (.int x :: St))) : KEnds p e below s Cn Sn Q T (mkF m pc Ls (.int j :: .ref a :: St)) := by
  subst hpc
  obtain ⟨cl, A, q1, S, N, H, G⟩ := F
  have hin := inb_of S hj
  obtain ⟨x, hx'⟩ := fit_I (G j.toNatClampNeg (Nat.lt_of_not_le fun q => hin (Or.inr q))) (by simp)
  exact k_via (fun t hs => X.iaload hx (by rw [eT]; exact A.1) (State.isArrayOf_alike hZ.alike A.2.1) A.2.2 hin (H.at hin hx') (g := mkF m pc Ls (.int j :: .ref a :: St)) rfl rfl hd t hs) (k x hx')
end
end Jvm.OwnK
namespace Jvm.Pilot.@@N@@
open Jvm Jvm.ClassFile Sem Op Lib Jvm.Free Jvm.Stand Jvm.LawKit Jvm.RoadKit Jvm.OwnK Bundle Jvm.Pilot.@@N@@.Jvm.D
theorem d1_0 : decode jdk_29_method_69_code 0 = .ok (.iload_n 0, 1) := by decide +kernel
theorem d1_1 : decode jdk_29_method_69_code 1 = .ok (.iload_n 1, 1) := by decide +kernel
theorem d1_2 : decode jdk_29_method_69_code 2 = .ok (.if_icmp .gt 7, 3) := by decide +kernel
theorem d1_9 : decode jdk_29_method_69_code 9 = .ok (.iload_n 1, 1) := by decide +kernel
theorem d1_10 : decode jdk_29_method_69_code 10 = .ok (.ireturn, 1) := by decide +kernel
theorem d1_5 : decode jdk_29_method_69_code 5 = .ok (.iload_n 0, 1) := by decide +kernel
theorem d1_6 : decode jdk_29_method_69_code 6 = .ok (.goto 4, 3) := by decide +kernel
abbrev R1_40 : Room := { frames := 0, cells := 0, slots := 0, locals := 0 }
def f1_40 (p1 : Int32) : Int32 := (if p1 < (1114111 : Int32) then p1 else (1114111 : Int32))
theorem own_mi (d : Int32) : (f1_40 d).toInt ≤ 1114111 := by
  unfold f1_40
  simp only [Int32.lt_iff_toInt_lt, show (1114111 : Int32).toInt = 1114111 from rfl]
  split <;> first | exact Or.inl rfl | exact Or.inr rfl | omega | (simp only [show (1114111 : Int32).toInt = 1114111 from rfl]; omega)
def Q1_40 (Z : State) (p1 : Int32) (h0 : Heap) (n0 : Nat) (v : Option Value) (h : Heap) (L : List Loc) : Prop := Fr n0 L ∧ h = h0 ∧ v = some (.int (f1_40 p1))
theorem ef1_40 (m : MethodId) (x1 : Int32) : entryFrame m #[(.int (1114111 : Int32)), (.int x1)] 2 = mkF m 0 #[.val (.int (1114111 : Int32)), .val (.int x1)] [] := by first | (simp [entryFrame, mkF, argsToLocals, Value.category]; done) | rfl
set_option maxRecDepth 65536 in
set_option maxHeartbeats 40000000 in
theorem rm1_40 (l : Launch) (Z : State) (a0 : Array Value) (hw : ∀ d ∈ tables_1, d.before a0 Z = true) (ws : List Jvm.Cond) (p1 : Int32) (h0 : Heap) (n0 : Nat) (Z0 : n0 ≤ h0.size)  :
    MetFree l (⟨"java/lang/Math", "min", "(II)I"⟩ : MethodName) (head1 (Jvm.Cond.code (⟨"java/lang/Math", "min", "(II)I"⟩ : MethodName) jdk_29_method_69_code 2 (some .int) :: ws) R1_40) (fun a U => a = #[(.int (1114111 : Int32)), (.int p1)] ∧ Z.Warmed39 U.vm ∧ U.heap = h0) (fun _ _ _ _ _ => True) (fun _ U o U' => ∃ v L, o = .returned v ∧ Q1_40 Z p1 h0 n0 v U'.heap L ∧ FrameEnd U o U' L R1_40.cells R1_40.slots) := by
 refine MetFree.of_bodySF (Jvm.Free.JP.mathPlain rfl (by decide +kernel)) hisR ?_
 intro p e s m args below meth c s₁ Bd hml0 hP hK
 obtain ⟨rfl, hZ, hh⟩ := hP
 have hx := Bd.exec
 have hby := Bd.bytes
 have hml : c.maxLocals = 2 := hml0
 have hlk : meth.locks = false := Bd.notSynchronized
 have hown : s.vm.findClass "java/lang/Math" = some m.cls := findClass_of_methodNamed Bd.named
 have hnm := (name_of_methodNamed Bd.named Bd.method).1
 have X0 : Stand p l e R1_40 s m #[(.int (1114111 : Int32)), (.int p1)] below meth c s₁ [] 0 0 := Stand.of_body Bd
 have e0 : s₁.heap = h0 := by rw [← hh, Bd.state]; rfl
 have N0 := Fr.nil n0
 rw [ef1_40 m p1]
 show KEnds p e below s R1_40.cells R1_40.slots (Q1_40 Z p1 h0 n0) s₁ (mkF m 0 #[.val (.int (1114111 : Int32)), .val (.int p1)] [])
 refine k_iloadN X0 hx (hb hby d1_0) rfl (pc' := 1) rfl ?_
 refine k_iloadN X0 hx (hb hby d1_1) rfl (pc' := 2) rfl ?_
 refine k_icmp_gt X0 hx (hb hby d1_2) (pn := 5) rfl (py := 9) (by decide) (fun hc41 => ?_) (fun hc41 => ?_)
 ·
  refine k_iloadN X0 hx (hb hby d1_9) rfl (pc' := 10) rfl ?_
  have hf : f1_40 p1 = p1 := by simp only [f1_40, if_pos hc41]
  exact k_retI X0 hx Bd.returns (hb hby d1_10) hlk (by decide) (by decide) ⟨N0, e0, by rw [hf]⟩
 ·
  refine k_iloadN X0 hx (hb hby d1_5) rfl (pc' := 6) rfl ?_
  refine k_goto X0 hx (hb hby d1_6) (pc' := 10) (by decide) ?_
  have hf : f1_40 p1 = (1114111 : Int32) := by simp only [f1_40, if_neg hc41]
  exact k_retI X0 hx Bd.returns (hb hby d1_10) hlk (by decide) (by decide) ⟨N0, e0, by rw [hf]⟩
theorem pd_0 : parseMethodDescriptor "(II)I" = some ⟨[.int, .int], some .int⟩ := by decide +kernel
theorem d2_0 : decode jdk_29_method_65_code 0 = .ok (.iload_n 0, 1) := by decide +kernel
theorem d2_1 : decode jdk_29_method_65_code 1 = .ok (.iload_n 1, 1) := by decide +kernel
theorem d2_2 : decode jdk_29_method_65_code 2 = .ok (.if_icmp .lt 7, 3) := by decide +kernel
theorem d2_9 : decode jdk_29_method_65_code 9 = .ok (.iload_n 1, 1) := by decide +kernel
theorem d2_10 : decode jdk_29_method_65_code 10 = .ok (.ireturn, 1) := by decide +kernel
theorem d2_5 : decode jdk_29_method_65_code 5 = .ok (.iload_n 0, 1) := by decide +kernel
theorem d2_6 : decode jdk_29_method_65_code 6 = .ok (.goto 4, 3) := by decide +kernel
abbrev R2_44 : Room := { frames := 0, cells := 0, slots := 0, locals := 0 }
def f2_44 (p1 : Int32) : Int32 := (if (0 : Int32) < p1 then p1 else (0 : Int32))
theorem own_mx (d : Int32) : (f2_44 d).toInt = d.toInt ∨ (f2_44 d).toInt = 0 := by
  unfold f2_44
  simp only [Int32.lt_iff_toInt_lt, show (0 : Int32).toInt = 0 from rfl]
  split <;> first | exact Or.inl rfl | exact Or.inr rfl | omega | (simp only [show (0 : Int32).toInt = 0 from rfl]; omega)
def Q2_44 (Z : State) (p1 : Int32) (h0 : Heap) (n0 : Nat) (v : Option Value) (h : Heap) (L : List Loc) : Prop := Fr n0 L ∧ h = h0 ∧ v = some (.int (f2_44 p1))
theorem ef2_44 (m : MethodId) (x1 : Int32) : entryFrame m #[(.int (0 : Int32)), (.int x1)] 2 = mkF m 0 #[.val (.int (0 : Int32)), .val (.int x1)] [] := by first | (simp [entryFrame, mkF, argsToLocals, Value.category]; done) | rfl
set_option maxRecDepth 65536 in
set_option maxHeartbeats 40000000 in
theorem rm2_44 (l : Launch) (Z : State) (a0 : Array Value) (hw : ∀ d ∈ tables_1, d.before a0 Z = true) (ws : List Jvm.Cond) (p1 : Int32) (h0 : Heap) (n0 : Nat) (Z0 : n0 ≤ h0.size)  :
    MetFree l (⟨"java/lang/Math", "max", "(II)I"⟩ : MethodName) (head1 (Jvm.Cond.code (⟨"java/lang/Math", "max", "(II)I"⟩ : MethodName) jdk_29_method_65_code 2 (some .int) :: ws) R2_44) (fun a U => a = #[(.int (0 : Int32)), (.int p1)] ∧ Z.Warmed39 U.vm ∧ U.heap = h0) (fun _ _ _ _ _ => True) (fun _ U o U' => ∃ v L, o = .returned v ∧ Q2_44 Z p1 h0 n0 v U'.heap L ∧ FrameEnd U o U' L R2_44.cells R2_44.slots) := by
 refine MetFree.of_bodySF (Jvm.Free.JP.mathPlain rfl (by decide +kernel)) hisR ?_
 intro p e s m args below meth c s₁ Bd hml0 hP hK
 obtain ⟨rfl, hZ, hh⟩ := hP
 have hx := Bd.exec
 have hby := Bd.bytes
 have hml : c.maxLocals = 2 := hml0
 have hlk : meth.locks = false := Bd.notSynchronized
 have hown : s.vm.findClass "java/lang/Math" = some m.cls := findClass_of_methodNamed Bd.named
 have hnm := (name_of_methodNamed Bd.named Bd.method).1
 have X0 : Stand p l e R2_44 s m #[(.int (0 : Int32)), (.int p1)] below meth c s₁ [] 0 0 := Stand.of_body Bd
 have e0 : s₁.heap = h0 := by rw [← hh, Bd.state]; rfl
 have N0 := Fr.nil n0
 rw [ef2_44 m p1]
 show KEnds p e below s R2_44.cells R2_44.slots (Q2_44 Z p1 h0 n0) s₁ (mkF m 0 #[.val (.int (0 : Int32)), .val (.int p1)] [])
 refine k_iloadN X0 hx (hb hby d2_0) rfl (pc' := 1) rfl ?_
 refine k_iloadN X0 hx (hb hby d2_1) rfl (pc' := 2) rfl ?_
 refine k_icmp_lt X0 hx (hb hby d2_2) (pn := 5) rfl (py := 9) (by decide) (fun hc45 => ?_) (fun hc45 => ?_)
 ·
  refine k_iloadN X0 hx (hb hby d2_9) rfl (pc' := 10) rfl ?_
  have hf : f2_44 p1 = p1 := by simp only [f2_44, if_pos hc45]
  exact k_retI X0 hx Bd.returns (hb hby d2_10) hlk (by decide) (by decide) ⟨N0, e0, by rw [hf]⟩
 ·
  refine k_iloadN X0 hx (hb hby d2_5) rfl (pc' := 6) rfl ?_
  refine k_goto X0 hx (hb hby d2_6) (pc' := 10) (by decide) ?_
  have hf : f2_44 p1 = (0 : Int32) := by simp only [f2_44, if_neg hc45]
  exact k_retI X0 hx Bd.returns (hb hby d2_10) hlk (by decide) (by decide) ⟨N0, e0, by rw [hf]⟩
theorem d3_0 : decode prog_16_method_4_code 0 = .ok (.iload_n 0, 1) := by decide +kernel
theorem d3_1 : decode prog_16_method_4_code 1 = .ok (.bipush 9, 2) := by decide +kernel
theorem d3_3 : decode prog_16_method_4_code 3 = .ok (.if_icmp .eq 45, 3) := by decide +kernel
theorem d3_48 : decode prog_16_method_4_code 48 = .ok (.iconst 1, 1) := by decide +kernel
theorem d3_49 : decode prog_16_method_4_code 49 = .ok (.goto 4, 3) := by decide +kernel
theorem d3_53 : decode prog_16_method_4_code 53 = .ok (.ireturn, 1) := by decide +kernel
theorem d3_6 : decode prog_16_method_4_code 6 = .ok (.iload_n 0, 1) := by decide +kernel
theorem d3_7 : decode prog_16_method_4_code 7 = .ok (.bipush 10, 2) := by decide +kernel
theorem d3_9 : decode prog_16_method_4_code 9 = .ok (.if_icmp .eq 39, 3) := by decide +kernel
theorem d3_12 : decode prog_16_method_4_code 12 = .ok (.iload_n 0, 1) := by decide +kernel
theorem d3_13 : decode prog_16_method_4_code 13 = .ok (.bipush 13, 2) := by decide +kernel
theorem d3_15 : decode prog_16_method_4_code 15 = .ok (.if_icmp .eq 33, 3) := by decide +kernel
theorem d3_18 : decode prog_16_method_4_code 18 = .ok (.iload_n 0, 1) := by decide +kernel
theorem d3_19 : decode prog_16_method_4_code 19 = .ok (.bipush 32, 2) := by decide +kernel
theorem d3_21 : decode prog_16_method_4_code 21 = .ok (.if_icmp .lt 9, 3) := by decide +kernel
theorem d3_30 : decode prog_16_method_4_code 30 = .ok (.iload_n 0, 1) := by decide +kernel
theorem d3_31 : decode prog_16_method_4_code 31 = .ok (.ldc 63, 2) := by decide +kernel
theorem d3_33 : decode prog_16_method_4_code 33 = .ok (.if_icmp .lt 9, 3) := by decide +kernel
theorem d3_42 : decode prog_16_method_4_code 42 = .ok (.iload_n 0, 1) := by decide +kernel
theorem d3_43 : decode prog_16_method_4_code 43 = .ok (.ldc 65, 2) := by decide +kernel
theorem d3_45 : decode prog_16_method_4_code 45 = .ok (.if_icmp .lt 7, 3) := by decide +kernel
theorem d3_52 : decode prog_16_method_4_code 52 = .ok (.iconst 0, 1) := by decide +kernel
theorem d3_24 : decode prog_16_method_4_code 24 = .ok (.iload_n 0, 1) := by decide +kernel
theorem d3_25 : decode prog_16_method_4_code 25 = .ok (.ldc 62, 2) := by decide +kernel
theorem d3_27 : decode prog_16_method_4_code 27 = .ok (.if_icmp .le 21, 3) := by decide +kernel
theorem d3_36 : decode prog_16_method_4_code 36 = .ok (.iload_n 0, 1) := by decide +kernel
theorem d3_37 : decode prog_16_method_4_code 37 = .ok (.ldc 64, 2) := by decide +kernel
theorem d3_39 : decode prog_16_method_4_code 39 = .ok (.if_icmp .le 9, 3) := by decide +kernel
abbrev R3_49 : Room := { frames := 0, cells := 0, slots := 0, locals := 0 }
def f3_49 (p1 : Int32) : Int32 := (if p1 = (9 : Int32) then (1 : Int32) else (if p1 = (10 : Int32) then (1 : Int32) else (if p1 = (13 : Int32) then (1 : Int32) else (if p1 < (32 : Int32) then (0 : Int32) else (if (55295 : Int32) < p1 then (if p1 < (57344 : Int32) then (0 : Int32) else (if (65533 : Int32) < p1 then (if p1 < (65536 : Int32) then (0 : Int32) else (1 : Int32)) else (1 : Int32))) else (1 : Int32))))))

theorem f3_49_nar (p1 : Int32) : nar .boolean (f3_49 p1) = f3_49 p1 := by
  unfold f3_49; (repeat' split) <;> rfl
def Q3_49 (Z : State) (p1 : Int32) (h0 : Heap) (n0 : Nat) (v : Option Value) (h : Heap) (L : List Loc) : Prop := Fr n0 L ∧ h = h0 ∧ v = some (.int (f3_49 p1))
theorem ef3_49 (m : MethodId) (x0 : Int32) : entryFrame m #[(.int x0)] 1 = mkF m 0 #[.val (.int x0)] [] := by first | (simp [entryFrame, mkF, argsToLocals, Value.category]; done) | rfl
theorem pn_0 : plainName "com/example/parlance/parlance/XmlText" = true := by first | (simp [plainName, overriddenIn]; done) | decide +kernel
set_option maxRecDepth 65536 in
set_option maxHeartbeats 40000000 in
theorem rm3_49 (l : Launch) (Z : State) (a0 : Array Value) (hw : ∀ d ∈ tables_1, d.before a0 Z = true) (ws : List Jvm.Cond) (p1 : Int32) (h0 : Heap) (n0 : Nat) (Z0 : n0 ≤ h0.size)  :
    MetFree l (⟨"com/example/parlance/parlance/XmlText", "isXmlCharacter", "(I)Z"⟩ : MethodName) (head1 (Jvm.Cond.code (⟨"com/example/parlance/parlance/XmlText", "isXmlCharacter", "(I)Z"⟩ : MethodName) prog_16_method_4_code 1 (some .boolean) :: ws) R3_49) (fun a U => a = #[(.int p1)] ∧ Z.Warmed39 U.vm ∧ U.heap = h0) (fun _ _ _ _ _ => True) (fun _ U o U' => ∃ v L, o = .returned v ∧ Q3_49 Z p1 h0 n0 v U'.heap L ∧ FrameEnd U o U' L R3_49.cells R3_49.slots) := by
 refine MetFree.of_bodySF (plainFor_of_name pn_0) hisR ?_
 intro p e s m args below meth c s₁ Bd hml0 hP hK
 obtain ⟨rfl, hZ, hh⟩ := hP
 have hx := Bd.exec
 have hby := Bd.bytes
 have hml : c.maxLocals = 1 := hml0
 have hlk : meth.locks = false := Bd.notSynchronized
 have hown : s.vm.findClass "com/example/parlance/parlance/XmlText" = some m.cls := findClass_of_methodNamed Bd.named
 have hnm := (name_of_methodNamed Bd.named Bd.method).1
 have X0 : Stand p l e R3_49 s m #[(.int p1)] below meth c s₁ [] 0 0 := Stand.of_body Bd
 have e0 : s₁.heap = h0 := by rw [← hh, Bd.state]; rfl
 have N0 := Fr.nil n0
 rw [ef3_49 m p1]
 show KEnds p e below s R3_49.cells R3_49.slots (Q3_49 Z p1 h0 n0) s₁ (mkF m 0 #[.val (.int p1)] [])
 refine k_iloadN X0 hx (hb hby d3_0) rfl (pc' := 1) rfl ?_
 refine k_bipush X0 hx (hb hby d3_1) (pc' := 3) rfl (z := (9 : Int32)) rfl ?_
 refine k_icmp_eq X0 hx (hb hby d3_3) (pn := 6) rfl (py := 48) (by decide) (fun hc50 => ?_) (fun hc50 => ?_)
 ·
  refine k_iconst X0 hx (hb hby d3_48) (pc' := 49) rfl (z := (1 : Int32)) rfl ?_
  refine k_goto X0 hx (hb hby d3_49) (pc' := 53) (by decide) ?_
  have hf : f3_49 p1 = (1 : Int32) := by simp only [f3_49, if_pos hc50]
  exact k_retN X0 hx (t := .boolean) Bd.returns (by simp) (hb hby d3_53) hlk (by decide) (by decide) (z' := (1 : Int32)) rfl ⟨N0, e0, by rw [hf]⟩
 ·
  refine k_iloadN X0 hx (hb hby d3_6) rfl (pc' := 7) rfl ?_
  refine k_bipush X0 hx (hb hby d3_7) (pc' := 9) rfl (z := (10 : Int32)) rfl ?_
  refine k_icmp_eq X0 hx (hb hby d3_9) (pn := 12) rfl (py := 48) (by decide) (fun hc51 => ?_) (fun hc51 => ?_)
  ·
   refine k_iconst X0 hx (hb hby d3_48) (pc' := 49) rfl (z := (1 : Int32)) rfl ?_
   refine k_goto X0 hx (hb hby d3_49) (pc' := 53) (by decide) ?_
   have hf : f3_49 p1 = (1 : Int32) := by simp only [f3_49, if_neg hc50, if_pos hc51]
   exact k_retN X0 hx (t := .boolean) Bd.returns (by simp) (hb hby d3_53) hlk (by decide) (by decide) (z' := (1 : Int32)) rfl ⟨N0, e0, by rw [hf]⟩
  ·
   refine k_iloadN X0 hx (hb hby d3_12) rfl (pc' := 13) rfl ?_
   refine k_bipush X0 hx (hb hby d3_13) (pc' := 15) rfl (z := (13 : Int32)) rfl ?_
   refine k_icmp_eq X0 hx (hb hby d3_15) (pn := 18) rfl (py := 48) (by decide) (fun hc52 => ?_) (fun hc52 => ?_)
   ·
    refine k_iconst X0 hx (hb hby d3_48) (pc' := 49) rfl (z := (1 : Int32)) rfl ?_
    refine k_goto X0 hx (hb hby d3_49) (pc' := 53) (by decide) ?_
    have hf : f3_49 p1 = (1 : Int32) := by simp only [f3_49, if_neg hc50, if_neg hc51, if_pos hc52]
    exact k_retN X0 hx (t := .boolean) Bd.returns (by simp) (hb hby d3_53) hlk (by decide) (by decide) (z' := (1 : Int32)) rfl ⟨N0, e0, by rw [hf]⟩
   ·
    refine k_iloadN X0 hx (hb hby d3_18) rfl (pc' := 19) rfl ?_
    refine k_bipush X0 hx (hb hby d3_19) (pc' := 21) rfl (z := (32 : Int32)) rfl ?_
    refine k_icmp_lt X0 hx (hb hby d3_21) (pn := 24) rfl (py := 30) (by decide) (fun hc53 => ?_) (fun hc53 => ?_)
    ·
     refine k_iloadN X0 hx (hb hby d3_30) rfl (pc' := 31) rfl ?_
     refine k_ldc X0 hx hZ hown (hw _ (List.mem_of_getElem? (i := 24) rfl)) (hb hby d3_31) (pc' := 33) rfl ?_
     refine k_icmp_lt X0 hx (hb hby d3_33) (pn := 36) rfl (py := 42) (by decide) (fun _ => ?_) (fun hc => absurd (k_d_xlt_xlt hc53 (by decide)) hc)
     refine k_iloadN X0 hx (hb hby d3_42) rfl (pc' := 43) rfl ?_
     refine k_ldc X0 hx hZ hown (hw _ (List.mem_of_getElem? (i := 25) rfl)) (hb hby d3_43) (pc' := 45) rfl ?_
     refine k_icmp_lt X0 hx (hb hby d3_45) (pn := 48) rfl (py := 52) (by decide) (fun _ => ?_) (fun hc => absurd (k_d_xlt_xlt hc53 (by decide)) hc)
     refine k_iconst X0 hx (hb hby d3_52) (pc' := 53) rfl (z := (0 : Int32)) rfl ?_
     have hf : f3_49 p1 = (0 : Int32) := by simp only [f3_49, if_neg hc50, if_neg hc51, if_neg hc52, if_pos hc53]
     exact k_retN X0 hx (t := .boolean) Bd.returns (by simp) (hb hby d3_53) hlk (by decide) (by decide) (z' := (0 : Int32)) rfl ⟨N0, e0, by rw [hf]⟩
    ·
     refine k_iloadN X0 hx (hb hby d3_24) rfl (pc' := 25) rfl ?_
     refine k_ldc X0 hx hZ hown (hw _ (List.mem_of_getElem? (i := 30) rfl)) (hb hby d3_25) (pc' := 27) rfl ?_
     refine k_icmp_le X0 hx (hb hby d3_27) (pn := 30) rfl (py := 48) (by decide) (fun hc54 => ?_) (fun hc54 => ?_)
     ·
      refine k_iconst X0 hx (hb hby d3_48) (pc' := 49) rfl (z := (1 : Int32)) rfl ?_
      refine k_goto X0 hx (hb hby d3_49) (pc' := 53) (by decide) ?_
      have hf : f3_49 p1 = (1 : Int32) := by simp only [f3_49, if_neg hc50, if_neg hc51, if_neg hc52, if_neg hc53, if_neg hc54]
      exact k_retN X0 hx (t := .boolean) Bd.returns (by simp) (hb hby d3_53) hlk (by decide) (by decide) (z' := (1 : Int32)) rfl ⟨N0, e0, by rw [hf]⟩
     ·
      refine k_iloadN X0 hx (hb hby d3_30) rfl (pc' := 31) rfl ?_
      refine k_ldc X0 hx hZ hown (hw _ (List.mem_of_getElem? (i := 24) rfl)) (hb hby d3_31) (pc' := 33) rfl ?_
      refine k_icmp_lt X0 hx (hb hby d3_33) (pn := 36) rfl (py := 42) (by decide) (fun hc55 => ?_) (fun hc55 => ?_)
      ·
       refine k_iloadN X0 hx (hb hby d3_42) rfl (pc' := 43) rfl ?_
       refine k_ldc X0 hx hZ hown (hw _ (List.mem_of_getElem? (i := 25) rfl)) (hb hby d3_43) (pc' := 45) rfl ?_
       refine k_icmp_lt X0 hx (hb hby d3_45) (pn := 48) rfl (py := 52) (by decide) (fun _ => ?_) (fun hc => absurd (k_d_xlt_xlt hc55 (by decide)) hc)
       refine k_iconst X0 hx (hb hby d3_52) (pc' := 53) rfl (z := (0 : Int32)) rfl ?_
       have hf : f3_49 p1 = (0 : Int32) := by simp only [f3_49, if_neg hc50, if_neg hc51, if_neg hc52, if_neg hc53, if_pos hc54, if_pos hc55]
       exact k_retN X0 hx (t := .boolean) Bd.returns (by simp) (hb hby d3_53) hlk (by decide) (by decide) (z' := (0 : Int32)) rfl ⟨N0, e0, by rw [hf]⟩
      ·
       refine k_iloadN X0 hx (hb hby d3_36) rfl (pc' := 37) rfl ?_
       refine k_ldc X0 hx hZ hown (hw _ (List.mem_of_getElem? (i := 31) rfl)) (hb hby d3_37) (pc' := 39) rfl ?_
       refine k_icmp_le X0 hx (hb hby d3_39) (pn := 42) rfl (py := 48) (by decide) (fun hc56 => ?_) (fun hc56 => ?_)
       ·
        refine k_iconst X0 hx (hb hby d3_48) (pc' := 49) rfl (z := (1 : Int32)) rfl ?_
        refine k_goto X0 hx (hb hby d3_49) (pc' := 53) (by decide) ?_
        have hf : f3_49 p1 = (1 : Int32) := by simp only [f3_49, if_neg hc50, if_neg hc51, if_neg hc52, if_neg hc53, if_pos hc54, if_neg hc55, if_neg hc56]
        exact k_retN X0 hx (t := .boolean) Bd.returns (by simp) (hb hby d3_53) hlk (by decide) (by decide) (z' := (1 : Int32)) rfl ⟨N0, e0, by rw [hf]⟩
       ·
        refine k_iloadN X0 hx (hb hby d3_42) rfl (pc' := 43) rfl ?_
        refine k_ldc X0 hx hZ hown (hw _ (List.mem_of_getElem? (i := 25) rfl)) (hb hby d3_43) (pc' := 45) rfl ?_
        refine k_icmp_lt X0 hx (hb hby d3_45) (pn := 48) rfl (py := 52) (by decide) (fun hc57 => ?_) (fun hc57 => ?_)
        ·
         refine k_iconst X0 hx (hb hby d3_52) (pc' := 53) rfl (z := (0 : Int32)) rfl ?_
         have hf : f3_49 p1 = (0 : Int32) := by simp only [f3_49, if_neg hc50, if_neg hc51, if_neg hc52, if_neg hc53, if_pos hc54, if_neg hc55, if_pos hc56, if_pos hc57]
         exact k_retN X0 hx (t := .boolean) Bd.returns (by simp) (hb hby d3_53) hlk (by decide) (by decide) (z' := (0 : Int32)) rfl ⟨N0, e0, by rw [hf]⟩
        ·
         refine k_iconst X0 hx (hb hby d3_48) (pc' := 49) rfl (z := (1 : Int32)) rfl ?_
         refine k_goto X0 hx (hb hby d3_49) (pc' := 53) (by decide) ?_
         have hf : f3_49 p1 = (1 : Int32) := by simp only [f3_49, if_neg hc50, if_neg hc51, if_neg hc52, if_neg hc53, if_pos hc54, if_neg hc55, if_pos hc56, if_neg hc57]
         exact k_retN X0 hx (t := .boolean) Bd.returns (by simp) (hb hby d3_53) hlk (by decide) (by decide) (z' := (1 : Int32)) rfl ⟨N0, e0, by rw [hf]⟩
theorem pd_1 : parseMethodDescriptor "(I)Z" = some ⟨[.int], some .boolean⟩ := by decide +kernel
theorem d4_0 : decode method_2_code 0 = .ok (.iload_n 0, 1) := by decide +kernel
theorem d4_1 : decode method_2_code 1 = .ok (.ifCond .ge 5, 3) := by decide +kernel
theorem d4_6 : decode method_2_code 6 = .ok (.iload_n 0, 1) := by decide +kernel
theorem d4_7 : decode method_2_code 7 = .ok (.bipush 32, 2) := by decide +kernel
theorem d4_9 : decode method_2_code 9 = .ok (.if_icmp .ge 27, 3) := by decide +kernel
theorem d4_36 : decode method_2_code 36 = .ok (.iload_n 0, 1) := by decide +kernel
theorem d4_37 : decode method_2_code 37 = .ok (.ldc 7, 2) := by decide +kernel
theorem d4_39 : decode method_2_code 39 = .ok (.if_icmp .lt 11, 3) := by decide +kernel
theorem d4_50 : decode method_2_code 50 = .ok (.iload_n 0, 1) := by decide +kernel
theorem d4_51 : decode method_2_code 51 = .ok (.ldc 9, 2) := by decide +kernel
theorem d4_53 : decode method_2_code 53 = .ok (.if_icmp .eq 9, 3) := by decide +kernel
theorem d4_56 : decode method_2_code 56 = .ok (.iload_n 0, 1) := by decide +kernel
theorem d4_57 : decode method_2_code 57 = .ok (.ldc 10, 2) := by decide +kernel
theorem d4_59 : decode method_2_code 59 = .ok (.if_icmp .ne 5, 3) := by decide +kernel
theorem d4_64 : decode method_2_code 64 = .ok (.iload_n 0, 1) := by decide +kernel
theorem d4_65 : decode method_2_code 65 = .ok (.ldc 11, 2) := by decide +kernel
theorem d4_67 : decode method_2_code 67 = .ok (.if_icmp .gt 7, 3) := by decide +kernel
theorem d4_70 : decode method_2_code 70 = .ok (.iconst 1, 1) := by decide +kernel
theorem d4_71 : decode method_2_code 71 = .ok (.goto 4, 3) := by decide +kernel
theorem d4_75 : decode method_2_code 75 = .ok (.ireturn, 1) := by decide +kernel
theorem d4_42 : decode method_2_code 42 = .ok (.iload_n 0, 1) := by decide +kernel
theorem d4_43 : decode method_2_code 43 = .ok (.ldc 8, 2) := by decide +kernel
theorem d4_45 : decode method_2_code 45 = .ok (.if_icmp .gt 5, 3) := by decide +kernel
theorem d4_62 : decode method_2_code 62 = .ok (.iconst 0, 1) := by decide +kernel
theorem d4_63 : decode method_2_code 63 = .ok (.ireturn, 1) := by decide +kernel
theorem d4_74 : decode method_2_code 74 = .ok (.iconst 0, 1) := by decide +kernel
theorem d4_48 : decode method_2_code 48 = .ok (.iconst 0, 1) := by decide +kernel
theorem d4_49 : decode method_2_code 49 = .ok (.ireturn, 1) := by decide +kernel
theorem d4_12 : decode method_2_code 12 = .ok (.iload_n 0, 1) := by decide +kernel
theorem d4_13 : decode method_2_code 13 = .ok (.bipush 9, 2) := by decide +kernel
theorem d4_15 : decode method_2_code 15 = .ok (.if_icmp .eq 15, 3) := by decide +kernel
theorem d4_30 : decode method_2_code 30 = .ok (.iconst 1, 1) := by decide +kernel
theorem d4_31 : decode method_2_code 31 = .ok (.goto 4, 3) := by decide +kernel
theorem d4_35 : decode method_2_code 35 = .ok (.ireturn, 1) := by decide +kernel
theorem d4_18 : decode method_2_code 18 = .ok (.iload_n 0, 1) := by decide +kernel
theorem d4_19 : decode method_2_code 19 = .ok (.bipush 10, 2) := by decide +kernel
theorem d4_21 : decode method_2_code 21 = .ok (.if_icmp .eq 9, 3) := by decide +kernel
theorem d4_24 : decode method_2_code 24 = .ok (.iload_n 0, 1) := by decide +kernel
theorem d4_25 : decode method_2_code 25 = .ok (.bipush 13, 2) := by decide +kernel
theorem d4_27 : decode method_2_code 27 = .ok (.if_icmp .ne 7, 3) := by decide +kernel
theorem d4_34 : decode method_2_code 34 = .ok (.iconst 0, 1) := by decide +kernel
theorem d4_4 : decode method_2_code 4 = .ok (.iconst 0, 1) := by decide +kernel
theorem d4_5 : decode method_2_code 5 = .ok (.ireturn, 1) := by decide +kernel
abbrev R4_60 : Room := { frames := 0, cells := 0, slots := 0, locals := 0 }
def f4_60 (p1 : Int32) : Int32 := (if p1 < (0 : Int32) then (0 : Int32) else (if p1 < (32 : Int32) then (if p1 = (9 : Int32) then (1 : Int32) else (if p1 = (10 : Int32) then (1 : Int32) else (if p1 = (13 : Int32) then (1 : Int32) else (0 : Int32)))) else (if p1 < (55296 : Int32) then (1 : Int32) else (if (57343 : Int32) < p1 then (if p1 = (65534 : Int32) then (0 : Int32) else (if p1 = (65535 : Int32) then (0 : Int32) else (if (1114111 : Int32) < p1 then (0 : Int32) else (1 : Int32)))) else (0 : Int32)))))

theorem f4_60_nar (p1 : Int32) : nar .boolean (f4_60 p1) = f4_60 p1 := by
  unfold f4_60; (repeat' split) <;> rfl
def Q4_60 (Z : State) (p1 : Int32) (h0 : Heap) (n0 : Nat) (v : Option Value) (h : Heap) (L : List Loc) : Prop := Fr n0 L ∧ h = h0 ∧ v = some (.int (f4_60 p1))
theorem ef4_60 (m : MethodId) (x0 : Int32) : entryFrame m #[(.int x0)] 1 = mkF m 0 #[.val (.int x0)] [] := by first | (simp [entryFrame, mkF, argsToLocals, Value.category]; done) | rfl
theorem pn_1 : plainName "com/example/parlance/parlance/XmlTextIsXmlCharacterPinLaw" = true := by first | (simp [plainName, overriddenIn]; done) | decide +kernel
set_option maxRecDepth 65536 in
set_option maxHeartbeats 40000000 in
theorem rm4_60 (l : Launch) (Z : State) (a0 : Array Value) (hw : ∀ d ∈ tables_1, d.before a0 Z = true) (ws : List Jvm.Cond) (p1 : Int32) (h0 : Heap) (n0 : Nat) (Z0 : n0 ≤ h0.size)  :
    MetFree l (⟨"com/example/parlance/parlance/XmlTextIsXmlCharacterPinLaw", "ref", "(I)Z"⟩ : MethodName) (head1 (Jvm.Cond.code (⟨"com/example/parlance/parlance/XmlTextIsXmlCharacterPinLaw", "ref", "(I)Z"⟩ : MethodName) method_2_code 1 (some .boolean) :: ws) R4_60) (fun a U => a = #[(.int p1)] ∧ Z.Warmed39 U.vm ∧ U.heap = h0) (fun _ _ _ _ _ => True) (fun _ U o U' => ∃ v L, o = .returned v ∧ Q4_60 Z p1 h0 n0 v U'.heap L ∧ FrameEnd U o U' L R4_60.cells R4_60.slots) := by
 refine MetFree.of_bodySF (plainFor_of_name pn_1) hisR ?_
 intro p e s m args below meth c s₁ Bd hml0 hP hK
 obtain ⟨rfl, hZ, hh⟩ := hP
 have hx := Bd.exec
 have hby := Bd.bytes
 have hml : c.maxLocals = 1 := hml0
 have hlk : meth.locks = false := Bd.notSynchronized
 have hown : s.vm.findClass "com/example/parlance/parlance/XmlTextIsXmlCharacterPinLaw" = some m.cls := findClass_of_methodNamed Bd.named
 have hnm := (name_of_methodNamed Bd.named Bd.method).1
 have X0 : Stand p l e R4_60 s m #[(.int p1)] below meth c s₁ [] 0 0 := Stand.of_body Bd
 have e0 : s₁.heap = h0 := by rw [← hh, Bd.state]; rfl
 have N0 := Fr.nil n0
 rw [ef4_60 m p1]
 show KEnds p e below s R4_60.cells R4_60.slots (Q4_60 Z p1 h0 n0) s₁ (mkF m 0 #[.val (.int p1)] [])
 refine k_iloadN X0 hx (hb hby d4_0) rfl (pc' := 1) rfl ?_
 refine k_if_ge X0 hx (hb hby d4_1) (pn := 4) rfl (py := 6) (by decide) (fun hc61 => ?_) (fun hc61 => ?_)
 ·
  refine k_iloadN X0 hx (hb hby d4_6) rfl (pc' := 7) rfl ?_
  refine k_bipush X0 hx (hb hby d4_7) (pc' := 9) rfl (z := (32 : Int32)) rfl ?_
  refine k_icmp_ge X0 hx (hb hby d4_9) (pn := 12) rfl (py := 36) (by decide) (fun hc62 => ?_) (fun hc62 => ?_)
  ·
   refine k_iloadN X0 hx (hb hby d4_36) rfl (pc' := 37) rfl ?_
   refine k_ldc X0 hx hZ hown (hw _ (List.mem_of_getElem? (i := 2) rfl)) (hb hby d4_37) (pc' := 39) rfl ?_
   refine k_icmp_lt X0 hx (hb hby d4_39) (pn := 42) rfl (py := 50) (by decide) (fun hc63 => ?_) (fun hc63 => ?_)
   ·
    refine k_iloadN X0 hx (hb hby d4_50) rfl (pc' := 51) rfl ?_
    refine k_ldc X0 hx hZ hown (hw _ (List.mem_of_getElem? (i := 6) rfl)) (hb hby d4_51) (pc' := 53) rfl ?_
    refine k_icmp_eq X0 hx (hb hby d4_53) (pn := 56) rfl (py := 62) (by decide) (fun hc => absurd hc (k_d_ne_xlt hc63 (by decide))) (fun _ => ?_)
    refine k_iloadN X0 hx (hb hby d4_56) rfl (pc' := 57) rfl ?_
    refine k_ldc X0 hx hZ hown (hw _ (List.mem_of_getElem? (i := 7) rfl)) (hb hby d4_57) (pc' := 59) rfl ?_
    refine k_icmp_ne X0 hx (hb hby d4_59) (pn := 62) rfl (py := 64) (by decide) (fun _ => ?_) (fun hc => absurd hc (k_d_ne_xlt hc63 (by decide)))
    refine k_iloadN X0 hx (hb hby d4_64) rfl (pc' := 65) rfl ?_
    refine k_ldc X0 hx hZ hown (hw _ (List.mem_of_getElem? (i := 9) rfl)) (hb hby d4_65) (pc' := 67) rfl ?_
    refine k_icmp_gt X0 hx (hb hby d4_67) (pn := 70) rfl (py := 74) (by decide) (fun hc => absurd hc (k_d_nalt_xlt hc63 (by decide))) (fun _ => ?_)
    refine k_iconst X0 hx (hb hby d4_70) (pc' := 71) rfl (z := (1 : Int32)) rfl ?_
    refine k_goto X0 hx (hb hby d4_71) (pc' := 75) (by decide) ?_
    have hf : f4_60 p1 = (1 : Int32) := by simp only [f4_60, if_neg hc61, if_neg hc62, if_pos hc63]
    exact k_retN X0 hx (t := .boolean) Bd.returns (by simp) (hb hby d4_75) hlk (by decide) (by decide) (z' := (1 : Int32)) rfl ⟨N0, e0, by rw [hf]⟩
   ·
    refine k_iloadN X0 hx (hb hby d4_42) rfl (pc' := 43) rfl ?_
    refine k_ldc X0 hx hZ hown (hw _ (List.mem_of_getElem? (i := 3) rfl)) (hb hby d4_43) (pc' := 45) rfl ?_
    refine k_icmp_gt X0 hx (hb hby d4_45) (pn := 48) rfl (py := 50) (by decide) (fun hc64 => ?_) (fun hc64 => ?_)
    ·
     refine k_iloadN X0 hx (hb hby d4_50) rfl (pc' := 51) rfl ?_
     refine k_ldc X0 hx hZ hown (hw _ (List.mem_of_getElem? (i := 6) rfl)) (hb hby d4_51) (pc' := 53) rfl ?_
     refine k_icmp_eq X0 hx (hb hby d4_53) (pn := 56) rfl (py := 62) (by decide) (fun hc65 => ?_) (fun hc65 => ?_)
     ·
      refine k_iconst X0 hx (hb hby d4_62) (pc' := 63) rfl (z := (0 : Int32)) rfl ?_
      have hf : f4_60 p1 = (0 : Int32) := by simp only [f4_60, if_neg hc61, if_neg hc62, if_neg hc63, if_pos hc64, if_pos hc65]
      exact k_retN X0 hx (t := .boolean) Bd.returns (by simp) (hb hby d4_63) hlk (by decide) (by decide) (z' := (0 : Int32)) rfl ⟨N0, e0, by rw [hf]⟩
     ·
      refine k_iloadN X0 hx (hb hby d4_56) rfl (pc' := 57) rfl ?_
      refine k_ldc X0 hx hZ hown (hw _ (List.mem_of_getElem? (i := 7) rfl)) (hb hby d4_57) (pc' := 59) rfl ?_
      refine k_icmp_ne X0 hx (hb hby d4_59) (pn := 62) rfl (py := 64) (by decide) (fun hc66 => ?_) (fun hc66 => ?_)
      ·
       refine k_iloadN X0 hx (hb hby d4_64) rfl (pc' := 65) rfl ?_
       refine k_ldc X0 hx hZ hown (hw _ (List.mem_of_getElem? (i := 9) rfl)) (hb hby d4_65) (pc' := 67) rfl ?_
       refine k_icmp_gt X0 hx (hb hby d4_67) (pn := 70) rfl (py := 74) (by decide) (fun hc67 => ?_) (fun hc67 => ?_)
       ·
        refine k_iconst X0 hx (hb hby d4_74) (pc' := 75) rfl (z := (0 : Int32)) rfl ?_
        have hf : f4_60 p1 = (0 : Int32) := by simp only [f4_60, if_neg hc61, if_neg hc62, if_neg hc63, if_pos hc64, if_neg hc65, if_neg hc66, if_pos hc67]
        exact k_retN X0 hx (t := .boolean) Bd.returns (by simp) (hb hby d4_75) hlk (by decide) (by decide) (z' := (0 : Int32)) rfl ⟨N0, e0, by rw [hf]⟩
       ·
        refine k_iconst X0 hx (hb hby d4_70) (pc' := 71) rfl (z := (1 : Int32)) rfl ?_
        refine k_goto X0 hx (hb hby d4_71) (pc' := 75) (by decide) ?_
        have hf : f4_60 p1 = (1 : Int32) := by simp only [f4_60, if_neg hc61, if_neg hc62, if_neg hc63, if_pos hc64, if_neg hc65, if_neg hc66, if_neg hc67]
        exact k_retN X0 hx (t := .boolean) Bd.returns (by simp) (hb hby d4_75) hlk (by decide) (by decide) (z' := (1 : Int32)) rfl ⟨N0, e0, by rw [hf]⟩
      ·
       refine k_iconst X0 hx (hb hby d4_62) (pc' := 63) rfl (z := (0 : Int32)) rfl ?_
       have hf : f4_60 p1 = (0 : Int32) := by simp only [f4_60, if_neg hc61, if_neg hc62, if_neg hc63, if_pos hc64, if_neg hc65, if_pos hc66]
       exact k_retN X0 hx (t := .boolean) Bd.returns (by simp) (hb hby d4_63) hlk (by decide) (by decide) (z' := (0 : Int32)) rfl ⟨N0, e0, by rw [hf]⟩
    ·
     refine k_iconst X0 hx (hb hby d4_48) (pc' := 49) rfl (z := (0 : Int32)) rfl ?_
     have hf : f4_60 p1 = (0 : Int32) := by simp only [f4_60, if_neg hc61, if_neg hc62, if_neg hc63, if_neg hc64]
     exact k_retN X0 hx (t := .boolean) Bd.returns (by simp) (hb hby d4_49) hlk (by decide) (by decide) (z' := (0 : Int32)) rfl ⟨N0, e0, by rw [hf]⟩
  ·
   refine k_iloadN X0 hx (hb hby d4_12) rfl (pc' := 13) rfl ?_
   refine k_bipush X0 hx (hb hby d4_13) (pc' := 15) rfl (z := (9 : Int32)) rfl ?_
   refine k_icmp_eq X0 hx (hb hby d4_15) (pn := 18) rfl (py := 30) (by decide) (fun hc68 => ?_) (fun hc68 => ?_)
   ·
    refine k_iconst X0 hx (hb hby d4_30) (pc' := 31) rfl (z := (1 : Int32)) rfl ?_
    refine k_goto X0 hx (hb hby d4_31) (pc' := 35) (by decide) ?_
    have hf : f4_60 p1 = (1 : Int32) := by simp only [f4_60, if_neg hc61, if_pos hc62, if_pos hc68]
    exact k_retN X0 hx (t := .boolean) Bd.returns (by simp) (hb hby d4_35) hlk (by decide) (by decide) (z' := (1 : Int32)) rfl ⟨N0, e0, by rw [hf]⟩
   ·
    refine k_iloadN X0 hx (hb hby d4_18) rfl (pc' := 19) rfl ?_
    refine k_bipush X0 hx (hb hby d4_19) (pc' := 21) rfl (z := (10 : Int32)) rfl ?_
    refine k_icmp_eq X0 hx (hb hby d4_21) (pn := 24) rfl (py := 30) (by decide) (fun hc69 => ?_) (fun hc69 => ?_)
    ·
     refine k_iconst X0 hx (hb hby d4_30) (pc' := 31) rfl (z := (1 : Int32)) rfl ?_
     refine k_goto X0 hx (hb hby d4_31) (pc' := 35) (by decide) ?_
     have hf : f4_60 p1 = (1 : Int32) := by simp only [f4_60, if_neg hc61, if_pos hc62, if_neg hc68, if_pos hc69]
     exact k_retN X0 hx (t := .boolean) Bd.returns (by simp) (hb hby d4_35) hlk (by decide) (by decide) (z' := (1 : Int32)) rfl ⟨N0, e0, by rw [hf]⟩
    ·
     refine k_iloadN X0 hx (hb hby d4_24) rfl (pc' := 25) rfl ?_
     refine k_bipush X0 hx (hb hby d4_25) (pc' := 27) rfl (z := (13 : Int32)) rfl ?_
     refine k_icmp_ne X0 hx (hb hby d4_27) (pn := 30) rfl (py := 34) (by decide) (fun hc70 => ?_) (fun hc70 => ?_)
     ·
      refine k_iconst X0 hx (hb hby d4_34) (pc' := 35) rfl (z := (0 : Int32)) rfl ?_
      have hf : f4_60 p1 = (0 : Int32) := by simp only [f4_60, if_neg hc61, if_pos hc62, if_neg hc68, if_neg hc69, if_neg hc70]
      exact k_retN X0 hx (t := .boolean) Bd.returns (by simp) (hb hby d4_35) hlk (by decide) (by decide) (z' := (0 : Int32)) rfl ⟨N0, e0, by rw [hf]⟩
     ·
      refine k_iconst X0 hx (hb hby d4_30) (pc' := 31) rfl (z := (1 : Int32)) rfl ?_
      refine k_goto X0 hx (hb hby d4_31) (pc' := 35) (by decide) ?_
      have hf : f4_60 p1 = (1 : Int32) := by simp only [f4_60, if_neg hc61, if_pos hc62, if_neg hc68, if_neg hc69, if_pos hc70]
      exact k_retN X0 hx (t := .boolean) Bd.returns (by simp) (hb hby d4_35) hlk (by decide) (by decide) (z' := (1 : Int32)) rfl ⟨N0, e0, by rw [hf]⟩
 ·
  refine k_iconst X0 hx (hb hby d4_4) (pc' := 5) rfl (z := (0 : Int32)) rfl ?_
  have hf : f4_60 p1 = (0 : Int32) := by simp only [f4_60, if_pos hc61]
  exact k_retN X0 hx (t := .boolean) Bd.returns (by simp) (hb hby d4_5) hlk (by decide) (by decide) (z' := (0 : Int32)) rfl ⟨N0, e0, by rw [hf]⟩
theorem ef0 (m : MethodId) (x0 : Int32) (x1 : Int32) (x2 : Int32) (x3 : Int32) : entryFrame m #[(.int x0), (.int x1), (.int x2), (.int x3)] maxLocals = mkF m 0 #[.val (.int x0), .val (.int x1), .val (.int x2), .val (.int x3), .unset, .unset, .unset, .unset, .unset, .unset, .unset, .unset, .unset] [] := by first | (simp [entryFrame, mkF, argsToLocals, Value.category, maxLocals]; done) | rfl
theorem own_eq (c : Int32) (h : c.toInt ≤ 1114111) : f3_49 c = f4_60 c := by
  unfold f3_49 f4_60
  simp only [Int32.lt_iff_toInt_lt, ← Int32.toInt_inj, show (0 : Int32).toInt = 0 from rfl, show (10 : Int32).toInt = 10 from rfl, show (1114111 : Int32).toInt = 1114111 from rfl, show (13 : Int32).toInt = 13 from rfl, show (32 : Int32).toInt = 32 from rfl, show (55295 : Int32).toInt = 55295 from rfl, show (55296 : Int32).toInt = 55296 from rfl, show (57343 : Int32).toInt = 57343 from rfl, show (57344 : Int32).toInt = 57344 from rfl, show (65533 : Int32).toInt = 65533 from rfl, show (65534 : Int32).toInt = 65534 from rfl, show (65535 : Int32).toInt = 65535 from rfl, show (65536 : Int32).toInt = 65536 from rfl, show (9 : Int32).toInt = 9 from rfl]
  have r := rng32 c
  (repeat' split) <;> first | rfl | (exfalso; omega)
theorem own_neg (c : Int32) (h : c.toInt < 0) : f3_49 c = 0 := by
  unfold f3_49
  simp only [Int32.lt_iff_toInt_lt, ← Int32.toInt_inj, show (0 : Int32).toInt = 0 from rfl, show (10 : Int32).toInt = 10 from rfl, show (1114111 : Int32).toInt = 1114111 from rfl, show (13 : Int32).toInt = 13 from rfl, show (32 : Int32).toInt = 32 from rfl, show (55295 : Int32).toInt = 55295 from rfl, show (55296 : Int32).toInt = 55296 from rfl, show (57343 : Int32).toInt = 57343 from rfl, show (57344 : Int32).toInt = 57344 from rfl, show (65533 : Int32).toInt = 65533 from rfl, show (65534 : Int32).toInt = 65534 from rfl, show (65535 : Int32).toInt = 65535 from rfl, show (65536 : Int32).toInt = 65536 from rfl, show (9 : Int32).toInt = 9 from rfl]
  (repeat' split) <;> first | rfl | (exfalso; omega)
def Q0 (n0 : Nat) (v : Option Value) (h : Heap) (L : List Loc) : Prop := v = some (.int 1) ∧ Fr n0 L
set_option maxRecDepth 65536 in
set_option maxHeartbeats 40000000 in
theorem rm0 (l : Launch) (Z : State) (a0 : Array Value) (hw : ∀ d ∈ tables_1, d.before a0 Z = true) (ws : List Jvm.Cond) (i0 : Int32) (i1 : Int32) (i2 : Int32) (i3 : Int32) (h0 : Heap) (n0 : Nat) (Z0 : n0 ≤ h0.size) :
    MetFree l x (head1 (Jvm.Cond.code x code maxLocals ret :: ws) room_1) (fun a U => a = #[(.int i0), (.int i1), (.int i2), (.int i3)] ∧ Z.Warmed39 U.vm ∧ U.heap = h0) (fun _ _ _ _ _ => True) (fun _ U o U' => ∃ v L, o = .returned v ∧ Q0 n0 v U'.heap L ∧ FrameEnd U o U' L 16 128) := by
 refine MetFree.of_bodySF (plainFor_of_name pn_1) hisR ?_
 intro p e s m args below meth c s₁ Bd hml0 hP hK
 obtain ⟨rfl, hZ, hh⟩ := hP
 have hx := Bd.exec
 have hby := Bd.bytes
 have hml : c.maxLocals = 13 := hml0
 have hlk : meth.locks = false := Bd.notSynchronized
 have hown : s.vm.findClass "com/example/parlance/parlance/XmlTextIsXmlCharacterPinLaw" = some m.cls := findClass_of_methodNamed Bd.named
 have hnm := (name_of_methodNamed Bd.named Bd.method).1
 have X0 : Stand p l e room_1 s m #[(.int i0), (.int i1), (.int i2), (.int i3)] below meth c s₁ [] 0 0 := Stand.of_body Bd
 have e0 : s₁.heap = h0 := by rw [← hh, Bd.state]; rfl
 have N0 := Fr.nil n0
 rw [show entryFrame m #[(.int i0), (.int i1), (.int i2), (.int i3)] maxLocals = _ from ef0 m i0 i1 i2 i3]
 show KEnds p e below s 16 128 (Q0 n0) s₁ (mkF m 0 #[.val (.int i0), .val (.int i1), .val (.int i2), .val (.int i3), .unset, .unset, .unset, .unset, .unset, .unset, .unset, .unset, .unset] [])
 refine k_bipush X0 hx (hb hby at_0) (pc' := 2) rfl (z := (20 : Int32)) rfl ?_
 refine k_newA X0 hx hZ (hw _ (List.mem_of_getElem? (i := 0) rfl)) e0 (hb hby at_2) (by decide) (cap := 20) (by decide) (by decide) (by decide) (by decide) (pc' := 4) rfl (fun T1 h1 b1 k1 g1 X1 e1 E1 V1 => ?_)
 have g_b1 : n0 ≤ b1 := Nat.le_trans Z0 (Nat.le_of_eq g1.symm)
 have Z1 : n0 ≤ h1.size := Nat.le_trans Z0 E1.1
 have Vw1 : Arv Z h1 b1 k1 .int (20 : Int32) [(.int (0 : Int32)), (.int (0 : Int32)), (.int (0 : Int32)), (.int (0 : Int32)), (.int (0 : Int32)), (.int (0 : Int32)), (.int (0 : Int32)), (.int (0 : Int32)), (.int (0 : Int32)), (.int (0 : Int32)), (.int (0 : Int32)), (.int (0 : Int32)), (.int (0 : Int32)), (.int (0 : Int32)), (.int (0 : Int32)), (.int (0 : Int32)), (.int (0 : Int32)), (.int (0 : Int32)), (.int (0 : Int32)), (.int (0 : Int32))] (.int (0 : Int32)) := V1
 refine k_dup X1 hx (hb hby at_4) rfl (pc' := 5) rfl ?_
 refine k_iconst X1 hx (hb hby at_5) (pc' := 6) rfl (z := (0 : Int32)) rfl ?_
 refine k_iconst X1 hx (hb hby at_6) (pc' := 7) rfl (z := (0 : Int32)) rfl ?_
 refine k_iastore X1 hx hZ e1 Vw1 ⟨by decide, by decide⟩ (i := 0) rfl (Nat.le_of_ble_eq_true rfl) (hb hby at_7) (pc' := 8) rfl (fun T2 h2 X2 e2 W2 V2 => ?_)
 have Vw2 : Arv Z h2 b1 k1 .int (20 : Int32) [(.int (0 : Int32)), (.int (0 : Int32)), (.int (0 : Int32)), (.int (0 : Int32)), (.int (0 : Int32)), (.int (0 : Int32)), (.int (0 : Int32)), (.int (0 : Int32)), (.int (0 : Int32)), (.int (0 : Int32)), (.int (0 : Int32)), (.int (0 : Int32)), (.int (0 : Int32)), (.int (0 : Int32)), (.int (0 : Int32)), (.int (0 : Int32)), (.int (0 : Int32)), (.int (0 : Int32)), (.int (0 : Int32)), (.int (0 : Int32))] (.int (0 : Int32)) := V2
 have N2 := Fr.snoc X2 N0 g_b1
 have Z2 : n0 ≤ h2.size := Nat.le_trans Z1 (Nat.le_of_eq W2.size.symm)
 refine k_dup X2 hx (hb hby at_8) rfl (pc' := 9) rfl ?_
 refine k_iconst X2 hx (hb hby at_9) (pc' := 10) rfl (z := (1 : Int32)) rfl ?_
 refine k_bipush X2 hx (hb hby at_10) (pc' := 12) rfl (z := (8 : Int32)) rfl ?_
 refine k_iastore X2 hx hZ e2 Vw2 ⟨by decide, by decide⟩ (i := 1) rfl (Nat.le_of_ble_eq_true rfl) (hb hby at_12) (pc' := 13) rfl (fun T3 h3 X3 e3 W3 V3 => ?_)
 have Vw3 : Arv Z h3 b1 k1 .int (20 : Int32) [(.int (0 : Int32)), (.int (8 : Int32)), (.int (0 : Int32)), (.int (0 : Int32)), (.int (0 : Int32)), (.int (0 : Int32)), (.int (0 : Int32)), (.int (0 : Int32)), (.int (0 : Int32)), (.int (0 : Int32)), (.int (0 : Int32)), (.int (0 : Int32)), (.int (0 : Int32)), (.int (0 : Int32)), (.int (0 : Int32)), (.int (0 : Int32)), (.int (0 : Int32)), (.int (0 : Int32)), (.int (0 : Int32)), (.int (0 : Int32))] (.int (0 : Int32)) := V3
 have N3 := Fr.snoc X3 N2 g_b1
 have Z3 : n0 ≤ h3.size := Nat.le_trans Z2 (Nat.le_of_eq W3.size.symm)
 refine k_dup X3 hx (hb hby at_13) rfl (pc' := 14) rfl ?_
 refine k_iconst X3 hx (hb hby at_14) (pc' := 15) rfl (z := (2 : Int32)) rfl ?_
 refine k_bipush X3 hx (hb hby at_15) (pc' := 17) rfl (z := (9 : Int32)) rfl ?_
 refine k_iastore X3 hx hZ e3 Vw3 ⟨by decide, by decide⟩ (i := 2) rfl (Nat.le_of_ble_eq_true rfl) (hb hby at_17) (pc' := 18) rfl (fun T4 h4 X4 e4 W4 V4 => ?_)
 have Vw4 : Arv Z h4 b1 k1 .int (20 : Int32) [(.int (0 : Int32)), (.int (8 : Int32)), (.int (9 : Int32)), (.int (0 : Int32)), (.int (0 : Int32)), (.int (0 : Int32)), (.int (0 : Int32)), (.int (0 : Int32)), (.int (0 : Int32)), (.int (0 : Int32)), (.int (0 : Int32)), (.int (0 : Int32)), (.int (0 : Int32)), (.int (0 : Int32)), (.int (0 : Int32)), (.int (0 : Int32)), (.int (0 : Int32)), (.int (0 : Int32)), (.int (0 : Int32)), (.int (0 : Int32))] (.int (0 : Int32)) := V4
 have N4 := Fr.snoc X4 N3 g_b1
 have Z4 : n0 ≤ h4.size := Nat.le_trans Z3 (Nat.le_of_eq W4.size.symm)
 refine k_dup X4 hx (hb hby at_18) rfl (pc' := 19) rfl ?_
 refine k_iconst X4 hx (hb hby at_19) (pc' := 20) rfl (z := (3 : Int32)) rfl ?_
 refine k_bipush X4 hx (hb hby at_20) (pc' := 22) rfl (z := (10 : Int32)) rfl ?_
 refine k_iastore X4 hx hZ e4 Vw4 ⟨by decide, by decide⟩ (i := 3) rfl (Nat.le_of_ble_eq_true rfl) (hb hby at_22) (pc' := 23) rfl (fun T5 h5 X5 e5 W5 V5 => ?_)
 have Vw5 : Arv Z h5 b1 k1 .int (20 : Int32) [(.int (0 : Int32)), (.int (8 : Int32)), (.int (9 : Int32)), (.int (10 : Int32)), (.int (0 : Int32)), (.int (0 : Int32)), (.int (0 : Int32)), (.int (0 : Int32)), (.int (0 : Int32)), (.int (0 : Int32)), (.int (0 : Int32)), (.int (0 : Int32)), (.int (0 : Int32)), (.int (0 : Int32)), (.int (0 : Int32)), (.int (0 : Int32)), (.int (0 : Int32)), (.int (0 : Int32)), (.int (0 : Int32)), (.int (0 : Int32))] (.int (0 : Int32)) := V5
 have N5 := Fr.snoc X5 N4 g_b1
 have Z5 : n0 ≤ h5.size := Nat.le_trans Z4 (Nat.le_of_eq W5.size.symm)
 refine k_dup X5 hx (hb hby at_23) rfl (pc' := 24) rfl ?_
 refine k_iconst X5 hx (hb hby at_24) (pc' := 25) rfl (z := (4 : Int32)) rfl ?_
 refine k_bipush X5 hx (hb hby at_25) (pc' := 27) rfl (z := (11 : Int32)) rfl ?_
 refine k_iastore X5 hx hZ e5 Vw5 ⟨by decide, by decide⟩ (i := 4) rfl (Nat.le_of_ble_eq_true rfl) (hb hby at_27) (pc' := 28) rfl (fun T6 h6 X6 e6 W6 V6 => ?_)
 have Vw6 : Arv Z h6 b1 k1 .int (20 : Int32) [(.int (0 : Int32)), (.int (8 : Int32)), (.int (9 : Int32)), (.int (10 : Int32)), (.int (11 : Int32)), (.int (0 : Int32)), (.int (0 : Int32)), (.int (0 : Int32)), (.int (0 : Int32)), (.int (0 : Int32)), (.int (0 : Int32)), (.int (0 : Int32)), (.int (0 : Int32)), (.int (0 : Int32)), (.int (0 : Int32)), (.int (0 : Int32)), (.int (0 : Int32)), (.int (0 : Int32)), (.int (0 : Int32)), (.int (0 : Int32))] (.int (0 : Int32)) := V6
 have N6 := Fr.snoc X6 N5 g_b1
 have Z6 : n0 ≤ h6.size := Nat.le_trans Z5 (Nat.le_of_eq W6.size.symm)
 refine k_dup X6 hx (hb hby at_28) rfl (pc' := 29) rfl ?_
 refine k_iconst X6 hx (hb hby at_29) (pc' := 30) rfl (z := (5 : Int32)) rfl ?_
 refine k_bipush X6 hx (hb hby at_30) (pc' := 32) rfl (z := (12 : Int32)) rfl ?_
 refine k_iastore X6 hx hZ e6 Vw6 ⟨by decide, by decide⟩ (i := 5) rfl (Nat.le_of_ble_eq_true rfl) (hb hby at_32) (pc' := 33) rfl (fun T7 h7 X7 e7 W7 V7 => ?_)
 have Vw7 : Arv Z h7 b1 k1 .int (20 : Int32) [(.int (0 : Int32)), (.int (8 : Int32)), (.int (9 : Int32)), (.int (10 : Int32)), (.int (11 : Int32)), (.int (12 : Int32)), (.int (0 : Int32)), (.int (0 : Int32)), (.int (0 : Int32)), (.int (0 : Int32)), (.int (0 : Int32)), (.int (0 : Int32)), (.int (0 : Int32)), (.int (0 : Int32)), (.int (0 : Int32)), (.int (0 : Int32)), (.int (0 : Int32)), (.int (0 : Int32)), (.int (0 : Int32)), (.int (0 : Int32))] (.int (0 : Int32)) := V7
 have N7 := Fr.snoc X7 N6 g_b1
 have Z7 : n0 ≤ h7.size := Nat.le_trans Z6 (Nat.le_of_eq W7.size.symm)
 refine k_dup X7 hx (hb hby at_33) rfl (pc' := 34) rfl ?_
 refine k_bipush X7 hx (hb hby at_34) (pc' := 36) rfl (z := (6 : Int32)) rfl ?_
 refine k_bipush X7 hx (hb hby at_36) (pc' := 38) rfl (z := (13 : Int32)) rfl ?_
 refine k_iastore X7 hx hZ e7 Vw7 ⟨by decide, by decide⟩ (i := 6) rfl (Nat.le_of_ble_eq_true rfl) (hb hby at_38) (pc' := 39) rfl (fun T8 h8 X8 e8 W8 V8 => ?_)
 have Vw8 : Arv Z h8 b1 k1 .int (20 : Int32) [(.int (0 : Int32)), (.int (8 : Int32)), (.int (9 : Int32)), (.int (10 : Int32)), (.int (11 : Int32)), (.int (12 : Int32)), (.int (13 : Int32)), (.int (0 : Int32)), (.int (0 : Int32)), (.int (0 : Int32)), (.int (0 : Int32)), (.int (0 : Int32)), (.int (0 : Int32)), (.int (0 : Int32)), (.int (0 : Int32)), (.int (0 : Int32)), (.int (0 : Int32)), (.int (0 : Int32)), (.int (0 : Int32)), (.int (0 : Int32))] (.int (0 : Int32)) := V8
 have N8 := Fr.snoc X8 N7 g_b1
 have Z8 : n0 ≤ h8.size := Nat.le_trans Z7 (Nat.le_of_eq W8.size.symm)
 refine k_dup X8 hx (hb hby at_39) rfl (pc' := 40) rfl ?_
 refine k_bipush X8 hx (hb hby at_40) (pc' := 42) rfl (z := (7 : Int32)) rfl ?_
 refine k_bipush X8 hx (hb hby at_42) (pc' := 44) rfl (z := (14 : Int32)) rfl ?_
 refine k_iastore X8 hx hZ e8 Vw8 ⟨by decide, by decide⟩ (i := 7) rfl (Nat.le_of_ble_eq_true rfl) (hb hby at_44) (pc' := 45) rfl (fun T9 h9 X9 e9 W9 V9 => ?_)
 have Vw9 : Arv Z h9 b1 k1 .int (20 : Int32) [(.int (0 : Int32)), (.int (8 : Int32)), (.int (9 : Int32)), (.int (10 : Int32)), (.int (11 : Int32)), (.int (12 : Int32)), (.int (13 : Int32)), (.int (14 : Int32)), (.int (0 : Int32)), (.int (0 : Int32)), (.int (0 : Int32)), (.int (0 : Int32)), (.int (0 : Int32)), (.int (0 : Int32)), (.int (0 : Int32)), (.int (0 : Int32)), (.int (0 : Int32)), (.int (0 : Int32)), (.int (0 : Int32)), (.int (0 : Int32))] (.int (0 : Int32)) := V9
 have N9 := Fr.snoc X9 N8 g_b1
 have Z9 : n0 ≤ h9.size := Nat.le_trans Z8 (Nat.le_of_eq W9.size.symm)
 refine k_dup X9 hx (hb hby at_45) rfl (pc' := 46) rfl ?_
 refine k_bipush X9 hx (hb hby at_46) (pc' := 48) rfl (z := (8 : Int32)) rfl ?_
 refine k_bipush X9 hx (hb hby at_48) (pc' := 50) rfl (z := (31 : Int32)) rfl ?_
 refine k_iastore X9 hx hZ e9 Vw9 ⟨by decide, by decide⟩ (i := 8) rfl (Nat.le_of_ble_eq_true rfl) (hb hby at_50) (pc' := 51) rfl (fun T10 h10 X10 e10 W10 V10 => ?_)
 have Vw10 : Arv Z h10 b1 k1 .int (20 : Int32) [(.int (0 : Int32)), (.int (8 : Int32)), (.int (9 : Int32)), (.int (10 : Int32)), (.int (11 : Int32)), (.int (12 : Int32)), (.int (13 : Int32)), (.int (14 : Int32)), (.int (31 : Int32)), (.int (0 : Int32)), (.int (0 : Int32)), (.int (0 : Int32)), (.int (0 : Int32)), (.int (0 : Int32)), (.int (0 : Int32)), (.int (0 : Int32)), (.int (0 : Int32)), (.int (0 : Int32)), (.int (0 : Int32)), (.int (0 : Int32))] (.int (0 : Int32)) := V10
 have N10 := Fr.snoc X10 N9 g_b1
 have Z10 : n0 ≤ h10.size := Nat.le_trans Z9 (Nat.le_of_eq W10.size.symm)
 refine k_dup X10 hx (hb hby at_51) rfl (pc' := 52) rfl ?_
 refine k_bipush X10 hx (hb hby at_52) (pc' := 54) rfl (z := (9 : Int32)) rfl ?_
 refine k_bipush X10 hx (hb hby at_54) (pc' := 56) rfl (z := (32 : Int32)) rfl ?_
 refine k_iastore X10 hx hZ e10 Vw10 ⟨by decide, by decide⟩ (i := 9) rfl (Nat.le_of_ble_eq_true rfl) (hb hby at_56) (pc' := 57) rfl (fun T11 h11 X11 e11 W11 V11 => ?_)
 have Vw11 : Arv Z h11 b1 k1 .int (20 : Int32) [(.int (0 : Int32)), (.int (8 : Int32)), (.int (9 : Int32)), (.int (10 : Int32)), (.int (11 : Int32)), (.int (12 : Int32)), (.int (13 : Int32)), (.int (14 : Int32)), (.int (31 : Int32)), (.int (32 : Int32)), (.int (0 : Int32)), (.int (0 : Int32)), (.int (0 : Int32)), (.int (0 : Int32)), (.int (0 : Int32)), (.int (0 : Int32)), (.int (0 : Int32)), (.int (0 : Int32)), (.int (0 : Int32)), (.int (0 : Int32))] (.int (0 : Int32)) := V11
 have N11 := Fr.snoc X11 N10 g_b1
 have Z11 : n0 ≤ h11.size := Nat.le_trans Z10 (Nat.le_of_eq W11.size.symm)
 refine k_dup X11 hx (hb hby at_57) rfl (pc' := 58) rfl ?_
 refine k_bipush X11 hx (hb hby at_58) (pc' := 60) rfl (z := (10 : Int32)) rfl ?_
 refine k_bipush X11 hx (hb hby at_60) (pc' := 62) rfl (z := (127 : Int32)) rfl ?_
 refine k_iastore X11 hx hZ e11 Vw11 ⟨by decide, by decide⟩ (i := 10) rfl (Nat.le_of_ble_eq_true rfl) (hb hby at_62) (pc' := 63) rfl (fun T12 h12 X12 e12 W12 V12 => ?_)
 have Vw12 : Arv Z h12 b1 k1 .int (20 : Int32) [(.int (0 : Int32)), (.int (8 : Int32)), (.int (9 : Int32)), (.int (10 : Int32)), (.int (11 : Int32)), (.int (12 : Int32)), (.int (13 : Int32)), (.int (14 : Int32)), (.int (31 : Int32)), (.int (32 : Int32)), (.int (127 : Int32)), (.int (0 : Int32)), (.int (0 : Int32)), (.int (0 : Int32)), (.int (0 : Int32)), (.int (0 : Int32)), (.int (0 : Int32)), (.int (0 : Int32)), (.int (0 : Int32)), (.int (0 : Int32))] (.int (0 : Int32)) := V12
 have N12 := Fr.snoc X12 N11 g_b1
 have Z12 : n0 ≤ h12.size := Nat.le_trans Z11 (Nat.le_of_eq W12.size.symm)
 refine k_dup X12 hx (hb hby at_63) rfl (pc' := 64) rfl ?_
 refine k_bipush X12 hx (hb hby at_64) (pc' := 66) rfl (z := (11 : Int32)) rfl ?_
 refine k_ldc X12 hx hZ hown (hw _ (List.mem_of_getElem? (i := 1) rfl)) (hb hby at_66) (pc' := 68) rfl ?_
 refine k_iastore X12 hx hZ e12 Vw12 ⟨by decide, by decide⟩ (i := 11) rfl (Nat.le_of_ble_eq_true rfl) (hb hby at_68) (pc' := 69) rfl (fun T13 h13 X13 e13 W13 V13 => ?_)
 have Vw13 : Arv Z h13 b1 k1 .int (20 : Int32) [(.int (0 : Int32)), (.int (8 : Int32)), (.int (9 : Int32)), (.int (10 : Int32)), (.int (11 : Int32)), (.int (12 : Int32)), (.int (13 : Int32)), (.int (14 : Int32)), (.int (31 : Int32)), (.int (32 : Int32)), (.int (127 : Int32)), (.int (55295 : Int32)), (.int (0 : Int32)), (.int (0 : Int32)), (.int (0 : Int32)), (.int (0 : Int32)), (.int (0 : Int32)), (.int (0 : Int32)), (.int (0 : Int32)), (.int (0 : Int32))] (.int (0 : Int32)) := V13
 have N13 := Fr.snoc X13 N12 g_b1
 have Z13 : n0 ≤ h13.size := Nat.le_trans Z12 (Nat.le_of_eq W13.size.symm)
 refine k_dup X13 hx (hb hby at_69) rfl (pc' := 70) rfl ?_
 refine k_bipush X13 hx (hb hby at_70) (pc' := 72) rfl (z := (12 : Int32)) rfl ?_
 refine k_ldc X13 hx hZ hown (hw _ (List.mem_of_getElem? (i := 2) rfl)) (hb hby at_72) (pc' := 74) rfl ?_
 refine k_iastore X13 hx hZ e13 Vw13 ⟨by decide, by decide⟩ (i := 12) rfl (Nat.le_of_ble_eq_true rfl) (hb hby at_74) (pc' := 75) rfl (fun T14 h14 X14 e14 W14 V14 => ?_)
 have Vw14 : Arv Z h14 b1 k1 .int (20 : Int32) [(.int (0 : Int32)), (.int (8 : Int32)), (.int (9 : Int32)), (.int (10 : Int32)), (.int (11 : Int32)), (.int (12 : Int32)), (.int (13 : Int32)), (.int (14 : Int32)), (.int (31 : Int32)), (.int (32 : Int32)), (.int (127 : Int32)), (.int (55295 : Int32)), (.int (55296 : Int32)), (.int (0 : Int32)), (.int (0 : Int32)), (.int (0 : Int32)), (.int (0 : Int32)), (.int (0 : Int32)), (.int (0 : Int32)), (.int (0 : Int32))] (.int (0 : Int32)) := V14
 have N14 := Fr.snoc X14 N13 g_b1
 have Z14 : n0 ≤ h14.size := Nat.le_trans Z13 (Nat.le_of_eq W14.size.symm)
 refine k_dup X14 hx (hb hby at_75) rfl (pc' := 76) rfl ?_
 refine k_bipush X14 hx (hb hby at_76) (pc' := 78) rfl (z := (13 : Int32)) rfl ?_
 refine k_ldc X14 hx hZ hown (hw _ (List.mem_of_getElem? (i := 3) rfl)) (hb hby at_78) (pc' := 80) rfl ?_
 refine k_iastore X14 hx hZ e14 Vw14 ⟨by decide, by decide⟩ (i := 13) rfl (Nat.le_of_ble_eq_true rfl) (hb hby at_80) (pc' := 81) rfl (fun T15 h15 X15 e15 W15 V15 => ?_)
 have Vw15 : Arv Z h15 b1 k1 .int (20 : Int32) [(.int (0 : Int32)), (.int (8 : Int32)), (.int (9 : Int32)), (.int (10 : Int32)), (.int (11 : Int32)), (.int (12 : Int32)), (.int (13 : Int32)), (.int (14 : Int32)), (.int (31 : Int32)), (.int (32 : Int32)), (.int (127 : Int32)), (.int (55295 : Int32)), (.int (55296 : Int32)), (.int (57343 : Int32)), (.int (0 : Int32)), (.int (0 : Int32)), (.int (0 : Int32)), (.int (0 : Int32)), (.int (0 : Int32)), (.int (0 : Int32))] (.int (0 : Int32)) := V15
 have N15 := Fr.snoc X15 N14 g_b1
 have Z15 : n0 ≤ h15.size := Nat.le_trans Z14 (Nat.le_of_eq W15.size.symm)
 refine k_dup X15 hx (hb hby at_81) rfl (pc' := 82) rfl ?_
 refine k_bipush X15 hx (hb hby at_82) (pc' := 84) rfl (z := (14 : Int32)) rfl ?_
 refine k_ldc X15 hx hZ hown (hw _ (List.mem_of_getElem? (i := 4) rfl)) (hb hby at_84) (pc' := 86) rfl ?_
 refine k_iastore X15 hx hZ e15 Vw15 ⟨by decide, by decide⟩ (i := 14) rfl (Nat.le_of_ble_eq_true rfl) (hb hby at_86) (pc' := 87) rfl (fun T16 h16 X16 e16 W16 V16 => ?_)
 have Vw16 : Arv Z h16 b1 k1 .int (20 : Int32) [(.int (0 : Int32)), (.int (8 : Int32)), (.int (9 : Int32)), (.int (10 : Int32)), (.int (11 : Int32)), (.int (12 : Int32)), (.int (13 : Int32)), (.int (14 : Int32)), (.int (31 : Int32)), (.int (32 : Int32)), (.int (127 : Int32)), (.int (55295 : Int32)), (.int (55296 : Int32)), (.int (57343 : Int32)), (.int (57344 : Int32)), (.int (0 : Int32)), (.int (0 : Int32)), (.int (0 : Int32)), (.int (0 : Int32)), (.int (0 : Int32))] (.int (0 : Int32)) := V16
 have N16 := Fr.snoc X16 N15 g_b1
 have Z16 : n0 ≤ h16.size := Nat.le_trans Z15 (Nat.le_of_eq W16.size.symm)
 refine k_dup X16 hx (hb hby at_87) rfl (pc' := 88) rfl ?_
 refine k_bipush X16 hx (hb hby at_88) (pc' := 90) rfl (z := (15 : Int32)) rfl ?_
 refine k_ldc X16 hx hZ hown (hw _ (List.mem_of_getElem? (i := 5) rfl)) (hb hby at_90) (pc' := 92) rfl ?_
 refine k_iastore X16 hx hZ e16 Vw16 ⟨by decide, by decide⟩ (i := 15) rfl (Nat.le_of_ble_eq_true rfl) (hb hby at_92) (pc' := 93) rfl (fun T17 h17 X17 e17 W17 V17 => ?_)
 have Vw17 : Arv Z h17 b1 k1 .int (20 : Int32) [(.int (0 : Int32)), (.int (8 : Int32)), (.int (9 : Int32)), (.int (10 : Int32)), (.int (11 : Int32)), (.int (12 : Int32)), (.int (13 : Int32)), (.int (14 : Int32)), (.int (31 : Int32)), (.int (32 : Int32)), (.int (127 : Int32)), (.int (55295 : Int32)), (.int (55296 : Int32)), (.int (57343 : Int32)), (.int (57344 : Int32)), (.int (65533 : Int32)), (.int (0 : Int32)), (.int (0 : Int32)), (.int (0 : Int32)), (.int (0 : Int32))] (.int (0 : Int32)) := V17
 have N17 := Fr.snoc X17 N16 g_b1
 have Z17 : n0 ≤ h17.size := Nat.le_trans Z16 (Nat.le_of_eq W17.size.symm)
 refine k_dup X17 hx (hb hby at_93) rfl (pc' := 94) rfl ?_
 refine k_bipush X17 hx (hb hby at_94) (pc' := 96) rfl (z := (16 : Int32)) rfl ?_
 refine k_ldc X17 hx hZ hown (hw _ (List.mem_of_getElem? (i := 6) rfl)) (hb hby at_96) (pc' := 98) rfl ?_
 refine k_iastore X17 hx hZ e17 Vw17 ⟨by decide, by decide⟩ (i := 16) rfl (Nat.le_of_ble_eq_true rfl) (hb hby at_98) (pc' := 99) rfl (fun T18 h18 X18 e18 W18 V18 => ?_)
 have Vw18 : Arv Z h18 b1 k1 .int (20 : Int32) [(.int (0 : Int32)), (.int (8 : Int32)), (.int (9 : Int32)), (.int (10 : Int32)), (.int (11 : Int32)), (.int (12 : Int32)), (.int (13 : Int32)), (.int (14 : Int32)), (.int (31 : Int32)), (.int (32 : Int32)), (.int (127 : Int32)), (.int (55295 : Int32)), (.int (55296 : Int32)), (.int (57343 : Int32)), (.int (57344 : Int32)), (.int (65533 : Int32)), (.int (65534 : Int32)), (.int (0 : Int32)), (.int (0 : Int32)), (.int (0 : Int32))] (.int (0 : Int32)) := V18
 have N18 := Fr.snoc X18 N17 g_b1
 have Z18 : n0 ≤ h18.size := Nat.le_trans Z17 (Nat.le_of_eq W18.size.symm)
 refine k_dup X18 hx (hb hby at_99) rfl (pc' := 100) rfl ?_
 refine k_bipush X18 hx (hb hby at_100) (pc' := 102) rfl (z := (17 : Int32)) rfl ?_
 refine k_ldc X18 hx hZ hown (hw _ (List.mem_of_getElem? (i := 7) rfl)) (hb hby at_102) (pc' := 104) rfl ?_
 refine k_iastore X18 hx hZ e18 Vw18 ⟨by decide, by decide⟩ (i := 17) rfl (Nat.le_of_ble_eq_true rfl) (hb hby at_104) (pc' := 105) rfl (fun T19 h19 X19 e19 W19 V19 => ?_)
 have Vw19 : Arv Z h19 b1 k1 .int (20 : Int32) [(.int (0 : Int32)), (.int (8 : Int32)), (.int (9 : Int32)), (.int (10 : Int32)), (.int (11 : Int32)), (.int (12 : Int32)), (.int (13 : Int32)), (.int (14 : Int32)), (.int (31 : Int32)), (.int (32 : Int32)), (.int (127 : Int32)), (.int (55295 : Int32)), (.int (55296 : Int32)), (.int (57343 : Int32)), (.int (57344 : Int32)), (.int (65533 : Int32)), (.int (65534 : Int32)), (.int (65535 : Int32)), (.int (0 : Int32)), (.int (0 : Int32))] (.int (0 : Int32)) := V19
 have N19 := Fr.snoc X19 N18 g_b1
 have Z19 : n0 ≤ h19.size := Nat.le_trans Z18 (Nat.le_of_eq W19.size.symm)
 refine k_dup X19 hx (hb hby at_105) rfl (pc' := 106) rfl ?_
 refine k_bipush X19 hx (hb hby at_106) (pc' := 108) rfl (z := (18 : Int32)) rfl ?_
 refine k_ldc X19 hx hZ hown (hw _ (List.mem_of_getElem? (i := 8) rfl)) (hb hby at_108) (pc' := 110) rfl ?_
 refine k_iastore X19 hx hZ e19 Vw19 ⟨by decide, by decide⟩ (i := 18) rfl (Nat.le_of_ble_eq_true rfl) (hb hby at_110) (pc' := 111) rfl (fun T20 h20 X20 e20 W20 V20 => ?_)
 have Vw20 : Arv Z h20 b1 k1 .int (20 : Int32) [(.int (0 : Int32)), (.int (8 : Int32)), (.int (9 : Int32)), (.int (10 : Int32)), (.int (11 : Int32)), (.int (12 : Int32)), (.int (13 : Int32)), (.int (14 : Int32)), (.int (31 : Int32)), (.int (32 : Int32)), (.int (127 : Int32)), (.int (55295 : Int32)), (.int (55296 : Int32)), (.int (57343 : Int32)), (.int (57344 : Int32)), (.int (65533 : Int32)), (.int (65534 : Int32)), (.int (65535 : Int32)), (.int (65536 : Int32)), (.int (0 : Int32))] (.int (0 : Int32)) := V20
 have N20 := Fr.snoc X20 N19 g_b1
 have Z20 : n0 ≤ h20.size := Nat.le_trans Z19 (Nat.le_of_eq W20.size.symm)
 refine k_dup X20 hx (hb hby at_111) rfl (pc' := 112) rfl ?_
 refine k_bipush X20 hx (hb hby at_112) (pc' := 114) rfl (z := (19 : Int32)) rfl ?_
 refine k_ldc X20 hx hZ hown (hw _ (List.mem_of_getElem? (i := 9) rfl)) (hb hby at_114) (pc' := 116) rfl ?_
 refine k_iastore X20 hx hZ e20 Vw20 ⟨by decide, by decide⟩ (i := 19) rfl (Nat.le_of_ble_eq_true rfl) (hb hby at_116) (pc' := 117) rfl (fun T21 h21 X21 e21 W21 V21 => ?_)
 have Vw21 : Arv Z h21 b1 k1 .int (20 : Int32) [(.int (0 : Int32)), (.int (8 : Int32)), (.int (9 : Int32)), (.int (10 : Int32)), (.int (11 : Int32)), (.int (12 : Int32)), (.int (13 : Int32)), (.int (14 : Int32)), (.int (31 : Int32)), (.int (32 : Int32)), (.int (127 : Int32)), (.int (55295 : Int32)), (.int (55296 : Int32)), (.int (57343 : Int32)), (.int (57344 : Int32)), (.int (65533 : Int32)), (.int (65534 : Int32)), (.int (65535 : Int32)), (.int (65536 : Int32)), (.int (1114111 : Int32))] (.int (0 : Int32)) := V21
 have N21 := Fr.snoc X21 N20 g_b1
 have Z21 : n0 ≤ h21.size := Nat.le_trans Z20 (Nat.le_of_eq W21.size.symm)
 refine k_astore X21 hx (hb hby at_117) rfl (Ls' := #[.val (.int i0), .val (.int i1), .val (.int i2), .val (.int i3), .val (.ref b1), .unset, .unset, .unset, .unset, .unset, .unset, .unset, .unset]) rfl (pc' := 119) rfl ?_
 refine k_iloadN X21 hx (hb hby at_119) rfl (pc' := 120) rfl ?_
 refine k_ldc X21 hx hZ hown (hw _ (List.mem_of_getElem? (i := 10) rfl)) (hb hby at_120) (pc' := 122) rfl ?_
 refine k_iand X21 hx (hb hby at_122) (pc' := 123) rfl (fun v22 hv22 => ?_)
 refine k_ldc X21 hx hZ hown (hw _ (List.mem_of_getElem? (i := 11) rfl)) (hb hby at_123) (pc' := 125) rfl ?_
 refine k_irem X21 hx (hb hby at_125) (by decide) (pc' := 126) rfl (fun v23 hv23 => ?_)
 refine k_istore X21 hx (hb hby at_126) (Ls' := #[.val (.int i0), .val (.int i1), .val (.int i2), .val (.int i3), .val (.ref b1), .val (.int v23), .unset, .unset, .unset, .unset, .unset, .unset, .unset]) rfl (pc' := 128) rfl ?_
 refine k_aload X21 hx (hb hby at_128) rfl rfl (pc' := 130) rfl ?_
 refine k_iloadN X21 hx (hb hby at_130) rfl (pc' := 131) rfl ?_
 refine k_ldc X21 hx hZ hown (hw _ (List.mem_of_getElem? (i := 10) rfl)) (hb hby at_131) (pc' := 133) rfl ?_
 refine k_iand X21 hx (hb hby at_133) (pc' := 134) rfl (fun v24 hv24 => ?_)
 refine k_aload X21 hx (hb hby at_134) rfl rfl (pc' := 136) rfl ?_
 refine k_alen X21 hx hZ e21 Vw21 (hb hby at_136) (pc' := 137) rfl ?_
 refine k_irem X21 hx (hb hby at_137) (by decide) (pc' := 138) rfl (fun v25 hv25 => ?_)
 have hj26 : ¬ v25 < 0 ∧ v25 < (20 : Int32) := by
  refine ⟨?_, ?_⟩
  ·
   intro hq27
   have := rng32 v25
   have := rng32 v24
   have := rng32 i1
   have : (2147483647 : Int32).toInt = 2147483647 := (by decide)
   have q28 : v24.toInt = i1.toInt % 2147483648 := (by rw [hv24]; exact c_mask _ _ 31 (by decide) (by decide))
   have : (20 : Int32).toInt = 20 := (by decide)
   have q29 : (0 ≤ v24.toInt → v25.toInt = v24.toInt % 20) ∧ (v24.toInt < 0 → v25.toInt = -((-v24.toInt) % 20)) := (by rw [hv25]; exact c_irem _ _ 20 (by decide))
   have : (0 : Int32).toInt = 0 := (by decide)
   have q30 := hq27; rw [Int32.lt_iff_toInt_lt] at q30
   omega
  ·
   refine Classical.byContradiction (fun hq31 => ?_)
   have := rng32 v25
   have := rng32 v24
   have := rng32 i1
   have : (2147483647 : Int32).toInt = 2147483647 := (by decide)
   have q32 : v24.toInt = i1.toInt % 2147483648 := (by rw [hv24]; exact c_mask _ _ 31 (by decide) (by decide))
   have : (20 : Int32).toInt = 20 := (by decide)
   have q33 : (0 ≤ v24.toInt → v25.toInt = v24.toInt % 20) ∧ (v24.toInt < 0 → v25.toInt = -((-v24.toInt) % 20)) := (by rw [hv25]; exact c_irem _ _ 20 (by decide))
   have q34 := hq31; rw [Int32.lt_iff_toInt_lt] at q34
   omega
 refine k_ialoadS X21 hx hZ e21 Vw21 hj26 (hb hby at_138) (pc' := 139) rfl (fun v35 hv35 => ?_)
 refine k_istore X21 hx (hb hby at_139) (Ls' := #[.val (.int i0), .val (.int i1), .val (.int i2), .val (.int i3), .val (.ref b1), .val (.int v23), .val (.int v35), .unset, .unset, .unset, .unset, .unset, .unset]) rfl (pc' := 141) rfl ?_
 refine k_iloadN X21 hx (hb hby at_141) rfl (pc' := 142) rfl ?_
 refine k_ldc X21 hx hZ hown (hw _ (List.mem_of_getElem? (i := 10) rfl)) (hb hby at_142) (pc' := 144) rfl ?_
 refine k_iand X21 hx (hb hby at_144) (pc' := 145) rfl (fun v36 hv36 => ?_)
 refine k_iconst X21 hx (hb hby at_145) (pc' := 146) rfl (z := (3 : Int32)) rfl ?_
 refine k_irem X21 hx (hb hby at_146) (by decide) (pc' := 147) rfl (fun v37 hv37 => ?_)
 refine k_iconst X21 hx (hb hby at_147) (pc' := 148) rfl (z := (1 : Int32)) rfl ?_
 refine k_isub X21 hx (hb hby at_148) (pc' := 149) rfl (fun v38 hv38 => ?_)
 refine k_istore X21 hx (hb hby at_149) (Ls' := #[.val (.int i0), .val (.int i1), .val (.int i2), .val (.int i3), .val (.ref b1), .val (.int v23), .val (.int v35), .val (.int v38), .unset, .unset, .unset, .unset, .unset]) rfl (pc' := 151) rfl ?_
 refine k_iconst X21 hx (hb hby at_151) (pc' := 152) rfl (z := (0 : Int32)) rfl ?_
 refine k_ldc X21 hx hZ hown (hw _ (List.mem_of_getElem? (i := 9) rfl)) (hb hby at_152) (pc' := 154) rfl ?_
 refine k_iload X21 hx (hb hby at_154) rfl (pc' := 156) rfl ?_
 refine k_iload X21 hx (hb hby at_156) rfl (pc' := 158) rfl ?_
 refine k_iadd X21 hx (hb hby at_158) (pc' := 159) rfl (fun v39 hv39 => ?_)
 refine k_callS X21 hx hZ hown (hw _ (List.mem_of_getElem? (i := 12) rfl)) (hw _ (List.mem_of_getElem? (i := 13) rfl)) (hw _ (List.mem_of_getElem? (i := 14) rfl)) (hw _ (List.mem_of_getElem? (i := 15) rfl)) (by decide) (rm1_40 l Z a0 hw [] v39 h21 n0 Z21 ) (by decide) (by decide) e21 (by rw [hml]; rfl) (argsL := [(.int (1114111 : Int32)), (.int v39)]) (rest := [(.int (0 : Int32))]) (lenOf pd_0 rfl) rfl (W := 1) (Nat.le_refl _) rfl (hb hby at_159) (by decide) (by decide) (pc' := 162) rfl (fun T42 L42 r42 X42 q42 => ?_)
 obtain ⟨N42, e42, rfl⟩ := q42
 have N42' := Fr.app N21 N42
 show KEnds p e below s _ _ _ T42 (mkF m 162 #[.val (.int i0), .val (.int i1), .val (.int i2), .val (.int i3), .val (.ref b1), .val (.int v23), .val (.int v35), .val (.int v38), .unset, .unset, .unset, .unset, .unset] ((.int (f1_40 v39)) :: (.int (0 : Int32)) :: []))
 obtain ⟨v43, hv43⟩ : ∃ z, z = f1_40 v39 := ⟨_, rfl⟩
 rw [← hv43]
 refine k_callS X42 hx hZ hown (hw _ (List.mem_of_getElem? (i := 16) rfl)) (hw _ (List.mem_of_getElem? (i := 17) rfl)) (hw _ (List.mem_of_getElem? (i := 14) rfl)) (hw _ (List.mem_of_getElem? (i := 18) rfl)) (by decide) (rm2_44 l Z a0 hw [] v43 h21 n0 Z21 ) (by decide) (by decide) e42 (by rw [hml]; rfl) (argsL := [(.int (0 : Int32)), (.int v43)]) (rest := []) (lenOf pd_0 rfl) rfl (W := 0) (Nat.le_refl _) rfl (hb hby at_162) (by decide) (by decide) (pc' := 165) rfl (fun T46 L46 r46 X46 q46 => ?_)
 obtain ⟨N46, e46, rfl⟩ := q46
 have N46' := Fr.app N42' N46
 show KEnds p e below s _ _ _ T46 (mkF m 165 #[.val (.int i0), .val (.int i1), .val (.int i2), .val (.int i3), .val (.ref b1), .val (.int v23), .val (.int v35), .val (.int v38), .unset, .unset, .unset, .unset, .unset] ((.int (f2_44 v43)) :: []))
 obtain ⟨v47, hv47⟩ : ∃ z, z = f2_44 v43 := ⟨_, rfl⟩
 rw [← hv47]
 refine k_istore X46 hx (hb hby at_165) (Ls' := #[.val (.int i0), .val (.int i1), .val (.int i2), .val (.int i3), .val (.ref b1), .val (.int v23), .val (.int v35), .val (.int v38), .val (.int v47), .unset, .unset, .unset, .unset]) rfl (pc' := 167) rfl ?_
 refine k_iloadN X46 hx (hb hby at_167) rfl (pc' := 168) rfl ?_
 refine k_ldc X46 hx hZ hown (hw _ (List.mem_of_getElem? (i := 19) rfl)) (hb hby at_168) (pc' := 170) rfl ?_
 refine k_ior X46 hx (hb hby at_170) (pc' := 171) rfl (fun v48 hv48 => ?_)
 refine k_istore X46 hx (hb hby at_171) (Ls' := #[.val (.int i0), .val (.int i1), .val (.int i2), .val (.int i3), .val (.ref b1), .val (.int v23), .val (.int v35), .val (.int v38), .val (.int v47), .val (.int v48), .unset, .unset, .unset]) rfl (pc' := 173) rfl ?_
 refine k_iload X46 hx (hb hby at_173) rfl (pc' := 175) rfl ?_
 refine k_callS X46 hx hZ hown (hw _ (List.mem_of_getElem? (i := 20) rfl)) (hw _ (List.mem_of_getElem? (i := 21) rfl)) (hw _ (List.mem_of_getElem? (i := 22) rfl)) (hw _ (List.mem_of_getElem? (i := 23) rfl)) (by decide) (rm3_49 l Z a0 hw [] v23 h21 n0 Z21 ) (by decide) (by decide) e46 (by rw [hml]; rfl) (argsL := [(.int v23)]) (rest := []) (lenOf pd_1 rfl) rfl (W := 0) (Nat.le_refl _) rfl (hb hby at_175) (by decide) (by decide) (pc' := 178) rfl (fun T58 L58 r58 X58 q58 => ?_)
 obtain ⟨N58, e58, rfl⟩ := q58
 have N58' := Fr.app N46' N58
 show KEnds p e below s _ _ _ T58 (mkF m 178 #[.val (.int i0), .val (.int i1), .val (.int i2), .val (.int i3), .val (.ref b1), .val (.int v23), .val (.int v35), .val (.int v38), .val (.int v47), .val (.int v48), .unset, .unset, .unset] ((.int (f3_49 v23)) :: []))
 obtain ⟨v59, hv59⟩ : ∃ z, z = f3_49 v23 := ⟨_, rfl⟩
 rw [← hv59]
 refine k_iload X58 hx (hb hby at_178) rfl (pc' := 180) rfl ?_
 refine k_callS X58 hx hZ hown (hw _ (List.mem_of_getElem? (i := 26) rfl)) (hw _ (List.mem_of_getElem? (i := 27) rfl)) (hw _ (List.mem_of_getElem? (i := 28) rfl)) (hw _ (List.mem_of_getElem? (i := 29) rfl)) (by decide) (rm4_60 l Z a0 hw [] v23 h21 n0 Z21 ) (by decide) (by decide) e58 (by rw [hml]; rfl) (argsL := [(.int v23)]) (rest := [(.int v59)]) (lenOf pd_1 rfl) rfl (W := 1) (Nat.le_refl _) rfl (hb hby at_180) (by decide) (by decide) (pc' := 183) rfl (fun T71 L71 r71 X71 q71 => ?_)
 obtain ⟨N71, e71, rfl⟩ := q71
 have N71' := Fr.app N58' N71
 show KEnds p e below s _ _ _ T71 (mkF m 183 #[.val (.int i0), .val (.int i1), .val (.int i2), .val (.int i3), .val (.ref b1), .val (.int v23), .val (.int v35), .val (.int v38), .val (.int v47), .val (.int v48), .unset, .unset, .unset] ((.int (f4_60 v23)) :: (.int v59) :: []))
 obtain ⟨v72, hv72⟩ : ∃ z, z = f4_60 v23 := ⟨_, rfl⟩
 rw [← hv72]
 refine k_icmp_ne X71 hx (hb hby at_183) (pn := 186) rfl (py := 190) (by decide) (fun hc => absurd (by rw [hv59, hv72]; exact own_eq _ (by have := rng32 v23; have := rng32 v22; have := rng32 i0; have : (2147483647 : Int32).toInt = 2147483647 := (by decide); have q73 : v22.toInt = i0.toInt % 2147483648 := (by rw [hv22]; exact c_mask _ _ 31 (by decide) (by decide)); have : (1114112 : Int32).toInt = 1114112 := (by decide); have q74 : (0 ≤ v22.toInt → v23.toInt = v22.toInt % 1114112) ∧ (v22.toInt < 0 → v23.toInt = -((-v22.toInt) % 1114112)) := (by rw [hv23]; exact c_irem _ _ 1114112 (by decide)); omega)) hc) (fun _ => ?_)
 refine k_iconst X71 hx (hb hby at_186) (pc' := 187) rfl (z := (1 : Int32)) rfl ?_
 refine k_goto X71 hx (hb hby at_187) (pc' := 191) (by decide) ?_
 refine k_istore X71 hx (hb hby at_191) (Ls' := #[.val (.int i0), .val (.int i1), .val (.int i2), .val (.int i3), .val (.ref b1), .val (.int v23), .val (.int v35), .val (.int v38), .val (.int v47), .val (.int v48), .val (.int (1 : Int32)), .unset, .unset]) rfl (pc' := 193) rfl ?_
 refine k_iload X71 hx (hb hby at_193) rfl (pc' := 195) rfl ?_
 refine k_callS X71 hx hZ hown (hw _ (List.mem_of_getElem? (i := 20) rfl)) (hw _ (List.mem_of_getElem? (i := 21) rfl)) (hw _ (List.mem_of_getElem? (i := 22) rfl)) (hw _ (List.mem_of_getElem? (i := 23) rfl)) (by decide) (rm3_49 l Z a0 hw [] v47 h21 n0 Z21 ) (by decide) (by decide) e71 (by rw [hml]; rfl) (argsL := [(.int v47)]) (rest := []) (lenOf pd_1 rfl) rfl (W := 0) (Nat.le_refl _) rfl (hb hby at_195) (by decide) (by decide) (pc' := 198) rfl (fun T75 L75 r75 X75 q75 => ?_)
 obtain ⟨N75, e75, rfl⟩ := q75
 have N75' := Fr.app N71' N75
 show KEnds p e below s _ _ _ T75 (mkF m 198 #[.val (.int i0), .val (.int i1), .val (.int i2), .val (.int i3), .val (.ref b1), .val (.int v23), .val (.int v35), .val (.int v38), .val (.int v47), .val (.int v48), .val (.int (1 : Int32)), .unset, .unset] ((.int (f3_49 v47)) :: []))
 obtain ⟨v76, hv76⟩ : ∃ z, z = f3_49 v47 := ⟨_, rfl⟩
 rw [← hv76]
 refine k_iload X75 hx (hb hby at_198) rfl (pc' := 200) rfl ?_
 refine k_callS X75 hx hZ hown (hw _ (List.mem_of_getElem? (i := 26) rfl)) (hw _ (List.mem_of_getElem? (i := 27) rfl)) (hw _ (List.mem_of_getElem? (i := 28) rfl)) (hw _ (List.mem_of_getElem? (i := 29) rfl)) (by decide) (rm4_60 l Z a0 hw [] v47 h21 n0 Z21 ) (by decide) (by decide) e75 (by rw [hml]; rfl) (argsL := [(.int v47)]) (rest := [(.int v76)]) (lenOf pd_1 rfl) rfl (W := 1) (Nat.le_refl _) rfl (hb hby at_200) (by decide) (by decide) (pc' := 203) rfl (fun T77 L77 r77 X77 q77 => ?_)
 obtain ⟨N77, e77, rfl⟩ := q77
 have N77' := Fr.app N75' N77
 show KEnds p e below s _ _ _ T77 (mkF m 203 #[.val (.int i0), .val (.int i1), .val (.int i2), .val (.int i3), .val (.ref b1), .val (.int v23), .val (.int v35), .val (.int v38), .val (.int v47), .val (.int v48), .val (.int (1 : Int32)), .unset, .unset] ((.int (f4_60 v47)) :: (.int v76) :: []))
 obtain ⟨v78, hv78⟩ : ∃ z, z = f4_60 v47 := ⟨_, rfl⟩
 rw [← hv78]
 refine k_icmp_ne X77 hx (hb hby at_203) (pn := 206) rfl (py := 210) (by decide) (fun hc => absurd (by rw [hv76, hv78]; exact own_eq _ (by have := rng32 v47; have := rng32 v43; have := rng32 v39; have := rng32 v35; have := rng32 v38; have := rng32 v37; have := rng32 v36; have := rng32 i2; have : (2147483647 : Int32).toInt = 2147483647 := (by decide); have q80 : v36.toInt = i2.toInt % 2147483648 := (by rw [hv36]; exact c_mask _ _ 31 (by decide) (by decide)); have : (3 : Int32).toInt = 3 := (by decide); have q81 : (0 ≤ v36.toInt → v37.toInt = v36.toInt % 3) ∧ (v36.toInt < 0 → v37.toInt = -((-v36.toInt) % 3)) := (by rw [hv37]; exact c_irem _ _ 3 (by decide)); have : (1 : Int32).toInt = 1 := (by decide); have q82 : (v38.toInt - (v37.toInt - (1 : Int32).toInt)) % 4294967296 = 0 := (by rw [hv38]; exact c_isub _ _); have q83 : (v39.toInt - (v35.toInt + v38.toInt)) % 4294967296 = 0 := (by rw [hv39]; exact c_iadd _ _); have q84 := own_mi v39; rw [← hv43] at q84; have q85 := own_mx v43; rw [← hv47] at q85; omega)) hc) (fun _ => ?_)
 refine k_iconst X77 hx (hb hby at_206) (pc' := 207) rfl (z := (1 : Int32)) rfl ?_
 refine k_goto X77 hx (hb hby at_207) (pc' := 211) (by decide) ?_
 refine k_istore X77 hx (hb hby at_211) (Ls' := #[.val (.int i0), .val (.int i1), .val (.int i2), .val (.int i3), .val (.ref b1), .val (.int v23), .val (.int v35), .val (.int v38), .val (.int v47), .val (.int v48), .val (.int (1 : Int32)), .val (.int (1 : Int32)), .unset]) rfl (pc' := 213) rfl ?_
 refine k_iload X77 hx (hb hby at_213) rfl (pc' := 215) rfl ?_
 refine k_callS X77 hx hZ hown (hw _ (List.mem_of_getElem? (i := 20) rfl)) (hw _ (List.mem_of_getElem? (i := 21) rfl)) (hw _ (List.mem_of_getElem? (i := 22) rfl)) (hw _ (List.mem_of_getElem? (i := 23) rfl)) (by decide) (rm3_49 l Z a0 hw [] v48 h21 n0 Z21 ) (by decide) (by decide) e77 (by rw [hml]; rfl) (argsL := [(.int v48)]) (rest := []) (lenOf pd_1 rfl) rfl (W := 0) (Nat.le_refl _) rfl (hb hby at_215) (by decide) (by decide) (pc' := 218) rfl (fun T86 L86 r86 X86 q86 => ?_)
 obtain ⟨N86, e86, rfl⟩ := q86
 have N86' := Fr.app N77' N86
 show KEnds p e below s _ _ _ T86 (mkF m 218 #[.val (.int i0), .val (.int i1), .val (.int i2), .val (.int i3), .val (.ref b1), .val (.int v23), .val (.int v35), .val (.int v38), .val (.int v47), .val (.int v48), .val (.int (1 : Int32)), .val (.int (1 : Int32)), .unset] ((.int (f3_49 v48)) :: []))
 obtain ⟨v87, hv87⟩ : ∃ z, z = f3_49 v48 := ⟨_, rfl⟩
 rw [← hv87]
 refine k_if_ne X86 hx (hb hby at_218) (pn := 221) rfl (py := 225) (by decide) (fun hc => absurd (by rw [hv87]; exact own_neg _ (by rw [hv48]; exact (c_orS _ _).2.2 (by decide))) hc) (fun _ => ?_)
 refine k_iconst X86 hx (hb hby at_221) (pc' := 222) rfl (z := (1 : Int32)) rfl ?_
 refine k_goto X86 hx (hb hby at_222) (pc' := 226) (by decide) ?_
 refine k_istore X86 hx (hb hby at_226) (Ls' := #[.val (.int i0), .val (.int i1), .val (.int i2), .val (.int i3), .val (.ref b1), .val (.int v23), .val (.int v35), .val (.int v38), .val (.int v47), .val (.int v48), .val (.int (1 : Int32)), .val (.int (1 : Int32)), .val (.int (1 : Int32))]) rfl (pc' := 228) rfl ?_
 refine k_iload X86 hx (hb hby at_228) rfl (pc' := 230) rfl ?_
 refine k_if_eq X86 hx (hb hby at_230) (pn := 233) rfl (py := 247) (by decide) (fun hc => absurd hc (by decide)) (fun _ => ?_)
 refine k_iload X86 hx (hb hby at_233) rfl (pc' := 235) rfl ?_
 refine k_if_eq X86 hx (hb hby at_235) (pn := 238) rfl (py := 247) (by decide) (fun hc => absurd hc (by decide)) (fun _ => ?_)
 refine k_iload X86 hx (hb hby at_238) rfl (pc' := 240) rfl ?_
 refine k_if_eq X86 hx (hb hby at_240) (pn := 243) rfl (py := 247) (by decide) (fun hc => absurd hc (by decide)) (fun _ => ?_)
 refine k_iconst X86 hx (hb hby at_243) (pc' := 244) rfl (z := (1 : Int32)) rfl ?_
 refine k_goto X86 hx (hb hby at_244) (pc' := 248) (by decide) ?_
 exact k_retN X86 hx (t := .boolean) Bd.returns (by simp) (hb hby at_248) hlk (by decide) (by decide) (z' := (1 : Int32)) rfl ⟨rfl, N86'⟩
set_option maxRecDepth 65536 in
set_option maxHeartbeats 40000000 in
theorem comes_1 {Post : Tables → Env → Array Value → State → Outcome → State → Prop} (hpost : ∀ tb e args s v u, (limb_1_1.after args s (.returned v) u = true ∧ limb_1_2.after args s (.returned v) u = true ∧ True) → FrameEnd s (.returned v) u (Jvm.fieldLocs frame_1_writes args s ++ Jvm.arrayLocs frame_1_arrays args s ++ Jvm.staticLocs frame_1_statics s) 16 128 → Post tb e args s (.returned v) u) :
    ArmFor flags0 classFile x code maxLocals ret World_1 tables_1 room_1 Calls_1 rest_1 Pre_1 Post := by
  intro l hfl _ _ p e ha hc hk s m args below hf hA hF happ hP
  obtain ⟨hcalls, hrest, hpre⟩ := hP
  obtain ⟨-, -, -, hnamed, -, -, -, hat⟩ := (Spec.applies_iff hf).mp happ
  obtain ⟨hg, hn⟩ := and_e (Cond.before_iff.mp (show (Jvm.Cond.and given_1 narrow_1).before args s = true from hpre))
  obtain ⟨g88, g89⟩ := and_e hg
  obtain ⟨g90, g91⟩ := and_e g89
  obtain ⟨g92, g93⟩ := and_e g91
  obtain ⟨g94, g95⟩ := and_e g93
  obtain ⟨w0, w1, w2, w3, rfl⟩ : ∃ w0 w1 w2 w3 : Value, args = #[w0, w1, w2, w3] := by
    have hs : args.size = 4 := by simpa [Cond.value, given_1] using g88
    obtain ⟨L⟩ := args
    match L, hs with
    | [w0, w1, w2, w3], _ => exact ⟨w0, w1, w2, w3, rfl⟩
  have hw := fun d (hd : d ∈ tables_1) => atoms_spec (ws := Jvm.Cond.code x code maxLocals ret :: tables_1) hat d (List.mem_cons_of_mem _ hd)
  obtain ⟨i0, ei0⟩ := is_v g90
  obtain rfl : w0 = (.int i0) := Option.some.inj ei0
  obtain ⟨i1, ei1⟩ := is_v g92
  obtain rfl : w1 = (.int i1) := Option.some.inj ei1
  obtain ⟨i2, ei2⟩ := is_v g94
  obtain rfl : w2 = (.int i2) := Option.some.inj ei2
  obtain ⟨i3, ei3⟩ := is_v g95
  obtain rfl : w3 = (.int i3) := Option.some.inj ei3
  obtain ⟨n, o, h1, h2, h3, _, L, rfl, ⟨rfl, N⟩, hq⟩ := rm0 l s _ hw tables_1 i0 i1 i2 i3 s.heap s.heap.size (Nat.le_refl _) p e ha hc hk s m _ below hf ((Spec.applies_iff_loose hf).mp happ).1 ⟨rfl, State.Warmed39.refl s, rfl⟩ trivial
  refine ⟨n, _, h1, h2, h3, hpost _ _ _ _ _ _ ⟨Cond.after_iff.mpr rfl, Cond.after_iff.mpr (eq_i res_at (Term.int_eval (1)) rfl), trivial⟩ ⟨hq.1, hq.2.1, (hq.2.2.sift fun y hy => Or.inr (N y hy)).mono (by decide) (by decide)⟩⟩
theorem main_1_1 : Claimed_1_1 := comes_1 fun _ _ _ _ _ _ h hF => ⟨h.1, hF⟩
theorem main_1_2 : Claimed_1_2 := comes_1 fun _ _ _ _ _ _ h hF => ⟨h.2.1, hF⟩
end Jvm.Pilot.@@N@@
namespace Jvm.Pilot.@@N@@
open Jvm Jvm.ClassFile Sem Op Lib Jvm.Free Jvm.Stand Jvm.Pilot.@@N@@.Jvm.D
/-! MADE BY PROGRAM (witnessworld.py) out of the Statement's table words and the real class files: 10 classes; the members and pool entries that the words name. The judged class is class 1, her method 2. -/
namespace start1
open Jvm.ClassFile
def u (s : String) : CpInfo := .utf8 (stringToUtf16 s)
/-- a pool by its gaps: so many unusable entries, then the entry; so many at the end -/
def gap : Nat → List CpInfo → List CpInfo
  | 0, r => r
  | n + 1, r => .unusable :: gap n r
def poolList (es : List (Nat × CpInfo)) (last : Nat) : List CpInfo := es.foldr (fun e r => gap e.1 (e.2 :: r)) (gap last [])
def pool (es : List (Nat × CpInfo)) (last : Nat) : Array CpInfo := ⟨poolList es last⟩
def fileOf (pool : Array CpInfo) (this : Nat) (attrs : Array Attribute := #[]) (ms : Array MethodInfo := #[]) (fl : Nat := 33) (sup : Nat := 0) (ifs : Array Nat := #[]) (fds : Array FieldInfo := #[]) : ClassFile where
  minorVersion := 0
  majorVersion := 65
  constantPool := pool
  accessFlags := fl
  thisClass := this
  superClass := sup
  interfaces := ifs
  fields := fds
  methods := ms
  attributes := attrs
def plain (name : String) (sup : Option ClassId) : Class where
  name := name
  kind := .ordinary
  loader := none
  accessFlags := 33
  super := sup
  interfaces := #[]
  cf := none
  fields := #[]
  methods := #[]
  instanceTypes := #[]
  staticTypes := #[]
  resolved := #[]
  callSites := []
  init := .initialized
  statics := none
  mirror := none

def pool0 : Array CpInfo := pool [(5, u "<init>"), (0, u "()V"), (1, .class_ 10), (1, u "java/lang/Object")] 113

def k0m0 : Method := { name := "<init>", desc := "()V", sig := { parameters := [], returnType := none }, accessFlags := 1, code := none }
/-- java/lang/Object -/
def k0 : Class := { plain "java/lang/Object" none with
  accessFlags := 33
  interfaces := #[]
  cf := some (fileOf pool0 8 #[] #[{ accessFlags := 1, nameIndex := 5, descriptorIndex := 6, attributes := #[] }] 33 0 #[] #[])
  fields := #[]
  methods := #[k0m0]
  instanceTypes := #[]
  staticTypes := #[]
  resolved := Array.replicate 124 none
  statics := none }

def pool1 : Array CpInfo := pool [(2, .class_ 4), (1, u "java/lang/Object"), (0, u "<init>"), (0, u "()V"), (0, .integer 55296), (0, .integer 57343), (0, .integer 65534), (0, .integer 65535), (0, .integer 1114111), (0, .integer 55295), (0, .integer 57344), (0, .integer 65533), (0, .integer 65536), (0, .integer 2147483647), (0, .integer 1114112), (0, .methodref 19 20), (0, .class_ 21), (0, .nameAndType 22 23), (0, u "java/lang/Math"), (0, u "min"), (0, u "(II)I"), (0, .methodref 19 25), (0, .nameAndType 26 23), (0, u "max"), (0, .integer 2147483648), (0, .methodref 29 30), (0, .class_ 31), (0, .nameAndType 32 33), (0, u "com/example/parlance/parlance/XmlText"), (0, u "isXmlCharacter"), (0, u "(I)Z"), (0, .methodref 35 36), (0, .class_ 37), (0, .nameAndType 38 33), (0, u "com/example/parlance/parlance/XmlTextIsXmlCharacterPinLaw"), (0, u "ref"), (3, u "law"), (0, u "(IIII)Z")] 4

def k1m0 : Method := { name := "<init>", desc := "()V", sig := { parameters := [], returnType := none }, accessFlags := 2, code := none }
def k1c1 : Code := { maxStack := 2, maxLocals := 1, code := method_2_code, exceptionTable := #[], attributes := #[] }
def k1m1 : Method := { name := "ref", desc := "(I)Z", sig := { parameters := [.int], returnType := some .boolean }, accessFlags := 10, code := some k1c1 }
def k1c2 : Code := { maxStack := 4, maxLocals := 13, code := code, exceptionTable := #[], attributes := #[] }
def k1m2 : Method := { name := "law", desc := "(IIII)Z", sig := { parameters := [.int, .int, .int, .int], returnType := some .boolean }, accessFlags := 9, code := some k1c2 }
/-- com/example/parlance/parlance/XmlTextIsXmlCharacterPinLaw -/
def k1 : Class := { plain "com/example/parlance/parlance/XmlTextIsXmlCharacterPinLaw" (some 0) with
  accessFlags := 49
  interfaces := #[]
  cf := some (fileOf pool1 35 #[] #[{ accessFlags := 2, nameIndex := 5, descriptorIndex := 6, attributes := #[] }, { accessFlags := 10, nameIndex := 38, descriptorIndex := 33, attributes := #[] }, { accessFlags := 9, nameIndex := 42, descriptorIndex := 43, attributes := #[] }] 49 2 #[] #[])
  fields := #[]
  methods := #[k1m0, k1m1, k1m2]
  instanceTypes := #[]
  staticTypes := #[]
  resolved := Array.replicate 48 none
  statics := none }

def pool2 : Array CpInfo := pool [(1, .class_ 2), (0, u "java/lang/Math"), (1, .class_ 6), (1, u "java/lang/Object"), (0, u "<init>"), (0, u "()V"), (89, .class_ 100), (1, u "java/lang/Math$RandomNumberGeneratorHolder"), (71, u "negativeZeroFloatBits"), (0, u "J"), (2, u "negativeZeroDoubleBits"), (21, u "max"), (2, u "min"), (43, u "$assertionsDisabled"), (0, u "Z"), (88, u "(II)I"), (2, u "twoToTheDoubleScaleDown"), (0, u "D"), (4, u "twoToTheDoubleScaleUp"), (9, u "E"), (3, u "PI"), (2, u "TAU"), (2, u "DEGREES_TO_RADIANS"), (0, u "RADIANS_TO_DEGREES")] 94

def k2m0 : Method := { name := "<init>", desc := "()V", sig := { parameters := [], returnType := none }, accessFlags := 2, code := none }
def k2c1 : Code := { maxStack := 2, maxLocals := 2, code := jdk_29_method_65_code, exceptionTable := #[], attributes := #[] }
def k2m1 : Method := { name := "max", desc := "(II)I", sig := { parameters := [.int, .int], returnType := some .int }, accessFlags := 9, code := some k2c1 }
def k2c2 : Code := { maxStack := 2, maxLocals := 2, code := jdk_29_method_69_code, exceptionTable := #[], attributes := #[] }
def k2m2 : Method := { name := "min", desc := "(II)I", sig := { parameters := [.int, .int], returnType := some .int }, accessFlags := 9, code := some k2c2 }
/-- java/lang/Math -/
def k2 : Class := { plain "java/lang/Math" (some 0) with
  accessFlags := 49
  interfaces := #[]
  cf := some (fileOf pool2 1 #[.nestMembers #[98]] #[{ accessFlags := 2, nameIndex := 7, descriptorIndex := 8, attributes := #[] }, { accessFlags := 9, nameIndex := 198, descriptorIndex := 335, attributes := #[] }, { accessFlags := 9, nameIndex := 201, descriptorIndex := 335, attributes := #[] }] 49 4 #[] #[{ accessFlags := 25, nameIndex := 354, descriptorIndex := 339, attributes := #[] }, { accessFlags := 25, nameIndex := 358, descriptorIndex := 339, attributes := #[] }, { accessFlags := 25, nameIndex := 361, descriptorIndex := 339, attributes := #[] }, { accessFlags := 26, nameIndex := 364, descriptorIndex := 339, attributes := #[] }, { accessFlags := 26, nameIndex := 365, descriptorIndex := 339, attributes := #[] }, { accessFlags := 26, nameIndex := 172, descriptorIndex := 173, attributes := #[] }, { accessFlags := 26, nameIndex := 176, descriptorIndex := 173, attributes := #[] }, { accessFlags := 8, nameIndex := 344, descriptorIndex := 339, attributes := #[] }, { accessFlags := 8, nameIndex := 338, descriptorIndex := 339, attributes := #[] }, { accessFlags := 4120, nameIndex := 245, descriptorIndex := 246, attributes := #[] }])
  fields := #[{ name := "E", type := .double, accessFlags := 25, slot := 0, constantValue := 0 }, { name := "PI", type := .double, accessFlags := 25, slot := 1, constantValue := 0 }, { name := "TAU", type := .double, accessFlags := 25, slot := 2, constantValue := 0 }, { name := "DEGREES_TO_RADIANS", type := .double, accessFlags := 26, slot := 3, constantValue := 0 }, { name := "RADIANS_TO_DEGREES", type := .double, accessFlags := 26, slot := 4, constantValue := 0 }, { name := "negativeZeroFloatBits", type := .long, accessFlags := 26, slot := 5, constantValue := 0 }, { name := "negativeZeroDoubleBits", type := .long, accessFlags := 26, slot := 6, constantValue := 0 }, { name := "twoToTheDoubleScaleUp", type := .double, accessFlags := 8, slot := 7, constantValue := 0 }, { name := "twoToTheDoubleScaleDown", type := .double, accessFlags := 8, slot := 8, constantValue := 0 }, { name := "$assertionsDisabled", type := .boolean, accessFlags := 4120, slot := 9, constantValue := 0 }]
  methods := #[k2m0, k2m1, k2m2]
  instanceTypes := #[]
  staticTypes := #[.double, .double, .double, .double, .double, .long, .long, .double, .double, .boolean]
  resolved := Array.replicate 460 none
  statics := none }

def pool3 : Array CpInfo := pool [(2, .class_ 4), (1, u "java/lang/Object"), (0, u "<init>"), (0, u "()V"), (11, .class_ 20), (1, u "com/example/parlance/parlance/XmlText"), (0, u "isXmlCharacter"), (0, u "(I)Z"), (39, .integer 55295), (0, .integer 57344), (0, .integer 65533), (0, .integer 65536)] 28

def k3m0 : Method := { name := "<init>", desc := "()V", sig := { parameters := [], returnType := none }, accessFlags := 2, code := none }
def k3c1 : Code := { maxStack := 2, maxLocals := 1, code := prog_16_method_4_code, exceptionTable := #[], attributes := #[] }
def k3m1 : Method := { name := "isXmlCharacter", desc := "(I)Z", sig := { parameters := [.int], returnType := some .boolean }, accessFlags := 9, code := some k3c1 }
/-- com/example/parlance/parlance/XmlText -/
def k3 : Class := { plain "com/example/parlance/parlance/XmlText" (some 0) with
  accessFlags := 49
  interfaces := #[]
  cf := some (fileOf pool3 18 #[] #[{ accessFlags := 2, nameIndex := 5, descriptorIndex := 6, attributes := #[] }, { accessFlags := 9, nameIndex := 21, descriptorIndex := 22, attributes := #[] }] 49 2 #[] #[])
  fields := #[]
  methods := #[k3m0, k3m1]
  instanceTypes := #[]
  staticTypes := #[]
  resolved := Array.replicate 94 none
  statics := none }

def pool4 : Array CpInfo := pool [(1, u "java/lang/Cloneable"), (0, .class_ 1), (0, u "java/lang/Object"), (0, .class_ 3)] 3

/-- java/lang/Cloneable -/
def k4 : Class := { plain "java/lang/Cloneable" (some 0) with
  accessFlags := 1537
  interfaces := #[]
  cf := some (fileOf pool4 2 #[] #[] 1537 4 #[] #[])
  fields := #[]
  methods := #[]
  instanceTypes := #[]
  staticTypes := #[]
  resolved := Array.replicate 8 none
  statics := none }

def pool5 : Array CpInfo := pool [(1, u "java/io/Serializable"), (0, .class_ 1), (0, u "java/lang/Object"), (0, .class_ 3)] 3

/-- java/io/Serializable -/
def k5 : Class := { plain "java/io/Serializable" (some 0) with
  accessFlags := 1537
  interfaces := #[]
  cf := some (fileOf pool5 2 #[] #[] 1537 4 #[] #[])
  fields := #[]
  methods := #[]
  instanceTypes := #[]
  staticTypes := #[]
  resolved := Array.replicate 8 none
  statics := none }

/-- the primitive byte -/
def k6 : Class := { plain "byte" none with kind := .primitive 'B', accessFlags := 0x411 }
/-- [B -/
def k7 : Class := { plain "[B" (some 0) with kind := .array 6 .byte, interfaces := #[4, 5], accessFlags := 1041 }

/-- the primitive int -/
def k8 : Class := { plain "int" none with kind := .primitive 'I', accessFlags := 0x411 }
/-- [I -/
def k9 : Class := { plain "[I" (some 0) with kind := .array 8 .int, interfaces := #[4, 5], accessFlags := 1041 }

def heap : Heap := #[]
def classes : Array Class := #[k0, k1, k2, k3, k4, k5, k6, k7, k8, k9]
def interned : List (Array UInt16 × Addr) := []
def slotsUsed : Nat := 0
def theMethod : MethodId := ⟨1, 2⟩
def args0 : Array Value := #[.int 5, .int 7, .int 1, .int 3]
def aboutOver (below : List Frame) : State where
  vm := { classes := classes, interned := interned.toArray }
  heap := heap
  slotsUsed := slotsUsed
  threads := #[{ frames := .invoking theMethod args0 :: below }]
def below0 : List Frame := [.native { method := ⟨0, 0⟩, args := #[] }]
def about1 : State := aboutOver below0
def p0 : Program := .bare "" "" ""
def e0 : Env := launch0.env 0 0 0
theorem w_frames : about1.frames = Frame.invoking theMethod args0 :: below0 := rfl
set_option maxRecDepth 65536 in
theorem w_args : argsFit about1.vm theMethod args0 = true := by decide +kernel
set_option maxRecDepth 65536 in
theorem w_heap : heapFits about1 = true := by decide +kernel
set_option maxRecDepth 65536 in
theorem w_runnable : about1.curStatus? = some .runnable := by decide +kernel
set_option maxRecDepth 65536 in
theorem w_alone : about1.alone = true := by decide +kernel
set_option maxRecDepth 65536 in
theorem w_named : about1.methodNamed? x = some theMethod := by decide +kernel
set_option maxRecDepth 65536 in
theorem w_hears : about1.hears theMethod below0 = true := by decide +kernel
set_option maxRecDepth 65536 in
theorem w_ripe : about1.ripe theMethod args0 below0 = true := by decide +kernel
theorem w_running : about1.status = .running := rfl
set_option maxRecDepth 65536 in
theorem w_room : about1.hasRoom e0.platform room_1 = true :=
  launch0.hasRoom_least _ room_1 (by decide +kernel) (by decide +kernel) (by decide +kernel) (by decide +kernel) (by decide +kernel) (by decide +kernel)
theorem allAtoms_all (ts : List Jvm.Cond) (a : Array Jvm.Value) (st : Jvm.State) : (allAtoms ts).before a st = ts.all (fun c => c.before a st) := by
  induction ts with
  | nil => rfl
  | cons c t ih =>
    show (Jvm.Cond.and c (allAtoms t)).before a st = _
    rw [Jvm.Cond.before_and, ih, List.all_cons]
def words1 : List Jvm.Cond := Jvm.Cond.code x code maxLocals ret :: tables_1
/-- a 'code' word, met by the world's own term for the bytes: nothing is compared byte by byte -/
theorem code_word {y : MethodName} {bytes : ByteArray} {mx : Nat} {rt : Option FieldType} {a : Array Value} {s : State} {m : MethodId} {meth : Method} {c : Code} (h1 : s.methodNamed? y = some m) (h2 : s.vm.method? m = some meth) (h3 : meth.code = some c) (h4 : c.code = bytes)
    (h5 : (c.maxLocals == mx && c.exceptionTable.isEmpty && decide (c.maxStack ≤ mostOperands) && decide (meth.sig.returnType = rt) && !meth.locks && decide (parseMethodDescriptor y.desc = some meth.sig)) = true) : (Jvm.Cond.code y bytes mx rt).before a s = true := by
  simp only [Bool.and_eq_true, beq_iff_eq, Bool.not_eq_true', decide_eq_true_eq] at h5
  obtain ⟨⟨⟨⟨⟨g1, g2⟩, g3⟩, g4⟩, g5⟩, g6⟩ := h5
  simp [Cond.before, Cond.holds, Cond.value, h1, h2, h3, h4, g1, g2, g3, g4, g5, g6]
def isCode : Jvm.Cond → Bool
  | .code _ _ _ _ => true
  | _ => false
theorem all_split {L : List Jvm.Cond} {P : Jvm.Cond → Bool} (h1 : L.all (fun c => isCode c || P c) = true) (h2 : ∀ c ∈ L.filter isCode, P c = true) : L.all P = true := by
  refine List.all_eq_true.mpr fun c hc => ?_
  have h := List.all_eq_true.mp h1 c hc
  rcases Bool.eq_false_or_eq_true (isCode c) with hi | hi
  · exact h2 c (List.mem_filter.mpr ⟨hc, hi⟩)
  · simpa [hi] using h
set_option maxRecDepth 65536 in
theorem w_c0 : (Jvm.Cond.code x code maxLocals ret).before args0 about1 = true := code_word (m := ⟨1, 2⟩) (meth := k1m2) (c := k1c2) (by decide +kernel) rfl rfl rfl (by decide +kernel)
set_option maxRecDepth 65536 in
theorem w_c1 : (Jvm.Cond.code ({ cls := "java/lang/Math", name := "min", desc := "(II)I" } : Jvm.MethodName) jdk_29_method_69_code (2 : Nat) (Option.some Jvm.ClassFile.FieldType.int)).before args0 about1 = true := code_word (m := ⟨2, 2⟩) (meth := k2m2) (c := k2c2) (by decide +kernel) rfl rfl rfl (by decide +kernel)
set_option maxRecDepth 65536 in
theorem w_c2 : (Jvm.Cond.code ({ cls := "java/lang/Math", name := "max", desc := "(II)I" } : Jvm.MethodName) jdk_29_method_65_code (2 : Nat) (Option.some Jvm.ClassFile.FieldType.int)).before args0 about1 = true := code_word (m := ⟨2, 1⟩) (meth := k2m1) (c := k2c1) (by decide +kernel) rfl rfl rfl (by decide +kernel)
set_option maxRecDepth 65536 in
theorem w_c3 : (Jvm.Cond.code ({ cls := "com/example/parlance/parlance/XmlText", name := "isXmlCharacter", desc := "(I)Z" } : Jvm.MethodName) prog_16_method_4_code (1 : Nat) (Option.some Jvm.ClassFile.FieldType.boolean)).before args0 about1 = true := code_word (m := ⟨3, 1⟩) (meth := k3m1) (c := k3c1) (by decide +kernel) rfl rfl rfl (by decide +kernel)
set_option maxRecDepth 65536 in
theorem w_c4 : (Jvm.Cond.code ({ cls := "com/example/parlance/parlance/XmlTextIsXmlCharacterPinLaw", name := "ref", desc := "(I)Z" } : Jvm.MethodName) method_2_code (1 : Nat) (Option.some Jvm.ClassFile.FieldType.boolean)).before args0 about1 = true := code_word (m := ⟨1, 1⟩) (meth := k1m1) (c := k1c1) (by decide +kernel) rfl rfl rfl (by decide +kernel)
def codes1 : List Jvm.Cond := [Jvm.Cond.code x code maxLocals ret, Jvm.Cond.code ({ cls := "java/lang/Math", name := "min", desc := "(II)I" } : Jvm.MethodName) jdk_29_method_69_code (2 : Nat) (Option.some Jvm.ClassFile.FieldType.int), Jvm.Cond.code ({ cls := "java/lang/Math", name := "max", desc := "(II)I" } : Jvm.MethodName) jdk_29_method_65_code (2 : Nat) (Option.some Jvm.ClassFile.FieldType.int), Jvm.Cond.code ({ cls := "com/example/parlance/parlance/XmlText", name := "isXmlCharacter", desc := "(I)Z" } : Jvm.MethodName) prog_16_method_4_code (1 : Nat) (Option.some Jvm.ClassFile.FieldType.boolean), Jvm.Cond.code ({ cls := "com/example/parlance/parlance/XmlTextIsXmlCharacterPinLaw", name := "ref", desc := "(I)Z" } : Jvm.MethodName) method_2_code (1 : Nat) (Option.some Jvm.ClassFile.FieldType.boolean)]
set_option maxRecDepth 65536 in
theorem codes_eq : words1.filter isCode = codes1 := rfl
theorem w_codes : ∀ c ∈ words1.filter isCode, c.before args0 about1 = true := by
  rw [codes_eq]
  intro c hc
  simp only [codes1, List.mem_cons, List.not_mem_nil, or_false] at hc
  rcases hc with rfl | rfl | rfl | rfl | rfl
  · exact w_c0
  · exact w_c1
  · exact w_c2
  · exact w_c3
  · exact w_c4
set_option maxRecDepth 65536 in
theorem w_t1 : (words1.take 24).all (fun c => isCode c || c.before args0 about1) = true := by decide +kernel
set_option maxRecDepth 65536 in
theorem w_t2 : (words1.drop 24).all (fun c => isCode c || c.before args0 about1) = true := by decide +kernel
theorem w_tables : (allAtoms (Jvm.Cond.code x code maxLocals ret :: tables_1)).before args0 about1 = true := by
  rw [allAtoms_all]
  show words1.all (fun c => c.before args0 about1) = true
  refine all_split ?_ w_codes
  rw [← List.take_append_drop 24 words1, List.all_append, w_t1, w_t2]
  rfl
set_option maxRecDepth 65536 in
theorem w_case : (Jvm.Cond.and given_1 narrow_1).before args0 about1 = true := by decide +kernel
theorem w_applies : (headSpec (Jvm.Cond.code x code maxLocals ret :: tables_1) room_1).applies x e0.platform about1 = true :=
  (Spec.applies_iff w_frames).mpr ⟨w_running, w_runnable, w_alone, w_named, w_hears, w_ripe, w_room, w_tables⟩
theorem atStart : AtStart classFile x code maxLocals ret World_1 tables_1 room_1 Calls_1 rest_1 Pre_1 launch0 p0 e0 about1 theMethod args0 below0 :=
  ⟨lists_1, trivial, launch0.admits_env _ _ _, launch0.least_env, fairChoices_fair.cas, fairChoices_fair.clock, w_frames, w_args, w_heap, w_applies, trivial, trivial, w_case⟩
end start1
theorem witness_1 : WitnessClaimed_1 := ⟨start1.p0, start1.e0, start1.about1, start1.theMethod, start1.args0, start1.below0, start1.atStart⟩
end Jvm.Pilot.@@N@@
