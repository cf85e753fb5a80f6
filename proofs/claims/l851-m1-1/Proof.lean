import JvmDerived
import JvmDerived.Pilot.@@N@@Statement
import JvmDerived.Pilot.@@N@@Code
set_option linter.unusedVariables false
set_option linter.unusedSimpArgs false
namespace Jvm.OwnK
open Sem ClassFile Op Lib Jvm.Stand Jvm.Free Jvm.LawKit Jvm.RoadKit
section
variable {p : Program} {l : Launch} {e : Env} {R : Room} {s : State} {m : MethodId} {args : Array Value} {below : List Frame} {meth : Method} {c : Code} {T : State} {locs : List Loc} {cells slots : Nat} {Cn Sn : Nat} {Q : Option Value → Heap → List Loc → Prop}
abbrev jv (x : Int64) : Slot := .val (.long x)
/-- from the frame f the run comes to an end that Q takes -/
def KEnds (p : Program) (e : Env) (below : List Frame) (s : State) (Cn Sn : Nat) (Q : Option Value → Heap → List Loc → Prop) (T : State) (f : JFrame) : Prop :=
  ∃ s₂ o, Steps p.tables e below (T.setTop f) s₂ ∧ s₂.status = .running ∧ Ended s₂ below o ∧ ∃ v L, o = .returned v ∧ Q v s₂.heap L ∧ FrameEnd s o s₂ L Cn Sn
theorem k_via {T' : State} {f f' : JFrame} (st : ∀ t, Steps p.tables e below (T'.setTop f') t → Steps p.tables e below (T.setTop f) t) (k : KEnds p e below s Cn Sn Q T' f') : KEnds p e below s Cn Sn Q T f := by
  obtain ⟨s₂, o, h, r⟩ := k
  exact ⟨s₂, o, st _ h, r⟩
theorem k_iloadN (X : Stand p l e R s m args below meth c T locs cells slots) (hx : p.tables.exec = Jvm.exec) {pc pc' : Nat} {Ls : Array Slot} {St : List Value} {i : Fin 4} {v : Int32} (hd : decode c.code pc = .ok (.iload_n i, 1)) (hl : Ls[i.val]? = some (.val (.int v))) (hpc : pc + 1 = pc') (k : KEnds p e below s Cn Sn Q T (mkF m pc' Ls (.int v :: St))) : KEnds p e below s Cn Sn Q T (mkF m pc Ls (St)) := by
  subst hpc; exact k_via (fun t h => XS.iloadN X.here hx rfl hd hl h) k
theorem k_iload (X : Stand p l e R s m args below meth c T locs cells slots) (hx : p.tables.exec = Jvm.exec) {pc pc' : Nat} {Ls : Array Slot} {St : List Value} {i : Nat} {v : Int32} (hd : decode c.code pc = .ok (.iload i, 2)) (hl : Ls[i]? = some (.val (.int v))) (hpc : pc + 2 = pc') (k : KEnds p e below s Cn Sn Q T (mkF m pc' Ls (.int v :: St))) : KEnds p e below s Cn Sn Q T (mkF m pc Ls (St)) := by
  subst hpc; exact k_via (fun t h => XS.iload X.here hx rfl hd hl h) k
theorem k_istore (X : Stand p l e R s m args below meth c T locs cells slots) (hx : p.tables.exec = Jvm.exec) {pc pc' : Nat} {Ls : Array Slot} {St : List Value} {i : Nat} {v : Int32} {Ls' : Array Slot} (hd : decode c.code pc = .ok (.istore i, 2)) (hl : storeLocals Ls i (.int v) = some Ls') (hpc : pc + 2 = pc') (k : KEnds p e below s Cn Sn Q T (mkF m pc' Ls' (St))) : KEnds p e below s Cn Sn Q T (mkF m pc Ls (.int v :: St)) := by
  subst hpc; exact k_via (fun t h => XS.istore X.here hx rfl hd rfl hl h) k
theorem k_aloadN (X : Stand p l e R s m args below meth c T locs cells slots) (hx : p.tables.exec = Jvm.exec) {pc pc' : Nat} {Ls : Array Slot} {St : List Value} {i : Fin 4} {v : Value} (hd : decode c.code pc = .ok (.aload_n i, 1)) (hl : Ls[i.val]? = some (.val v)) (hv : v.isRef = true) (hpc : pc + 1 = pc') (k : KEnds p e below s Cn Sn Q T (mkF m pc' Ls (v :: St))) : KEnds p e below s Cn Sn Q T (mkF m pc Ls (St)) := by
  subst hpc; exact k_via (fun t h => XS.aloadN X.here hx rfl hd hl hv h) k
theorem k_aload (X : Stand p l e R s m args below meth c T locs cells slots) (hx : p.tables.exec = Jvm.exec) {pc pc' : Nat} {Ls : Array Slot} {St : List Value} {i : Nat} {v : Value} (hd : decode c.code pc = .ok (.aload i, 2)) (hl : Ls[i]? = some (.val v)) (hv : v.isRef = true) (hpc : pc + 2 = pc') (k : KEnds p e below s Cn Sn Q T (mkF m pc' Ls (v :: St))) : KEnds p e below s Cn Sn Q T (mkF m pc Ls (St)) := by
  subst hpc; exact k_via (fun t h => XS.aload X.here hx rfl hd hl hv h) k
theorem k_astoreN (X : Stand p l e R s m args below meth c T locs cells slots) (hx : p.tables.exec = Jvm.exec) {pc pc' : Nat} {Ls : Array Slot} {St : List Value} {i : Fin 4} {v : Value} {Ls' : Array Slot} (hd : decode c.code pc = .ok (.astore_n i, 1)) (hv : v.isRef = true) (hl : storeLocals Ls i.val v = some Ls') (hpc : pc + 1 = pc') (k : KEnds p e below s Cn Sn Q T (mkF m pc' Ls' (St))) : KEnds p e below s Cn Sn Q T (mkF m pc Ls (v :: St)) := by
  subst hpc; exact k_via (fun t h => XS.astoreN X.here hx rfl hd rfl hv hl h) k
theorem k_astore (X : Stand p l e R s m args below meth c T locs cells slots) (hx : p.tables.exec = Jvm.exec) {pc pc' : Nat} {Ls : Array Slot} {St : List Value} {i : Nat} {v : Value} {Ls' : Array Slot} (hd : decode c.code pc = .ok (.astore i, 2)) (hv : v.isRef = true) (hl : storeLocals Ls i v = some Ls') (hpc : pc + 2 = pc') (k : KEnds p e below s Cn Sn Q T (mkF m pc' Ls' (St))) : KEnds p e below s Cn Sn Q T (mkF m pc Ls (v :: St)) := by
  subst hpc; exact k_via (fun t h => XS.astore X.here hx rfl hd rfl hv hl h) k
theorem k_anull (X : Stand p l e R s m args below meth c T locs cells slots) (hx : p.tables.exec = Jvm.exec) {pc pc' : Nat} {Ls : Array Slot} {St : List Value}  (hd : decode c.code pc = .ok (.aconst_null, 1))  (hpc : pc + 1 = pc') (k : KEnds p e below s Cn Sn Q T (mkF m pc' Ls (.null :: St))) : KEnds p e below s Cn Sn Q T (mkF m pc Ls (St)) := by
  subst hpc; exact k_via (fun t h => XS.aconstNull X.here hx rfl hd h) k
theorem k_iconst (X : Stand p l e R s m args below meth c T locs cells slots) (hx : p.tables.exec = Jvm.exec) {pc pc' : Nat} {Ls : Array Slot} {St : List Value} {i : Int} {z : Int32} (hd : decode c.code pc = .ok (.iconst i, 1)) (hpc : pc + 1 = pc') (hz : Int32.ofInt i = z) (k : KEnds p e below s Cn Sn Q T (mkF m pc' Ls (.int z :: St))) : KEnds p e below s Cn Sn Q T (mkF m pc Ls St) := by
  subst hpc hz; exact k_via (fun t h => XS.iconst X.here hx rfl hd h) k
theorem k_bipush (X : Stand p l e R s m args below meth c T locs cells slots) (hx : p.tables.exec = Jvm.exec) {pc pc' : Nat} {Ls : Array Slot} {St : List Value} {i : Int} {z : Int32} (hd : decode c.code pc = .ok (.bipush i, 2)) (hpc : pc + 2 = pc') (hz : (Int8.ofInt i).toInt32 = z) (k : KEnds p e below s Cn Sn Q T (mkF m pc' Ls (.int z :: St))) : KEnds p e below s Cn Sn Q T (mkF m pc Ls St) := by
  subst hpc hz; exact k_via (fun t h => XS.bipush X.here hx rfl hd h) k
theorem k_iaddL (X : Stand p l e R s m args below meth c T locs cells slots) (hx : p.tables.exec = Jvm.exec) {pc pc' : Nat} {Ls : Array Slot} {St : List Value} {x y : Int32} {z : Int32} (hd : decode c.code pc = .ok (.iadd, 1))  (hpc : pc + 1 = pc') (hz : x + y = z) (k : KEnds p e below s Cn Sn Q T (mkF m pc' Ls (.int z :: St))) : KEnds p e below s Cn Sn Q T (mkF m pc Ls (.int y :: .int x :: St)) := by
  subst hpc hz; exact k_via (fun t h => XS.iadd X.here hx rfl hd rfl h) k
theorem k_iadd (X : Stand p l e R s m args below meth c T locs cells slots) (hx : p.tables.exec = Jvm.exec) {pc pc' : Nat} {Ls : Array Slot} {St : List Value} {x y : Int32} (hd : decode c.code pc = .ok (.iadd, 1))  (hpc : pc + 1 = pc') (k : ∀ z : Int32, z = x + y → KEnds p e below s Cn Sn Q T (mkF m pc' Ls (.int z :: St))) : KEnds p e below s Cn Sn Q T (mkF m pc Ls (.int y :: .int x :: St)) := by
  subst hpc; exact k_via (fun t h => XS.iadd X.here hx rfl hd rfl h) (k _ rfl)
theorem k_imul (X : Stand p l e R s m args below meth c T locs cells slots) (hx : p.tables.exec = Jvm.exec) {pc pc' : Nat} {Ls : Array Slot} {St : List Value} {x y : Int32} (hd : decode c.code pc = .ok (.imul, 1))  (hpc : pc + 1 = pc') (k : ∀ z : Int32, z = x * y → KEnds p e below s Cn Sn Q T (mkF m pc' Ls (.int z :: St))) : KEnds p e below s Cn Sn Q T (mkF m pc Ls (.int y :: .int x :: St)) := by
  subst hpc; exact k_via (fun t h => XS.imul X.here hx rfl hd rfl h) (k _ rfl)
theorem k_iand (X : Stand p l e R s m args below meth c T locs cells slots) (hx : p.tables.exec = Jvm.exec) {pc pc' : Nat} {Ls : Array Slot} {St : List Value} {x y : Int32} (hd : decode c.code pc = .ok (.iand, 1))  (hpc : pc + 1 = pc') (k : ∀ z : Int32, z = x &&& y → KEnds p e below s Cn Sn Q T (mkF m pc' Ls (.int z :: St))) : KEnds p e below s Cn Sn Q T (mkF m pc Ls (.int y :: .int x :: St)) := by
  subst hpc; exact k_via (fun t h => XS.iand X.here hx rfl hd rfl h) (k _ rfl)
theorem k_iushr (X : Stand p l e R s m args below meth c T locs cells slots) (hx : p.tables.exec = Jvm.exec) {pc pc' : Nat} {Ls : Array Slot} {St : List Value} {x y : Int32} (hd : decode c.code pc = .ok (.iushr, 1))  (hpc : pc + 1 = pc') (k : ∀ z : Int32, z = ((x.toUInt32 >>> (y &&& 31).toUInt32).toInt32) → KEnds p e below s Cn Sn Q T (mkF m pc' Ls (.int z :: St))) : KEnds p e below s Cn Sn Q T (mkF m pc Ls (.int y :: .int x :: St)) := by
  subst hpc; exact k_via (fun t h => XS.iushr X.here hx rfl hd rfl h) (k _ rfl)
theorem k_dup (X : Stand p l e R s m args below meth c T locs cells slots) (hx : p.tables.exec = Jvm.exec) {pc pc' : Nat} {Ls : Array Slot} {St : List Value} {v : Value} (hd : decode c.code pc = .ok (.dup, 1)) (hv : v.category = 1) (hpc : pc + 1 = pc') (k : KEnds p e below s Cn Sn Q T (mkF m pc' Ls (v :: v :: St))) : KEnds p e below s Cn Sn Q T (mkF m pc Ls (v :: St)) := by
  subst hpc; exact k_via (fun t h => XS.dup X.here hx rfl hd rfl hv h) k
theorem k_dup2 (X : Stand p l e R s m args below meth c T locs cells slots) (hx : p.tables.exec = Jvm.exec) {pc pc' : Nat} {Ls : Array Slot} {St : List Value} {v w : Value} (hd : decode c.code pc = .ok (.dup2, 1)) (hv : v.category = 1) (hw : w.category = 1) (hpc : pc + 1 = pc') (k : KEnds p e below s Cn Sn Q T (mkF m pc' Ls (v :: w :: v :: w :: St))) : KEnds p e below s Cn Sn Q T (mkF m pc Ls (v :: w :: St)) := by
  subst hpc; exact k_via (fun t h => XT.dup2 X.here hx rfl hd rfl hv hw h) k
theorem k_goto (X : Stand p l e R s m args below meth c T locs cells slots) (hx : p.tables.exec = Jvm.exec) {pc pc' : Nat} {Ls : Array Slot} {St : List Value} {o : Int} (hd : decode c.code pc = .ok (.goto o, 3)) (hp : (pc : Int) + o = (pc' : Int)) (k : KEnds p e below s Cn Sn Q T (mkF m pc' Ls St)) : KEnds p e below s Cn Sn Q T (mkF m pc Ls St) :=
  k_via (fun t h => XS.goto X.here hx rfl (pc0 := pc) rfl hd (by omega) (by omega) h) k
theorem k_icmp_lt (X : Stand p l e R s m args below meth c T locs cells slots) (hx : p.tables.exec = Jvm.exec) {pc pn py : Nat} {Ls : Array Slot} {St : List Value} {x y : Int32} {o : Int} (hd : decode c.code pc = .ok (.if_icmp .lt o, 3)) (hn : pc + 3 = pn) (hp : (pc : Int) + o = (py : Int)) (ky : x < y → KEnds p e below s Cn Sn Q T (mkF m py Ls St)) (kn : ¬ x < y → KEnds p e below s Cn Sn Q T (mkF m pn Ls St)) : KEnds p e below s Cn Sn Q T (mkF m pc Ls (.int y :: .int x :: St)) := by
  subst hn
  by_cases hc : x < y
  · exact k_via (fun t h => XS.icmpYes X.here hx rfl (pc0 := pc) rfl hd rfl (tlt hc).1 (by omega) (by omega) h) (ky hc)
  · exact k_via (fun t h => XS.icmpNo X.here hx rfl hd rfl (flt hc).1 h) (kn hc)
theorem k_icmp_ge (X : Stand p l e R s m args below meth c T locs cells slots) (hx : p.tables.exec = Jvm.exec) {pc pn py : Nat} {Ls : Array Slot} {St : List Value} {x y : Int32} {o : Int} (hd : decode c.code pc = .ok (.if_icmp .ge o, 3)) (hn : pc + 3 = pn) (hp : (pc : Int) + o = (py : Int)) (ky : ¬ x < y → KEnds p e below s Cn Sn Q T (mkF m py Ls St)) (kn : x < y → KEnds p e below s Cn Sn Q T (mkF m pn Ls St)) : KEnds p e below s Cn Sn Q T (mkF m pc Ls (.int y :: .int x :: St)) := by
  subst hn
  by_cases hc : x < y
  · exact k_via (fun t h => XS.icmpNo X.here hx rfl hd rfl (tlt hc).2.1 h) (kn hc)
  · exact k_via (fun t h => XS.icmpYes X.here hx rfl (pc0 := pc) rfl hd rfl (flt hc).2.1 (by omega) (by omega) h) (ky hc)
theorem k_icmp_gt (X : Stand p l e R s m args below meth c T locs cells slots) (hx : p.tables.exec = Jvm.exec) {pc pn py : Nat} {Ls : Array Slot} {St : List Value} {x y : Int32} {o : Int} (hd : decode c.code pc = .ok (.if_icmp .gt o, 3)) (hn : pc + 3 = pn) (hp : (pc : Int) + o = (py : Int)) (ky : y < x → KEnds p e below s Cn Sn Q T (mkF m py Ls St)) (kn : ¬ y < x → KEnds p e below s Cn Sn Q T (mkF m pn Ls St)) : KEnds p e below s Cn Sn Q T (mkF m pc Ls (.int y :: .int x :: St)) := by
  subst hn
  by_cases hc : y < x
  · exact k_via (fun t h => XS.icmpYes X.here hx rfl (pc0 := pc) rfl hd rfl (tlt hc).2.2.1 (by omega) (by omega) h) (ky hc)
  · exact k_via (fun t h => XS.icmpNo X.here hx rfl hd rfl (flt hc).2.2.1 h) (kn hc)
theorem k_icmp_le (X : Stand p l e R s m args below meth c T locs cells slots) (hx : p.tables.exec = Jvm.exec) {pc pn py : Nat} {Ls : Array Slot} {St : List Value} {x y : Int32} {o : Int} (hd : decode c.code pc = .ok (.if_icmp .le o, 3)) (hn : pc + 3 = pn) (hp : (pc : Int) + o = (py : Int)) (ky : ¬ y < x → KEnds p e below s Cn Sn Q T (mkF m py Ls St)) (kn : y < x → KEnds p e below s Cn Sn Q T (mkF m pn Ls St)) : KEnds p e below s Cn Sn Q T (mkF m pc Ls (.int y :: .int x :: St)) := by
  subst hn
  by_cases hc : y < x
  · exact k_via (fun t h => XS.icmpNo X.here hx rfl hd rfl (tlt hc).2.2.2 h) (kn hc)
  · exact k_via (fun t h => XS.icmpYes X.here hx rfl (pc0 := pc) rfl hd rfl (flt hc).2.2.2 (by omega) (by omega) h) (ky hc)
theorem k_if_eq (X : Stand p l e R s m args below meth c T locs cells slots) (hx : p.tables.exec = Jvm.exec) {pc pn py : Nat} {Ls : Array Slot} {St : List Value} {x : Int32} {o : Int} (hd : decode c.code pc = .ok (.ifCond .eq o, 3)) (hn : pc + 3 = pn) (hp : (pc : Int) + o = (py : Int)) (ky : x = (0 : Int32) → KEnds p e below s Cn Sn Q T (mkF m py Ls St)) (kn : ¬ x = (0 : Int32) → KEnds p e below s Cn Sn Q T (mkF m pn Ls St)) : KEnds p e below s Cn Sn Q T (mkF m pc Ls (.int x :: St)) := by
  subst hn
  by_cases hc : x = (0 : Int32)
  · exact k_via (fun t h => XS.ifYes X.here hx rfl (pc0 := pc) rfl hd rfl ((if0 _ _).trans (teq hc).1) (by omega) (by omega) h) (ky hc)
  · exact k_via (fun t h => XS.ifNo X.here hx rfl hd rfl ((if0 _ _).trans (feq hc).1) h) (kn hc)
theorem k_icmp_ne (X : Stand p l e R s m args below meth c T locs cells slots) (hx : p.tables.exec = Jvm.exec) {pc pn py : Nat} {Ls : Array Slot} {St : List Value} {x y : Int32} {o : Int} (hd : decode c.code pc = .ok (.if_icmp .ne o, 3)) (hn : pc + 3 = pn) (hp : (pc : Int) + o = (py : Int)) (ky : ¬ x = y → KEnds p e below s Cn Sn Q T (mkF m py Ls St)) (kn : x = y → KEnds p e below s Cn Sn Q T (mkF m pn Ls St)) : KEnds p e below s Cn Sn Q T (mkF m pc Ls (.int y :: .int x :: St)) := by
  subst hn
  by_cases hc : x = y
  · exact k_via (fun t h => XS.icmpNo X.here hx rfl hd rfl (teq hc).2 h) (kn hc)
  · exact k_via (fun t h => XS.icmpYes X.here hx rfl (pc0 := pc) rfl hd rfl (feq hc).2 (by omega) (by omega) h) (ky hc)
theorem k_ifnullY (X : Stand p l e R s m args below meth c T locs cells slots) (hx : p.tables.exec = Jvm.exec) {pc pc' : Nat} {Ls : Array Slot} {St : List Value} {o : Int} (hd : decode c.code pc = .ok (.ifnull o, 3)) (hp : (pc : Int) + o = (pc' : Int)) (k : KEnds p e below s Cn Sn Q T (mkF m pc' Ls St)) : KEnds p e below s Cn Sn Q T (mkF m pc Ls (.null :: St)) :=
  k_via (fun t h => XS.ifnullYes X.here hx rfl (pc0 := pc) rfl hd rfl (by omega) (by omega) h) k
theorem k_lt {x a : Int32} {n : Int} (h : x < a) (e : a.toInt = n + 1) : x.toInt ≤ n := by rw [Int32.lt_iff_toInt_lt] at h; omega
theorem k_ge {x a : Int32} {n : Int} (h : ¬ x < a) (e : a.toInt = n) : n ≤ x.toInt := by rw [Int32.lt_iff_toInt_lt] at h; omega
theorem k_gt {x a : Int32} {n : Int} (h : a < x) (e : a.toInt + 1 = n) : n ≤ x.toInt := by rw [Int32.lt_iff_toInt_lt] at h; omega
theorem k_le {x a : Int32} {n : Int} (h : ¬ a < x) (e : a.toInt = n) : x.toInt ≤ n := by rw [Int32.lt_iff_toInt_lt] at h; omega
theorem k_addB {x a b la ua lb ub lo hi : Int} (q : x = a + b) (pa : la ≤ a ∧ a ≤ ua) (pb : lb ≤ b ∧ b ≤ ub) (h1 : lo ≤ la + lb := by decide) (h2 : ua + ub ≤ hi := by decide) : lo ≤ x ∧ x ≤ hi := by omega
theorem k_mulB {a c la ua lo hi : Int} (pa : la ≤ a ∧ a ≤ ua) (hc : 0 ≤ c) (h1 : lo ≤ c * la := by decide) (h2 : c * ua ≤ hi := by decide) : lo ≤ c * a ∧ c * a ≤ hi := ⟨Int.le_trans h1 (Int.mul_le_mul_of_nonneg_left pa.1 hc), Int.le_trans (Int.mul_le_mul_of_nonneg_left pa.2 hc) h2⟩
theorem k_modB {a P hi : Int} (h : 0 < P) (e : P = hi + 1 := by decide) : 0 ≤ a % P ∧ a % P ≤ hi := ⟨Int.emod_nonneg _ (by omega), by have := Int.emod_lt_of_pos a h; omega⟩
theorem k_divmodB {a W P hi : Int} (h : 0 < P) (hw : 0 < W) (h2 : (W - 1) / P = hi) : 0 ≤ (a % W) / P ∧ (a % W) / P ≤ hi := ⟨Int.ediv_nonneg (Int.emod_nonneg _ (by omega)) (by omega), by rw [← h2]; exact Int.ediv_le_ediv h (by have := Int.emod_lt_of_pos a hw; omega)⟩
theorem k_iaddx {v a b : Int32} {la ua lb ub : Int} (h : v = a + b) (pa : la ≤ a.toInt ∧ a.toInt ≤ ua) (pb : lb ≤ b.toInt ∧ b.toInt ≤ ub) (h1 : -2147483648 ≤ la + lb) (h2 : ua + ub ≤ 2147483647) : v.toInt = a.toInt + b.toInt := by
  have q := c_iadd a b; rw [← h] at q; have r := rng32 v; omega
theorem k_retN (X : Stand p l e R s m args below meth c T locs cells slots) (hx : p.tables.exec = Jvm.exec) {pc : Nat} {Ls : Array Slot} {St : List Value} {t : FieldType} {z z' : Int32} (hret : meth.sig.returnType = some t) (ht : t = .boolean ∨ t = .byte ∨ t = .char ∨ t = .short) (hd : decode c.code pc = .ok (.ireturn, 1)) (hlk : meth.locks = false) (hC : cells ≤ Cn) (hS : slots ≤ Sn) (hz : nar t z = z') (q : Q (some (.int z')) T.heap locs) : KEnds p e below s Cn Sn Q T (mkF m pc Ls (.int z :: St)) := by
  subst hz
  obtain ⟨fs, hr, hrun, hended, hW, hsame⟩ := X.leave (v := some (.int (nar t z))) (fun h => by rw [hret] at h; cases h) hlk
  exact ⟨_, _, retN X hx hret ht hd hr, hrun, hended, _, _, rfl, q, ⟨_, rfl⟩, hW, hsame.mono hC hS⟩
theorem k_retI (X : Stand p l e R s m args below meth c T locs cells slots) (hx : p.tables.exec = Jvm.exec) {pc : Nat} {Ls : Array Slot} {St : List Value} {z : Int32} (hret : meth.sig.returnType = some .int) (hd : decode c.code pc = .ok (.ireturn, 1)) (hlk : meth.locks = false) (hC : cells ≤ Cn) (hS : slots ≤ Sn) (q : Q (some (.int z)) T.heap locs) : KEnds p e below s Cn Sn Q T (mkF m pc Ls (.int z :: St)) := by
  obtain ⟨fs, hr, hrun, hended, hW, hsame⟩ := X.leave (v := some (.int z)) (fun h => by rw [hret] at h; cases h) hlk
  exact ⟨_, _, retOut X hx hret rfl (Or.inl ⟨rfl, Or.inl rfl, _, rfl⟩) hd hr, hrun, hended, _, _, rfl, q, ⟨_, rfl⟩, hW, hsame.mono hC hS⟩
theorem k_retA (X : Stand p l e R s m args below meth c T locs cells slots) (hx : p.tables.exec = Jvm.exec) {pc : Nat} {Ls : Array Slot} {St : List Value} {t : FieldType} {a : Addr} (hret : meth.sig.returnType = some t) (ht : t.isReference = true) (hn : narrow t (.ref a) = .ref a) (hd : decode c.code pc = .ok (.areturn, 1)) (hlk : meth.locks = false) (hC : cells ≤ Cn) (hS : slots ≤ Sn) (q : Q (some (.ref a)) T.heap locs) : KEnds p e below s Cn Sn Q T (mkF m pc Ls (.ref a :: St)) := by
  obtain ⟨fs, hr, hrun, hended, hW, hsame⟩ := X.leave (v := some (.ref a)) (fun h => by rw [hret] at h; cases h) hlk
  exact ⟨_, _, retOut X hx hret hn (Or.inr (Or.inr (Or.inr (Or.inr ⟨rfl, ht, rfl⟩)))) hd hr, hrun, hended, _, _, rfl, q, ⟨_, rfl⟩, hW, hsame.mono hC hS⟩
theorem k_ret (X : Stand p l e R s m args below meth c T locs cells slots) (hx : p.tables.exec = Jvm.exec) {pc : Nat} {Ls : Array Slot} (hret : meth.sig.returnType = none) (hd : decode c.code pc = .ok (.return_, 1)) (hlk : meth.locks = false) (hC : cells ≤ Cn) (hS : slots ≤ Sn) (q : Q none T.heap locs) : KEnds p e below s Cn Sn Q T (mkF m pc Ls []) := by
  obtain ⟨fs, hr, hrun, hended, hW, hsame⟩ := X.leave (v := none) (fun _ => rfl) hlk
  exact ⟨_, _, X.returnOut hx hret hd hr, hrun, hended, _, _, rfl, q, ⟨_, rfl⟩, hW, hsame.mono hC hS⟩
def ArF (Z : State) (h : Heap) (a : Addr) (k : ClassId) (z : Int32) (F : Nat → Int32) : Prop := ∃ vs : List Value, Arv Z h a k .int z vs (.int 0) ∧ z.toNatClampNeg ≤ vs.length ∧ ∀ i, vs.getD i (.int 0) = .int (F i)
def updF (F : Nat → Int32) (j : Nat) (x : Int32) : Nat → Int32 := fun i => if i = j then x else F i
theorem ArF.lt {Z : State} {h : Heap} {a : Addr} {k : ClassId} {z : Int32} {F : Nat → Int32} (V : ArF Z h a k z F) : a < h.size := by obtain ⟨vs, A, -⟩ := V; exact A.lt
theorem ArF.ext {Z : State} {h h' : Heap} {a : Addr} {k : ClassId} {z : Int32} {F : Nat → Int32} (V : ArF Z h a k z F) (E : Ext h h') : ArF Z h' a k z F := by obtain ⟨vs, A, r⟩ := V; exact ⟨vs, A.ext E, r⟩
theorem ArF.other {Z : State} {h h' : Heap} {a b : Addr} {k : ClassId} {z : Int32} {F : Nat → Int32} {sl : Nat} {v : Value} (V : ArF Z h b k z F) (W : Wr h h' a sl v) (q : b ≠ a) : ArF Z h' b k z F := by obtain ⟨vs, A, r⟩ := V; exact ⟨vs, A.other W q, r⟩
theorem ArF.keep {Z : State} {h h' : Heap} {a : Addr} {k : ClassId} {z : Int32} {F : Nat → Int32} {ws : List Addr} (V : ArF Z h a k z F) (K : Keep h h' ws) (q : a ∉ ws) : ArF Z h' a k z F := by obtain ⟨vs, A, r⟩ := V; exact ⟨vs, A.keep K q, r⟩
theorem ArF.new {Z : State} {h : Heap} {a : Addr} {k : ClassId} {z : Int32} {cap : Nat} (V : Arv Z h a k .int z (List.replicate cap (.int 0)) (.int 0)) (hc : z.toNatClampNeg ≤ cap) : ArF Z h a k z (fun _ => 0) :=
  ⟨_, V, by simpa using hc, fun i => by
    rw [List.getD_eq_getElem?_getD, List.getElem?_replicate]
    split <;> rfl⟩
theorem kf_getD_set (vs : List Value) (i j : Nat) (v d : Value) (h : i < vs.length) : (vs.set i v).getD j d = if j = i then v else vs.getD j d := by
  rw [List.getD_eq_getElem?_getD, List.getD_eq_getElem?_getD, List.getElem?_set]
  by_cases e : i = j
  · subst e; simp [h]
  · rw [if_neg e, if_neg (fun q => e q.symm)]
theorem kf_nat_lt {j z : Int32} (h : ¬ j < 0 ∧ j < z) : j.toNatClampNeg < z.toNatClampNeg := by
  have h1 := nat_of h.1
  have h2 := h.2
  have h3 : ¬ z < 0 := fun q => h.1 (Int32.lt_trans h.2 q)
  have h4 := nat_of h3
  rw [Int32.lt_iff_toInt_lt] at h2
  omega
theorem kf_cap {z c : Int32} {n : Nat} (h : ¬ c < z) (e : c.toNatClampNeg = n) : z.toNatClampNeg ≤ n := by
  rw [← e]
  rw [Int32.lt_iff_toInt_lt] at h
  simp only [Int32.toNatClampNeg]
  omega
theorem kf_mono {z c : Int32} (h : ¬ c < z) : z.toNatClampNeg ≤ c.toNatClampNeg := kf_cap h rfl
theorem ArF.set {Z : State} {h' : Heap} {a : Addr} {k : ClassId} {z j x : Int32} {vs : List Value} {F : Nat → Int32} (A : Arv Z h' a k .int z (vs.set j.toNatClampNeg (.int x)) (.int 0)) (hl : z.toNatClampNeg ≤ vs.length) (hF : ∀ i, vs.getD i (.int 0) = .int (F i)) (hj : ¬ j < 0 ∧ j < z) : ArF Z h' a k z (updF F j.toNatClampNeg x) :=
  ⟨_, A, by simpa using hl, fun i => by
    rw [kf_getD_set _ _ _ _ _ (Nat.lt_of_lt_of_le (kf_nat_lt hj) hl), updF]
    split
    · rfl
    · exact hF i⟩
theorem ArF.copy {Z : State} {h' : Heap} {b : Addr} {k' : ClassId} {z z' : Int32} {vs vd : List Value} {F : Nat → Int32} (hF : ∀ i, vs.getD i (.int 0) = .int (F i)) (h0 : ∀ i, z.toNatClampNeg ≤ i → F i = 0) (hd : ∀ i, vd.getD i (.int 0) = .int 0) (hl : z'.toNatClampNeg ≤ vd.length) (hz : z.toNatClampNeg ≤ z'.toNatClampNeg)
    (A : Arv Z h' b k' .int z' (vd.take (0 : Int32).toNatClampNeg ++ ((List.range z.toNatClampNeg).map fun i => vs.getD ((0 : Int32).toNatClampNeg + i) (.int 0)) ++ vd.drop ((0 : Int32).toNatClampNeg + z.toNatClampNeg)) (.int 0)) : ArF Z h' b k' z' F := by
  have e0 : (0 : Int32).toNatClampNeg = 0 := rfl
  rw [e0] at A
  simp only [List.take_zero, List.nil_append, Nat.zero_add] at A
  refine ⟨_, A, ?_, fun i => ?_⟩
  · simp only [List.length_append, List.length_map, List.length_range, List.length_drop]; omega
  · rw [List.getD_eq_getElem?_getD]
    by_cases q : i < z.toNatClampNeg
    · rw [List.getElem?_append_left (by simpa using q), List.getElem?_map, List.getElem?_range q]
      exact hF i
    · rw [List.getElem?_append_right (by simpa using Nat.le_of_not_lt q)]
      simp only [List.length_map, List.length_range, List.getElem?_drop]
      have e : z.toNatClampNeg + (i - z.toNatClampNeg) = i := by omega
      rw [e, ← List.getD_eq_getElem?_getD, hd i, h0 i (Nat.le_of_not_lt q)]

variable {Z : State} {a0 : Array Value} {h : Heap} {own : String}
theorem k_ldc (X : Stand p l e R s m args below meth c T locs cells slots) (hx : p.tables.exec = Jvm.exec) (hZ : Z.Warmed39 s.vm) (hown : s.vm.findClass own = some m.cls) {pc pc' : Nat} {Ls : Array Slot} {St : List Value} {index : Nat} {v : Int32} (w : (Cond.constant own index v).before a0 Z = true) (hd : decode c.code pc = .ok (.ldc index, 2)) (hpc : pc + 2 = pc') (k : KEnds p e below s Cn Sn Q T (mkF m pc' Ls (.int v :: St))) : KEnds p e below s Cn Sn Q T (mkF m pc Ls St) := by
  subst hpc; exact k_via (X.ldcInt hx hown (mvT hZ w) (g := mkF m pc Ls St) rfl hd) k
theorem k_getF (X : Stand p l e R s m args below meth c T locs cells slots) (hx : p.tables.exec = Jvm.exec) (hZ : Z.Warmed39 s.vm) (hown : s.vm.findClass own = some m.cls) {pc pc' : Nat} {Ls : Array Slot} {St : List Value} {R0 O n d host : String} {index : Nat} (w : (Cond.fieldLink own index R0 n d).before a0 Z = true ∨ (Cond.fieldLinkNest own index R0 n d host).before a0 Z = true) (via : Via Z R0 O n d) (eT : T.heap = h) {a : Addr} {v : Value} (F : Fld Z h a O n d v) (hd : decode c.code pc = .ok (.getfield index, 3)) (hpc : pc + 3 = pc') (k : ∀ T', Stand p l e R s m args below meth c T' locs cells slots → T'.heap = h → KEnds p e below s Cn Sn Q T' (mkF m pc' Ls (v :: St))) : KEnds p e below s Cn Sn Q T (mkF m pc Ls (.ref a :: St)) := by
  subst hpc
  obtain ⟨T', X', e', st⟩ := getF X hx hZ hown w via eT F (g := mkF m pc Ls (.ref a :: St)) rfl rfl hd
  exact k_via st (k T' X' e')
theorem k_putF (X : Stand p l e R s m args below meth c T locs cells slots) (hx : p.tables.exec = Jvm.exec) (hZ : Z.Warmed39 s.vm) (hown : s.vm.findClass own = some m.cls) {pc pc' : Nat} {Ls : Array Slot} {St : List Value} {R0 O n d host C : String} {index kk : Nat} {ty : FieldType} (w : (Cond.fieldLink own index R0 n d).before a0 Z = true ∨ (Cond.fieldLinkNest own index R0 n d host).before a0 Z = true) (via : Via Z R0 O n d) (eT : T.heap = h) {a : Addr} {v old : Value} (F : Fld Z h a O n d old) (Ex : Exa Z h a C) (L : (Cond.lays C O n d).before a0 Z = true ∨ ((Cond.laysFinal C O n d).before a0 Z = true ∧ own = O ∧ meth.name = "<init>")) (wi : (Cond.instantiable C kk).before a0 Z = true) (hty : parseFieldDescriptor d = some ty) (hn : narrow ty v = v) (hf : fits ty v = true) (hd : decode c.code pc = .ok (.putfield index, 3)) (hpc : pc + 3 = pc') (k : ∀ T' h', Stand p l e R s m args below meth c T' (locs ++ [⟨a, Jvm.RoadKit.slotOf Z O n d⟩]) cells slots → T'.heap = h' → Wr h h' a (Jvm.RoadKit.slotOf Z O n d) v → KEnds p e below s Cn Sn Q T' (mkF m pc' Ls St)) : KEnds p e below s Cn Sn Q T (mkF m pc Ls (v :: .ref a :: St)) := by
  subst hpc
  obtain ⟨T', h', X', e', W', st⟩ := putF X hx hZ hown w via eT F Ex L wi hty hn hf (g := mkF m pc Ls (v :: .ref a :: St)) rfl rfl hd
  exact k_via st (k T' h' X' e' W')
theorem k_newO (X : Stand p l e R s m args below meth c T locs cells slots) (hx : p.tables.exec = Jvm.exec) (hZ : Z.Warmed39 s.vm) (hown : s.vm.findClass own = some m.cls) {pc pc' : Nat} {Ls : Array Slot} {St : List Value} {C : String} {index n : Nat} (w : (Cond.classLink own index C).before a0 Z = true) (wi : (Cond.instantiable C n).before a0 Z = true) (wz : (Cond.initialized C).before a0 Z = true) (eT : T.heap = h) (hd : decode c.code pc = .ok (.new index, 3)) (hc : cells + 1 ≤ R.cells) (hl : slots + n ≤ R.slots) (hpc : pc + 3 = pc') (k : ∀ T' h' a, a = h.size → Stand p l e R s m args below meth c T' locs (cells + 1) (slots + n) → T'.heap = h' → Ext h h' → Exa Z h' a C → (∀ {O nm d : String} {ty : FieldType}, Laid Z a0 C O nm d → parseFieldDescriptor d = some ty → Fld Z h' a O nm d (defaultValue ty)) → KEnds p e below s Cn Sn Q T' (mkF m pc' Ls (.ref a :: St))) : KEnds p e below s Cn Sn Q T (mkF m pc Ls St) := by
  subst hpc
  obtain ⟨T', h', X', e', E', A', D', -, st⟩ := newO X hx hZ hown w wi wz eT (g := mkF m pc Ls St) rfl hd hc hl
  exact k_via st (k T' h' _ rfl X' e' E' A' D')
theorem k_initO (X : Stand p l e R s m args below meth c T locs cells slots) (hx : p.tables.exec = Jvm.exec) (hZ : Z.Warmed39 s.vm) (hown : s.vm.findClass own = some m.cls) {pc pc' : Nat} {Ls : Array Slot} {St : List Value} {idx : Nat} (w1 : (Cond.methodLink own idx Lib.objectInit).before a0 Z = true) (w2 : (Cond.instanceMethod Lib.objectInit).before a0 Z = true) (w3 : (Cond.code Lib.objectInit ⟨#[0xb1]⟩ 1 none).before a0 Z = true) (eT : T.heap = h) (hsize : Ls.size = c.maxLocals) {a : Addr} (hd : decode c.code pc = .ok (.invokespecial idx, 3)) (hf : 1 ≤ R.frames) {W : Nat} (hW : (St.map fun v => v.category).sum ≤ W) (hl : W + 12 ≤ R.locals) (hpc : pc + 3 = pc') (k : ∀ T', Stand p l e R s m args below meth c T' locs cells slots → T'.heap = h → KEnds p e below s Cn Sn Q T' (mkF m pc' Ls St)) : KEnds p e below s Cn Sn Q T (mkF m pc Ls (.ref a :: St)) := by
  subst hpc
  obtain ⟨T', X', e', st⟩ := initO X hx hZ hown w1 w2 w3 eT (g := mkF m pc Ls (.ref a :: St)) rfl hsize rfl hd hf (W := W) (by show 2 * 0 + _ ≤ _; omega) hl
  exact k_via st (k T' X' e')
theorem k_newA (X : Stand p l e R s m args below meth c T locs cells slots) (hx : p.tables.exec = Jvm.exec) (hZ : Z.Warmed39 s.vm) {pc pc' : Nat} {Ls : Array Slot} {St : List Value} {aty : ArrayType} (w : (Cond.arrayClass (newarray.typeOf aty)).before a0 Z = true) (eT : T.heap = h) (hd : decode c.code pc = .ok (.newarray aty, 2)) {n : Int32} (hn : ¬ n < 0) {cap : Nat} (hcap : n.toNatClampNeg ≤ cap) (hb : cap * 8 ≤ 536870912) (hc : cells + 1 ≤ R.cells) (hl : slots + cap ≤ R.slots) (hpc : pc + 2 = pc') (k : ∀ T' h' a cA, a = h.size → Stand p l e R s m args below meth c T' locs (cells + 1) (slots + cap) → T'.heap = h' → Ext h h' → Arv Z h' a cA (newarray.typeOf aty) n (List.replicate cap (defaultValue (newarray.typeOf aty))) (defaultValue (newarray.typeOf aty)) → KEnds p e below s Cn Sn Q T' (mkF m pc' Ls (.ref a :: St))) : KEnds p e below s Cn Sn Q T (mkF m pc Ls (.int n :: St)) := by
  subst hpc
  obtain ⟨T', h', cA, X', e', E', A', st⟩ := newP X hx hZ w eT (g := mkF m pc Ls (.int n :: St)) rfl hd rfl hn hcap hb hc hl
  exact k_via st (k T' h' _ cA rfl X' e' E' ((Arv.new A' hn).pad (pad_rep [] _ cap)))
theorem k_iastore (X : Stand p l e R s m args below meth c T locs cells slots) (hx : p.tables.exec = Jvm.exec) (hZ : Z.Warmed39 s.vm) {pc pc' : Nat} {Ls : Array Slot} {St : List Value} (eT : T.heap = h) {a : Addr} {kA : ClassId} {z j : Int32} {x : Int32} {vs : List Value} {dv : Value} (F : Arv Z h a kA .int z vs dv) (hj : ¬ j < 0 ∧ j < z) {i : Nat} (hi : j.toNatClampNeg = i) (hil : i < vs.length) (hd : decode c.code pc = .ok (.iastore, 1)) (hpc : pc + 1 = pc') (k : ∀ T' h', Stand p l e R s m args below meth c T' (locs ++ [⟨a, j.toNatClampNeg⟩]) cells slots → T'.heap = h' → Wr h h' a j.toNatClampNeg (.int (x)) → Arv Z h' a kA .int z (vs.set i (.int (x))) dv → KEnds p e below s Cn Sn Q T' (mkF m pc' Ls St)) : KEnds p e below s Cn Sn Q T (mkF m pc Ls (.int x :: .int j :: .ref a :: St)) := by
  subst hpc
  obtain ⟨cl, A, q1, S, N, H, G⟩ := F
  obtain ⟨T', h', X', e', W', st⟩ := stI X hx hZ eT A (inb_of S hj) (g := mkF m pc Ls (.int x :: .int j :: .ref a :: St)) rfl rfl hd
  exact k_via st (k T' h' X' e' W' (Arv.set A q1 S N H G rfl W' i hi hil))
theorem k_iaload (X : Stand p l e R s m args below meth c T locs cells slots) (hx : p.tables.exec = Jvm.exec) (hZ : Z.Warmed39 s.vm) {pc pc' : Nat} {Ls : Array Slot} {St : List Value} (eT : T.heap = h) {a : Addr} {kA : ClassId} {z j : Int32} {v : Value} {vs : List Value} {dv : Value} (F : Arv Z h a kA .int z vs dv) (hj : ¬ j < 0 ∧ j < z) (hv : vs.getD j.toNatClampNeg dv = v) (hd : decode c.code pc = .ok (.iaload, 1)) (hpc : pc + 1 = pc') (k : KEnds p e below s Cn Sn Q T (mkF m pc' Ls (v :: St))) : KEnds p e below s Cn Sn Q T (mkF m pc Ls (.int j :: .ref a :: St)) := by
  subst hpc
  obtain ⟨cl, A, q1, S, N, H, G⟩ := F
  exact k_via (fun t hs => X.iaload hx (by rw [eT]; exact A.1) (State.isArrayOf_alike hZ.alike A.2.1) A.2.2 (inb_of S hj) (H.at (inb_of S hj) hv) (g := mkF m pc Ls (.int j :: .ref a :: St)) rfl rfl hd t hs) k
theorem k_alen (X : Stand p l e R s m args below meth c T locs cells slots) (hx : p.tables.exec = Jvm.exec) (hZ : Z.Warmed39 s.vm) {pc pc' : Nat} {Ls : Array Slot} {St : List Value} (eT : T.heap = h) {a : Addr} {kA : ClassId} {ty : FieldType} {z : Int32} {vs : List Value} {dv : Value} (F : Arv Z h a kA ty z vs dv) (hd : decode c.code pc = .ok (.arraylength, 1)) (hpc : pc + 1 = pc') (k : KEnds p e below s Cn Sn Q T (mkF m pc' Ls (.int z :: St))) : KEnds p e below s Cn Sn Q T (mkF m pc Ls (.ref a :: St)) := by
  subst hpc
  obtain ⟨cl, A, q1, S, N, H, G⟩ := F
  refine k_via (fun t hs => X.arraylength hx (by rw [eT]; exact A.1) (State.isArrayOf_alike hZ.alike A.2.1) (g := mkF m pc Ls (.ref a :: St)) rfl rfl hd t ?_) k
  rw [len_of S N]; exact hs
theorem k_newAF (X : Stand p l e R s m args below meth c T locs cells slots) (hx : p.tables.exec = Jvm.exec) (hZ : Z.Warmed39 s.vm) {pc pc' : Nat} {Ls : Array Slot} {St : List Value} (w : (Cond.arrayClass (newarray.typeOf .int)).before a0 Z = true) (eT : T.heap = h) (hd : decode c.code pc = .ok (.newarray .int, 2)) {n : Int32} (hn : ¬ n < 0) {cap : Nat} (hcap : n.toNatClampNeg ≤ cap) (hb : cap * 8 ≤ 536870912) (hc : cells + 1 ≤ R.cells) (hl : slots + cap ≤ R.slots) (hpc : pc + 2 = pc') (k : ∀ T' h' a cA, a = h.size → Stand p l e R s m args below meth c T' locs (cells + 1) (slots + cap) → T'.heap = h' → Ext h h' → ArF Z h' a cA n (fun _ => 0) → KEnds p e below s Cn Sn Q T' (mkF m pc' Ls (.ref a :: St))) : KEnds p e below s Cn Sn Q T (mkF m pc Ls (.int n :: St)) :=
  k_newA X hx hZ w eT hd hn hcap hb hc hl hpc (fun T' h' a cA q X' e' E' V => k T' h' a cA q X' e' E' (ArF.new V hcap))
theorem k_iastoreF (X : Stand p l e R s m args below meth c T locs cells slots) (hx : p.tables.exec = Jvm.exec) (hZ : Z.Warmed39 s.vm) {pc pc' : Nat} {Ls : Array Slot} {St : List Value} (eT : T.heap = h) {a : Addr} {kA : ClassId} {z j x : Int32} {F : Nat → Int32} (V : ArF Z h a kA z F) (hj : ¬ j < 0 ∧ j < z) (hd : decode c.code pc = .ok (.iastore, 1)) (hpc : pc + 1 = pc') (k : ∀ T' h', Stand p l e R s m args below meth c T' (locs ++ [⟨a, j.toNatClampNeg⟩]) cells slots → T'.heap = h' → Wr h h' a j.toNatClampNeg (.int x) → ArF Z h' a kA z (updF F j.toNatClampNeg x) → KEnds p e below s Cn Sn Q T' (mkF m pc' Ls St)) : KEnds p e below s Cn Sn Q T (mkF m pc Ls (.int x :: .int j :: .ref a :: St)) := by
  obtain ⟨vs, A, hl, hF⟩ := V
  exact k_iastore X hx hZ eT A hj rfl (Nat.lt_of_lt_of_le (kf_nat_lt hj) hl) hd hpc (fun T' h' X' e' W' V' => k T' h' X' e' W' (ArF.set V' hl hF hj))
theorem k_ialoadF (X : Stand p l e R s m args below meth c T locs cells slots) (hx : p.tables.exec = Jvm.exec) (hZ : Z.Warmed39 s.vm) {pc pc' : Nat} {Ls : Array Slot} {St : List Value} (eT : T.heap = h) {a : Addr} {kA : ClassId} {z j : Int32} {F : Nat → Int32} (V : ArF Z h a kA z F) (hj : ¬ j < 0 ∧ j < z) (hd : decode c.code pc = .ok (.iaload, 1)) (hpc : pc + 1 = pc') (k : ∀ x : Int32, x = F j.toNatClampNeg → KEnds p e below s Cn Sn Q T (mkF m pc' Ls (.int x :: St))) : KEnds p e below s Cn Sn Q T (mkF m pc Ls (.int j :: .ref a :: St)) := by
  obtain ⟨vs, A, hl, hF⟩ := V
  exact k_iaload X hx hZ eT A hj (hF _) hd hpc (k _ rfl)
theorem k_alenF (X : Stand p l e R s m args below meth c T locs cells slots) (hx : p.tables.exec = Jvm.exec) (hZ : Z.Warmed39 s.vm) {pc pc' : Nat} {Ls : Array Slot} {St : List Value} (eT : T.heap = h) {a : Addr} {kA : ClassId} {z : Int32} {F : Nat → Int32} (V : ArF Z h a kA z F) (hd : decode c.code pc = .ok (.arraylength, 1)) (hpc : pc + 1 = pc') (k : KEnds p e below s Cn Sn Q T (mkF m pc' Ls (.int z :: St))) : KEnds p e below s Cn Sn Q T (mkF m pc Ls (.ref a :: St)) := by
  obtain ⟨vs, A, hl, hF⟩ := V
  exact k_alen X hx hZ eT A hd hpc k
theorem k_acpF (X : Stand p l e R s m args below meth c T locs cells slots) (hx : p.tables.exec = Jvm.exec) (hZ : Z.Warmed39 s.vm) (hown : s.vm.findClass own = some m.cls) {pc pc' : Nat} {Ls : Array Slot} {St : List Value} {index : Nat} (w1 : (Cond.methodLink own index Jvm.Stand.acN).before a0 Z = true) (w2 : (Cond.native Jvm.Stand.acN).before a0 Z = true) (w3 : (Cond.static Jvm.Stand.acN).before a0 Z = true) (w4 : (Cond.initialized "java/lang/System").before a0 Z = true) (eT : T.heap = h) {a b : Addr} {kA kB : ClassId} {z z' : Int32} {F : Nat → Int32} (A : ArF Z h a kA z F) (B : ArF Z h b kB z' (fun _ => 0)) (h0 : ∀ i, z.toNatClampNeg ≤ i → F i = 0) (hz : ¬ z < 0 ∧ z < z') {n0 : Nat} (N : Fr n0 locs) (ge : n0 ≤ b) (hsize : Ls.size = c.maxLocals) (hd : decode c.code pc = .ok (.invokestatic index, 3)) (hf : 1 ≤ R.frames) {W : Nat} (hW : (St.map fun v => v.category).sum ≤ W) (hlo : W + (nativeFrameWords "java/lang/System" "arraycopy" 5 + 11) ≤ R.locals) (hpc : pc + 3 = pc') (k : ∀ T' h' L, Stand p l e R s m args below meth c T' L cells slots → T'.heap = h' → Fr n0 L → Keep h h' [b] → ArF Z h' b kB z' F → KEnds p e below s Cn Sn Q T' (mkF m pc' Ls St)) : KEnds p e below s Cn Sn Q T (mkF m pc Ls (.int z :: .int 0 :: .ref b :: .int 0 :: .ref a :: St)) := by
  subst hpc
  obtain ⟨vs, A1, hl, hF⟩ := A
  obtain ⟨vd, B1, hld, hFd⟩ := B
  have hzn := Nat.le_of_lt (kf_nat_lt hz)
  obtain ⟨T', h', L, X', e', N', K', V', st⟩ := cpA X hx hZ hown w1 w2 w3 w4 eT A1 B1 (Or.inl ⟨rfl, rfl⟩) (sp := 0) (dp := 0) (nn := z) (by decide) (by decide) hz.1 (by show 0 + _ ≤ _; omega) (by show 0 + _ ≤ _; omega) rfl (by show 0 + _ ≤ _; omega) N ge (g := mkF m pc Ls (.int z :: .int 0 :: .ref b :: .int 0 :: .ref a :: St)) rfl hsize rfl hd hf (by show 2 * 0 + _ ≤ _; omega) hlo
  exact k_via st (k T' h' L X' e' N' K' (ArF.copy hF h0 hFd hld hzn V'))
theorem k_callS (X : Stand p l e R s m args below meth c T locs cells slots) (hx : p.tables.exec = Jvm.exec) (hZ : Z.Warmed39 s.vm) (hown : s.vm.findClass own = some m.cls) {pc pc' : Nat} {Ls : Array Slot} {St : List Value} {y : MethodName} {bytes : ByteArray} {maxL : Nat} {ret : Option FieldType} {rm : Room} {index W : Nat} {as' : Array Value} {Q' : Option Value → Heap → List Loc → Prop} (w1 : (Cond.methodLink own index y).before a0 Z = true) (w2 : (Cond.static y).before a0 Z = true) (w3 : (Cond.initialized y.cls).before a0 Z = true) (w4 : (Cond.code y bytes maxL ret).before a0 Z = true) (hy : y.cls ≠ "java/lang/invoke/MethodHandle" ∧ y.cls ≠ "java/lang/invoke/VarHandle") (hM : MetFree l y (head1 [Cond.code y bytes maxL ret] rm) (fun a U => a = as' ∧ Z.Warmed39 U.vm ∧ U.heap = h) (fun _ _ _ _ _ => True) (fun _ U o U' => ∃ v L, o = .returned v ∧ Q' v U'.heap L ∧ FrameEnd U o U' L rm.cells rm.slots)) (hf : rm.frames + 1 ≤ R.frames) (hl : W + (maxL + 11) + rm.locals ≤ R.locals) (eT : T.heap = h) (hsize : Ls.size = c.maxLocals) {argsL rest : List Value} (hlen : ∀ sig, parseMethodDescriptor y.desc = some sig → argsL.length = sig.parameters.length) (hst : St = argsL.reverse ++ rest) (hW : (rest.map fun v => v.category).sum ≤ W) (has : argsL.toArray = as') (hd : decode c.code pc = .ok (.invokestatic index, 3)) (hce : cells + rm.cells ≤ R.cells) (hsl : slots + rm.slots ≤ R.slots) (hpc : pc + 3 = pc') (k : ∀ T' L v, Stand p l e R s m args below meth c T' (locs ++ L) (cells + rm.cells) (slots + rm.slots) → Q' v T'.heap L → KEnds p e below s Cn Sn Q T' (mkF m pc' Ls (v.toList ++ rest))) : KEnds p e below s Cn Sn Q T (mkF m pc Ls St) := by
  subst hpc
  obtain ⟨v, _, ⟨T', L', k', n'⟩, -, X', ⟨Lc, hQ, l', y', z'⟩, st⟩ := Jvm.LawKit.callS X hx (y := y) hown (mvT hZ w1) (mvT hZ w2) (mvT hZ w3) (mvT hZ w4) hy (backOf (W := W) hM hZ w4 w3 hf hl) (g := mkF m pc Ls St) rfl hsize hlen hst (by show 2 * 0 + _ ≤ _; omega) hd (fun _ _ => ⟨has, eT, hce, hsl⟩)
  dsimp only [Pt.U, Pt.locs, Pt.cells, Pt.slots] at X' l' y' z' st hQ
  subst l' y' z'
  exact k_via st (k T' Lc v X' hQ)
theorem k_callV (X : Stand p l e R s m args below meth c T locs cells slots) (hx : p.tables.exec = Jvm.exec) (hZ : Z.Warmed39 s.vm) (hown : s.vm.findClass own = some m.cls) {pc pc' : Nat} {Ls : Array Slot} {St : List Value} {y : MethodName} {bytes : ByteArray} {maxL : Nat} {ret : Option FieldType} {rm : Room} {index W : Nat} {as' : Array Value} {Q' : Option Value → Heap → List Loc → Prop} {C : String} {a : Addr} (w1 : (Cond.methodLink own index y).before a0 Z = true) (w2 : (Cond.declares y).before a0 Z = true) (w3 : (Cond.selects C y y).before a0 Z = true) (w5 : (Cond.instanceMethod y).before a0 Z = true) (w6 : (Cond.initialized y.cls).before a0 Z = true) (w4 : (Cond.code y bytes maxL ret).before a0 Z = true) (hy : y.cls ≠ "java/lang/invoke/MethodHandle" ∧ y.cls ≠ "java/lang/invoke/VarHandle") (Ex : Exa Z h a C) (hM : MetFree l y (head1 [Cond.code y bytes maxL ret] rm) (fun a U => a = as' ∧ Z.Warmed39 U.vm ∧ U.heap = h) (fun _ _ _ _ _ => True) (fun _ U o U' => ∃ v L, o = .returned v ∧ Q' v U'.heap L ∧ FrameEnd U o U' L rm.cells rm.slots)) (hf : rm.frames + 1 ≤ R.frames) (hl : W + (maxL + 11) + rm.locals ≤ R.locals) (eT : T.heap = h) (hsize : Ls.size = c.maxLocals) {argsL rest : List Value} (hlen : ∀ sig, parseMethodDescriptor y.desc = some sig → argsL.length = sig.parameters.length) (hst : St = argsL.reverse ++ .ref a :: rest) (hW : (rest.map fun v => v.category).sum ≤ W) (has : (.ref a :: argsL).toArray = as') (hd : decode c.code pc = .ok (.invokevirtual index, 3)) (hce : cells + rm.cells ≤ R.cells) (hsl : slots + rm.slots ≤ R.slots) (hpc : pc + 3 = pc') (k : ∀ T' L v, Stand p l e R s m args below meth c T' (locs ++ L) (cells + rm.cells) (slots + rm.slots) → Q' v T'.heap L → KEnds p e below s Cn Sn Q T' (mkF m pc' Ls (v.toList ++ rest))) : KEnds p e below s Cn Sn Q T (mkF m pc Ls St) := by
  subst hpc
  obtain ⟨cq, kq, qa, qb, qc⟩ := isOf hZ eT Ex
  obtain ⟨v, _, ⟨T', L', k', n'⟩, -, X', ⟨Lc, hQ, l', y', z'⟩, st⟩ := X.virtualBack hx (y := y) (z := y) hown (mvT hZ w1) (mvT hZ w2) (notFace_of_selects (args := #[]) (mvT hZ w3)) (mvT hZ w3) (mvT hZ w5) hy (backOf (W := W) hM hZ w4 w6 hf hl) qa qc (g := mkF m pc Ls St) rfl hsize (Steps.refl _) hlen hst (by show 2 * 0 + _ ≤ _; omega) hd (fun _ _ => ⟨has, eT, hce, hsl⟩)
  dsimp only [Pt.U, Pt.locs, Pt.cells, Pt.slots] at X' l' y' z' st hQ
  subst l' y' z'
  exact k_via (fun t h => st.trans h) (k T' Lc v X' hQ)
theorem k_callI (X : Stand p l e R s m args below meth c T locs cells slots) (hx : p.tables.exec = Jvm.exec) (hZ : Z.Warmed39 s.vm) (hown : s.vm.findClass own = some m.cls) {pc pc' : Nat} {Ls : Array Slot} {St : List Value} {y : MethodName} {bytes : ByteArray} {maxL : Nat} {ret : Option FieldType} {rm : Room} {index W : Nat} {as' : Array Value} {Q' : Option Value → Heap → List Loc → Prop} {a : Addr} (hin : y.name = "<init>") (w1 : (Cond.methodLink own index y).before a0 Z = true) (w5 : (Cond.instanceMethod y).before a0 Z = true) (w6 : (Cond.initialized y.cls).before a0 Z = true) (w4 : (Cond.code y bytes maxL none).before a0 Z = true) (hr : ret = none) (hy : y.cls ≠ "java/lang/invoke/MethodHandle" ∧ y.cls ≠ "java/lang/invoke/VarHandle") (hM : MetFree l y (head1 [Cond.code y bytes maxL ret] rm) (fun a U => a = as' ∧ Z.Warmed39 U.vm ∧ U.heap = h) (fun _ _ _ _ _ => True) (fun _ U o U' => ∃ v L, o = .returned v ∧ Q' v U'.heap L ∧ FrameEnd U o U' L rm.cells rm.slots)) (hf : rm.frames + 1 ≤ R.frames) (hl : W + (maxL + 11) + rm.locals ≤ R.locals) (eT : T.heap = h) (hsize : Ls.size = c.maxLocals) {argsL rest : List Value} (hlen : ∀ sig, parseMethodDescriptor y.desc = some sig → argsL.length = sig.parameters.length) (hst : St = argsL.reverse ++ .ref a :: rest) (hW : (rest.map fun v => v.category).sum ≤ W) (has : (.ref a :: argsL).toArray = as') (hd : decode c.code pc = .ok (.invokespecial index, 3)) (hce : cells + rm.cells ≤ R.cells) (hsl : slots + rm.slots ≤ R.slots) (hpc : pc + 3 = pc') (k : ∀ T' L v, Stand p l e R s m args below meth c T' (locs ++ L) (cells + rm.cells) (slots + rm.slots) → Q' v T'.heap L → KEnds p e below s Cn Sn Q T' (mkF m pc' Ls (v.toList ++ rest))) : KEnds p e below s Cn Sn Q T (mkF m pc Ls St) := by
  subst hpc hr
  obtain ⟨v, _, ⟨T', L', k', n'⟩, -, X', ⟨Lc, hQ, l', y', z'⟩, st⟩ := X.specialBack hx (y := y) hin hown (mvT hZ w1) (mvT hZ w5) (mvT hZ w4) hy (backOf (W := W) hM hZ w4 w6 hf hl) (g := mkF m pc Ls St) rfl hsize (Steps.refl _) (a := a) hlen hst (by show 2 * 0 + _ ≤ _; omega) hd (fun _ _ => ⟨has, eT, hce, hsl⟩)
  dsimp only [Pt.U, Pt.locs, Pt.cells, Pt.slots] at X' l' y' z' st hQ
  subst l' y' z'
  exact k_via (fun t h => st.trans h) (k T' Lc v X' hQ)
theorem k_callP (X : Stand p l e R s m args below meth c T locs cells slots) (hx : p.tables.exec = Jvm.exec) (hZ : Z.Warmed39 s.vm) (hown : s.vm.findClass own = some m.cls) {pc pc' : Nat} {Ls : Array Slot} {St : List Value} {y : MethodName} {bytes : ByteArray} {maxL : Nat} {ret : Option FieldType} {rm : Room} {index W : Nat} {as' : Array Value} {Q' : Option Value → Heap → List Loc → Prop} {C : String} {a : Addr} {nn : Nat} (w1 : (Cond.methodLink own index y).before a0 Z = true) (w5 : (Cond.instanceMethod y).before a0 Z = true) (wp : (Cond.privateMethod y).before a0 Z = true) (wi : (Cond.instantiable y.cls nn).before a0 Z = true) (w6 : (Cond.initialized y.cls).before a0 Z = true) (w4 : (Cond.code y bytes maxL ret).before a0 Z = true) (hy : y.cls ≠ "java/lang/invoke/MethodHandle" ∧ y.cls ≠ "java/lang/invoke/VarHandle") (Ex : Exa Z h a C) (hM : MetFree l y (head1 [Cond.code y bytes maxL ret] rm) (fun a U => a = as' ∧ Z.Warmed39 U.vm ∧ U.heap = h) (fun _ _ _ _ _ => True) (fun _ U o U' => ∃ v L, o = .returned v ∧ Q' v U'.heap L ∧ FrameEnd U o U' L rm.cells rm.slots)) (hf : rm.frames + 1 ≤ R.frames) (hl : W + (maxL + 11) + rm.locals ≤ R.locals) (eT : T.heap = h) (hsize : Ls.size = c.maxLocals) {argsL rest : List Value} (hlen : ∀ sig, parseMethodDescriptor y.desc = some sig → argsL.length = sig.parameters.length) (hst : St = argsL.reverse ++ .ref a :: rest) (hW : (rest.map fun v => v.category).sum ≤ W) (has : (.ref a :: argsL).toArray = as') (hd : decode c.code pc = .ok (.invokevirtual index, 3)) (hce : cells + rm.cells ≤ R.cells) (hsl : slots + rm.slots ≤ R.slots) (hpc : pc + 3 = pc') (k : ∀ T' L v, Stand p l e R s m args below meth c T' (locs ++ L) (cells + rm.cells) (slots + rm.slots) → Q' v T'.heap L → KEnds p e below s Cn Sn Q T' (mkF m pc' Ls (v.toList ++ rest))) : KEnds p e below s Cn Sn Q T (mkF m pc Ls St) := by
  subst hpc
  have hpriv : s.PrivateAt y := Cond.privateMethod_at (mvP hZ wp (args := args))
  obtain ⟨cc, kk, hc, hk, -, hni, -⟩ := Cond.instantiable_spec ((mvT hZ wi (args := args) : (Cond.instantiable y.cls nn).before args s = true))
  have hsel := selects_self_of_private hc hk (by cases q : kk.isInterface <;> simp_all) hpriv (mvT hZ w5 (args := args)) hy
  obtain ⟨cq, q1, q2⟩ := Ex.cell
  obtain ⟨v, _, ⟨T', L', k', n'⟩, -, X', ⟨Lc, hQ, l', y', z'⟩, st⟩ := X.privateBack hx (y := y) hown (mvT hZ w1) (mvT hZ w5) hsel hpriv (mvT hZ w4) hy (backOf (W := W) hM hZ w4 w6 hf hl) (g := mkF m pc Ls St) rfl hsize (Steps.refl _) (a := a) (by rw [eT]; exact q1) q2 hlen hst (by show 2 * 0 + _ ≤ _; omega) hd (fun _ _ => ⟨has, eT, hce, hsl⟩)
  dsimp only [Pt.U, Pt.locs, Pt.cells, Pt.slots] at X' l' y' z' st hQ
  subst l' y' z'
  exact k_via (fun t h => st.trans h) (k T' Lc v X' hQ)
end
end Jvm.OwnK
namespace Jvm.Pilot.@@N@@
open Jvm Jvm.ClassFile Sem Op Lib Jvm.Free Jvm.Stand Jvm.LawKit Jvm.RoadKit Jvm.OwnK Bundle Jvm.Pilot.@@N@@.Jvm.D
theorem d1_0 : decode prog_36_method_1_code 0 = .ok (.aload_n 0, 1) := by decide +kernel
theorem d1_1 : decode prog_36_method_1_code 1 = .ok (.invokespecial 1, 3) := by decide +kernel
theorem d1_4 : decode prog_36_method_1_code 4 = .ok (.aload_n 0, 1) := by decide +kernel
theorem d1_5 : decode prog_36_method_1_code 5 = .ok (.iconst 0, 1) := by decide +kernel
theorem d1_6 : decode prog_36_method_1_code 6 = .ok (.newarray .int, 2) := by decide +kernel
theorem d1_8 : decode prog_36_method_1_code 8 = .ok (.putfield 7, 3) := by decide +kernel
theorem d1_11 : decode prog_36_method_1_code 11 = .ok (.aload_n 0, 1) := by decide +kernel
theorem d1_12 : decode prog_36_method_1_code 12 = .ok (.aload_n 1, 1) := by decide +kernel
theorem d1_13 : decode prog_36_method_1_code 13 = .ok (.putfield 13, 3) := by decide +kernel
theorem d1_16 : decode prog_36_method_1_code 16 = .ok (.return_, 1) := by decide +kernel
abbrev R1_27 : Room := { frames := 1, cells := 1, slots := 0, locals := 12 }
def Q1_27 (Z : State) (a1 : Addr) (h0 : Heap) (n0 : Nat) (v : Option Value) (h : Heap) (L : List Loc) : Prop := Fr n0 L ∧ ((∃ (b29 : Addr) (k29 : ClassId), v = none ∧ Exa Z h a1 "com/example/dendrotick/dendrotick/VectorClock" ∧ Fld Z h a1 "com/example/dendrotick/dendrotick/VectorClock" "entries" "[I" (.ref b29) ∧ Fld Z h a1 "com/example/dendrotick/dendrotick/VectorClock" "work" "Lcom/example/dendrotick/dendrotick/ClockWork;" .null ∧ Fld Z h a1 "com/example/dendrotick/dendrotick/VectorClock" "size" "I" (.int (0 : Int32)) ∧ ArF Z h b29 k29 (0 : Int32) (fun _ => 0) ∧ n0 ≤ b29 ∧ a1 < b29 ∧ n0 ≤ h.size))
theorem ef1_27 (m : MethodId) (x0 : Addr) : entryFrame m #[(.ref x0), .null] 2 = mkF m 0 #[.val (.ref x0), .val .null] [] := by first | (simp [entryFrame, mkF, argsToLocals, Value.category]; done) | rfl
theorem pn_0 : plainName "com/example/dendrotick/dendrotick/VectorClock" = true := by first | (simp [plainName, overriddenIn]; done) | decide +kernel
set_option maxRecDepth 65536 in
set_option maxHeartbeats 40000000 in
theorem rm1_27 (l : Launch) (Z : State) (a0 : Array Value) (hw : ∀ d ∈ tables_1, d.before a0 Z = true) (ws : List Jvm.Cond) (a1 : Addr) (h0 : Heap) (n0 : Nat) (Z0 : n0 ≤ h0.size) (F0_0 : Exa Z h0 a1 "com/example/dendrotick/dendrotick/VectorClock") (F0_1 : Fld Z h0 a1 "com/example/dendrotick/dendrotick/VectorClock" "entries" "[I" .null) (F0_2 : Fld Z h0 a1 "com/example/dendrotick/dendrotick/VectorClock" "work" "Lcom/example/dendrotick/dendrotick/ClockWork;" .null) (F0_3 : Fld Z h0 a1 "com/example/dendrotick/dendrotick/VectorClock" "size" "I" (.int (0 : Int32))) (g_a1 : n0 ≤ a1) :
    MetFree l (⟨"com/example/dendrotick/dendrotick/VectorClock", "<init>", "(Lcom/example/dendrotick/dendrotick/ClockWork;)V"⟩ : MethodName) (head1 (Jvm.Cond.code (⟨"com/example/dendrotick/dendrotick/VectorClock", "<init>", "(Lcom/example/dendrotick/dendrotick/ClockWork;)V"⟩ : MethodName) prog_36_method_1_code 2 none :: ws) R1_27) (fun a U => a = #[(.ref a1), .null] ∧ Z.Warmed39 U.vm ∧ U.heap = h0) (fun _ _ _ _ _ => True) (fun _ U o U' => ∃ v L, o = .returned v ∧ Q1_27 Z a1 h0 n0 v U'.heap L ∧ FrameEnd U o U' L R1_27.cells R1_27.slots) := by
 refine MetFree.of_bodySF (plainFor_of_name pn_0) hisR ?_
 intro p e s m args below meth c s₁ Bd hml0 hP hK
 obtain ⟨rfl, hZ, hh⟩ := hP
 have hx := Bd.exec
 have hby := Bd.bytes
 have hml : c.maxLocals = 2 := hml0
 have hlk : meth.locks = false := Bd.notSynchronized
 have hown : s.vm.findClass "com/example/dendrotick/dendrotick/VectorClock" = some m.cls := findClass_of_methodNamed Bd.named
 have hnm := (name_of_methodNamed Bd.named Bd.method).1
 have X0 : Stand p l e R1_27 s m #[(.ref a1), .null] below meth c s₁ [] 0 0 := Stand.of_body Bd
 have e0 : s₁.heap = h0 := by rw [← hh, Bd.state]; rfl
 have N0 := Fr.nil n0
 rw [ef1_27 m a1]
 show KEnds p e below s R1_27.cells R1_27.slots (Q1_27 Z a1 h0 n0) s₁ (mkF m 0 #[rv a1, .val .null] [])
 refine k_aloadN X0 hx (hb hby d1_0) rfl rfl (pc' := 1) rfl ?_
 refine k_initO X0 hx hZ hown (hw _ (List.mem_of_getElem? (i := 7) rfl)) (hw _ (List.mem_of_getElem? (i := 8) rfl)) (hw _ (List.mem_of_getElem? (i := 9) rfl)) e0 (by rw [hml]; rfl) (hb hby d1_1) (by decide) (W := 0) (by decide) (by decide) (pc' := 4) rfl (fun T28 X28 e28 => ?_)
 refine k_aloadN X28 hx (hb hby d1_4) rfl rfl (pc' := 5) rfl ?_
 refine k_iconst X28 hx (hb hby d1_5) (pc' := 6) rfl (z := (0 : Int32)) rfl ?_
 refine k_newAF X28 hx hZ (hw _ (List.mem_of_getElem? (i := 10) rfl)) e28 (hb hby d1_6) (by decide) (cap := 0) (by decide) (by decide) (by decide) (by decide) (pc' := 8) rfl (fun T29 h29 b29 k29 g29 X29 e29 E29 V29 => ?_)
 have g_b29 : n0 ≤ b29 := Nat.le_trans Z0 (Nat.le_of_eq g29.symm)
 have lt_b29 : a1 < b29 := Nat.lt_of_lt_of_le F0_0.lt (Nat.le_of_eq g29.symm)
 have Z29 : n0 ≤ h29.size := Nat.le_trans Z0 E29.1
 have F30 := (F0_1.ext E29)
 have F31 := (F0_0.ext E29)
 refine k_putF X29 hx hZ hown (host := "") (Or.inl (hw _ (List.mem_of_getElem? (i := 11) rfl))) Via.refl e29 F30 F31 (Or.inl (hw _ (List.mem_of_getElem? (i := 12) rfl))) (hw _ (List.mem_of_getElem? (i := 2) rfl)) (ty := (.array .int)) (by decide) rfl rfl (hb hby d1_8) (pc' := 11) rfl (fun T32 h32 X32 e32 W32 => ?_)
 have Fw32 : Fld Z h32 a1 "com/example/dendrotick/dendrotick/VectorClock" "entries" "[I" (.ref b29) := F30.same W32
 have N32 := Fr.snoc X32 N0 g_a1
 have Z32 : n0 ≤ h32.size := Nat.le_trans Z29 (Nat.le_of_eq W32.size.symm)
 refine k_aloadN X32 hx (hb hby d1_11) rfl rfl (pc' := 12) rfl ?_
 refine k_aloadN X32 hx (hb hby d1_12) rfl rfl (pc' := 13) rfl ?_
 have F33 := ((F0_2.ext E29).other W32 (Or.inr (slot_ne (Or.inr (hw _ (List.mem_of_getElem? (i := 14) rfl))) (Or.inl (hw _ (List.mem_of_getElem? (i := 12) rfl))) (by decide) (t := (.object "com/example/dendrotick/dendrotick/ClockWork")) (t' := (.array .int)) (by decide) (by decide))))
 have F34 := (F31.wr W32)
 refine k_putF X32 hx hZ hown (host := "") (Or.inl (hw _ (List.mem_of_getElem? (i := 13) rfl))) Via.refl e32 F33 F34 (Or.inr ⟨(hw _ (List.mem_of_getElem? (i := 14) rfl)), rfl, hnm⟩) (hw _ (List.mem_of_getElem? (i := 2) rfl)) (ty := (.object "com/example/dendrotick/dendrotick/ClockWork")) (by decide) rfl rfl (hb hby d1_13) (pc' := 16) rfl (fun T35 h35 X35 e35 W35 => ?_)
 have Fw35 : Fld Z h35 a1 "com/example/dendrotick/dendrotick/VectorClock" "work" "Lcom/example/dendrotick/dendrotick/ClockWork;" .null := F33.same W35
 have N35 := Fr.snoc X35 N32 g_a1
 have Z35 : n0 ≤ h35.size := Nat.le_trans Z32 (Nat.le_of_eq W35.size.symm)
 have F36 := (F34.wr W35)
 have F37 := (Fw32.other W35 (Or.inr (slot_ne (Or.inl (hw _ (List.mem_of_getElem? (i := 12) rfl))) (Or.inr (hw _ (List.mem_of_getElem? (i := 14) rfl))) (by decide) (t := (.array .int)) (t' := (.object "com/example/dendrotick/dendrotick/ClockWork")) (by decide) (by decide))))
 have F38 := (((F0_3.ext E29).other W32 (Or.inr (slot_ne (Or.inl (hw _ (List.mem_of_getElem? (i := 21) rfl))) (Or.inl (hw _ (List.mem_of_getElem? (i := 12) rfl))) (by decide) (t := .int) (t' := (.array .int)) (by decide) (by decide)))).other W35 (Or.inr (slot_ne (Or.inl (hw _ (List.mem_of_getElem? (i := 21) rfl))) (Or.inr (hw _ (List.mem_of_getElem? (i := 14) rfl))) (by decide) (t := .int) (t' := (.object "com/example/dendrotick/dendrotick/ClockWork")) (by decide) (by decide))))
 have F39 := ((V29.other W32 (Ne.symm (Nat.ne_of_lt lt_b29))).other W35 (Ne.symm (Nat.ne_of_lt lt_b29)))
 exact k_ret X35 hx Bd.returns (hb hby d1_16) hlk (by decide) (by decide) (by rw [e35]; exact ⟨N35, ⟨b29, k29, rfl, F36, F37, Fw35, F38, F39, g_b29, lt_b29, Z35⟩⟩)
theorem pd_0 : parseMethodDescriptor "(Lcom/example/dendrotick/dendrotick/ClockWork;)V" = some ⟨[(.object "com/example/dendrotick/dendrotick/ClockWork")], none⟩ := by decide +kernel
theorem d3_0 : decode prog_36_method_2_code 0 = .ok (.iload_n 1, 1) := by decide +kernel
theorem d3_1 : decode prog_36_method_2_code 1 = .ok (.aload_n 0, 1) := by decide +kernel
theorem d3_2 : decode prog_36_method_2_code 2 = .ok (.getfield 17, 3) := by decide +kernel
theorem d3_5 : decode prog_36_method_2_code 5 = .ok (.if_icmp .ge 12, 3) := by decide +kernel
theorem d3_17 : decode prog_36_method_2_code 17 = .ok (.iconst 0, 1) := by decide +kernel
theorem d3_18 : decode prog_36_method_2_code 18 = .ok (.ireturn, 1) := by decide +kernel
abbrev R3_56 : Room := { frames := 0, cells := 0, slots := 0, locals := 0 }
def Q3_56 (Z : State) (a1 : Addr) (p2 : Int32) (a3 : Addr) (k4 : ClassId) (F5 : Nat → Int32) (h0 : Heap) (n0 : Nat) (v : Option Value) (h : Heap) (L : List Loc) : Prop := Fr n0 L ∧ h = h0 ∧ ∃ r : Int32, v = some (.int r) ∧ r = F5 p2.toNatClampNeg
theorem ef3_56 (m : MethodId) (x0 : Addr) (x1 : Int32) : entryFrame m #[(.ref x0), (.int x1)] 2 = mkF m 0 #[.val (.ref x0), .val (.int x1)] [] := by first | (simp [entryFrame, mkF, argsToLocals, Value.category]; done) | rfl
set_option maxRecDepth 65536 in
set_option maxHeartbeats 40000000 in
theorem rm3_56 (l : Launch) (Z : State) (a0 : Array Value) (hw : ∀ d ∈ tables_1, d.before a0 Z = true) (ws : List Jvm.Cond) (a1 : Addr) (p2 : Int32) (a3 : Addr) (k4 : ClassId) (F5 : Nat → Int32) (h0 : Heap) (n0 : Nat) (Z0 : n0 ≤ h0.size) (F0_0 : Exa Z h0 a1 "com/example/dendrotick/dendrotick/VectorClock") (F0_1 : Fld Z h0 a1 "com/example/dendrotick/dendrotick/VectorClock" "entries" "[I" (.ref a3)) (F0_2 : Fld Z h0 a1 "com/example/dendrotick/dendrotick/VectorClock" "work" "Lcom/example/dendrotick/dendrotick/ClockWork;" .null) (F0_3 : Fld Z h0 a1 "com/example/dendrotick/dendrotick/VectorClock" "size" "I" (.int (0 : Int32))) (F0_4 : ArF Z h0 a3 k4 (0 : Int32) F5) (lt0_0 : a1 < a3) (hp0 : ¬ p2 < (0 : Int32)) (hp1 : ¬ (0 : Int32) < (0 : Int32)) (HZ : ∀ i, (0 : Int32).toNatClampNeg ≤ i → F5 i = 0) :
    MetFree l (⟨"com/example/dendrotick/dendrotick/VectorClock", "get", "(I)I"⟩ : MethodName) (head1 (Jvm.Cond.code (⟨"com/example/dendrotick/dendrotick/VectorClock", "get", "(I)I"⟩ : MethodName) prog_36_method_2_code 2 (some .int) :: ws) R3_56) (fun a U => a = #[(.ref a1), (.int p2)] ∧ Z.Warmed39 U.vm ∧ U.heap = h0) (fun _ _ _ _ _ => True) (fun _ U o U' => ∃ v L, o = .returned v ∧ Q3_56 Z a1 p2 a3 k4 F5 h0 n0 v U'.heap L ∧ FrameEnd U o U' L R3_56.cells R3_56.slots) := by
 refine MetFree.of_bodySF (plainFor_of_name pn_0) hisR ?_
 intro p e s m args below meth c s₁ Bd hml0 hP hK
 obtain ⟨rfl, hZ, hh⟩ := hP
 have hx := Bd.exec
 have hby := Bd.bytes
 have hml : c.maxLocals = 2 := hml0
 have hlk : meth.locks = false := Bd.notSynchronized
 have hown : s.vm.findClass "com/example/dendrotick/dendrotick/VectorClock" = some m.cls := findClass_of_methodNamed Bd.named
 have hnm := (name_of_methodNamed Bd.named Bd.method).1
 have X0 : Stand p l e R3_56 s m #[(.ref a1), (.int p2)] below meth c s₁ [] 0 0 := Stand.of_body Bd
 have e0 : s₁.heap = h0 := by rw [← hh, Bd.state]; rfl
 have N0 := Fr.nil n0
 rw [ef3_56 m a1 p2]
 show KEnds p e below s R3_56.cells R3_56.slots (Q3_56 Z a1 p2 a3 k4 F5 h0 n0) s₁ (mkF m 0 #[rv a1, iv p2] [])
 refine k_iloadN X0 hx (hb hby d3_0) rfl (pc' := 1) rfl ?_
 refine k_aloadN X0 hx (hb hby d3_1) rfl rfl (pc' := 2) rfl ?_
 refine k_getF X0 hx hZ hown (host := "") (Or.inl (hw _ (List.mem_of_getElem? (i := 20) rfl))) Via.refl e0 F0_3 (hb hby d3_2) (pc' := 5) rfl (fun T57 X57 e57 => ?_)
 refine k_icmp_ge X57 hx (hb hby d3_5) (pn := 8) rfl (py := 17) (by decide) (fun _ => ?_) (fun hc => absurd hc hp0)
 refine k_iconst X57 hx (hb hby d3_17) (pc' := 18) rfl (z := (0 : Int32)) rfl ?_
 refine k_retI X57 hx Bd.returns (hb hby d3_18) hlk (by decide) (by decide) ⟨N0, e57, (0 : Int32), rfl, ?_⟩
 exact (HZ _ (kf_mono hp0)).symm
theorem pd_1 : parseMethodDescriptor "(I)I" = some ⟨[.int], some .int⟩ := by decide +kernel
theorem d4_0 : decode method_3_code 0 = .ok (.iconst 0, 1) := by decide +kernel
theorem d4_1 : decode method_3_code 1 = .ok (.istore 5, 2) := by decide +kernel
theorem d4_3 : decode method_3_code 3 = .ok (.iload_n 0, 1) := by decide +kernel
theorem d4_4 : decode method_3_code 4 = .ok (.iload_n 1, 1) := by decide +kernel
theorem d4_5 : decode method_3_code 5 = .ok (.if_icmp .ne 9, 3) := by decide +kernel
theorem d4_14 : decode method_3_code 14 = .ok (.iload_n 0, 1) := by decide +kernel
theorem d4_15 : decode method_3_code 15 = .ok (.iload_n 3, 1) := by decide +kernel
theorem d4_16 : decode method_3_code 16 = .ok (.if_icmp .ne 10, 3) := by decide +kernel
theorem d4_26 : decode method_3_code 26 = .ok (.iload 5, 2) := by decide +kernel
theorem d4_28 : decode method_3_code 28 = .ok (.ireturn, 1) := by decide +kernel
theorem d4_19 : decode method_3_code 19 = .ok (.iload 5, 2) := by decide +kernel
theorem d4_21 : decode method_3_code 21 = .ok (.iload 4, 2) := by decide +kernel
theorem d4_23 : decode method_3_code 23 = .ok (.iadd, 1) := by decide +kernel
theorem d4_24 : decode method_3_code 24 = .ok (.istore 5, 2) := by decide +kernel
theorem d4_8 : decode method_3_code 8 = .ok (.iload 5, 2) := by decide +kernel
theorem d4_10 : decode method_3_code 10 = .ok (.iload_n 2, 1) := by decide +kernel
theorem d4_11 : decode method_3_code 11 = .ok (.iadd, 1) := by decide +kernel
theorem d4_12 : decode method_3_code 12 = .ok (.istore 5, 2) := by decide +kernel
abbrev R4_61 : Room := { frames := 0, cells := 0, slots := 0, locals := 0 }
def f4_61 (p1 : Int32) (p2 : Int32) (p3 : Int32) : Int32 := (if p1 = p2 then (if p1 = p3 then (0 : Int32) else (0 : Int32)) else (if p1 = p3 then (0 : Int32) else (0 : Int32)))

def Q4_61 (Z : State) (p1 : Int32) (p2 : Int32) (p3 : Int32) (h0 : Heap) (n0 : Nat) (v : Option Value) (h : Heap) (L : List Loc) : Prop := Fr n0 L ∧ h = h0 ∧ v = some (.int (f4_61 p1 p2 p3))
theorem ef4_61 (m : MethodId) (x0 : Int32) (x1 : Int32) (x3 : Int32) : entryFrame m #[(.int x0), (.int x1), (.int (0 : Int32)), (.int x3), (.int (0 : Int32))] 6 = mkF m 0 #[.val (.int x0), .val (.int x1), .val (.int (0 : Int32)), .val (.int x3), .val (.int (0 : Int32)), .unset] [] := by first | (simp [entryFrame, mkF, argsToLocals, Value.category]; done) | rfl
theorem pn_1 : plainName "com/example/dendrotick/dendrotick/VectorClockGetPinLaw" = true := by first | (simp [plainName, overriddenIn]; done) | decide +kernel
set_option maxRecDepth 65536 in
set_option maxHeartbeats 40000000 in
theorem rm4_61 (l : Launch) (Z : State) (a0 : Array Value) (hw : ∀ d ∈ tables_1, d.before a0 Z = true) (ws : List Jvm.Cond) (p1 : Int32) (p2 : Int32) (p3 : Int32) (h0 : Heap) (n0 : Nat) (Z0 : n0 ≤ h0.size)  :
    MetFree l (⟨"com/example/dendrotick/dendrotick/VectorClockGetPinLaw", "expected", "(IIIII)I"⟩ : MethodName) (head1 (Jvm.Cond.code (⟨"com/example/dendrotick/dendrotick/VectorClockGetPinLaw", "expected", "(IIIII)I"⟩ : MethodName) method_3_code 6 (some .int) :: ws) R4_61) (fun a U => a = #[(.int p1), (.int p2), (.int (0 : Int32)), (.int p3), (.int (0 : Int32))] ∧ Z.Warmed39 U.vm ∧ U.heap = h0) (fun _ _ _ _ _ => True) (fun _ U o U' => ∃ v L, o = .returned v ∧ Q4_61 Z p1 p2 p3 h0 n0 v U'.heap L ∧ FrameEnd U o U' L R4_61.cells R4_61.slots) := by
 refine MetFree.of_bodySF (plainFor_of_name pn_1) hisR ?_
 intro p e s m args below meth c s₁ Bd hml0 hP hK
 obtain ⟨rfl, hZ, hh⟩ := hP
 have hx := Bd.exec
 have hby := Bd.bytes
 have hml : c.maxLocals = 6 := hml0
 have hlk : meth.locks = false := Bd.notSynchronized
 have hown : s.vm.findClass "com/example/dendrotick/dendrotick/VectorClockGetPinLaw" = some m.cls := findClass_of_methodNamed Bd.named
 have hnm := (name_of_methodNamed Bd.named Bd.method).1
 have X0 : Stand p l e R4_61 s m #[(.int p1), (.int p2), (.int (0 : Int32)), (.int p3), (.int (0 : Int32))] below meth c s₁ [] 0 0 := Stand.of_body Bd
 have e0 : s₁.heap = h0 := by rw [← hh, Bd.state]; rfl
 have N0 := Fr.nil n0
 rw [ef4_61 m p1 p2 p3]
 show KEnds p e below s R4_61.cells R4_61.slots (Q4_61 Z p1 p2 p3 h0 n0) s₁ (mkF m 0 #[iv p1, iv p2, iv (0 : Int32), iv p3, iv (0 : Int32), .unset] [])
 refine k_iconst X0 hx (hb hby d4_0) (pc' := 1) rfl (z := (0 : Int32)) rfl ?_
 refine k_istore X0 hx (hb hby d4_1) (Ls' := #[iv p1, iv p2, iv (0 : Int32), iv p3, iv (0 : Int32), iv (0 : Int32)]) rfl (pc' := 3) rfl ?_
 refine k_iloadN X0 hx (hb hby d4_3) rfl (pc' := 4) rfl ?_
 refine k_iloadN X0 hx (hb hby d4_4) rfl (pc' := 5) rfl ?_
 refine k_icmp_ne X0 hx (hb hby d4_5) (pn := 8) rfl (py := 14) (by decide) (fun hc62 => ?_) (fun hc62 => ?_)
 ·
  refine k_iloadN X0 hx (hb hby d4_14) rfl (pc' := 15) rfl ?_
  refine k_iloadN X0 hx (hb hby d4_15) rfl (pc' := 16) rfl ?_
  refine k_icmp_ne X0 hx (hb hby d4_16) (pn := 19) rfl (py := 26) (by decide) (fun hc63 => ?_) (fun hc63 => ?_)
  ·
   refine k_iload X0 hx (hb hby d4_26) rfl (pc' := 28) rfl ?_
   have hf : f4_61 p1 p2 p3 = (0 : Int32) := by simp only [f4_61, if_neg hc62, if_neg hc63]
   exact k_retI X0 hx Bd.returns (hb hby d4_28) hlk (by decide) (by decide) ⟨N0, e0, by rw [hf]⟩
  ·
   refine k_iload X0 hx (hb hby d4_19) rfl (pc' := 21) rfl ?_
   refine k_iload X0 hx (hb hby d4_21) rfl (pc' := 23) rfl ?_
   refine k_iaddL X0 hx (hb hby d4_23) (pc' := 24) rfl (z := (0 : Int32)) (by decide) ?_
   refine k_istore X0 hx (hb hby d4_24) (Ls' := #[iv p1, iv p2, iv (0 : Int32), iv p3, iv (0 : Int32), iv (0 : Int32)]) rfl (pc' := 26) rfl ?_
   refine k_iload X0 hx (hb hby d4_26) rfl (pc' := 28) rfl ?_
   have hf : f4_61 p1 p2 p3 = (0 : Int32) := by simp only [f4_61, if_neg hc62, if_pos hc63]
   exact k_retI X0 hx Bd.returns (hb hby d4_28) hlk (by decide) (by decide) ⟨N0, e0, by rw [hf]⟩
 ·
  refine k_iload X0 hx (hb hby d4_8) rfl (pc' := 10) rfl ?_
  refine k_iloadN X0 hx (hb hby d4_10) rfl (pc' := 11) rfl ?_
  refine k_iaddL X0 hx (hb hby d4_11) (pc' := 12) rfl (z := (0 : Int32)) (by decide) ?_
  refine k_istore X0 hx (hb hby d4_12) (Ls' := #[iv p1, iv p2, iv (0 : Int32), iv p3, iv (0 : Int32), iv (0 : Int32)]) rfl (pc' := 14) rfl ?_
  refine k_iloadN X0 hx (hb hby d4_14) rfl (pc' := 15) rfl ?_
  refine k_iloadN X0 hx (hb hby d4_15) rfl (pc' := 16) rfl ?_
  refine k_icmp_ne X0 hx (hb hby d4_16) (pn := 19) rfl (py := 26) (by decide) (fun hc64 => ?_) (fun hc64 => ?_)
  ·
   refine k_iload X0 hx (hb hby d4_26) rfl (pc' := 28) rfl ?_
   have hf : f4_61 p1 p2 p3 = (0 : Int32) := by simp only [f4_61, if_pos hc62, if_neg hc64]
   exact k_retI X0 hx Bd.returns (hb hby d4_28) hlk (by decide) (by decide) ⟨N0, e0, by rw [hf]⟩
  ·
   refine k_iload X0 hx (hb hby d4_19) rfl (pc' := 21) rfl ?_
   refine k_iload X0 hx (hb hby d4_21) rfl (pc' := 23) rfl ?_
   refine k_iaddL X0 hx (hb hby d4_23) (pc' := 24) rfl (z := (0 : Int32)) (by decide) ?_
   refine k_istore X0 hx (hb hby d4_24) (Ls' := #[iv p1, iv p2, iv (0 : Int32), iv p3, iv (0 : Int32), iv (0 : Int32)]) rfl (pc' := 26) rfl ?_
   refine k_iload X0 hx (hb hby d4_26) rfl (pc' := 28) rfl ?_
   have hf : f4_61 p1 p2 p3 = (0 : Int32) := by simp only [f4_61, if_pos hc62, if_pos hc64]
   exact k_retI X0 hx Bd.returns (hb hby d4_28) hlk (by decide) (by decide) ⟨N0, e0, by rw [hf]⟩
theorem pd_2 : parseMethodDescriptor "(IIIII)I" = some ⟨[.int, .int, .int, .int, .int], some .int⟩ := by decide +kernel
abbrev R4_134 : Room := { frames := 0, cells := 0, slots := 0, locals := 0 }
def f4_134 (p1 : Int32) (p2 : Int32) : Int32 := (if p1 = p2 then (0 : Int32) else (0 : Int32))

def Q4_134 (Z : State) (p1 : Int32) (p2 : Int32) (h0 : Heap) (n0 : Nat) (v : Option Value) (h : Heap) (L : List Loc) : Prop := Fr n0 L ∧ h = h0 ∧ v = some (.int (f4_134 p1 p2))
theorem ef4_134 (m : MethodId) (x0 : Int32) (x1 : Int32) (x3 : Int32) : entryFrame m #[(.int x0), (.int x1), (.int (0 : Int32)), (.int x3), (.int (0 : Int32))] 6 = mkF m 0 #[.val (.int x0), .val (.int x1), .val (.int (0 : Int32)), .val (.int x3), .val (.int (0 : Int32)), .unset] [] := by first | (simp [entryFrame, mkF, argsToLocals, Value.category]; done) | rfl
set_option maxRecDepth 65536 in
set_option maxHeartbeats 40000000 in
theorem rm4_134 (l : Launch) (Z : State) (a0 : Array Value) (hw : ∀ d ∈ tables_1, d.before a0 Z = true) (ws : List Jvm.Cond) (p1 : Int32) (p2 : Int32) (h0 : Heap) (n0 : Nat) (Z0 : n0 ≤ h0.size)  :
    MetFree l (⟨"com/example/dendrotick/dendrotick/VectorClockGetPinLaw", "expected", "(IIIII)I"⟩ : MethodName) (head1 (Jvm.Cond.code (⟨"com/example/dendrotick/dendrotick/VectorClockGetPinLaw", "expected", "(IIIII)I"⟩ : MethodName) method_3_code 6 (some .int) :: ws) R4_134) (fun a U => a = #[(.int p1), (.int p1), (.int (0 : Int32)), (.int p2), (.int (0 : Int32))] ∧ Z.Warmed39 U.vm ∧ U.heap = h0) (fun _ _ _ _ _ => True) (fun _ U o U' => ∃ v L, o = .returned v ∧ Q4_134 Z p1 p2 h0 n0 v U'.heap L ∧ FrameEnd U o U' L R4_134.cells R4_134.slots) := by
 refine MetFree.of_bodySF (plainFor_of_name pn_1) hisR ?_
 intro p e s m args below meth c s₁ Bd hml0 hP hK
 obtain ⟨rfl, hZ, hh⟩ := hP
 have hx := Bd.exec
 have hby := Bd.bytes
 have hml : c.maxLocals = 6 := hml0
 have hlk : meth.locks = false := Bd.notSynchronized
 have hown : s.vm.findClass "com/example/dendrotick/dendrotick/VectorClockGetPinLaw" = some m.cls := findClass_of_methodNamed Bd.named
 have hnm := (name_of_methodNamed Bd.named Bd.method).1
 have X0 : Stand p l e R4_134 s m #[(.int p1), (.int p1), (.int (0 : Int32)), (.int p2), (.int (0 : Int32))] below meth c s₁ [] 0 0 := Stand.of_body Bd
 have e0 : s₁.heap = h0 := by rw [← hh, Bd.state]; rfl
 have N0 := Fr.nil n0
 rw [ef4_134 m p1 p1 p2]
 show KEnds p e below s R4_134.cells R4_134.slots (Q4_134 Z p1 p2 h0 n0) s₁ (mkF m 0 #[iv p1, iv p1, iv (0 : Int32), iv p2, iv (0 : Int32), .unset] [])
 refine k_iconst X0 hx (hb hby d4_0) (pc' := 1) rfl (z := (0 : Int32)) rfl ?_
 refine k_istore X0 hx (hb hby d4_1) (Ls' := #[iv p1, iv p1, iv (0 : Int32), iv p2, iv (0 : Int32), iv (0 : Int32)]) rfl (pc' := 3) rfl ?_
 refine k_iloadN X0 hx (hb hby d4_3) rfl (pc' := 4) rfl ?_
 refine k_iloadN X0 hx (hb hby d4_4) rfl (pc' := 5) rfl ?_
 refine k_icmp_ne X0 hx (hb hby d4_5) (pn := 8) rfl (py := 14) (by decide) (fun hc => absurd rfl hc) (fun _ => ?_)
 refine k_iload X0 hx (hb hby d4_8) rfl (pc' := 10) rfl ?_
 refine k_iloadN X0 hx (hb hby d4_10) rfl (pc' := 11) rfl ?_
 refine k_iaddL X0 hx (hb hby d4_11) (pc' := 12) rfl (z := (0 : Int32)) (by decide) ?_
 refine k_istore X0 hx (hb hby d4_12) (Ls' := #[iv p1, iv p1, iv (0 : Int32), iv p2, iv (0 : Int32), iv (0 : Int32)]) rfl (pc' := 14) rfl ?_
 refine k_iloadN X0 hx (hb hby d4_14) rfl (pc' := 15) rfl ?_
 refine k_iloadN X0 hx (hb hby d4_15) rfl (pc' := 16) rfl ?_
 refine k_icmp_ne X0 hx (hb hby d4_16) (pn := 19) rfl (py := 26) (by decide) (fun hc135 => ?_) (fun hc135 => ?_)
 ·
  refine k_iload X0 hx (hb hby d4_26) rfl (pc' := 28) rfl ?_
  have hf : f4_134 p1 p2 = (0 : Int32) := by simp only [f4_134, if_neg hc135]
  exact k_retI X0 hx Bd.returns (hb hby d4_28) hlk (by decide) (by decide) ⟨N0, e0, by rw [hf]⟩
 ·
  refine k_iload X0 hx (hb hby d4_19) rfl (pc' := 21) rfl ?_
  refine k_iload X0 hx (hb hby d4_21) rfl (pc' := 23) rfl ?_
  refine k_iaddL X0 hx (hb hby d4_23) (pc' := 24) rfl (z := (0 : Int32)) (by decide) ?_
  refine k_istore X0 hx (hb hby d4_24) (Ls' := #[iv p1, iv p1, iv (0 : Int32), iv p2, iv (0 : Int32), iv (0 : Int32)]) rfl (pc' := 26) rfl ?_
  refine k_iload X0 hx (hb hby d4_26) rfl (pc' := 28) rfl ?_
  have hf : f4_134 p1 p2 = (0 : Int32) := by simp only [f4_134, if_pos hc135]
  exact k_retI X0 hx Bd.returns (hb hby d4_28) hlk (by decide) (by decide) ⟨N0, e0, by rw [hf]⟩
theorem d5_0 : decode prog_36_method_3_code 0 = .ok (.aload_n 0, 1) := by decide +kernel
theorem d5_1 : decode prog_36_method_3_code 1 = .ok (.iload_n 1, 1) := by decide +kernel
theorem d5_2 : decode prog_36_method_3_code 2 = .ok (.iconst 1, 1) := by decide +kernel
theorem d5_3 : decode prog_36_method_3_code 3 = .ok (.iadd, 1) := by decide +kernel
theorem d5_4 : decode prog_36_method_3_code 4 = .ok (.invokevirtual 21, 3) := by decide +kernel
theorem d6_0 : decode prog_36_method_6_code 0 = .ok (.iload_n 1, 1) := by decide +kernel
theorem d6_1 : decode prog_36_method_6_code 1 = .ok (.aload_n 0, 1) := by decide +kernel
theorem d6_2 : decode prog_36_method_6_code 2 = .ok (.getfield 7, 3) := by decide +kernel
theorem d6_5 : decode prog_36_method_6_code 5 = .ok (.arraylength, 1) := by decide +kernel
theorem d6_6 : decode prog_36_method_6_code 6 = .ok (.if_icmp .le 25, 3) := by decide +kernel
theorem d6_31 : decode prog_36_method_6_code 31 = .ok (.aload_n 0, 1) := by decide +kernel
theorem d6_32 : decode prog_36_method_6_code 32 = .ok (.aload_n 0, 1) := by decide +kernel
theorem d6_33 : decode prog_36_method_6_code 33 = .ok (.getfield 17, 3) := by decide +kernel
theorem d6_36 : decode prog_36_method_6_code 36 = .ok (.iload_n 1, 1) := by decide +kernel
theorem d6_37 : decode prog_36_method_6_code 37 = .ok (.invokestatic 33, 3) := by decide +kernel
theorem d7_0 : decode jdk_29_method_65_code 0 = .ok (.iload_n 0, 1) := by decide +kernel
theorem d7_1 : decode jdk_29_method_65_code 1 = .ok (.iload_n 1, 1) := by decide +kernel
theorem d7_2 : decode jdk_29_method_65_code 2 = .ok (.if_icmp .lt 7, 3) := by decide +kernel
theorem d7_9 : decode jdk_29_method_65_code 9 = .ok (.iload_n 1, 1) := by decide +kernel
theorem d7_10 : decode jdk_29_method_65_code 10 = .ok (.ireturn, 1) := by decide +kernel
theorem d7_5 : decode jdk_29_method_65_code 5 = .ok (.iload_n 0, 1) := by decide +kernel
theorem d7_6 : decode jdk_29_method_65_code 6 = .ok (.goto 4, 3) := by decide +kernel
abbrev R7_175 : Room := { frames := 0, cells := 0, slots := 0, locals := 0 }
def f7_175 (p1 : Int32) (p2 : Int32) : Int32 := (if p1 < p2 then p2 else p1)
theorem own_mx (a b : Int32) : (a.toInt < b.toInt → (f7_175 a b).toInt = b.toInt) ∧ (¬ a.toInt < b.toInt → (f7_175 a b).toInt = a.toInt) := by
  unfold f7_175
  simp only [Int32.lt_iff_toInt_lt]
  exact ⟨fun h => by rw [if_pos h], fun h => by rw [if_neg h]⟩
def Q7_175 (Z : State) (p1 : Int32) (p2 : Int32) (h0 : Heap) (n0 : Nat) (v : Option Value) (h : Heap) (L : List Loc) : Prop := Fr n0 L ∧ h = h0 ∧ v = some (.int (f7_175 p1 p2))
theorem ef7_175 (m : MethodId) (x0 : Int32) (x1 : Int32) : entryFrame m #[(.int x0), (.int x1)] 2 = mkF m 0 #[.val (.int x0), .val (.int x1)] [] := by first | (simp [entryFrame, mkF, argsToLocals, Value.category]; done) | rfl
set_option maxRecDepth 65536 in
set_option maxHeartbeats 40000000 in
theorem rm7_175 (l : Launch) (Z : State) (a0 : Array Value) (hw : ∀ d ∈ tables_1, d.before a0 Z = true) (ws : List Jvm.Cond) (p1 : Int32) (p2 : Int32) (h0 : Heap) (n0 : Nat) (Z0 : n0 ≤ h0.size)  :
    MetFree l (⟨"java/lang/Math", "max", "(II)I"⟩ : MethodName) (head1 (Jvm.Cond.code (⟨"java/lang/Math", "max", "(II)I"⟩ : MethodName) jdk_29_method_65_code 2 (some .int) :: ws) R7_175) (fun a U => a = #[(.int p1), (.int p2)] ∧ Z.Warmed39 U.vm ∧ U.heap = h0) (fun _ _ _ _ _ => True) (fun _ U o U' => ∃ v L, o = .returned v ∧ Q7_175 Z p1 p2 h0 n0 v U'.heap L ∧ FrameEnd U o U' L R7_175.cells R7_175.slots) := by
 refine MetFree.of_bodySF (Jvm.Free.JP.mathPlain rfl (by decide +kernel)) hisR ?_
 intro p e s m args below meth c s₁ Bd hml0 hP hK
 obtain ⟨rfl, hZ, hh⟩ := hP
 have hx := Bd.exec
 have hby := Bd.bytes
 have hml : c.maxLocals = 2 := hml0
 have hlk : meth.locks = false := Bd.notSynchronized
 have hown : s.vm.findClass "java/lang/Math" = some m.cls := findClass_of_methodNamed Bd.named
 have hnm := (name_of_methodNamed Bd.named Bd.method).1
 have X0 : Stand p l e R7_175 s m #[(.int p1), (.int p2)] below meth c s₁ [] 0 0 := Stand.of_body Bd
 have e0 : s₁.heap = h0 := by rw [← hh, Bd.state]; rfl
 have N0 := Fr.nil n0
 rw [ef7_175 m p1 p2]
 show KEnds p e below s R7_175.cells R7_175.slots (Q7_175 Z p1 p2 h0 n0) s₁ (mkF m 0 #[iv p1, iv p2] [])
 refine k_iloadN X0 hx (hb hby d7_0) rfl (pc' := 1) rfl ?_
 refine k_iloadN X0 hx (hb hby d7_1) rfl (pc' := 2) rfl ?_
 refine k_icmp_lt X0 hx (hb hby d7_2) (pn := 5) rfl (py := 9) (by decide) (fun hc176 => ?_) (fun hc176 => ?_)
 ·
  refine k_iloadN X0 hx (hb hby d7_9) rfl (pc' := 10) rfl ?_
  have hf : f7_175 p1 p2 = p2 := by simp only [f7_175, if_pos hc176]
  exact k_retI X0 hx Bd.returns (hb hby d7_10) hlk (by decide) (by decide) ⟨N0, e0, by rw [hf]⟩
 ·
  refine k_iloadN X0 hx (hb hby d7_5) rfl (pc' := 6) rfl ?_
  refine k_goto X0 hx (hb hby d7_6) (pc' := 10) (by decide) ?_
  have hf : f7_175 p1 p2 = p1 := by simp only [f7_175, if_neg hc176]
  exact k_retI X0 hx Bd.returns (hb hby d7_10) hlk (by decide) (by decide) ⟨N0, e0, by rw [hf]⟩
theorem pd_3 : parseMethodDescriptor "(II)I" = some ⟨[.int, .int], some .int⟩ := by decide +kernel
theorem d6_40 : decode prog_36_method_6_code 40 = .ok (.putfield 17, 3) := by decide +kernel
theorem d6_43 : decode prog_36_method_6_code 43 = .ok (.return_, 1) := by decide +kernel
theorem d6_9 : decode prog_36_method_6_code 9 = .ok (.aload_n 0, 1) := by decide +kernel
theorem d6_10 : decode prog_36_method_6_code 10 = .ok (.aload_n 0, 1) := by decide +kernel
theorem d6_11 : decode prog_36_method_6_code 11 = .ok (.getfield 7, 3) := by decide +kernel
theorem d6_14 : decode prog_36_method_6_code 14 = .ok (.iload_n 1, 1) := by decide +kernel
theorem d6_15 : decode prog_36_method_6_code 15 = .ok (.iconst 2, 1) := by decide +kernel
theorem d6_16 : decode prog_36_method_6_code 16 = .ok (.aload_n 0, 1) := by decide +kernel
theorem d6_17 : decode prog_36_method_6_code 17 = .ok (.getfield 7, 3) := by decide +kernel
theorem d6_20 : decode prog_36_method_6_code 20 = .ok (.arraylength, 1) := by decide +kernel
theorem d6_21 : decode prog_36_method_6_code 21 = .ok (.imul, 1) := by decide +kernel
theorem d6_22 : decode prog_36_method_6_code 22 = .ok (.invokestatic 33, 3) := by decide +kernel
theorem d6_25 : decode prog_36_method_6_code 25 = .ok (.invokestatic 55, 3) := by decide +kernel
theorem d8_0 : decode jdk_65_method_123_code 0 = .ok (.iload_n 1, 1) := by decide +kernel
theorem d8_1 : decode jdk_65_method_123_code 1 = .ok (.aload_n 0, 1) := by decide +kernel
theorem d8_2 : decode jdk_65_method_123_code 2 = .ok (.arraylength, 1) := by decide +kernel
theorem d8_3 : decode jdk_65_method_123_code 3 = .ok (.if_icmp .ne 11, 3) := by decide +kernel
theorem d8_14 : decode jdk_65_method_123_code 14 = .ok (.iload_n 1, 1) := by decide +kernel
theorem d8_15 : decode jdk_65_method_123_code 15 = .ok (.newarray .int, 2) := by decide +kernel
theorem d8_17 : decode jdk_65_method_123_code 17 = .ok (.astore_n 2, 1) := by decide +kernel
theorem d8_18 : decode jdk_65_method_123_code 18 = .ok (.aload_n 0, 1) := by decide +kernel
theorem d8_19 : decode jdk_65_method_123_code 19 = .ok (.iconst 0, 1) := by decide +kernel
theorem d8_20 : decode jdk_65_method_123_code 20 = .ok (.aload_n 2, 1) := by decide +kernel
theorem d8_21 : decode jdk_65_method_123_code 21 = .ok (.iconst 0, 1) := by decide +kernel
theorem d8_22 : decode jdk_65_method_123_code 22 = .ok (.aload_n 0, 1) := by decide +kernel
theorem d8_23 : decode jdk_65_method_123_code 23 = .ok (.arraylength, 1) := by decide +kernel
theorem d8_24 : decode jdk_65_method_123_code 24 = .ok (.iload_n 1, 1) := by decide +kernel
theorem d8_25 : decode jdk_65_method_123_code 25 = .ok (.invokestatic 304, 3) := by decide +kernel
theorem d9_0 : decode jdk_29_method_69_code 0 = .ok (.iload_n 0, 1) := by decide +kernel
theorem d9_1 : decode jdk_29_method_69_code 1 = .ok (.iload_n 1, 1) := by decide +kernel
theorem d9_2 : decode jdk_29_method_69_code 2 = .ok (.if_icmp .gt 7, 3) := by decide +kernel
theorem d9_9 : decode jdk_29_method_69_code 9 = .ok (.iload_n 1, 1) := by decide +kernel
theorem d9_10 : decode jdk_29_method_69_code 10 = .ok (.ireturn, 1) := by decide +kernel
theorem d9_5 : decode jdk_29_method_69_code 5 = .ok (.iload_n 0, 1) := by decide +kernel
theorem d9_6 : decode jdk_29_method_69_code 6 = .ok (.goto 4, 3) := by decide +kernel
abbrev R9_287 : Room := { frames := 0, cells := 0, slots := 0, locals := 0 }
def f9_287 (p1 : Int32) (p2 : Int32) : Int32 := (if p2 < p1 then p2 else p1)
theorem own_mi (a b : Int32) (h : a < b) : f9_287 a b = a := by
  unfold f9_287
  rw [if_neg (fun q => by rw [Int32.lt_iff_toInt_lt] at h q; omega)]
def Q9_287 (Z : State) (p1 : Int32) (p2 : Int32) (h0 : Heap) (n0 : Nat) (v : Option Value) (h : Heap) (L : List Loc) : Prop := Fr n0 L ∧ h = h0 ∧ v = some (.int (f9_287 p1 p2))
theorem ef9_287 (m : MethodId) (x0 : Int32) (x1 : Int32) : entryFrame m #[(.int x0), (.int x1)] 2 = mkF m 0 #[.val (.int x0), .val (.int x1)] [] := by first | (simp [entryFrame, mkF, argsToLocals, Value.category]; done) | rfl
set_option maxRecDepth 65536 in
set_option maxHeartbeats 40000000 in
theorem rm9_287 (l : Launch) (Z : State) (a0 : Array Value) (hw : ∀ d ∈ tables_1, d.before a0 Z = true) (ws : List Jvm.Cond) (p1 : Int32) (p2 : Int32) (h0 : Heap) (n0 : Nat) (Z0 : n0 ≤ h0.size)  :
    MetFree l (⟨"java/lang/Math", "min", "(II)I"⟩ : MethodName) (head1 (Jvm.Cond.code (⟨"java/lang/Math", "min", "(II)I"⟩ : MethodName) jdk_29_method_69_code 2 (some .int) :: ws) R9_287) (fun a U => a = #[(.int p1), (.int p2)] ∧ Z.Warmed39 U.vm ∧ U.heap = h0) (fun _ _ _ _ _ => True) (fun _ U o U' => ∃ v L, o = .returned v ∧ Q9_287 Z p1 p2 h0 n0 v U'.heap L ∧ FrameEnd U o U' L R9_287.cells R9_287.slots) := by
 refine MetFree.of_bodySF (Jvm.Free.JP.mathPlain rfl (by decide +kernel)) hisR ?_
 intro p e s m args below meth c s₁ Bd hml0 hP hK
 obtain ⟨rfl, hZ, hh⟩ := hP
 have hx := Bd.exec
 have hby := Bd.bytes
 have hml : c.maxLocals = 2 := hml0
 have hlk : meth.locks = false := Bd.notSynchronized
 have hown : s.vm.findClass "java/lang/Math" = some m.cls := findClass_of_methodNamed Bd.named
 have hnm := (name_of_methodNamed Bd.named Bd.method).1
 have X0 : Stand p l e R9_287 s m #[(.int p1), (.int p2)] below meth c s₁ [] 0 0 := Stand.of_body Bd
 have e0 : s₁.heap = h0 := by rw [← hh, Bd.state]; rfl
 have N0 := Fr.nil n0
 rw [ef9_287 m p1 p2]
 show KEnds p e below s R9_287.cells R9_287.slots (Q9_287 Z p1 p2 h0 n0) s₁ (mkF m 0 #[iv p1, iv p2] [])
 refine k_iloadN X0 hx (hb hby d9_0) rfl (pc' := 1) rfl ?_
 refine k_iloadN X0 hx (hb hby d9_1) rfl (pc' := 2) rfl ?_
 refine k_icmp_gt X0 hx (hb hby d9_2) (pn := 5) rfl (py := 9) (by decide) (fun hc288 => ?_) (fun hc288 => ?_)
 ·
  refine k_iloadN X0 hx (hb hby d9_9) rfl (pc' := 10) rfl ?_
  have hf : f9_287 p1 p2 = p2 := by simp only [f9_287, if_pos hc288]
  exact k_retI X0 hx Bd.returns (hb hby d9_10) hlk (by decide) (by decide) ⟨N0, e0, by rw [hf]⟩
 ·
  refine k_iloadN X0 hx (hb hby d9_5) rfl (pc' := 6) rfl ?_
  refine k_goto X0 hx (hb hby d9_6) (pc' := 10) (by decide) ?_
  have hf : f9_287 p1 p2 = p1 := by simp only [f9_287, if_neg hc288]
  exact k_retI X0 hx Bd.returns (hb hby d9_10) hlk (by decide) (by decide) ⟨N0, e0, by rw [hf]⟩
theorem d8_28 : decode jdk_65_method_123_code 28 = .ok (.invokestatic 150, 3) := by decide +kernel
theorem d8_31 : decode jdk_65_method_123_code 31 = .ok (.aload_n 2, 1) := by decide +kernel
theorem d8_32 : decode jdk_65_method_123_code 32 = .ok (.areturn, 1) := by decide +kernel
abbrev R8_271 : Room := { frames := 1, cells := 1, slots := 30, locals := 18 }
def Q8_271 (Z : State) (a1 : Addr) (p2 : Int32) (a3 : Addr) (p4 : Int32) (k5 : ClassId) (p6 : Int32) (F7 : Nat → Int32) (h0 : Heap) (n0 : Nat) (v : Option Value) (h : Heap) (L : List Loc) : Prop := Fr n0 L ∧ ((∃ (b277 : Addr) (k277 : ClassId), v = some (.ref b277) ∧ Exa Z h a3 "com/example/dendrotick/dendrotick/VectorClock" ∧ Fld Z h a3 "com/example/dendrotick/dendrotick/VectorClock" "entries" "[I" (.ref a1) ∧ Fld Z h a3 "com/example/dendrotick/dendrotick/VectorClock" "work" "Lcom/example/dendrotick/dendrotick/ClockWork;" .null ∧ Fld Z h a3 "com/example/dendrotick/dendrotick/VectorClock" "size" "I" (.int p4) ∧ ArF Z h a1 k5 p6 F7 ∧ ArF Z h b277 k277 p2 F7 ∧ n0 ≤ b277 ∧ a1 < b277 ∧ n0 ≤ h.size))
theorem ef8_271 (m : MethodId) (x0 : Addr) (x1 : Int32) : entryFrame m #[(.ref x0), (.int x1)] 3 = mkF m 0 #[.val (.ref x0), .val (.int x1), .unset] [] := by first | (simp [entryFrame, mkF, argsToLocals, Value.category]; done) | rfl
theorem pn_2 : plainName "java/util/Arrays" = true := by first | (simp [plainName, overriddenIn]; done) | decide +kernel
set_option maxRecDepth 65536 in
set_option maxHeartbeats 40000000 in
theorem rm8_271 (l : Launch) (Z : State) (a0 : Array Value) (hw : ∀ d ∈ tables_1, d.before a0 Z = true) (ws : List Jvm.Cond) (a1 : Addr) (p2 : Int32) (a3 : Addr) (p4 : Int32) (k5 : ClassId) (p6 : Int32) (F7 : Nat → Int32) (h0 : Heap) (n0 : Nat) (Z0 : n0 ≤ h0.size) (F0_0 : Exa Z h0 a3 "com/example/dendrotick/dendrotick/VectorClock") (F0_1 : Fld Z h0 a3 "com/example/dendrotick/dendrotick/VectorClock" "entries" "[I" (.ref a1)) (F0_2 : Fld Z h0 a3 "com/example/dendrotick/dendrotick/VectorClock" "work" "Lcom/example/dendrotick/dendrotick/ClockWork;" .null) (F0_3 : Fld Z h0 a3 "com/example/dendrotick/dendrotick/VectorClock" "size" "I" (.int p4)) (g_a3 : n0 ≤ a3) (F0_5 : ArF Z h0 a1 k5 p6 F7) (g_a1 : n0 ≤ a1) (lt0_0 : a3 < a1) (hp0 : ¬ p6 < (0 : Int32)) (hp1 : p6 < p2) (hp2 : ¬ (30 : Int32) < p2) (HZ : ∀ i, p6.toNatClampNeg ≤ i → F7 i = 0) :
    MetFree l (⟨"java/util/Arrays", "copyOf", "([II)[I"⟩ : MethodName) (head1 (Jvm.Cond.code (⟨"java/util/Arrays", "copyOf", "([II)[I"⟩ : MethodName) jdk_65_method_123_code 3 (some (.array .int)) :: ws) R8_271) (fun a U => a = #[(.ref a1), (.int p2)] ∧ Z.Warmed39 U.vm ∧ U.heap = h0) (fun _ _ _ _ _ => True) (fun _ U o U' => ∃ v L, o = .returned v ∧ Q8_271 Z a1 p2 a3 p4 k5 p6 F7 h0 n0 v U'.heap L ∧ FrameEnd U o U' L R8_271.cells R8_271.slots) := by
 refine MetFree.of_bodySF (plainFor_of_name pn_2) hisR ?_
 intro p e s m args below meth c s₁ Bd hml0 hP hK
 obtain ⟨rfl, hZ, hh⟩ := hP
 have hx := Bd.exec
 have hby := Bd.bytes
 have hml : c.maxLocals = 3 := hml0
 have hlk : meth.locks = false := Bd.notSynchronized
 have hown : s.vm.findClass "java/util/Arrays" = some m.cls := findClass_of_methodNamed Bd.named
 have hnm := (name_of_methodNamed Bd.named Bd.method).1
 have X0 : Stand p l e R8_271 s m #[(.ref a1), (.int p2)] below meth c s₁ [] 0 0 := Stand.of_body Bd
 have e0 : s₁.heap = h0 := by rw [← hh, Bd.state]; rfl
 have N0 := Fr.nil n0
 rw [ef8_271 m a1 p2]
 show KEnds p e below s R8_271.cells R8_271.slots (Q8_271 Z a1 p2 a3 p4 k5 p6 F7 h0 n0) s₁ (mkF m 0 #[rv a1, iv p2, .unset] [])
 refine k_iloadN X0 hx (hb hby d8_0) rfl (pc' := 1) rfl ?_
 refine k_aloadN X0 hx (hb hby d8_1) rfl rfl (pc' := 2) rfl ?_
 refine k_alenF X0 hx hZ e0 F0_5 (hb hby d8_2) (pc' := 3) rfl ?_
 refine k_icmp_ne X0 hx (hb hby d8_3) (pn := 6) rfl (py := 14) (by decide) (fun _ => ?_) (fun hc => absurd hc (by intro hq272; have B273 : (0 : Int) ≤ p6.toInt ∧ p6.toInt ≤ 2147483647 := ⟨k_ge hp0 (by decide), Int.le_of_lt_add_one (rng32 p6).2⟩; have B274 : (-2147483648 : Int) ≤ p2.toInt ∧ p2.toInt ≤ 30 := ⟨(rng32 p2).1, k_le hp2 (by decide)⟩; have q275 := hp1; rw [Int32.lt_iff_toInt_lt] at q275; have q276 := congrArg Int32.toInt hq272; omega))
 refine k_iloadN X0 hx (hb hby d8_14) rfl (pc' := 15) rfl ?_
 refine k_newAF X0 hx hZ (hw _ (List.mem_of_getElem? (i := 10) rfl)) e0 (hb hby d8_15) (by intro hq278; have B279 : (0 : Int) ≤ p6.toInt ∧ p6.toInt ≤ 2147483647 := ⟨k_ge hp0 (by decide), Int.le_of_lt_add_one (rng32 p6).2⟩; have B280 : (-2147483648 : Int) ≤ p2.toInt ∧ p2.toInt ≤ -1 := ⟨(rng32 p2).1, k_lt hq278 (by decide)⟩; have q281 := hp1; rw [Int32.lt_iff_toInt_lt] at q281; omega) (cap := 30) (kf_cap (c := (30 : Int32)) (by intro hq282; have B283 : (0 : Int) ≤ p6.toInt ∧ p6.toInt ≤ 2147483647 := ⟨k_ge hp0 (by decide), Int.le_of_lt_add_one (rng32 p6).2⟩; have B284 : (31 : Int) ≤ p2.toInt ∧ p2.toInt ≤ 30 := ⟨k_gt hq282 (by decide), k_le hp2 (by decide)⟩; have q285 := hp1; rw [Int32.lt_iff_toInt_lt] at q285; omega) rfl) (by decide) (by decide) (by decide) (pc' := 17) rfl (fun T277 h277 b277 k277 g277 X277 e277 E277 V277 => ?_)
 have g_b277 : n0 ≤ b277 := Nat.le_trans Z0 (Nat.le_of_eq g277.symm)
 have lt_b277 : a1 < b277 := Nat.lt_of_lt_of_le F0_5.lt (Nat.le_of_eq g277.symm)
 have Z277 : n0 ≤ h277.size := Nat.le_trans Z0 E277.1
 refine k_astoreN X277 hx (hb hby d8_17) rfl (Ls' := #[rv a1, iv p2, rv b277]) rfl (pc' := 18) rfl ?_
 refine k_aloadN X277 hx (hb hby d8_18) rfl rfl (pc' := 19) rfl ?_
 refine k_iconst X277 hx (hb hby d8_19) (pc' := 20) rfl (z := (0 : Int32)) rfl ?_
 refine k_aloadN X277 hx (hb hby d8_20) rfl rfl (pc' := 21) rfl ?_
 refine k_iconst X277 hx (hb hby d8_21) (pc' := 22) rfl (z := (0 : Int32)) rfl ?_
 refine k_aloadN X277 hx (hb hby d8_22) rfl rfl (pc' := 23) rfl ?_
 have F286 := (F0_5.ext E277)
 refine k_alenF X277 hx hZ e277 F286 (hb hby d8_23) (pc' := 24) rfl ?_
 refine k_iloadN X277 hx (hb hby d8_24) rfl (pc' := 25) rfl ?_
 refine k_callS X277 hx hZ hown (hw _ (List.mem_of_getElem? (i := 43) rfl)) (hw _ (List.mem_of_getElem? (i := 44) rfl)) (hw _ (List.mem_of_getElem? (i := 37) rfl)) (hw _ (List.mem_of_getElem? (i := 45) rfl)) (by decide) (rm9_287 l Z a0 hw [] p6 p2 h277 n0 Z277 ) (by decide) (by decide) e277 (by rw [hml]; rfl) (argsL := [(.int p6), (.int p2)]) (rest := [(.int (0 : Int32)), (.ref b277), (.int (0 : Int32)), (.ref a1)]) (lenOf pd_3 rfl) rfl (W := 4) (Nat.le_refl _) rfl (hb hby d8_25) (by decide) (by decide) (pc' := 28) rfl (fun T289 L289 r289 X289 q289 => ?_)
 obtain ⟨N289, e289, rfl⟩ := q289
 have N289' := Fr.app N0 N289
 show KEnds p e below s _ _ _ T289 (mkF m 28 #[rv a1, iv p2, rv b277] ((.int (f9_287 p6 p2)) :: (.int (0 : Int32)) :: (.ref b277) :: (.int (0 : Int32)) :: (.ref a1) :: []))
 obtain ⟨v290, hv290⟩ : ∃ z, z = f9_287 p6 p2 := ⟨_, rfl⟩
 rw [← hv290]
 have hnn291 : v290 = p6 := (by rw [hv290]; exact own_mi _ _ hp1)
 rw [hnn291]
 refine k_acpF X289 hx hZ hown (hw _ (List.mem_of_getElem? (i := 46) rfl)) (hw _ (List.mem_of_getElem? (i := 49) rfl)) (hw _ (List.mem_of_getElem? (i := 47) rfl)) (hw _ (List.mem_of_getElem? (i := 48) rfl)) e289 F286 V277 HZ ⟨(by intro hq292; have B293 : (0 : Int) ≤ p6.toInt ∧ p6.toInt ≤ -1 := ⟨k_ge hp0 (by decide), k_lt hq292 (by decide)⟩; have B294 : (-2147483648 : Int) ≤ p2.toInt ∧ p2.toInt ≤ 30 := ⟨(rng32 p2).1, k_le hp2 (by decide)⟩; have q295 := hp1; rw [Int32.lt_iff_toInt_lt] at q295; omega), (Classical.byContradiction (fun hq296 => by have B297 : (0 : Int) ≤ p6.toInt ∧ p6.toInt ≤ 2147483647 := ⟨k_ge hp0 (by decide), Int.le_of_lt_add_one (rng32 p6).2⟩; have B298 : (-2147483648 : Int) ≤ p2.toInt ∧ p2.toInt ≤ 30 := ⟨(rng32 p2).1, k_le hp2 (by decide)⟩; have q299 := hp1; rw [Int32.lt_iff_toInt_lt] at q299; have q300 := hq296; rw [Int32.lt_iff_toInt_lt] at q300; omega))⟩ N289' g_b277 (by rw [hml]; rfl) (hb hby d8_28) (by decide) (W := 0) (Nat.le_refl _) (by decide) (pc' := 31) rfl (fun T291 h291 L291 X291 e291 N291 K291 V291 => ?_)
 have F301 := (F0_0.ext E277)
 have F302 := F301.keep K291
 have F303 := (F0_1.ext E277)
 have F304 := F303.keep K291 (ninS (Nat.ne_of_lt (Nat.lt_trans lt0_0 lt_b277)) nin0)
 have F305 := (F0_2.ext E277)
 have F306 := F305.keep K291 (ninS (Nat.ne_of_lt (Nat.lt_trans lt0_0 lt_b277)) nin0)
 have F307 := (F0_3.ext E277)
 have F308 := F307.keep K291 (ninS (Nat.ne_of_lt (Nat.lt_trans lt0_0 lt_b277)) nin0)
 have F309 := F286.keep K291 (ninS (Nat.ne_of_lt lt_b277) nin0)
 have Z291 : n0 ≤ h291.size := Nat.le_trans Z277 K291.1
 refine k_aloadN X291 hx (hb hby d8_31) rfl rfl (pc' := 32) rfl ?_
 exact k_retA X291 hx Bd.returns rfl rfl (hb hby d8_32) hlk (by decide) (by decide) (by rw [e291]; exact ⟨N291, ⟨b277, k277, rfl, F302, F304, F306, F308, F309, V291, g_b277, lt_b277, Z291⟩⟩)
theorem pd_4 : parseMethodDescriptor "([II)[I" = some ⟨[(.array .int), .int], some (.array .int)⟩ := by decide +kernel
theorem d6_28 : decode prog_36_method_6_code 28 = .ok (.putfield 7, 3) := by decide +kernel
abbrev R6_171 : Room := { frames := 2, cells := 1, slots := 30, locals := 33 }
def Q6_171 (Z : State) (a1 : Addr) (a2 : Addr) (k2 : ClassId) (pL : Int32) (pS : Int32) (pT : Int32) (F0 : Nat → Int32) (h0 : Heap) (n0 : Nat) (v : Option Value) (h : Heap) (L : List Loc) : Prop := Fr n0 L ∧ ∃ (b : Addr) (kb : ClassId) (zl zs : Int32), v = none ∧ Exa Z h a1 "com/example/dendrotick/dendrotick/VectorClock" ∧ Fld Z h a1 "com/example/dendrotick/dendrotick/VectorClock" "entries" "[I" (.ref b) ∧ Fld Z h a1 "com/example/dendrotick/dendrotick/VectorClock" "work" "Lcom/example/dendrotick/dendrotick/ClockWork;" .null ∧ Fld Z h a1 "com/example/dendrotick/dendrotick/VectorClock" "size" "I" (.int zs) ∧ ArF Z h b kb zl F0 ∧ n0 ≤ b ∧ a1 < b ∧ n0 ≤ h.size ∧ ¬ zl < 0 ∧ ¬ (30 : Int32) < zl ∧ ¬ zs < 0 ∧ ¬ zl < zs ∧ (∀ i, zs.toNatClampNeg ≤ i → F0 i = 0) ∧ ¬ zs < pT
theorem ef6_171 (m : MethodId) (x0 : Addr) (x1 : Int32) : entryFrame m #[(.ref x0), (.int x1)] 2 = mkF m 0 #[.val (.ref x0), .val (.int x1)] [] := by first | (simp [entryFrame, mkF, argsToLocals, Value.category]; done) | rfl
set_option maxRecDepth 65536 in
set_option maxHeartbeats 40000000 in
theorem rm6_171 (l : Launch) (Z : State) (a0 : Array Value) (hw : ∀ d ∈ tables_1, d.before a0 Z = true) (ws : List Jvm.Cond) (a1 : Addr) (a2 : Addr) (k2 : ClassId) (pL : Int32) (pS : Int32) (pT : Int32) (F0 : Nat → Int32) (h0 : Heap) (n0 : Nat) (Z0 : n0 ≤ h0.size) (fE : Exa Z h0 a1 "com/example/dendrotick/dendrotick/VectorClock") (fe : Fld Z h0 a1 "com/example/dendrotick/dendrotick/VectorClock" "entries" "[I" (.ref a2)) (fw : Fld Z h0 a1 "com/example/dendrotick/dendrotick/VectorClock" "work" "Lcom/example/dendrotick/dendrotick/ClockWork;" .null) (fs : Fld Z h0 a1 "com/example/dendrotick/dendrotick/VectorClock" "size" "I" (.int pS)) (fV : ArF Z h0 a2 k2 pL F0) (g_a1 : n0 ≤ a1) (g_a2 : n0 ≤ a2) (lt0 : a1 < a2) (hL0 : ¬ pL < 0) (hL1 : ¬ (30 : Int32) < pL) (hS0 : ¬ pS < 0) (hSL : ¬ pL < pS) (HZ : (∀ i, pS.toNatClampNeg ≤ i → F0 i = 0)) (hT0 : ¬ pT < (1 : Int32)) (hT1 : ¬ (16 : Int32) < pT) :
    MetFree l (⟨"com/example/dendrotick/dendrotick/VectorClock", "growTo", "(I)V"⟩ : MethodName) (head1 (Jvm.Cond.code (⟨"com/example/dendrotick/dendrotick/VectorClock", "growTo", "(I)V"⟩ : MethodName) prog_36_method_6_code 2 none :: ws) R6_171) (fun a U => a = #[(.ref a1), (.int pT)] ∧ Z.Warmed39 U.vm ∧ U.heap = h0) (fun _ _ _ _ _ => True) (fun _ U o U' => ∃ v L, o = .returned v ∧ Q6_171 Z a1 a2 k2 pL pS pT F0 h0 n0 v U'.heap L ∧ FrameEnd U o U' L R6_171.cells R6_171.slots) := by
 refine MetFree.of_bodySF (plainFor_of_name pn_0) hisR ?_
 intro p e s m args below meth c s₁ Bd hml0 hP hK
 obtain ⟨rfl, hZ, hh⟩ := hP
 have hx := Bd.exec
 have hby := Bd.bytes
 have hml : c.maxLocals = 2 := hml0
 have hlk : meth.locks = false := Bd.notSynchronized
 have hown : s.vm.findClass "com/example/dendrotick/dendrotick/VectorClock" = some m.cls := findClass_of_methodNamed Bd.named
 have hnm := (name_of_methodNamed Bd.named Bd.method).1
 have X0 : Stand p l e R6_171 s m #[(.ref a1), (.int pT)] below meth c s₁ [] 0 0 := Stand.of_body Bd
 have e0 : s₁.heap = h0 := by rw [← hh, Bd.state]; rfl
 have N0 := Fr.nil n0
 rw [ef6_171 m a1 pT]
 show KEnds p e below s R6_171.cells R6_171.slots (Q6_171 Z a1 a2 k2 pL pS pT F0 h0 n0) s₁ (mkF m 0 #[rv a1, iv pT] [])
 refine k_iloadN X0 hx (hb hby d6_0) rfl (pc' := 1) rfl ?_
 refine k_aloadN X0 hx (hb hby d6_1) rfl rfl (pc' := 2) rfl ?_
 refine k_getF X0 hx hZ hown (host := "") (Or.inl (hw _ (List.mem_of_getElem? (i := 11) rfl))) Via.refl e0 fe (hb hby d6_2) (pc' := 5) rfl (fun T172 X172 e172 => ?_)
 refine k_alenF X172 hx hZ e172 fV (hb hby d6_5) (pc' := 6) rfl ?_
 refine k_icmp_le X172 hx (hb hby d6_6) (pn := 9) rfl (py := 31) (by decide) (fun hc173 => ?_) (fun hc173 => ?_)
 ·
  refine k_aloadN X172 hx (hb hby d6_31) rfl rfl (pc' := 32) rfl ?_
  refine k_aloadN X172 hx (hb hby d6_32) rfl rfl (pc' := 33) rfl ?_
  refine k_getF X172 hx hZ hown (host := "") (Or.inl (hw _ (List.mem_of_getElem? (i := 20) rfl))) Via.refl e172 fs (hb hby d6_33) (pc' := 36) rfl (fun T174 X174 e174 => ?_)
  refine k_iloadN X174 hx (hb hby d6_36) rfl (pc' := 37) rfl ?_
  refine k_callS X174 hx hZ hown (hw _ (List.mem_of_getElem? (i := 35) rfl)) (hw _ (List.mem_of_getElem? (i := 36) rfl)) (hw _ (List.mem_of_getElem? (i := 37) rfl)) (hw _ (List.mem_of_getElem? (i := 38) rfl)) (by decide) (rm7_175 l Z a0 hw [] pS pT h0 n0 Z0 ) (by decide) (by decide) e174 (by rw [hml]; rfl) (argsL := [(.int pS), (.int pT)]) (rest := [(.ref a1)]) (lenOf pd_3 rfl) rfl (W := 1) (Nat.le_refl _) rfl (hb hby d6_37) (by decide) (by decide) (pc' := 40) rfl (fun T177 L177 r177 X177 q177 => ?_)
  obtain ⟨N177, e177, rfl⟩ := q177
  have N177' := Fr.app N0 N177
  show KEnds p e below s _ _ _ T177 (mkF m 40 #[rv a1, iv pT] ((.int (f7_175 pS pT)) :: (.ref a1) :: []))
  obtain ⟨v178, hv178⟩ : ∃ z, z = f7_175 pS pT := ⟨_, rfl⟩
  rw [← hv178]
  refine k_putF X177 hx hZ hown (host := "") (Or.inl (hw _ (List.mem_of_getElem? (i := 20) rfl))) Via.refl e177 fs fE (Or.inl (hw _ (List.mem_of_getElem? (i := 21) rfl))) (hw _ (List.mem_of_getElem? (i := 2) rfl)) (ty := .int) (by decide) rfl rfl (hb hby d6_40) (pc' := 43) rfl (fun T179 h179 X179 e179 W179 => ?_)
  have Fw179 : Fld Z h179 a1 "com/example/dendrotick/dendrotick/VectorClock" "size" "I" (.int v178) := fs.same W179
  have N179 := Fr.snoc X179 N177' g_a1
  have Z179 : n0 ≤ h179.size := Nat.le_trans Z0 (Nat.le_of_eq W179.size.symm)
  have F180 := (fE.wr W179)
  have F181 := (fe.other W179 (Or.inr (slot_ne (Or.inl (hw _ (List.mem_of_getElem? (i := 12) rfl))) (Or.inl (hw _ (List.mem_of_getElem? (i := 21) rfl))) (by decide) (t := (.array .int)) (t' := .int) (by decide) (by decide))))
  have F182 := (fw.other W179 (Or.inr (slot_ne (Or.inr (hw _ (List.mem_of_getElem? (i := 14) rfl))) (Or.inl (hw _ (List.mem_of_getElem? (i := 21) rfl))) (by decide) (t := (.object "com/example/dendrotick/dendrotick/ClockWork")) (t' := .int) (by decide) (by decide))))
  have F183 := (fV.other W179 (Ne.symm (Nat.ne_of_lt lt0)))
  have hI214 : ¬ pL < 0 := (by intro hq184; have B185 : (0 : Int) ≤ pL.toInt ∧ pL.toInt ≤ -1 := ⟨k_ge hL0 (by decide), k_lt hq184 (by decide)⟩; have B186 : (0 : Int) ≤ pS.toInt ∧ pS.toInt ≤ 2147483647 := ⟨k_ge hS0 (by decide), Int.le_of_lt_add_one (rng32 pS).2⟩; have q187 := hSL; rw [Int32.lt_iff_toInt_lt] at q187; have B188 : (1 : Int) ≤ pT.toInt ∧ pT.toInt ≤ 16 := ⟨k_ge hT0 (by decide), k_le hT1 (by decide)⟩; have q189 := hc173; rw [Int32.lt_iff_toInt_lt] at q189; omega)
  have hI215 : ¬ (30 : Int32) < pL := (by intro hq190; have B191 : (31 : Int) ≤ pL.toInt ∧ pL.toInt ≤ 30 := ⟨k_gt hq190 (by decide), k_le hL1 (by decide)⟩; have B192 : (0 : Int) ≤ pS.toInt ∧ pS.toInt ≤ 2147483647 := ⟨k_ge hS0 (by decide), Int.le_of_lt_add_one (rng32 pS).2⟩; have q193 := hSL; rw [Int32.lt_iff_toInt_lt] at q193; have B194 : (1 : Int) ≤ pT.toInt ∧ pT.toInt ≤ 16 := ⟨k_ge hT0 (by decide), k_le hT1 (by decide)⟩; have q195 := hc173; rw [Int32.lt_iff_toInt_lt] at q195; omega)
  have hI216 : ¬ v178 < 0 := (by intro hq196; have B197 : (0 : Int) ≤ pL.toInt ∧ pL.toInt ≤ 30 := ⟨k_ge hL0 (by decide), k_le hL1 (by decide)⟩; have B198 : (0 : Int) ≤ pS.toInt ∧ pS.toInt ≤ 2147483647 := ⟨k_ge hS0 (by decide), Int.le_of_lt_add_one (rng32 pS).2⟩; have q199 := hSL; rw [Int32.lt_iff_toInt_lt] at q199; have B200 : (1 : Int) ≤ pT.toInt ∧ pT.toInt ≤ 16 := ⟨k_ge hT0 (by decide), k_le hT1 (by decide)⟩; have q201 := hc173; rw [Int32.lt_iff_toInt_lt] at q201; have q203 := own_mx pS pT; rw [← hv178] at q203; have B202 : (1 : Int) ≤ v178.toInt ∧ v178.toInt ≤ 2147483647 := (by omega); have B204 : (1 : Int) ≤ v178.toInt ∧ v178.toInt ≤ -1 := ⟨B202.1, k_lt hq196 (by decide)⟩; omega)
  have hI217 : ¬ pL < v178 := (by intro hq205; have B206 : (0 : Int) ≤ pL.toInt ∧ pL.toInt ≤ 30 := ⟨k_ge hL0 (by decide), k_le hL1 (by decide)⟩; have B207 : (0 : Int) ≤ pS.toInt ∧ pS.toInt ≤ 2147483647 := ⟨k_ge hS0 (by decide), Int.le_of_lt_add_one (rng32 pS).2⟩; have q208 := hSL; rw [Int32.lt_iff_toInt_lt] at q208; have B209 : (1 : Int) ≤ pT.toInt ∧ pT.toInt ≤ 16 := ⟨k_ge hT0 (by decide), k_le hT1 (by decide)⟩; have q210 := hc173; rw [Int32.lt_iff_toInt_lt] at q210; have q212 := own_mx pS pT; rw [← hv178] at q212; have B211 : (1 : Int) ≤ v178.toInt ∧ v178.toInt ≤ 2147483647 := (by omega); have q213 := hq205; rw [Int32.lt_iff_toInt_lt] at q213; omega)
  have hI218' : ¬ v178 < pS := (by intro hq219; have B220 : (0 : Int) ≤ pL.toInt ∧ pL.toInt ≤ 30 := ⟨k_ge hL0 (by decide), k_le hL1 (by decide)⟩; have B221 : (0 : Int) ≤ pS.toInt ∧ pS.toInt ≤ 2147483647 := ⟨k_ge hS0 (by decide), Int.le_of_lt_add_one (rng32 pS).2⟩; have q222 := hSL; rw [Int32.lt_iff_toInt_lt] at q222; have B223 : (1 : Int) ≤ pT.toInt ∧ pT.toInt ≤ 16 := ⟨k_ge hT0 (by decide), k_le hT1 (by decide)⟩; have q224 := hc173; rw [Int32.lt_iff_toInt_lt] at q224; have q226 := own_mx pS pT; rw [← hv178] at q226; have B225 : (1 : Int) ≤ v178.toInt ∧ v178.toInt ≤ 2147483647 := (by omega); have q227 := hq219; rw [Int32.lt_iff_toInt_lt] at q227; omega)
  have hI218 : ∀ i, v178.toNatClampNeg ≤ i → F0 i = 0 := fun i hi => HZ i (Nat.le_trans (kf_mono hI218') hi)
  have hI228 : ¬ v178 < pT := (by intro hq229; have B230 : (0 : Int) ≤ pL.toInt ∧ pL.toInt ≤ 30 := ⟨k_ge hL0 (by decide), k_le hL1 (by decide)⟩; have B231 : (0 : Int) ≤ pS.toInt ∧ pS.toInt ≤ 2147483647 := ⟨k_ge hS0 (by decide), Int.le_of_lt_add_one (rng32 pS).2⟩; have q232 := hSL; rw [Int32.lt_iff_toInt_lt] at q232; have B233 : (1 : Int) ≤ pT.toInt ∧ pT.toInt ≤ 16 := ⟨k_ge hT0 (by decide), k_le hT1 (by decide)⟩; have q234 := hc173; rw [Int32.lt_iff_toInt_lt] at q234; have q236 := own_mx pS pT; rw [← hv178] at q236; have B235 : (1 : Int) ≤ v178.toInt ∧ v178.toInt ≤ 2147483647 := (by omega); have q237 := hq229; rw [Int32.lt_iff_toInt_lt] at q237; omega)
  exact k_ret X179 hx Bd.returns (hb hby d6_43) hlk (by decide) (by decide) (by rw [e179]; exact ⟨N179, ⟨a2, k2, pL, v178, rfl, F180, F181, F182, Fw179, F183, g_a2, lt0, Z179, hI214, hI215, hI216, hI217, hI218, hI228⟩⟩)
 ·
  refine k_aloadN X172 hx (hb hby d6_9) rfl rfl (pc' := 10) rfl ?_
  refine k_aloadN X172 hx (hb hby d6_10) rfl rfl (pc' := 11) rfl ?_
  refine k_getF X172 hx hZ hown (host := "") (Or.inl (hw _ (List.mem_of_getElem? (i := 11) rfl))) Via.refl e172 fe (hb hby d6_11) (pc' := 14) rfl (fun T238 X238 e238 => ?_)
  refine k_iloadN X238 hx (hb hby d6_14) rfl (pc' := 15) rfl ?_
  refine k_iconst X238 hx (hb hby d6_15) (pc' := 16) rfl (z := (2 : Int32)) rfl ?_
  refine k_aloadN X238 hx (hb hby d6_16) rfl rfl (pc' := 17) rfl ?_
  refine k_getF X238 hx hZ hown (host := "") (Or.inl (hw _ (List.mem_of_getElem? (i := 11) rfl))) Via.refl e238 fe (hb hby d6_17) (pc' := 20) rfl (fun T239 X239 e239 => ?_)
  refine k_alenF X239 hx hZ e239 fV (hb hby d6_20) (pc' := 21) rfl ?_
  refine k_imul X239 hx (hb hby d6_21) (pc' := 22) rfl (fun v240 hv240 => ?_)
  refine k_callS X239 hx hZ hown (hw _ (List.mem_of_getElem? (i := 35) rfl)) (hw _ (List.mem_of_getElem? (i := 36) rfl)) (hw _ (List.mem_of_getElem? (i := 37) rfl)) (hw _ (List.mem_of_getElem? (i := 38) rfl)) (by decide) (rm7_175 l Z a0 hw [] pT v240 h0 n0 Z0 ) (by decide) (by decide) e239 (by rw [hml]; rfl) (argsL := [(.int pT), (.int v240)]) (rest := [(.ref a2), (.ref a1)]) (lenOf pd_3 rfl) rfl (W := 2) (Nat.le_refl _) rfl (hb hby d6_22) (by decide) (by decide) (pc' := 25) rfl (fun T241 L241 r241 X241 q241 => ?_)
  obtain ⟨N241, e241, rfl⟩ := q241
  have N241' := Fr.app N0 N241
  show KEnds p e below s _ _ _ T241 (mkF m 25 #[rv a1, iv pT] ((.int (f7_175 pT v240)) :: (.ref a2) :: (.ref a1) :: []))
  obtain ⟨v242, hv242⟩ : ∃ z, z = f7_175 pT v240 := ⟨_, rfl⟩
  rw [← hv242]
  have hp243 : pL < v242 := by
   refine Classical.byContradiction (fun hq244 => ?_)
   have B245 : (0 : Int) ≤ pL.toInt ∧ pL.toInt ≤ 30 := ⟨k_ge hL0 (by decide), k_le hL1 (by decide)⟩
   have B246 : (0 : Int) ≤ pS.toInt ∧ pS.toInt ≤ 2147483647 := ⟨k_ge hS0 (by decide), Int.le_of_lt_add_one (rng32 pS).2⟩
   have q247 := hSL; rw [Int32.lt_iff_toInt_lt] at q247
   have B248 : (1 : Int) ≤ pT.toInt ∧ pT.toInt ≤ 16 := ⟨k_ge hT0 (by decide), k_le hT1 (by decide)⟩
   have q249 := hc173; rw [Int32.lt_iff_toInt_lt] at q249
   have B254 : (2 : Int) ≤ (2 : Int32).toInt ∧ (2 : Int32).toInt ≤ 2 := (by decide)
   have q253 : v240.toInt = 2 * pL.toInt := (by have q0 := c_imul (2 : Int32) pL; have q1 := rng32 v240; have q2 := B245; rw [← hv240] at q0; rw [show (2 : Int32).toInt = 2 from (by decide)] at q0; omega)
   have B252 : (0 : Int) ≤ v240.toInt ∧ v240.toInt ≤ 60 := (by rw [q253]; exact k_mulB B245 (by decide))
   have q251 := own_mx pT v240; rw [← hv242] at q251
   have B250 : (1 : Int) ≤ v242.toInt ∧ v242.toInt ≤ 60 := (by omega)
   have q255 := hq244; rw [Int32.lt_iff_toInt_lt] at q255
   omega
  have hp256 : ¬ (30 : Int32) < v242 := by
   intro hq257
   have B258 : (0 : Int) ≤ pL.toInt ∧ pL.toInt ≤ 30 := ⟨k_ge hL0 (by decide), k_le hL1 (by decide)⟩
   have B259 : (0 : Int) ≤ pS.toInt ∧ pS.toInt ≤ 2147483647 := ⟨k_ge hS0 (by decide), Int.le_of_lt_add_one (rng32 pS).2⟩
   have q260 := hSL; rw [Int32.lt_iff_toInt_lt] at q260
   have B261 : (1 : Int) ≤ pT.toInt ∧ pT.toInt ≤ 16 := ⟨k_ge hT0 (by decide), k_le hT1 (by decide)⟩
   have q262 := hc173; rw [Int32.lt_iff_toInt_lt] at q262
   have B267 : (2 : Int) ≤ (2 : Int32).toInt ∧ (2 : Int32).toInt ≤ 2 := (by decide)
   have q266 : v240.toInt = 2 * pL.toInt := (by have q0 := c_imul (2 : Int32) pL; have q1 := rng32 v240; have q2 := B258; rw [← hv240] at q0; rw [show (2 : Int32).toInt = 2 from (by decide)] at q0; omega)
   have B265 : (0 : Int) ≤ v240.toInt ∧ v240.toInt ≤ 60 := (by rw [q266]; exact k_mulB B258 (by decide))
   have q264 := own_mx pT v240; rw [← hv242] at q264
   have B263 : (1 : Int) ≤ v242.toInt ∧ v242.toInt ≤ 60 := (by omega)
   have B268 : (31 : Int) ≤ v242.toInt ∧ v242.toInt ≤ 60 := ⟨k_gt hq257 (by decide), B263.2⟩
   have q269 := hp243; rw [Int32.lt_iff_toInt_lt] at q269
   omega
  refine k_callS X241 hx hZ hown (hw _ (List.mem_of_getElem? (i := 39) rfl)) (hw _ (List.mem_of_getElem? (i := 40) rfl)) (hw _ (List.mem_of_getElem? (i := 41) rfl)) (hw _ (List.mem_of_getElem? (i := 42) rfl)) (by decide) (rm8_271 l Z a0 hw [] a2 v242 a1 pS k2 pL F0 h0 n0 Z0 fE fe fw fs g_a1 fV g_a2 lt0 hL0 hp243 hp256 (fun i hi => HZ i (Nat.le_trans (kf_mono hSL) hi))) (by decide) (by decide) e241 (by rw [hml]; rfl) (argsL := [(.ref a2), (.int v242)]) (rest := [(.ref a1)]) (lenOf pd_4 rfl) rfl (W := 1) (Nat.le_refl _) rfl (hb hby d6_25) (by decide) (by decide) (pc' := 28) rfl (fun T310 L310 r310 X310 q310 => ?_)
  obtain ⟨N310, q310⟩ := q310
  have N310' := Fr.app N241' N310
  obtain ⟨b311, k312, rfl, F313, F314, F315, F316, F317, F318, g_b311, lt319, Z320⟩ := q310
  show KEnds p e below s _ _ _ T310 (mkF m 28 #[rv a1, iv pT] [(.ref b311), (.ref a1)])
  refine k_putF X310 hx hZ hown (host := "") (Or.inl (hw _ (List.mem_of_getElem? (i := 11) rfl))) Via.refl rfl F314 F313 (Or.inl (hw _ (List.mem_of_getElem? (i := 12) rfl))) (hw _ (List.mem_of_getElem? (i := 2) rfl)) (ty := (.array .int)) (by decide) rfl rfl (hb hby d6_28) (pc' := 31) rfl (fun T321 h321 X321 e321 W321 => ?_)
  have Fw321 : Fld Z h321 a1 "com/example/dendrotick/dendrotick/VectorClock" "entries" "[I" (.ref b311) := F314.same W321
  have N321 := Fr.snoc X321 N310' g_a1
  have Z321 : n0 ≤ h321.size := Nat.le_trans Z320 (Nat.le_of_eq W321.size.symm)
  refine k_aloadN X321 hx (hb hby d6_31) rfl rfl (pc' := 32) rfl ?_
  refine k_aloadN X321 hx (hb hby d6_32) rfl rfl (pc' := 33) rfl ?_
  have F322 := (F316.other W321 (Or.inr (slot_ne (Or.inl (hw _ (List.mem_of_getElem? (i := 21) rfl))) (Or.inl (hw _ (List.mem_of_getElem? (i := 12) rfl))) (by decide) (t := .int) (t' := (.array .int)) (by decide) (by decide))))
  refine k_getF X321 hx hZ hown (host := "") (Or.inl (hw _ (List.mem_of_getElem? (i := 20) rfl))) Via.refl e321 F322 (hb hby d6_33) (pc' := 36) rfl (fun T323 X323 e323 => ?_)
  refine k_iloadN X323 hx (hb hby d6_36) rfl (pc' := 37) rfl ?_
  refine k_callS X323 hx hZ hown (hw _ (List.mem_of_getElem? (i := 35) rfl)) (hw _ (List.mem_of_getElem? (i := 36) rfl)) (hw _ (List.mem_of_getElem? (i := 37) rfl)) (hw _ (List.mem_of_getElem? (i := 38) rfl)) (by decide) (rm7_175 l Z a0 hw [] pS pT h321 n0 Z321 ) (by decide) (by decide) e323 (by rw [hml]; rfl) (argsL := [(.int pS), (.int pT)]) (rest := [(.ref a1)]) (lenOf pd_3 rfl) rfl (W := 1) (Nat.le_refl _) rfl (hb hby d6_37) (by decide) (by decide) (pc' := 40) rfl (fun T324 L324 r324 X324 q324 => ?_)
  obtain ⟨N324, e324, rfl⟩ := q324
  have N324' := Fr.app N321 N324
  show KEnds p e below s _ _ _ T324 (mkF m 40 #[rv a1, iv pT] ((.int (f7_175 pS pT)) :: (.ref a1) :: []))
  obtain ⟨v325, hv325⟩ : ∃ z, z = f7_175 pS pT := ⟨_, rfl⟩
  rw [← hv325]
  have F326 := (F313.wr W321)
  refine k_putF X324 hx hZ hown (host := "") (Or.inl (hw _ (List.mem_of_getElem? (i := 20) rfl))) Via.refl e324 F322 F326 (Or.inl (hw _ (List.mem_of_getElem? (i := 21) rfl))) (hw _ (List.mem_of_getElem? (i := 2) rfl)) (ty := .int) (by decide) rfl rfl (hb hby d6_40) (pc' := 43) rfl (fun T327 h327 X327 e327 W327 => ?_)
  have Fw327 : Fld Z h327 a1 "com/example/dendrotick/dendrotick/VectorClock" "size" "I" (.int v325) := F322.same W327
  have N327 := Fr.snoc X327 N324' g_a1
  have Z327 : n0 ≤ h327.size := Nat.le_trans Z321 (Nat.le_of_eq W327.size.symm)
  have F328 := (F326.wr W327)
  have F329 := (Fw321.other W327 (Or.inr (slot_ne (Or.inl (hw _ (List.mem_of_getElem? (i := 12) rfl))) (Or.inl (hw _ (List.mem_of_getElem? (i := 21) rfl))) (by decide) (t := (.array .int)) (t' := .int) (by decide) (by decide))))
  have F330 := ((F315.other W321 (Or.inr (slot_ne (Or.inr (hw _ (List.mem_of_getElem? (i := 14) rfl))) (Or.inl (hw _ (List.mem_of_getElem? (i := 12) rfl))) (by decide) (t := (.object "com/example/dendrotick/dendrotick/ClockWork")) (t' := (.array .int)) (by decide) (by decide)))).other W327 (Or.inr (slot_ne (Or.inr (hw _ (List.mem_of_getElem? (i := 14) rfl))) (Or.inl (hw _ (List.mem_of_getElem? (i := 21) rfl))) (by decide) (t := (.object "com/example/dendrotick/dendrotick/ClockWork")) (t' := .int) (by decide) (by decide))))
  have F331 := ((F318.other W321 (Ne.symm (Nat.ne_of_lt (Nat.lt_trans lt0 lt319)))).other W327 (Ne.symm (Nat.ne_of_lt (Nat.lt_trans lt0 lt319))))
  have hI389 : ¬ v242 < 0 := (by intro hq332; have B333 : (0 : Int) ≤ pL.toInt ∧ pL.toInt ≤ 30 := ⟨k_ge hL0 (by decide), k_le hL1 (by decide)⟩; have B334 : (0 : Int) ≤ pS.toInt ∧ pS.toInt ≤ 2147483647 := ⟨k_ge hS0 (by decide), Int.le_of_lt_add_one (rng32 pS).2⟩; have q335 := hSL; rw [Int32.lt_iff_toInt_lt] at q335; have B336 : (1 : Int) ≤ pT.toInt ∧ pT.toInt ≤ 16 := ⟨k_ge hT0 (by decide), k_le hT1 (by decide)⟩; have q337 := hc173; rw [Int32.lt_iff_toInt_lt] at q337; have B342 : (2 : Int) ≤ (2 : Int32).toInt ∧ (2 : Int32).toInt ≤ 2 := (by decide); have q341 : v240.toInt = 2 * pL.toInt := (by have q0 := c_imul (2 : Int32) pL; have q1 := rng32 v240; have q2 := B333; rw [← hv240] at q0; rw [show (2 : Int32).toInt = 2 from (by decide)] at q0; omega); have B340 : (0 : Int) ≤ v240.toInt ∧ v240.toInt ≤ 60 := (by rw [q341]; exact k_mulB B333 (by decide)); have q339 := own_mx pT v240; rw [← hv242] at q339; have B338 : (1 : Int) ≤ v242.toInt ∧ v242.toInt ≤ 60 := (by omega); have B343 : (1 : Int) ≤ v242.toInt ∧ v242.toInt ≤ -1 := ⟨B338.1, k_lt hq332 (by decide)⟩; have q344 := hp243; rw [Int32.lt_iff_toInt_lt] at q344; omega)
  have hI390 : ¬ (30 : Int32) < v242 := (by intro hq345; have B346 : (0 : Int) ≤ pL.toInt ∧ pL.toInt ≤ 30 := ⟨k_ge hL0 (by decide), k_le hL1 (by decide)⟩; have B347 : (0 : Int) ≤ pS.toInt ∧ pS.toInt ≤ 2147483647 := ⟨k_ge hS0 (by decide), Int.le_of_lt_add_one (rng32 pS).2⟩; have q348 := hSL; rw [Int32.lt_iff_toInt_lt] at q348; have B349 : (1 : Int) ≤ pT.toInt ∧ pT.toInt ≤ 16 := ⟨k_ge hT0 (by decide), k_le hT1 (by decide)⟩; have q350 := hc173; rw [Int32.lt_iff_toInt_lt] at q350; have B355 : (2 : Int) ≤ (2 : Int32).toInt ∧ (2 : Int32).toInt ≤ 2 := (by decide); have q354 : v240.toInt = 2 * pL.toInt := (by have q0 := c_imul (2 : Int32) pL; have q1 := rng32 v240; have q2 := B346; rw [← hv240] at q0; rw [show (2 : Int32).toInt = 2 from (by decide)] at q0; omega); have B353 : (0 : Int) ≤ v240.toInt ∧ v240.toInt ≤ 60 := (by rw [q354]; exact k_mulB B346 (by decide)); have q352 := own_mx pT v240; rw [← hv242] at q352; have B351 : (31 : Int) ≤ v242.toInt ∧ v242.toInt ≤ 30 := ⟨k_gt hq345 (by decide), k_le hp256 (by decide)⟩; have q356 := hp243; rw [Int32.lt_iff_toInt_lt] at q356; omega)
  have hI391 : ¬ v325 < 0 := (by intro hq357; have B358 : (0 : Int) ≤ pL.toInt ∧ pL.toInt ≤ 30 := ⟨k_ge hL0 (by decide), k_le hL1 (by decide)⟩; have B359 : (0 : Int) ≤ pS.toInt ∧ pS.toInt ≤ 2147483647 := ⟨k_ge hS0 (by decide), Int.le_of_lt_add_one (rng32 pS).2⟩; have q360 := hSL; rw [Int32.lt_iff_toInt_lt] at q360; have B361 : (1 : Int) ≤ pT.toInt ∧ pT.toInt ≤ 16 := ⟨k_ge hT0 (by decide), k_le hT1 (by decide)⟩; have q362 := hc173; rw [Int32.lt_iff_toInt_lt] at q362; have B367 : (2 : Int) ≤ (2 : Int32).toInt ∧ (2 : Int32).toInt ≤ 2 := (by decide); have q366 : v240.toInt = 2 * pL.toInt := (by have q0 := c_imul (2 : Int32) pL; have q1 := rng32 v240; have q2 := B358; rw [← hv240] at q0; rw [show (2 : Int32).toInt = 2 from (by decide)] at q0; omega); have B365 : (0 : Int) ≤ v240.toInt ∧ v240.toInt ≤ 60 := (by rw [q366]; exact k_mulB B358 (by decide)); have q364 := own_mx pT v240; rw [← hv242] at q364; have B363 : (1 : Int) ≤ v242.toInt ∧ v242.toInt ≤ 60 := (by omega); have B368 : (1 : Int) ≤ v242.toInt ∧ v242.toInt ≤ 30 := ⟨B363.1, k_le hp256 (by decide)⟩; have q369 := hp243; rw [Int32.lt_iff_toInt_lt] at q369; have q371 := own_mx pS pT; rw [← hv325] at q371; have B370 : (1 : Int) ≤ v325.toInt ∧ v325.toInt ≤ 2147483647 := (by omega); have B372 : (1 : Int) ≤ v325.toInt ∧ v325.toInt ≤ -1 := ⟨B370.1, k_lt hq357 (by decide)⟩; omega)
  have hI392 : ¬ v242 < v325 := (by intro hq373; have B374 : (0 : Int) ≤ pL.toInt ∧ pL.toInt ≤ 30 := ⟨k_ge hL0 (by decide), k_le hL1 (by decide)⟩; have B375 : (0 : Int) ≤ pS.toInt ∧ pS.toInt ≤ 2147483647 := ⟨k_ge hS0 (by decide), Int.le_of_lt_add_one (rng32 pS).2⟩; have q376 := hSL; rw [Int32.lt_iff_toInt_lt] at q376; have B377 : (1 : Int) ≤ pT.toInt ∧ pT.toInt ≤ 16 := ⟨k_ge hT0 (by decide), k_le hT1 (by decide)⟩; have q378 := hc173; rw [Int32.lt_iff_toInt_lt] at q378; have B383 : (2 : Int) ≤ (2 : Int32).toInt ∧ (2 : Int32).toInt ≤ 2 := (by decide); have q382 : v240.toInt = 2 * pL.toInt := (by have q0 := c_imul (2 : Int32) pL; have q1 := rng32 v240; have q2 := B374; rw [← hv240] at q0; rw [show (2 : Int32).toInt = 2 from (by decide)] at q0; omega); have B381 : (0 : Int) ≤ v240.toInt ∧ v240.toInt ≤ 60 := (by rw [q382]; exact k_mulB B374 (by decide)); have q380 := own_mx pT v240; rw [← hv242] at q380; have B379 : (1 : Int) ≤ v242.toInt ∧ v242.toInt ≤ 60 := (by omega); have B384 : (1 : Int) ≤ v242.toInt ∧ v242.toInt ≤ 30 := ⟨B379.1, k_le hp256 (by decide)⟩; have q385 := hp243; rw [Int32.lt_iff_toInt_lt] at q385; have q387 := own_mx pS pT; rw [← hv325] at q387; have B386 : (1 : Int) ≤ v325.toInt ∧ v325.toInt ≤ 2147483647 := (by omega); have q388 := hq373; rw [Int32.lt_iff_toInt_lt] at q388; omega)
  have hI393' : ¬ v325 < pS := (by intro hq394; have B395 : (0 : Int) ≤ pL.toInt ∧ pL.toInt ≤ 30 := ⟨k_ge hL0 (by decide), k_le hL1 (by decide)⟩; have B396 : (0 : Int) ≤ pS.toInt ∧ pS.toInt ≤ 2147483647 := ⟨k_ge hS0 (by decide), Int.le_of_lt_add_one (rng32 pS).2⟩; have q397 := hSL; rw [Int32.lt_iff_toInt_lt] at q397; have B398 : (1 : Int) ≤ pT.toInt ∧ pT.toInt ≤ 16 := ⟨k_ge hT0 (by decide), k_le hT1 (by decide)⟩; have q399 := hc173; rw [Int32.lt_iff_toInt_lt] at q399; have B404 : (2 : Int) ≤ (2 : Int32).toInt ∧ (2 : Int32).toInt ≤ 2 := (by decide); have q403 : v240.toInt = 2 * pL.toInt := (by have q0 := c_imul (2 : Int32) pL; have q1 := rng32 v240; have q2 := B395; rw [← hv240] at q0; rw [show (2 : Int32).toInt = 2 from (by decide)] at q0; omega); have B402 : (0 : Int) ≤ v240.toInt ∧ v240.toInt ≤ 60 := (by rw [q403]; exact k_mulB B395 (by decide)); have q401 := own_mx pT v240; rw [← hv242] at q401; have B400 : (1 : Int) ≤ v242.toInt ∧ v242.toInt ≤ 60 := (by omega); have B405 : (1 : Int) ≤ v242.toInt ∧ v242.toInt ≤ 30 := ⟨B400.1, k_le hp256 (by decide)⟩; have q406 := hp243; rw [Int32.lt_iff_toInt_lt] at q406; have q408 := own_mx pS pT; rw [← hv325] at q408; have B407 : (1 : Int) ≤ v325.toInt ∧ v325.toInt ≤ 2147483647 := (by omega); have q409 := hq394; rw [Int32.lt_iff_toInt_lt] at q409; omega)
  have hI393 : ∀ i, v325.toNatClampNeg ≤ i → F0 i = 0 := fun i hi => HZ i (Nat.le_trans (kf_mono hI393') hi)
  have hI410 : ¬ v325 < pT := (by intro hq411; have B412 : (0 : Int) ≤ pL.toInt ∧ pL.toInt ≤ 30 := ⟨k_ge hL0 (by decide), k_le hL1 (by decide)⟩; have B413 : (0 : Int) ≤ pS.toInt ∧ pS.toInt ≤ 2147483647 := ⟨k_ge hS0 (by decide), Int.le_of_lt_add_one (rng32 pS).2⟩; have q414 := hSL; rw [Int32.lt_iff_toInt_lt] at q414; have B415 : (1 : Int) ≤ pT.toInt ∧ pT.toInt ≤ 16 := ⟨k_ge hT0 (by decide), k_le hT1 (by decide)⟩; have q416 := hc173; rw [Int32.lt_iff_toInt_lt] at q416; have B421 : (2 : Int) ≤ (2 : Int32).toInt ∧ (2 : Int32).toInt ≤ 2 := (by decide); have q420 : v240.toInt = 2 * pL.toInt := (by have q0 := c_imul (2 : Int32) pL; have q1 := rng32 v240; have q2 := B412; rw [← hv240] at q0; rw [show (2 : Int32).toInt = 2 from (by decide)] at q0; omega); have B419 : (0 : Int) ≤ v240.toInt ∧ v240.toInt ≤ 60 := (by rw [q420]; exact k_mulB B412 (by decide)); have q418 := own_mx pT v240; rw [← hv242] at q418; have B417 : (1 : Int) ≤ v242.toInt ∧ v242.toInt ≤ 60 := (by omega); have B422 : (1 : Int) ≤ v242.toInt ∧ v242.toInt ≤ 30 := ⟨B417.1, k_le hp256 (by decide)⟩; have q423 := hp243; rw [Int32.lt_iff_toInt_lt] at q423; have q425 := own_mx pS pT; rw [← hv325] at q425; have B424 : (1 : Int) ≤ v325.toInt ∧ v325.toInt ≤ 2147483647 := (by omega); have q426 := hq411; rw [Int32.lt_iff_toInt_lt] at q426; omega)
  exact k_ret X327 hx Bd.returns (hb hby d6_43) hlk (by decide) (by decide) (by rw [e327]; exact ⟨N327, ⟨b311, k312, v242, v325, rfl, F328, F329, F330, Fw327, F331, g_b311, (Nat.lt_trans lt0 lt319), Z327, hI389, hI390, hI391, hI392, hI393, hI410⟩⟩)
theorem pd_5 : parseMethodDescriptor "(I)V" = some ⟨[.int], none⟩ := by decide +kernel
theorem d5_7 : decode prog_36_method_3_code 7 = .ok (.aload_n 0, 1) := by decide +kernel
theorem d5_8 : decode prog_36_method_3_code 8 = .ok (.getfield 7, 3) := by decide +kernel
theorem d5_11 : decode prog_36_method_3_code 11 = .ok (.iload_n 1, 1) := by decide +kernel
theorem d5_12 : decode prog_36_method_3_code 12 = .ok (.dup2, 1) := by decide +kernel
theorem d5_13 : decode prog_36_method_3_code 13 = .ok (.iaload, 1) := by decide +kernel
theorem d5_14 : decode prog_36_method_3_code 14 = .ok (.iconst 1, 1) := by decide +kernel
theorem d5_15 : decode prog_36_method_3_code 15 = .ok (.iadd, 1) := by decide +kernel
theorem d5_16 : decode prog_36_method_3_code 16 = .ok (.iastore, 1) := by decide +kernel
theorem d5_17 : decode prog_36_method_3_code 17 = .ok (.aload_n 0, 1) := by decide +kernel
theorem d5_18 : decode prog_36_method_3_code 18 = .ok (.getfield 13, 3) := by decide +kernel
theorem d5_21 : decode prog_36_method_3_code 21 = .ok (.ifnull 11, 3) := by decide +kernel
theorem d5_32 : decode prog_36_method_3_code 32 = .ok (.return_, 1) := by decide +kernel
abbrev R5_169 : Room := { frames := 3, cells := 1, slots := 30, locals := 46 }
def Q5_169 (Z : State) (a1 : Addr) (a2 : Addr) (k2 : ClassId) (pL : Int32) (pS : Int32) (pT : Int32) (F0 : Nat → Int32) (h0 : Heap) (n0 : Nat) (v : Option Value) (h : Heap) (L : List Loc) : Prop := Fr n0 L ∧ ∃ (b : Addr) (kb : ClassId) (zl zs : Int32), v = none ∧ Exa Z h a1 "com/example/dendrotick/dendrotick/VectorClock" ∧ Fld Z h a1 "com/example/dendrotick/dendrotick/VectorClock" "entries" "[I" (.ref b) ∧ Fld Z h a1 "com/example/dendrotick/dendrotick/VectorClock" "work" "Lcom/example/dendrotick/dendrotick/ClockWork;" .null ∧ Fld Z h a1 "com/example/dendrotick/dendrotick/VectorClock" "size" "I" (.int zs) ∧ ArF Z h b kb zl (updF F0 pT.toNatClampNeg (F0 pT.toNatClampNeg + 1)) ∧ n0 ≤ b ∧ a1 < b ∧ n0 ≤ h.size ∧ ¬ zl < 0 ∧ ¬ (30 : Int32) < zl ∧ ¬ zs < 0 ∧ ¬ zl < zs ∧ (∀ i, zs.toNatClampNeg ≤ i → (updF F0 pT.toNatClampNeg (F0 pT.toNatClampNeg + 1)) i = 0)
theorem ef5_169 (m : MethodId) (x0 : Addr) (x1 : Int32) : entryFrame m #[(.ref x0), (.int x1)] 2 = mkF m 0 #[.val (.ref x0), .val (.int x1)] [] := by first | (simp [entryFrame, mkF, argsToLocals, Value.category]; done) | rfl
set_option maxRecDepth 65536 in
set_option maxHeartbeats 40000000 in
theorem rm5_169 (l : Launch) (Z : State) (a0 : Array Value) (hw : ∀ d ∈ tables_1, d.before a0 Z = true) (ws : List Jvm.Cond) (a1 : Addr) (a2 : Addr) (k2 : ClassId) (pL : Int32) (pS : Int32) (pT : Int32) (F0 : Nat → Int32) (h0 : Heap) (n0 : Nat) (Z0 : n0 ≤ h0.size) (fE : Exa Z h0 a1 "com/example/dendrotick/dendrotick/VectorClock") (fe : Fld Z h0 a1 "com/example/dendrotick/dendrotick/VectorClock" "entries" "[I" (.ref a2)) (fw : Fld Z h0 a1 "com/example/dendrotick/dendrotick/VectorClock" "work" "Lcom/example/dendrotick/dendrotick/ClockWork;" .null) (fs : Fld Z h0 a1 "com/example/dendrotick/dendrotick/VectorClock" "size" "I" (.int pS)) (fV : ArF Z h0 a2 k2 pL F0) (g_a1 : n0 ≤ a1) (g_a2 : n0 ≤ a2) (lt0 : a1 < a2) (hL0 : ¬ pL < 0) (hL1 : ¬ (30 : Int32) < pL) (hS0 : ¬ pS < 0) (hSL : ¬ pL < pS) (HZ : (∀ i, pS.toNatClampNeg ≤ i → F0 i = 0)) (hT0 : ¬ pT < (0 : Int32)) (hT1 : ¬ (15 : Int32) < pT) :
    MetFree l (⟨"com/example/dendrotick/dendrotick/VectorClock", "increment", "(I)V"⟩ : MethodName) (head1 (Jvm.Cond.code (⟨"com/example/dendrotick/dendrotick/VectorClock", "increment", "(I)V"⟩ : MethodName) prog_36_method_3_code 2 none :: ws) R5_169) (fun a U => a = #[(.ref a1), (.int pT)] ∧ Z.Warmed39 U.vm ∧ U.heap = h0) (fun _ _ _ _ _ => True) (fun _ U o U' => ∃ v L, o = .returned v ∧ Q5_169 Z a1 a2 k2 pL pS pT F0 h0 n0 v U'.heap L ∧ FrameEnd U o U' L R5_169.cells R5_169.slots) := by
 refine MetFree.of_bodySF (plainFor_of_name pn_0) hisR ?_
 intro p e s m args below meth c s₁ Bd hml0 hP hK
 obtain ⟨rfl, hZ, hh⟩ := hP
 have hx := Bd.exec
 have hby := Bd.bytes
 have hml : c.maxLocals = 2 := hml0
 have hlk : meth.locks = false := Bd.notSynchronized
 have hown : s.vm.findClass "com/example/dendrotick/dendrotick/VectorClock" = some m.cls := findClass_of_methodNamed Bd.named
 have hnm := (name_of_methodNamed Bd.named Bd.method).1
 have X0 : Stand p l e R5_169 s m #[(.ref a1), (.int pT)] below meth c s₁ [] 0 0 := Stand.of_body Bd
 have e0 : s₁.heap = h0 := by rw [← hh, Bd.state]; rfl
 have N0 := Fr.nil n0
 rw [ef5_169 m a1 pT]
 show KEnds p e below s R5_169.cells R5_169.slots (Q5_169 Z a1 a2 k2 pL pS pT F0 h0 n0) s₁ (mkF m 0 #[rv a1, iv pT] [])
 refine k_aloadN X0 hx (hb hby d5_0) rfl rfl (pc' := 1) rfl ?_
 refine k_iloadN X0 hx (hb hby d5_1) rfl (pc' := 2) rfl ?_
 refine k_iconst X0 hx (hb hby d5_2) (pc' := 3) rfl (z := (1 : Int32)) rfl ?_
 refine k_iadd X0 hx (hb hby d5_3) (pc' := 4) rfl (fun v170 hv170 => ?_)
 have hT428 : ¬ v170 < (1 : Int32) := (by intro hq429; have B430 : (0 : Int) ≤ pL.toInt ∧ pL.toInt ≤ 30 := ⟨k_ge hL0 (by decide), k_le hL1 (by decide)⟩; have B431 : (0 : Int) ≤ pS.toInt ∧ pS.toInt ≤ 2147483647 := ⟨k_ge hS0 (by decide), Int.le_of_lt_add_one (rng32 pS).2⟩; have q432 := hSL; rw [Int32.lt_iff_toInt_lt] at q432; have B433 : (0 : Int) ≤ pT.toInt ∧ pT.toInt ≤ 15 := ⟨k_ge hT0 (by decide), k_le hT1 (by decide)⟩; have B436 : (1 : Int) ≤ (1 : Int32).toInt ∧ (1 : Int32).toInt ≤ 1 := (by decide); have q435 : v170.toInt = pT.toInt + (1 : Int32).toInt := k_iaddx hv170 B433 B436 (by decide) (by decide); have B434 : (1 : Int) ≤ v170.toInt ∧ v170.toInt ≤ 16 := k_addB q435 B433 B436; have B437 : (1 : Int) ≤ v170.toInt ∧ v170.toInt ≤ 0 := ⟨B434.1, k_lt hq429 (by decide)⟩; omega)
 have hT438 : ¬ (16 : Int32) < v170 := (by intro hq439; have B440 : (0 : Int) ≤ pL.toInt ∧ pL.toInt ≤ 30 := ⟨k_ge hL0 (by decide), k_le hL1 (by decide)⟩; have B441 : (0 : Int) ≤ pS.toInt ∧ pS.toInt ≤ 2147483647 := ⟨k_ge hS0 (by decide), Int.le_of_lt_add_one (rng32 pS).2⟩; have q442 := hSL; rw [Int32.lt_iff_toInt_lt] at q442; have B443 : (0 : Int) ≤ pT.toInt ∧ pT.toInt ≤ 15 := ⟨k_ge hT0 (by decide), k_le hT1 (by decide)⟩; have B446 : (1 : Int) ≤ (1 : Int32).toInt ∧ (1 : Int32).toInt ≤ 1 := (by decide); have q445 : v170.toInt = pT.toInt + (1 : Int32).toInt := k_iaddx hv170 B443 B446 (by decide) (by decide); have B444 : (1 : Int) ≤ v170.toInt ∧ v170.toInt ≤ 16 := k_addB q445 B443 B446; have B447 : (17 : Int) ≤ v170.toInt ∧ v170.toInt ≤ 16 := ⟨k_gt hq439 (by decide), B444.2⟩; omega)
 refine k_callP X0 hx hZ hown (a := a1) (hw _ (List.mem_of_getElem? (i := 31) rfl)) (hw _ (List.mem_of_getElem? (i := 32) rfl)) (hw _ (List.mem_of_getElem? (i := 33) rfl)) (hw _ (List.mem_of_getElem? (i := 2) rfl)) (hw _ (List.mem_of_getElem? (i := 3) rfl)) (hw _ (List.mem_of_getElem? (i := 34) rfl)) (by decide) fE (rm6_171 l Z a0 hw [] a1 a2 k2 pL pS v170 F0 h0 n0 Z0 fE fe fw fs fV g_a1 g_a2 lt0 hL0 hL1 hS0 hSL HZ hT428 hT438) (by decide) (by decide) e0 (by rw [hml]; rfl) (argsL := [(.int v170)]) (rest := []) (lenOf pd_5 rfl) rfl (W := 0) (Nat.le_refl _) rfl (hb hby d5_4) (by decide) (by decide) (pc' := 7) rfl (fun T427 L427 r427 X427 q427 => ?_)
 obtain ⟨N427, b427, k427, v448, v449, rfl, F450, F451, F452, F453, F454, g_b427, lt461, Z462, hI455, hI456, hI457, hI458, HZ459, hI460⟩ := q427
 have N427' := Fr.app N0 N427
 show KEnds p e below s _ _ _ T427 (mkF m 7 #[rv a1, iv pT] [])
 refine k_aloadN X427 hx (hb hby d5_7) rfl rfl (pc' := 8) rfl ?_
 refine k_getF X427 hx hZ hown (host := "") (Or.inl (hw _ (List.mem_of_getElem? (i := 11) rfl))) Via.refl rfl F451 (hb hby d5_8) (pc' := 11) rfl (fun T463 X463 e463 => ?_)
 refine k_iloadN X463 hx (hb hby d5_11) rfl (pc' := 12) rfl ?_
 refine k_dup2 X463 hx (hb hby d5_12) rfl rfl (pc' := 13) rfl ?_
 have hj464 : ¬ pT < 0 ∧ pT < v448 := ⟨(by intro hq466; have B467 : (0 : Int) ≤ pL.toInt ∧ pL.toInt ≤ 30 := ⟨k_ge hL0 (by decide), k_le hL1 (by decide)⟩; have B468 : (0 : Int) ≤ pS.toInt ∧ pS.toInt ≤ 2147483647 := ⟨k_ge hS0 (by decide), Int.le_of_lt_add_one (rng32 pS).2⟩; have q469 := hSL; rw [Int32.lt_iff_toInt_lt] at q469; have B470 : (0 : Int) ≤ pT.toInt ∧ pT.toInt ≤ -1 := ⟨k_ge hT0 (by decide), k_lt hq466 (by decide)⟩; have B473 : (1 : Int) ≤ (1 : Int32).toInt ∧ (1 : Int32).toInt ≤ 1 := (by decide); have q472 : v170.toInt = pT.toInt + (1 : Int32).toInt := k_iaddx hv170 B470 B473 (by decide) (by decide); have B471 : (1 : Int) ≤ v170.toInt ∧ v170.toInt ≤ 0 := k_addB q472 B470 B473; have B474 : (0 : Int) ≤ v448.toInt ∧ v448.toInt ≤ 30 := ⟨k_ge hI455 (by decide), k_le hI456 (by decide)⟩; have B475 : (0 : Int) ≤ v449.toInt ∧ v449.toInt ≤ 2147483647 := ⟨k_ge hI457 (by decide), Int.le_of_lt_add_one (rng32 v449).2⟩; have q476 := hI458; rw [Int32.lt_iff_toInt_lt] at q476; have q477 := hI460; rw [Int32.lt_iff_toInt_lt] at q477; omega), (Classical.byContradiction (fun hq478 => by have B479 : (0 : Int) ≤ pL.toInt ∧ pL.toInt ≤ 30 := ⟨k_ge hL0 (by decide), k_le hL1 (by decide)⟩; have B480 : (0 : Int) ≤ pS.toInt ∧ pS.toInt ≤ 2147483647 := ⟨k_ge hS0 (by decide), Int.le_of_lt_add_one (rng32 pS).2⟩; have q481 := hSL; rw [Int32.lt_iff_toInt_lt] at q481; have B482 : (0 : Int) ≤ pT.toInt ∧ pT.toInt ≤ 15 := ⟨k_ge hT0 (by decide), k_le hT1 (by decide)⟩; have B485 : (1 : Int) ≤ (1 : Int32).toInt ∧ (1 : Int32).toInt ≤ 1 := (by decide); have q484 : v170.toInt = pT.toInt + (1 : Int32).toInt := k_iaddx hv170 B482 B485 (by decide) (by decide); have B483 : (1 : Int) ≤ v170.toInt ∧ v170.toInt ≤ 16 := k_addB q484 B482 B485; have B486 : (0 : Int) ≤ v448.toInt ∧ v448.toInt ≤ 30 := ⟨k_ge hI455 (by decide), k_le hI456 (by decide)⟩; have B487 : (0 : Int) ≤ v449.toInt ∧ v449.toInt ≤ 2147483647 := ⟨k_ge hI457 (by decide), Int.le_of_lt_add_one (rng32 v449).2⟩; have q488 := hI458; rw [Int32.lt_iff_toInt_lt] at q488; have q489 := hI460; rw [Int32.lt_iff_toInt_lt] at q489; have q490 := hq478; rw [Int32.lt_iff_toInt_lt] at q490; omega))⟩
 refine k_ialoadF X463 hx hZ e463 F454 hj464 (hb hby d5_13) (pc' := 14) rfl (fun v465 hv465 => ?_)
 refine k_iconst X463 hx (hb hby d5_14) (pc' := 15) rfl (z := (1 : Int32)) rfl ?_
 refine k_iadd X463 hx (hb hby d5_15) (pc' := 16) rfl (fun v491 hv491 => ?_)
 have hj492 : ¬ pT < 0 ∧ pT < v448 := ⟨(by intro hq493; have B494 : (0 : Int) ≤ pL.toInt ∧ pL.toInt ≤ 30 := ⟨k_ge hL0 (by decide), k_le hL1 (by decide)⟩; have B495 : (0 : Int) ≤ pS.toInt ∧ pS.toInt ≤ 2147483647 := ⟨k_ge hS0 (by decide), Int.le_of_lt_add_one (rng32 pS).2⟩; have q496 := hSL; rw [Int32.lt_iff_toInt_lt] at q496; have B497 : (0 : Int) ≤ pT.toInt ∧ pT.toInt ≤ -1 := ⟨k_ge hT0 (by decide), k_lt hq493 (by decide)⟩; have B500 : (1 : Int) ≤ (1 : Int32).toInt ∧ (1 : Int32).toInt ≤ 1 := (by decide); have q499 : v170.toInt = pT.toInt + (1 : Int32).toInt := k_iaddx hv170 B497 B500 (by decide) (by decide); have B498 : (1 : Int) ≤ v170.toInt ∧ v170.toInt ≤ 0 := k_addB q499 B497 B500; have B501 : (0 : Int) ≤ v448.toInt ∧ v448.toInt ≤ 30 := ⟨k_ge hI455 (by decide), k_le hI456 (by decide)⟩; have B502 : (0 : Int) ≤ v449.toInt ∧ v449.toInt ≤ 2147483647 := ⟨k_ge hI457 (by decide), Int.le_of_lt_add_one (rng32 v449).2⟩; have q503 := hI458; rw [Int32.lt_iff_toInt_lt] at q503; have q504 := hI460; rw [Int32.lt_iff_toInt_lt] at q504; omega), (Classical.byContradiction (fun hq505 => by have B506 : (0 : Int) ≤ pL.toInt ∧ pL.toInt ≤ 30 := ⟨k_ge hL0 (by decide), k_le hL1 (by decide)⟩; have B507 : (0 : Int) ≤ pS.toInt ∧ pS.toInt ≤ 2147483647 := ⟨k_ge hS0 (by decide), Int.le_of_lt_add_one (rng32 pS).2⟩; have q508 := hSL; rw [Int32.lt_iff_toInt_lt] at q508; have B509 : (0 : Int) ≤ pT.toInt ∧ pT.toInt ≤ 15 := ⟨k_ge hT0 (by decide), k_le hT1 (by decide)⟩; have B512 : (1 : Int) ≤ (1 : Int32).toInt ∧ (1 : Int32).toInt ≤ 1 := (by decide); have q511 : v170.toInt = pT.toInt + (1 : Int32).toInt := k_iaddx hv170 B509 B512 (by decide) (by decide); have B510 : (1 : Int) ≤ v170.toInt ∧ v170.toInt ≤ 16 := k_addB q511 B509 B512; have B513 : (0 : Int) ≤ v448.toInt ∧ v448.toInt ≤ 30 := ⟨k_ge hI455 (by decide), k_le hI456 (by decide)⟩; have B514 : (0 : Int) ≤ v449.toInt ∧ v449.toInt ≤ 2147483647 := ⟨k_ge hI457 (by decide), Int.le_of_lt_add_one (rng32 v449).2⟩; have q515 := hI458; rw [Int32.lt_iff_toInt_lt] at q515; have q516 := hI460; rw [Int32.lt_iff_toInt_lt] at q516; have q517 := hq505; rw [Int32.lt_iff_toInt_lt] at q517; omega))⟩
 refine k_iastoreF X463 hx hZ e463 F454 hj492 (hb hby d5_16) (pc' := 17) rfl (fun T492 h492 X492 e492 W492 V492 => ?_)
 have N492 := Fr.snoc X492 N427' g_b427
 have Z492 : n0 ≤ h492.size := Nat.le_trans Z462 (Nat.le_of_eq W492.size.symm)
 refine k_aloadN X492 hx (hb hby d5_17) rfl rfl (pc' := 18) rfl ?_
 have F518 := (F452.other W492 (Or.inl (Nat.ne_of_lt lt461)))
 refine k_getF X492 hx hZ hown (host := "") (Or.inl (hw _ (List.mem_of_getElem? (i := 13) rfl))) Via.refl e492 F518 (hb hby d5_18) (pc' := 21) rfl (fun T519 X519 e519 => ?_)
 refine k_ifnullY X519 hx (hb hby d5_21) (pc' := 32) (by decide) ?_
 have F520 := (F450.wr W492)
 have F521 := (F451.other W492 (Or.inl (Nat.ne_of_lt lt461)))
 have F522 := (F453.other W492 (Or.inl (Nat.ne_of_lt lt461)))
 have F523 := V492
 rw [hv491, hv465] at F523
 have hI573 : ¬ v448 < 0 := (by intro hq524; have B525 : (0 : Int) ≤ pL.toInt ∧ pL.toInt ≤ 30 := ⟨k_ge hL0 (by decide), k_le hL1 (by decide)⟩; have B526 : (0 : Int) ≤ pS.toInt ∧ pS.toInt ≤ 2147483647 := ⟨k_ge hS0 (by decide), Int.le_of_lt_add_one (rng32 pS).2⟩; have q527 := hSL; rw [Int32.lt_iff_toInt_lt] at q527; have B528 : (0 : Int) ≤ pT.toInt ∧ pT.toInt ≤ 15 := ⟨k_ge hT0 (by decide), k_le hT1 (by decide)⟩; have B531 : (1 : Int) ≤ (1 : Int32).toInt ∧ (1 : Int32).toInt ≤ 1 := (by decide); have q530 : v170.toInt = pT.toInt + (1 : Int32).toInt := k_iaddx hv170 B528 B531 (by decide) (by decide); have B529 : (1 : Int) ≤ v170.toInt ∧ v170.toInt ≤ 16 := k_addB q530 B528 B531; have B532 : (0 : Int) ≤ v448.toInt ∧ v448.toInt ≤ -1 := ⟨k_ge hI455 (by decide), k_lt hq524 (by decide)⟩; have B533 : (0 : Int) ≤ v449.toInt ∧ v449.toInt ≤ 2147483647 := ⟨k_ge hI457 (by decide), Int.le_of_lt_add_one (rng32 v449).2⟩; have q534 := hI458; rw [Int32.lt_iff_toInt_lt] at q534; have q535 := hI460; rw [Int32.lt_iff_toInt_lt] at q535; omega)
 have hI574 : ¬ (30 : Int32) < v448 := (by intro hq536; have B537 : (0 : Int) ≤ pL.toInt ∧ pL.toInt ≤ 30 := ⟨k_ge hL0 (by decide), k_le hL1 (by decide)⟩; have B538 : (0 : Int) ≤ pS.toInt ∧ pS.toInt ≤ 2147483647 := ⟨k_ge hS0 (by decide), Int.le_of_lt_add_one (rng32 pS).2⟩; have q539 := hSL; rw [Int32.lt_iff_toInt_lt] at q539; have B540 : (0 : Int) ≤ pT.toInt ∧ pT.toInt ≤ 15 := ⟨k_ge hT0 (by decide), k_le hT1 (by decide)⟩; have B543 : (1 : Int) ≤ (1 : Int32).toInt ∧ (1 : Int32).toInt ≤ 1 := (by decide); have q542 : v170.toInt = pT.toInt + (1 : Int32).toInt := k_iaddx hv170 B540 B543 (by decide) (by decide); have B541 : (1 : Int) ≤ v170.toInt ∧ v170.toInt ≤ 16 := k_addB q542 B540 B543; have B544 : (31 : Int) ≤ v448.toInt ∧ v448.toInt ≤ 30 := ⟨k_gt hq536 (by decide), k_le hI456 (by decide)⟩; have B545 : (0 : Int) ≤ v449.toInt ∧ v449.toInt ≤ 2147483647 := ⟨k_ge hI457 (by decide), Int.le_of_lt_add_one (rng32 v449).2⟩; have q546 := hI458; rw [Int32.lt_iff_toInt_lt] at q546; have q547 := hI460; rw [Int32.lt_iff_toInt_lt] at q547; omega)
 have hI575 : ¬ v449 < 0 := (by intro hq548; have B549 : (0 : Int) ≤ pL.toInt ∧ pL.toInt ≤ 30 := ⟨k_ge hL0 (by decide), k_le hL1 (by decide)⟩; have B550 : (0 : Int) ≤ pS.toInt ∧ pS.toInt ≤ 2147483647 := ⟨k_ge hS0 (by decide), Int.le_of_lt_add_one (rng32 pS).2⟩; have q551 := hSL; rw [Int32.lt_iff_toInt_lt] at q551; have B552 : (0 : Int) ≤ pT.toInt ∧ pT.toInt ≤ 15 := ⟨k_ge hT0 (by decide), k_le hT1 (by decide)⟩; have B555 : (1 : Int) ≤ (1 : Int32).toInt ∧ (1 : Int32).toInt ≤ 1 := (by decide); have q554 : v170.toInt = pT.toInt + (1 : Int32).toInt := k_iaddx hv170 B552 B555 (by decide) (by decide); have B553 : (1 : Int) ≤ v170.toInt ∧ v170.toInt ≤ 16 := k_addB q554 B552 B555; have B556 : (0 : Int) ≤ v448.toInt ∧ v448.toInt ≤ 30 := ⟨k_ge hI455 (by decide), k_le hI456 (by decide)⟩; have B557 : (0 : Int) ≤ v449.toInt ∧ v449.toInt ≤ -1 := ⟨k_ge hI457 (by decide), k_lt hq548 (by decide)⟩; have q558 := hI458; rw [Int32.lt_iff_toInt_lt] at q558; have q559 := hI460; rw [Int32.lt_iff_toInt_lt] at q559; omega)
 have hI576 : ¬ v448 < v449 := (by intro hq560; have B561 : (0 : Int) ≤ pL.toInt ∧ pL.toInt ≤ 30 := ⟨k_ge hL0 (by decide), k_le hL1 (by decide)⟩; have B562 : (0 : Int) ≤ pS.toInt ∧ pS.toInt ≤ 2147483647 := ⟨k_ge hS0 (by decide), Int.le_of_lt_add_one (rng32 pS).2⟩; have q563 := hSL; rw [Int32.lt_iff_toInt_lt] at q563; have B564 : (0 : Int) ≤ pT.toInt ∧ pT.toInt ≤ 15 := ⟨k_ge hT0 (by decide), k_le hT1 (by decide)⟩; have B567 : (1 : Int) ≤ (1 : Int32).toInt ∧ (1 : Int32).toInt ≤ 1 := (by decide); have q566 : v170.toInt = pT.toInt + (1 : Int32).toInt := k_iaddx hv170 B564 B567 (by decide) (by decide); have B565 : (1 : Int) ≤ v170.toInt ∧ v170.toInt ≤ 16 := k_addB q566 B564 B567; have B568 : (0 : Int) ≤ v448.toInt ∧ v448.toInt ≤ 30 := ⟨k_ge hI455 (by decide), k_le hI456 (by decide)⟩; have B569 : (0 : Int) ≤ v449.toInt ∧ v449.toInt ≤ 2147483647 := ⟨k_ge hI457 (by decide), Int.le_of_lt_add_one (rng32 v449).2⟩; have q570 := hI458; rw [Int32.lt_iff_toInt_lt] at q570; have q571 := hI460; rw [Int32.lt_iff_toInt_lt] at q571; have q572 := hq560; rw [Int32.lt_iff_toInt_lt] at q572; omega)
 have hI577' : pT < v449 := (Classical.byContradiction (fun hq578 => by have B579 : (0 : Int) ≤ pL.toInt ∧ pL.toInt ≤ 30 := ⟨k_ge hL0 (by decide), k_le hL1 (by decide)⟩; have B580 : (0 : Int) ≤ pS.toInt ∧ pS.toInt ≤ 2147483647 := ⟨k_ge hS0 (by decide), Int.le_of_lt_add_one (rng32 pS).2⟩; have q581 := hSL; rw [Int32.lt_iff_toInt_lt] at q581; have B582 : (0 : Int) ≤ pT.toInt ∧ pT.toInt ≤ 15 := ⟨k_ge hT0 (by decide), k_le hT1 (by decide)⟩; have B585 : (1 : Int) ≤ (1 : Int32).toInt ∧ (1 : Int32).toInt ≤ 1 := (by decide); have q584 : v170.toInt = pT.toInt + (1 : Int32).toInt := k_iaddx hv170 B582 B585 (by decide) (by decide); have B583 : (1 : Int) ≤ v170.toInt ∧ v170.toInt ≤ 16 := k_addB q584 B582 B585; have B586 : (0 : Int) ≤ v448.toInt ∧ v448.toInt ≤ 30 := ⟨k_ge hI455 (by decide), k_le hI456 (by decide)⟩; have B587 : (0 : Int) ≤ v449.toInt ∧ v449.toInt ≤ 2147483647 := ⟨k_ge hI457 (by decide), Int.le_of_lt_add_one (rng32 v449).2⟩; have q588 := hI458; rw [Int32.lt_iff_toInt_lt] at q588; have q589 := hI460; rw [Int32.lt_iff_toInt_lt] at q589; have q590 := hq578; rw [Int32.lt_iff_toInt_lt] at q590; omega))
 have hI577 : ∀ i, v449.toNatClampNeg ≤ i → (updF F0 pT.toNatClampNeg (F0 pT.toNatClampNeg + 1)) i = 0 := fun i hi => by
  have hlt := kf_nat_lt ⟨hT0, hI577'⟩
  rw [updF, if_neg (by omega)]
  exact HZ459 i hi
 exact k_ret X519 hx Bd.returns (hb hby d5_32) hlk (by decide) (by decide) (by rw [e519]; exact ⟨N492, ⟨b427, k427, v448, v449, rfl, F520, F521, F518, F522, F523, g_b427, lt461, Z492, hI573, hI574, hI575, hI576, hI577⟩⟩)
theorem d3_8 : decode prog_36_method_2_code 8 = .ok (.aload_n 0, 1) := by decide +kernel
theorem d3_9 : decode prog_36_method_2_code 9 = .ok (.getfield 7, 3) := by decide +kernel
theorem d3_12 : decode prog_36_method_2_code 12 = .ok (.iload_n 1, 1) := by decide +kernel
theorem d3_13 : decode prog_36_method_2_code 13 = .ok (.iaload, 1) := by decide +kernel
theorem d3_14 : decode prog_36_method_2_code 14 = .ok (.goto 4, 3) := by decide +kernel
abbrev R3_631 : Room := { frames := 0, cells := 0, slots := 0, locals := 0 }
def Q3_631 (Z : State) (a1 : Addr) (p2 : Int32) (a3 : Addr) (p4 : Int32) (k5 : ClassId) (p6 : Int32) (F7 : Nat → Int32) (h0 : Heap) (n0 : Nat) (v : Option Value) (h : Heap) (L : List Loc) : Prop := Fr n0 L ∧ h = h0 ∧ ∃ r : Int32, v = some (.int r) ∧ r = F7 p2.toNatClampNeg
theorem ef3_631 (m : MethodId) (x0 : Addr) (x1 : Int32) : entryFrame m #[(.ref x0), (.int x1)] 2 = mkF m 0 #[.val (.ref x0), .val (.int x1)] [] := by first | (simp [entryFrame, mkF, argsToLocals, Value.category]; done) | rfl
set_option maxRecDepth 65536 in
set_option maxHeartbeats 40000000 in
theorem rm3_631 (l : Launch) (Z : State) (a0 : Array Value) (hw : ∀ d ∈ tables_1, d.before a0 Z = true) (ws : List Jvm.Cond) (a1 : Addr) (p2 : Int32) (a3 : Addr) (p4 : Int32) (k5 : ClassId) (p6 : Int32) (F7 : Nat → Int32) (h0 : Heap) (n0 : Nat) (Z0 : n0 ≤ h0.size) (F0_0 : Exa Z h0 a1 "com/example/dendrotick/dendrotick/VectorClock") (F0_1 : Fld Z h0 a1 "com/example/dendrotick/dendrotick/VectorClock" "entries" "[I" (.ref a3)) (F0_2 : Fld Z h0 a1 "com/example/dendrotick/dendrotick/VectorClock" "work" "Lcom/example/dendrotick/dendrotick/ClockWork;" .null) (F0_3 : Fld Z h0 a1 "com/example/dendrotick/dendrotick/VectorClock" "size" "I" (.int p4)) (F0_4 : ArF Z h0 a3 k5 p6 F7) (lt0_0 : a1 < a3) (hp0 : ¬ p2 < (0 : Int32)) (hp1 : ¬ p6 < p4) (HZ : ∀ i, p4.toNatClampNeg ≤ i → F7 i = 0) :
    MetFree l (⟨"com/example/dendrotick/dendrotick/VectorClock", "get", "(I)I"⟩ : MethodName) (head1 (Jvm.Cond.code (⟨"com/example/dendrotick/dendrotick/VectorClock", "get", "(I)I"⟩ : MethodName) prog_36_method_2_code 2 (some .int) :: ws) R3_631) (fun a U => a = #[(.ref a1), (.int p2)] ∧ Z.Warmed39 U.vm ∧ U.heap = h0) (fun _ _ _ _ _ => True) (fun _ U o U' => ∃ v L, o = .returned v ∧ Q3_631 Z a1 p2 a3 p4 k5 p6 F7 h0 n0 v U'.heap L ∧ FrameEnd U o U' L R3_631.cells R3_631.slots) := by
 refine MetFree.of_bodySF (plainFor_of_name pn_0) hisR ?_
 intro p e s m args below meth c s₁ Bd hml0 hP hK
 obtain ⟨rfl, hZ, hh⟩ := hP
 have hx := Bd.exec
 have hby := Bd.bytes
 have hml : c.maxLocals = 2 := hml0
 have hlk : meth.locks = false := Bd.notSynchronized
 have hown : s.vm.findClass "com/example/dendrotick/dendrotick/VectorClock" = some m.cls := findClass_of_methodNamed Bd.named
 have hnm := (name_of_methodNamed Bd.named Bd.method).1
 have X0 : Stand p l e R3_631 s m #[(.ref a1), (.int p2)] below meth c s₁ [] 0 0 := Stand.of_body Bd
 have e0 : s₁.heap = h0 := by rw [← hh, Bd.state]; rfl
 have N0 := Fr.nil n0
 rw [ef3_631 m a1 p2]
 show KEnds p e below s R3_631.cells R3_631.slots (Q3_631 Z a1 p2 a3 p4 k5 p6 F7 h0 n0) s₁ (mkF m 0 #[rv a1, iv p2] [])
 refine k_iloadN X0 hx (hb hby d3_0) rfl (pc' := 1) rfl ?_
 refine k_aloadN X0 hx (hb hby d3_1) rfl rfl (pc' := 2) rfl ?_
 refine k_getF X0 hx hZ hown (host := "") (Or.inl (hw _ (List.mem_of_getElem? (i := 20) rfl))) Via.refl e0 F0_3 (hb hby d3_2) (pc' := 5) rfl (fun T632 X632 e632 => ?_)
 refine k_icmp_ge X632 hx (hb hby d3_5) (pn := 8) rfl (py := 17) (by decide) (fun hc633 => ?_) (fun hc633 => ?_)
 ·
  refine k_iconst X632 hx (hb hby d3_17) (pc' := 18) rfl (z := (0 : Int32)) rfl ?_
  refine k_retI X632 hx Bd.returns (hb hby d3_18) hlk (by decide) (by decide) ⟨N0, e632, (0 : Int32), rfl, ?_⟩
  exact (HZ _ (kf_mono hc633)).symm
 ·
  refine k_aloadN X632 hx (hb hby d3_8) rfl rfl (pc' := 9) rfl ?_
  refine k_getF X632 hx hZ hown (host := "") (Or.inl (hw _ (List.mem_of_getElem? (i := 11) rfl))) Via.refl e632 F0_1 (hb hby d3_9) (pc' := 12) rfl (fun T634 X634 e634 => ?_)
  refine k_iloadN X634 hx (hb hby d3_12) rfl (pc' := 13) rfl ?_
  have hj635 : ¬ p2 < 0 ∧ p2 < p6 := ⟨(by intro hq637; have B638 : (0 : Int) ≤ p2.toInt ∧ p2.toInt ≤ -1 := ⟨k_ge hp0 (by decide), k_lt hq637 (by decide)⟩; have B639 : (-2147483648 : Int) ≤ p6.toInt ∧ p6.toInt ≤ 2147483647 := ⟨(rng32 p6).1, Int.le_of_lt_add_one (rng32 p6).2⟩; have B640 : (-2147483648 : Int) ≤ p4.toInt ∧ p4.toInt ≤ 2147483647 := ⟨(rng32 p4).1, Int.le_of_lt_add_one (rng32 p4).2⟩; have q641 := hp1; rw [Int32.lt_iff_toInt_lt] at q641; have q642 := hc633; rw [Int32.lt_iff_toInt_lt] at q642; omega), (Classical.byContradiction (fun hq643 => by have B644 : (0 : Int) ≤ p2.toInt ∧ p2.toInt ≤ 2147483647 := ⟨k_ge hp0 (by decide), Int.le_of_lt_add_one (rng32 p2).2⟩; have B645 : (-2147483648 : Int) ≤ p6.toInt ∧ p6.toInt ≤ 2147483647 := ⟨(rng32 p6).1, Int.le_of_lt_add_one (rng32 p6).2⟩; have B646 : (-2147483648 : Int) ≤ p4.toInt ∧ p4.toInt ≤ 2147483647 := ⟨(rng32 p4).1, Int.le_of_lt_add_one (rng32 p4).2⟩; have q647 := hp1; rw [Int32.lt_iff_toInt_lt] at q647; have q648 := hc633; rw [Int32.lt_iff_toInt_lt] at q648; have q649 := hq643; rw [Int32.lt_iff_toInt_lt] at q649; omega))⟩
  refine k_ialoadF X634 hx hZ e634 F0_4 hj635 (hb hby d3_13) (pc' := 14) rfl (fun v636 hv636 => ?_)
  refine k_goto X634 hx (hb hby d3_14) (pc' := 18) (by decide) ?_
  refine k_retI X634 hx Bd.returns (hb hby d3_18) hlk (by decide) (by decide) ⟨N0, e634, v636, rfl, ?_⟩
  exact hv636
abbrev R4_653 : Room := { frames := 0, cells := 0, slots := 0, locals := 0 }
def f4_653 (p1 : Int32) (p2 : Int32) (p3 : Int32) : Int32 := (if p1 = p2 then (if p1 = p3 then (1 : Int32) else (0 : Int32)) else (if p1 = p3 then (1 : Int32) else (0 : Int32)))

def Q4_653 (Z : State) (p1 : Int32) (p2 : Int32) (p3 : Int32) (h0 : Heap) (n0 : Nat) (v : Option Value) (h : Heap) (L : List Loc) : Prop := Fr n0 L ∧ h = h0 ∧ v = some (.int (f4_653 p1 p2 p3))
theorem ef4_653 (m : MethodId) (x0 : Int32) (x1 : Int32) (x3 : Int32) : entryFrame m #[(.int x0), (.int x1), (.int (0 : Int32)), (.int x3), (.int (1 : Int32))] 6 = mkF m 0 #[.val (.int x0), .val (.int x1), .val (.int (0 : Int32)), .val (.int x3), .val (.int (1 : Int32)), .unset] [] := by first | (simp [entryFrame, mkF, argsToLocals, Value.category]; done) | rfl
set_option maxRecDepth 65536 in
set_option maxHeartbeats 40000000 in
theorem rm4_653 (l : Launch) (Z : State) (a0 : Array Value) (hw : ∀ d ∈ tables_1, d.before a0 Z = true) (ws : List Jvm.Cond) (p1 : Int32) (p2 : Int32) (p3 : Int32) (h0 : Heap) (n0 : Nat) (Z0 : n0 ≤ h0.size)  :
    MetFree l (⟨"com/example/dendrotick/dendrotick/VectorClockGetPinLaw", "expected", "(IIIII)I"⟩ : MethodName) (head1 (Jvm.Cond.code (⟨"com/example/dendrotick/dendrotick/VectorClockGetPinLaw", "expected", "(IIIII)I"⟩ : MethodName) method_3_code 6 (some .int) :: ws) R4_653) (fun a U => a = #[(.int p1), (.int p2), (.int (0 : Int32)), (.int p3), (.int (1 : Int32))] ∧ Z.Warmed39 U.vm ∧ U.heap = h0) (fun _ _ _ _ _ => True) (fun _ U o U' => ∃ v L, o = .returned v ∧ Q4_653 Z p1 p2 p3 h0 n0 v U'.heap L ∧ FrameEnd U o U' L R4_653.cells R4_653.slots) := by
 refine MetFree.of_bodySF (plainFor_of_name pn_1) hisR ?_
 intro p e s m args below meth c s₁ Bd hml0 hP hK
 obtain ⟨rfl, hZ, hh⟩ := hP
 have hx := Bd.exec
 have hby := Bd.bytes
 have hml : c.maxLocals = 6 := hml0
 have hlk : meth.locks = false := Bd.notSynchronized
 have hown : s.vm.findClass "com/example/dendrotick/dendrotick/VectorClockGetPinLaw" = some m.cls := findClass_of_methodNamed Bd.named
 have hnm := (name_of_methodNamed Bd.named Bd.method).1
 have X0 : Stand p l e R4_653 s m #[(.int p1), (.int p2), (.int (0 : Int32)), (.int p3), (.int (1 : Int32))] below meth c s₁ [] 0 0 := Stand.of_body Bd
 have e0 : s₁.heap = h0 := by rw [← hh, Bd.state]; rfl
 have N0 := Fr.nil n0
 rw [ef4_653 m p1 p2 p3]
 show KEnds p e below s R4_653.cells R4_653.slots (Q4_653 Z p1 p2 p3 h0 n0) s₁ (mkF m 0 #[iv p1, iv p2, iv (0 : Int32), iv p3, iv (1 : Int32), .unset] [])
 refine k_iconst X0 hx (hb hby d4_0) (pc' := 1) rfl (z := (0 : Int32)) rfl ?_
 refine k_istore X0 hx (hb hby d4_1) (Ls' := #[iv p1, iv p2, iv (0 : Int32), iv p3, iv (1 : Int32), iv (0 : Int32)]) rfl (pc' := 3) rfl ?_
 refine k_iloadN X0 hx (hb hby d4_3) rfl (pc' := 4) rfl ?_
 refine k_iloadN X0 hx (hb hby d4_4) rfl (pc' := 5) rfl ?_
 refine k_icmp_ne X0 hx (hb hby d4_5) (pn := 8) rfl (py := 14) (by decide) (fun hc654 => ?_) (fun hc654 => ?_)
 ·
  refine k_iloadN X0 hx (hb hby d4_14) rfl (pc' := 15) rfl ?_
  refine k_iloadN X0 hx (hb hby d4_15) rfl (pc' := 16) rfl ?_
  refine k_icmp_ne X0 hx (hb hby d4_16) (pn := 19) rfl (py := 26) (by decide) (fun hc655 => ?_) (fun hc655 => ?_)
  ·
   refine k_iload X0 hx (hb hby d4_26) rfl (pc' := 28) rfl ?_
   have hf : f4_653 p1 p2 p3 = (0 : Int32) := by simp only [f4_653, if_neg hc654, if_neg hc655]
   exact k_retI X0 hx Bd.returns (hb hby d4_28) hlk (by decide) (by decide) ⟨N0, e0, by rw [hf]⟩
  ·
   refine k_iload X0 hx (hb hby d4_19) rfl (pc' := 21) rfl ?_
   refine k_iload X0 hx (hb hby d4_21) rfl (pc' := 23) rfl ?_
   refine k_iaddL X0 hx (hb hby d4_23) (pc' := 24) rfl (z := (1 : Int32)) (by decide) ?_
   refine k_istore X0 hx (hb hby d4_24) (Ls' := #[iv p1, iv p2, iv (0 : Int32), iv p3, iv (1 : Int32), iv (1 : Int32)]) rfl (pc' := 26) rfl ?_
   refine k_iload X0 hx (hb hby d4_26) rfl (pc' := 28) rfl ?_
   have hf : f4_653 p1 p2 p3 = (1 : Int32) := by simp only [f4_653, if_neg hc654, if_pos hc655]
   exact k_retI X0 hx Bd.returns (hb hby d4_28) hlk (by decide) (by decide) ⟨N0, e0, by rw [hf]⟩
 ·
  refine k_iload X0 hx (hb hby d4_8) rfl (pc' := 10) rfl ?_
  refine k_iloadN X0 hx (hb hby d4_10) rfl (pc' := 11) rfl ?_
  refine k_iaddL X0 hx (hb hby d4_11) (pc' := 12) rfl (z := (0 : Int32)) (by decide) ?_
  refine k_istore X0 hx (hb hby d4_12) (Ls' := #[iv p1, iv p2, iv (0 : Int32), iv p3, iv (1 : Int32), iv (0 : Int32)]) rfl (pc' := 14) rfl ?_
  refine k_iloadN X0 hx (hb hby d4_14) rfl (pc' := 15) rfl ?_
  refine k_iloadN X0 hx (hb hby d4_15) rfl (pc' := 16) rfl ?_
  refine k_icmp_ne X0 hx (hb hby d4_16) (pn := 19) rfl (py := 26) (by decide) (fun hc656 => ?_) (fun hc656 => ?_)
  ·
   refine k_iload X0 hx (hb hby d4_26) rfl (pc' := 28) rfl ?_
   have hf : f4_653 p1 p2 p3 = (0 : Int32) := by simp only [f4_653, if_pos hc654, if_neg hc656]
   exact k_retI X0 hx Bd.returns (hb hby d4_28) hlk (by decide) (by decide) ⟨N0, e0, by rw [hf]⟩
  ·
   refine k_iload X0 hx (hb hby d4_19) rfl (pc' := 21) rfl ?_
   refine k_iload X0 hx (hb hby d4_21) rfl (pc' := 23) rfl ?_
   refine k_iaddL X0 hx (hb hby d4_23) (pc' := 24) rfl (z := (1 : Int32)) (by decide) ?_
   refine k_istore X0 hx (hb hby d4_24) (Ls' := #[iv p1, iv p2, iv (0 : Int32), iv p3, iv (1 : Int32), iv (1 : Int32)]) rfl (pc' := 26) rfl ?_
   refine k_iload X0 hx (hb hby d4_26) rfl (pc' := 28) rfl ?_
   have hf : f4_653 p1 p2 p3 = (1 : Int32) := by simp only [f4_653, if_pos hc654, if_pos hc656]
   exact k_retI X0 hx Bd.returns (hb hby d4_28) hlk (by decide) (by decide) ⟨N0, e0, by rw [hf]⟩
abbrev R4_731 : Room := { frames := 0, cells := 0, slots := 0, locals := 0 }
def f4_731 (p1 : Int32) (p2 : Int32) : Int32 := (if p1 = p2 then (1 : Int32) else (0 : Int32))

def Q4_731 (Z : State) (p1 : Int32) (p2 : Int32) (h0 : Heap) (n0 : Nat) (v : Option Value) (h : Heap) (L : List Loc) : Prop := Fr n0 L ∧ h = h0 ∧ v = some (.int (f4_731 p1 p2))
theorem ef4_731 (m : MethodId) (x0 : Int32) (x1 : Int32) (x3 : Int32) : entryFrame m #[(.int x0), (.int x1), (.int (0 : Int32)), (.int x3), (.int (1 : Int32))] 6 = mkF m 0 #[.val (.int x0), .val (.int x1), .val (.int (0 : Int32)), .val (.int x3), .val (.int (1 : Int32)), .unset] [] := by first | (simp [entryFrame, mkF, argsToLocals, Value.category]; done) | rfl
set_option maxRecDepth 65536 in
set_option maxHeartbeats 40000000 in
theorem rm4_731 (l : Launch) (Z : State) (a0 : Array Value) (hw : ∀ d ∈ tables_1, d.before a0 Z = true) (ws : List Jvm.Cond) (p1 : Int32) (p2 : Int32) (h0 : Heap) (n0 : Nat) (Z0 : n0 ≤ h0.size)  :
    MetFree l (⟨"com/example/dendrotick/dendrotick/VectorClockGetPinLaw", "expected", "(IIIII)I"⟩ : MethodName) (head1 (Jvm.Cond.code (⟨"com/example/dendrotick/dendrotick/VectorClockGetPinLaw", "expected", "(IIIII)I"⟩ : MethodName) method_3_code 6 (some .int) :: ws) R4_731) (fun a U => a = #[(.int p1), (.int p1), (.int (0 : Int32)), (.int p2), (.int (1 : Int32))] ∧ Z.Warmed39 U.vm ∧ U.heap = h0) (fun _ _ _ _ _ => True) (fun _ U o U' => ∃ v L, o = .returned v ∧ Q4_731 Z p1 p2 h0 n0 v U'.heap L ∧ FrameEnd U o U' L R4_731.cells R4_731.slots) := by
 refine MetFree.of_bodySF (plainFor_of_name pn_1) hisR ?_
 intro p e s m args below meth c s₁ Bd hml0 hP hK
 obtain ⟨rfl, hZ, hh⟩ := hP
 have hx := Bd.exec
 have hby := Bd.bytes
 have hml : c.maxLocals = 6 := hml0
 have hlk : meth.locks = false := Bd.notSynchronized
 have hown : s.vm.findClass "com/example/dendrotick/dendrotick/VectorClockGetPinLaw" = some m.cls := findClass_of_methodNamed Bd.named
 have hnm := (name_of_methodNamed Bd.named Bd.method).1
 have X0 : Stand p l e R4_731 s m #[(.int p1), (.int p1), (.int (0 : Int32)), (.int p2), (.int (1 : Int32))] below meth c s₁ [] 0 0 := Stand.of_body Bd
 have e0 : s₁.heap = h0 := by rw [← hh, Bd.state]; rfl
 have N0 := Fr.nil n0
 rw [ef4_731 m p1 p1 p2]
 show KEnds p e below s R4_731.cells R4_731.slots (Q4_731 Z p1 p2 h0 n0) s₁ (mkF m 0 #[iv p1, iv p1, iv (0 : Int32), iv p2, iv (1 : Int32), .unset] [])
 refine k_iconst X0 hx (hb hby d4_0) (pc' := 1) rfl (z := (0 : Int32)) rfl ?_
 refine k_istore X0 hx (hb hby d4_1) (Ls' := #[iv p1, iv p1, iv (0 : Int32), iv p2, iv (1 : Int32), iv (0 : Int32)]) rfl (pc' := 3) rfl ?_
 refine k_iloadN X0 hx (hb hby d4_3) rfl (pc' := 4) rfl ?_
 refine k_iloadN X0 hx (hb hby d4_4) rfl (pc' := 5) rfl ?_
 refine k_icmp_ne X0 hx (hb hby d4_5) (pn := 8) rfl (py := 14) (by decide) (fun hc => absurd rfl hc) (fun _ => ?_)
 refine k_iload X0 hx (hb hby d4_8) rfl (pc' := 10) rfl ?_
 refine k_iloadN X0 hx (hb hby d4_10) rfl (pc' := 11) rfl ?_
 refine k_iaddL X0 hx (hb hby d4_11) (pc' := 12) rfl (z := (0 : Int32)) (by decide) ?_
 refine k_istore X0 hx (hb hby d4_12) (Ls' := #[iv p1, iv p1, iv (0 : Int32), iv p2, iv (1 : Int32), iv (0 : Int32)]) rfl (pc' := 14) rfl ?_
 refine k_iloadN X0 hx (hb hby d4_14) rfl (pc' := 15) rfl ?_
 refine k_iloadN X0 hx (hb hby d4_15) rfl (pc' := 16) rfl ?_
 refine k_icmp_ne X0 hx (hb hby d4_16) (pn := 19) rfl (py := 26) (by decide) (fun hc732 => ?_) (fun hc732 => ?_)
 ·
  refine k_iload X0 hx (hb hby d4_26) rfl (pc' := 28) rfl ?_
  have hf : f4_731 p1 p2 = (0 : Int32) := by simp only [f4_731, if_neg hc732]
  exact k_retI X0 hx Bd.returns (hb hby d4_28) hlk (by decide) (by decide) ⟨N0, e0, by rw [hf]⟩
 ·
  refine k_iload X0 hx (hb hby d4_19) rfl (pc' := 21) rfl ?_
  refine k_iload X0 hx (hb hby d4_21) rfl (pc' := 23) rfl ?_
  refine k_iaddL X0 hx (hb hby d4_23) (pc' := 24) rfl (z := (1 : Int32)) (by decide) ?_
  refine k_istore X0 hx (hb hby d4_24) (Ls' := #[iv p1, iv p1, iv (0 : Int32), iv p2, iv (1 : Int32), iv (1 : Int32)]) rfl (pc' := 26) rfl ?_
  refine k_iload X0 hx (hb hby d4_26) rfl (pc' := 28) rfl ?_
  have hf : f4_731 p1 p2 = (1 : Int32) := by simp only [f4_731, if_pos hc732]
  exact k_retI X0 hx Bd.returns (hb hby d4_28) hlk (by decide) (by decide) ⟨N0, e0, by rw [hf]⟩
abbrev R4_814 : Room := { frames := 0, cells := 0, slots := 0, locals := 0 }
def f4_814 (p1 : Int32) (p2 : Int32) (p3 : Int32) : Int32 := (if p1 = p2 then (if p1 = p3 then (2 : Int32) else (0 : Int32)) else (if p1 = p3 then (2 : Int32) else (0 : Int32)))

def Q4_814 (Z : State) (p1 : Int32) (p2 : Int32) (p3 : Int32) (h0 : Heap) (n0 : Nat) (v : Option Value) (h : Heap) (L : List Loc) : Prop := Fr n0 L ∧ h = h0 ∧ v = some (.int (f4_814 p1 p2 p3))
theorem ef4_814 (m : MethodId) (x0 : Int32) (x1 : Int32) (x3 : Int32) : entryFrame m #[(.int x0), (.int x1), (.int (0 : Int32)), (.int x3), (.int (2 : Int32))] 6 = mkF m 0 #[.val (.int x0), .val (.int x1), .val (.int (0 : Int32)), .val (.int x3), .val (.int (2 : Int32)), .unset] [] := by first | (simp [entryFrame, mkF, argsToLocals, Value.category]; done) | rfl
set_option maxRecDepth 65536 in
set_option maxHeartbeats 40000000 in
theorem rm4_814 (l : Launch) (Z : State) (a0 : Array Value) (hw : ∀ d ∈ tables_1, d.before a0 Z = true) (ws : List Jvm.Cond) (p1 : Int32) (p2 : Int32) (p3 : Int32) (h0 : Heap) (n0 : Nat) (Z0 : n0 ≤ h0.size)  :
    MetFree l (⟨"com/example/dendrotick/dendrotick/VectorClockGetPinLaw", "expected", "(IIIII)I"⟩ : MethodName) (head1 (Jvm.Cond.code (⟨"com/example/dendrotick/dendrotick/VectorClockGetPinLaw", "expected", "(IIIII)I"⟩ : MethodName) method_3_code 6 (some .int) :: ws) R4_814) (fun a U => a = #[(.int p1), (.int p2), (.int (0 : Int32)), (.int p3), (.int (2 : Int32))] ∧ Z.Warmed39 U.vm ∧ U.heap = h0) (fun _ _ _ _ _ => True) (fun _ U o U' => ∃ v L, o = .returned v ∧ Q4_814 Z p1 p2 p3 h0 n0 v U'.heap L ∧ FrameEnd U o U' L R4_814.cells R4_814.slots) := by
 refine MetFree.of_bodySF (plainFor_of_name pn_1) hisR ?_
 intro p e s m args below meth c s₁ Bd hml0 hP hK
 obtain ⟨rfl, hZ, hh⟩ := hP
 have hx := Bd.exec
 have hby := Bd.bytes
 have hml : c.maxLocals = 6 := hml0
 have hlk : meth.locks = false := Bd.notSynchronized
 have hown : s.vm.findClass "com/example/dendrotick/dendrotick/VectorClockGetPinLaw" = some m.cls := findClass_of_methodNamed Bd.named
 have hnm := (name_of_methodNamed Bd.named Bd.method).1
 have X0 : Stand p l e R4_814 s m #[(.int p1), (.int p2), (.int (0 : Int32)), (.int p3), (.int (2 : Int32))] below meth c s₁ [] 0 0 := Stand.of_body Bd
 have e0 : s₁.heap = h0 := by rw [← hh, Bd.state]; rfl
 have N0 := Fr.nil n0
 rw [ef4_814 m p1 p2 p3]
 show KEnds p e below s R4_814.cells R4_814.slots (Q4_814 Z p1 p2 p3 h0 n0) s₁ (mkF m 0 #[iv p1, iv p2, iv (0 : Int32), iv p3, iv (2 : Int32), .unset] [])
 refine k_iconst X0 hx (hb hby d4_0) (pc' := 1) rfl (z := (0 : Int32)) rfl ?_
 refine k_istore X0 hx (hb hby d4_1) (Ls' := #[iv p1, iv p2, iv (0 : Int32), iv p3, iv (2 : Int32), iv (0 : Int32)]) rfl (pc' := 3) rfl ?_
 refine k_iloadN X0 hx (hb hby d4_3) rfl (pc' := 4) rfl ?_
 refine k_iloadN X0 hx (hb hby d4_4) rfl (pc' := 5) rfl ?_
 refine k_icmp_ne X0 hx (hb hby d4_5) (pn := 8) rfl (py := 14) (by decide) (fun hc815 => ?_) (fun hc815 => ?_)
 ·
  refine k_iloadN X0 hx (hb hby d4_14) rfl (pc' := 15) rfl ?_
  refine k_iloadN X0 hx (hb hby d4_15) rfl (pc' := 16) rfl ?_
  refine k_icmp_ne X0 hx (hb hby d4_16) (pn := 19) rfl (py := 26) (by decide) (fun hc816 => ?_) (fun hc816 => ?_)
  ·
   refine k_iload X0 hx (hb hby d4_26) rfl (pc' := 28) rfl ?_
   have hf : f4_814 p1 p2 p3 = (0 : Int32) := by simp only [f4_814, if_neg hc815, if_neg hc816]
   exact k_retI X0 hx Bd.returns (hb hby d4_28) hlk (by decide) (by decide) ⟨N0, e0, by rw [hf]⟩
  ·
   refine k_iload X0 hx (hb hby d4_19) rfl (pc' := 21) rfl ?_
   refine k_iload X0 hx (hb hby d4_21) rfl (pc' := 23) rfl ?_
   refine k_iaddL X0 hx (hb hby d4_23) (pc' := 24) rfl (z := (2 : Int32)) (by decide) ?_
   refine k_istore X0 hx (hb hby d4_24) (Ls' := #[iv p1, iv p2, iv (0 : Int32), iv p3, iv (2 : Int32), iv (2 : Int32)]) rfl (pc' := 26) rfl ?_
   refine k_iload X0 hx (hb hby d4_26) rfl (pc' := 28) rfl ?_
   have hf : f4_814 p1 p2 p3 = (2 : Int32) := by simp only [f4_814, if_neg hc815, if_pos hc816]
   exact k_retI X0 hx Bd.returns (hb hby d4_28) hlk (by decide) (by decide) ⟨N0, e0, by rw [hf]⟩
 ·
  refine k_iload X0 hx (hb hby d4_8) rfl (pc' := 10) rfl ?_
  refine k_iloadN X0 hx (hb hby d4_10) rfl (pc' := 11) rfl ?_
  refine k_iaddL X0 hx (hb hby d4_11) (pc' := 12) rfl (z := (0 : Int32)) (by decide) ?_
  refine k_istore X0 hx (hb hby d4_12) (Ls' := #[iv p1, iv p2, iv (0 : Int32), iv p3, iv (2 : Int32), iv (0 : Int32)]) rfl (pc' := 14) rfl ?_
  refine k_iloadN X0 hx (hb hby d4_14) rfl (pc' := 15) rfl ?_
  refine k_iloadN X0 hx (hb hby d4_15) rfl (pc' := 16) rfl ?_
  refine k_icmp_ne X0 hx (hb hby d4_16) (pn := 19) rfl (py := 26) (by decide) (fun hc817 => ?_) (fun hc817 => ?_)
  ·
   refine k_iload X0 hx (hb hby d4_26) rfl (pc' := 28) rfl ?_
   have hf : f4_814 p1 p2 p3 = (0 : Int32) := by simp only [f4_814, if_pos hc815, if_neg hc817]
   exact k_retI X0 hx Bd.returns (hb hby d4_28) hlk (by decide) (by decide) ⟨N0, e0, by rw [hf]⟩
  ·
   refine k_iload X0 hx (hb hby d4_19) rfl (pc' := 21) rfl ?_
   refine k_iload X0 hx (hb hby d4_21) rfl (pc' := 23) rfl ?_
   refine k_iaddL X0 hx (hb hby d4_23) (pc' := 24) rfl (z := (2 : Int32)) (by decide) ?_
   refine k_istore X0 hx (hb hby d4_24) (Ls' := #[iv p1, iv p2, iv (0 : Int32), iv p3, iv (2 : Int32), iv (2 : Int32)]) rfl (pc' := 26) rfl ?_
   refine k_iload X0 hx (hb hby d4_26) rfl (pc' := 28) rfl ?_
   have hf : f4_814 p1 p2 p3 = (2 : Int32) := by simp only [f4_814, if_pos hc815, if_pos hc817]
   exact k_retI X0 hx Bd.returns (hb hby d4_28) hlk (by decide) (by decide) ⟨N0, e0, by rw [hf]⟩
abbrev R4_904 : Room := { frames := 0, cells := 0, slots := 0, locals := 0 }
def f4_904 (p1 : Int32) (p2 : Int32) : Int32 := (if p1 = p2 then (2 : Int32) else (0 : Int32))

def Q4_904 (Z : State) (p1 : Int32) (p2 : Int32) (h0 : Heap) (n0 : Nat) (v : Option Value) (h : Heap) (L : List Loc) : Prop := Fr n0 L ∧ h = h0 ∧ v = some (.int (f4_904 p1 p2))
theorem ef4_904 (m : MethodId) (x0 : Int32) (x1 : Int32) (x3 : Int32) : entryFrame m #[(.int x0), (.int x1), (.int (0 : Int32)), (.int x3), (.int (2 : Int32))] 6 = mkF m 0 #[.val (.int x0), .val (.int x1), .val (.int (0 : Int32)), .val (.int x3), .val (.int (2 : Int32)), .unset] [] := by first | (simp [entryFrame, mkF, argsToLocals, Value.category]; done) | rfl
set_option maxRecDepth 65536 in
set_option maxHeartbeats 40000000 in
theorem rm4_904 (l : Launch) (Z : State) (a0 : Array Value) (hw : ∀ d ∈ tables_1, d.before a0 Z = true) (ws : List Jvm.Cond) (p1 : Int32) (p2 : Int32) (h0 : Heap) (n0 : Nat) (Z0 : n0 ≤ h0.size)  :
    MetFree l (⟨"com/example/dendrotick/dendrotick/VectorClockGetPinLaw", "expected", "(IIIII)I"⟩ : MethodName) (head1 (Jvm.Cond.code (⟨"com/example/dendrotick/dendrotick/VectorClockGetPinLaw", "expected", "(IIIII)I"⟩ : MethodName) method_3_code 6 (some .int) :: ws) R4_904) (fun a U => a = #[(.int p1), (.int p1), (.int (0 : Int32)), (.int p2), (.int (2 : Int32))] ∧ Z.Warmed39 U.vm ∧ U.heap = h0) (fun _ _ _ _ _ => True) (fun _ U o U' => ∃ v L, o = .returned v ∧ Q4_904 Z p1 p2 h0 n0 v U'.heap L ∧ FrameEnd U o U' L R4_904.cells R4_904.slots) := by
 refine MetFree.of_bodySF (plainFor_of_name pn_1) hisR ?_
 intro p e s m args below meth c s₁ Bd hml0 hP hK
 obtain ⟨rfl, hZ, hh⟩ := hP
 have hx := Bd.exec
 have hby := Bd.bytes
 have hml : c.maxLocals = 6 := hml0
 have hlk : meth.locks = false := Bd.notSynchronized
 have hown : s.vm.findClass "com/example/dendrotick/dendrotick/VectorClockGetPinLaw" = some m.cls := findClass_of_methodNamed Bd.named
 have hnm := (name_of_methodNamed Bd.named Bd.method).1
 have X0 : Stand p l e R4_904 s m #[(.int p1), (.int p1), (.int (0 : Int32)), (.int p2), (.int (2 : Int32))] below meth c s₁ [] 0 0 := Stand.of_body Bd
 have e0 : s₁.heap = h0 := by rw [← hh, Bd.state]; rfl
 have N0 := Fr.nil n0
 rw [ef4_904 m p1 p1 p2]
 show KEnds p e below s R4_904.cells R4_904.slots (Q4_904 Z p1 p2 h0 n0) s₁ (mkF m 0 #[iv p1, iv p1, iv (0 : Int32), iv p2, iv (2 : Int32), .unset] [])
 refine k_iconst X0 hx (hb hby d4_0) (pc' := 1) rfl (z := (0 : Int32)) rfl ?_
 refine k_istore X0 hx (hb hby d4_1) (Ls' := #[iv p1, iv p1, iv (0 : Int32), iv p2, iv (2 : Int32), iv (0 : Int32)]) rfl (pc' := 3) rfl ?_
 refine k_iloadN X0 hx (hb hby d4_3) rfl (pc' := 4) rfl ?_
 refine k_iloadN X0 hx (hb hby d4_4) rfl (pc' := 5) rfl ?_
 refine k_icmp_ne X0 hx (hb hby d4_5) (pn := 8) rfl (py := 14) (by decide) (fun hc => absurd rfl hc) (fun _ => ?_)
 refine k_iload X0 hx (hb hby d4_8) rfl (pc' := 10) rfl ?_
 refine k_iloadN X0 hx (hb hby d4_10) rfl (pc' := 11) rfl ?_
 refine k_iaddL X0 hx (hb hby d4_11) (pc' := 12) rfl (z := (0 : Int32)) (by decide) ?_
 refine k_istore X0 hx (hb hby d4_12) (Ls' := #[iv p1, iv p1, iv (0 : Int32), iv p2, iv (2 : Int32), iv (0 : Int32)]) rfl (pc' := 14) rfl ?_
 refine k_iloadN X0 hx (hb hby d4_14) rfl (pc' := 15) rfl ?_
 refine k_iloadN X0 hx (hb hby d4_15) rfl (pc' := 16) rfl ?_
 refine k_icmp_ne X0 hx (hb hby d4_16) (pn := 19) rfl (py := 26) (by decide) (fun hc905 => ?_) (fun hc905 => ?_)
 ·
  refine k_iload X0 hx (hb hby d4_26) rfl (pc' := 28) rfl ?_
  have hf : f4_904 p1 p2 = (0 : Int32) := by simp only [f4_904, if_neg hc905]
  exact k_retI X0 hx Bd.returns (hb hby d4_28) hlk (by decide) (by decide) ⟨N0, e0, by rw [hf]⟩
 ·
  refine k_iload X0 hx (hb hby d4_19) rfl (pc' := 21) rfl ?_
  refine k_iload X0 hx (hb hby d4_21) rfl (pc' := 23) rfl ?_
  refine k_iaddL X0 hx (hb hby d4_23) (pc' := 24) rfl (z := (2 : Int32)) (by decide) ?_
  refine k_istore X0 hx (hb hby d4_24) (Ls' := #[iv p1, iv p1, iv (0 : Int32), iv p2, iv (2 : Int32), iv (2 : Int32)]) rfl (pc' := 26) rfl ?_
  refine k_iload X0 hx (hb hby d4_26) rfl (pc' := 28) rfl ?_
  have hf : f4_904 p1 p2 = (2 : Int32) := by simp only [f4_904, if_pos hc905]
  exact k_retI X0 hx Bd.returns (hb hby d4_28) hlk (by decide) (by decide) ⟨N0, e0, by rw [hf]⟩
abbrev R4_1006 : Room := { frames := 0, cells := 0, slots := 0, locals := 0 }
def f4_1006 (p1 : Int32) (p2 : Int32) (p3 : Int32) : Int32 := (if p1 = p2 then (if p1 = p3 then (3 : Int32) else (0 : Int32)) else (if p1 = p3 then (3 : Int32) else (0 : Int32)))

def Q4_1006 (Z : State) (p1 : Int32) (p2 : Int32) (p3 : Int32) (h0 : Heap) (n0 : Nat) (v : Option Value) (h : Heap) (L : List Loc) : Prop := Fr n0 L ∧ h = h0 ∧ v = some (.int (f4_1006 p1 p2 p3))
theorem ef4_1006 (m : MethodId) (x0 : Int32) (x1 : Int32) (x3 : Int32) : entryFrame m #[(.int x0), (.int x1), (.int (0 : Int32)), (.int x3), (.int (3 : Int32))] 6 = mkF m 0 #[.val (.int x0), .val (.int x1), .val (.int (0 : Int32)), .val (.int x3), .val (.int (3 : Int32)), .unset] [] := by first | (simp [entryFrame, mkF, argsToLocals, Value.category]; done) | rfl
set_option maxRecDepth 65536 in
set_option maxHeartbeats 40000000 in
theorem rm4_1006 (l : Launch) (Z : State) (a0 : Array Value) (hw : ∀ d ∈ tables_1, d.before a0 Z = true) (ws : List Jvm.Cond) (p1 : Int32) (p2 : Int32) (p3 : Int32) (h0 : Heap) (n0 : Nat) (Z0 : n0 ≤ h0.size)  :
    MetFree l (⟨"com/example/dendrotick/dendrotick/VectorClockGetPinLaw", "expected", "(IIIII)I"⟩ : MethodName) (head1 (Jvm.Cond.code (⟨"com/example/dendrotick/dendrotick/VectorClockGetPinLaw", "expected", "(IIIII)I"⟩ : MethodName) method_3_code 6 (some .int) :: ws) R4_1006) (fun a U => a = #[(.int p1), (.int p2), (.int (0 : Int32)), (.int p3), (.int (3 : Int32))] ∧ Z.Warmed39 U.vm ∧ U.heap = h0) (fun _ _ _ _ _ => True) (fun _ U o U' => ∃ v L, o = .returned v ∧ Q4_1006 Z p1 p2 p3 h0 n0 v U'.heap L ∧ FrameEnd U o U' L R4_1006.cells R4_1006.slots) := by
 refine MetFree.of_bodySF (plainFor_of_name pn_1) hisR ?_
 intro p e s m args below meth c s₁ Bd hml0 hP hK
 obtain ⟨rfl, hZ, hh⟩ := hP
 have hx := Bd.exec
 have hby := Bd.bytes
 have hml : c.maxLocals = 6 := hml0
 have hlk : meth.locks = false := Bd.notSynchronized
 have hown : s.vm.findClass "com/example/dendrotick/dendrotick/VectorClockGetPinLaw" = some m.cls := findClass_of_methodNamed Bd.named
 have hnm := (name_of_methodNamed Bd.named Bd.method).1
 have X0 : Stand p l e R4_1006 s m #[(.int p1), (.int p2), (.int (0 : Int32)), (.int p3), (.int (3 : Int32))] below meth c s₁ [] 0 0 := Stand.of_body Bd
 have e0 : s₁.heap = h0 := by rw [← hh, Bd.state]; rfl
 have N0 := Fr.nil n0
 rw [ef4_1006 m p1 p2 p3]
 show KEnds p e below s R4_1006.cells R4_1006.slots (Q4_1006 Z p1 p2 p3 h0 n0) s₁ (mkF m 0 #[iv p1, iv p2, iv (0 : Int32), iv p3, iv (3 : Int32), .unset] [])
 refine k_iconst X0 hx (hb hby d4_0) (pc' := 1) rfl (z := (0 : Int32)) rfl ?_
 refine k_istore X0 hx (hb hby d4_1) (Ls' := #[iv p1, iv p2, iv (0 : Int32), iv p3, iv (3 : Int32), iv (0 : Int32)]) rfl (pc' := 3) rfl ?_
 refine k_iloadN X0 hx (hb hby d4_3) rfl (pc' := 4) rfl ?_
 refine k_iloadN X0 hx (hb hby d4_4) rfl (pc' := 5) rfl ?_
 refine k_icmp_ne X0 hx (hb hby d4_5) (pn := 8) rfl (py := 14) (by decide) (fun hc1007 => ?_) (fun hc1007 => ?_)
 ·
  refine k_iloadN X0 hx (hb hby d4_14) rfl (pc' := 15) rfl ?_
  refine k_iloadN X0 hx (hb hby d4_15) rfl (pc' := 16) rfl ?_
  refine k_icmp_ne X0 hx (hb hby d4_16) (pn := 19) rfl (py := 26) (by decide) (fun hc1008 => ?_) (fun hc1008 => ?_)
  ·
   refine k_iload X0 hx (hb hby d4_26) rfl (pc' := 28) rfl ?_
   have hf : f4_1006 p1 p2 p3 = (0 : Int32) := by simp only [f4_1006, if_neg hc1007, if_neg hc1008]
   exact k_retI X0 hx Bd.returns (hb hby d4_28) hlk (by decide) (by decide) ⟨N0, e0, by rw [hf]⟩
  ·
   refine k_iload X0 hx (hb hby d4_19) rfl (pc' := 21) rfl ?_
   refine k_iload X0 hx (hb hby d4_21) rfl (pc' := 23) rfl ?_
   refine k_iaddL X0 hx (hb hby d4_23) (pc' := 24) rfl (z := (3 : Int32)) (by decide) ?_
   refine k_istore X0 hx (hb hby d4_24) (Ls' := #[iv p1, iv p2, iv (0 : Int32), iv p3, iv (3 : Int32), iv (3 : Int32)]) rfl (pc' := 26) rfl ?_
   refine k_iload X0 hx (hb hby d4_26) rfl (pc' := 28) rfl ?_
   have hf : f4_1006 p1 p2 p3 = (3 : Int32) := by simp only [f4_1006, if_neg hc1007, if_pos hc1008]
   exact k_retI X0 hx Bd.returns (hb hby d4_28) hlk (by decide) (by decide) ⟨N0, e0, by rw [hf]⟩
 ·
  refine k_iload X0 hx (hb hby d4_8) rfl (pc' := 10) rfl ?_
  refine k_iloadN X0 hx (hb hby d4_10) rfl (pc' := 11) rfl ?_
  refine k_iaddL X0 hx (hb hby d4_11) (pc' := 12) rfl (z := (0 : Int32)) (by decide) ?_
  refine k_istore X0 hx (hb hby d4_12) (Ls' := #[iv p1, iv p2, iv (0 : Int32), iv p3, iv (3 : Int32), iv (0 : Int32)]) rfl (pc' := 14) rfl ?_
  refine k_iloadN X0 hx (hb hby d4_14) rfl (pc' := 15) rfl ?_
  refine k_iloadN X0 hx (hb hby d4_15) rfl (pc' := 16) rfl ?_
  refine k_icmp_ne X0 hx (hb hby d4_16) (pn := 19) rfl (py := 26) (by decide) (fun hc1009 => ?_) (fun hc1009 => ?_)
  ·
   refine k_iload X0 hx (hb hby d4_26) rfl (pc' := 28) rfl ?_
   have hf : f4_1006 p1 p2 p3 = (0 : Int32) := by simp only [f4_1006, if_pos hc1007, if_neg hc1009]
   exact k_retI X0 hx Bd.returns (hb hby d4_28) hlk (by decide) (by decide) ⟨N0, e0, by rw [hf]⟩
  ·
   refine k_iload X0 hx (hb hby d4_19) rfl (pc' := 21) rfl ?_
   refine k_iload X0 hx (hb hby d4_21) rfl (pc' := 23) rfl ?_
   refine k_iaddL X0 hx (hb hby d4_23) (pc' := 24) rfl (z := (3 : Int32)) (by decide) ?_
   refine k_istore X0 hx (hb hby d4_24) (Ls' := #[iv p1, iv p2, iv (0 : Int32), iv p3, iv (3 : Int32), iv (3 : Int32)]) rfl (pc' := 26) rfl ?_
   refine k_iload X0 hx (hb hby d4_26) rfl (pc' := 28) rfl ?_
   have hf : f4_1006 p1 p2 p3 = (3 : Int32) := by simp only [f4_1006, if_pos hc1007, if_pos hc1009]
   exact k_retI X0 hx Bd.returns (hb hby d4_28) hlk (by decide) (by decide) ⟨N0, e0, by rw [hf]⟩
abbrev R4_1108 : Room := { frames := 0, cells := 0, slots := 0, locals := 0 }
def f4_1108 (p1 : Int32) (p2 : Int32) : Int32 := (if p1 = p2 then (3 : Int32) else (0 : Int32))

def Q4_1108 (Z : State) (p1 : Int32) (p2 : Int32) (h0 : Heap) (n0 : Nat) (v : Option Value) (h : Heap) (L : List Loc) : Prop := Fr n0 L ∧ h = h0 ∧ v = some (.int (f4_1108 p1 p2))
theorem ef4_1108 (m : MethodId) (x0 : Int32) (x1 : Int32) (x3 : Int32) : entryFrame m #[(.int x0), (.int x1), (.int (0 : Int32)), (.int x3), (.int (3 : Int32))] 6 = mkF m 0 #[.val (.int x0), .val (.int x1), .val (.int (0 : Int32)), .val (.int x3), .val (.int (3 : Int32)), .unset] [] := by first | (simp [entryFrame, mkF, argsToLocals, Value.category]; done) | rfl
set_option maxRecDepth 65536 in
set_option maxHeartbeats 40000000 in
theorem rm4_1108 (l : Launch) (Z : State) (a0 : Array Value) (hw : ∀ d ∈ tables_1, d.before a0 Z = true) (ws : List Jvm.Cond) (p1 : Int32) (p2 : Int32) (h0 : Heap) (n0 : Nat) (Z0 : n0 ≤ h0.size)  :
    MetFree l (⟨"com/example/dendrotick/dendrotick/VectorClockGetPinLaw", "expected", "(IIIII)I"⟩ : MethodName) (head1 (Jvm.Cond.code (⟨"com/example/dendrotick/dendrotick/VectorClockGetPinLaw", "expected", "(IIIII)I"⟩ : MethodName) method_3_code 6 (some .int) :: ws) R4_1108) (fun a U => a = #[(.int p1), (.int p1), (.int (0 : Int32)), (.int p2), (.int (3 : Int32))] ∧ Z.Warmed39 U.vm ∧ U.heap = h0) (fun _ _ _ _ _ => True) (fun _ U o U' => ∃ v L, o = .returned v ∧ Q4_1108 Z p1 p2 h0 n0 v U'.heap L ∧ FrameEnd U o U' L R4_1108.cells R4_1108.slots) := by
 refine MetFree.of_bodySF (plainFor_of_name pn_1) hisR ?_
 intro p e s m args below meth c s₁ Bd hml0 hP hK
 obtain ⟨rfl, hZ, hh⟩ := hP
 have hx := Bd.exec
 have hby := Bd.bytes
 have hml : c.maxLocals = 6 := hml0
 have hlk : meth.locks = false := Bd.notSynchronized
 have hown : s.vm.findClass "com/example/dendrotick/dendrotick/VectorClockGetPinLaw" = some m.cls := findClass_of_methodNamed Bd.named
 have hnm := (name_of_methodNamed Bd.named Bd.method).1
 have X0 : Stand p l e R4_1108 s m #[(.int p1), (.int p1), (.int (0 : Int32)), (.int p2), (.int (3 : Int32))] below meth c s₁ [] 0 0 := Stand.of_body Bd
 have e0 : s₁.heap = h0 := by rw [← hh, Bd.state]; rfl
 have N0 := Fr.nil n0
 rw [ef4_1108 m p1 p1 p2]
 show KEnds p e below s R4_1108.cells R4_1108.slots (Q4_1108 Z p1 p2 h0 n0) s₁ (mkF m 0 #[iv p1, iv p1, iv (0 : Int32), iv p2, iv (3 : Int32), .unset] [])
 refine k_iconst X0 hx (hb hby d4_0) (pc' := 1) rfl (z := (0 : Int32)) rfl ?_
 refine k_istore X0 hx (hb hby d4_1) (Ls' := #[iv p1, iv p1, iv (0 : Int32), iv p2, iv (3 : Int32), iv (0 : Int32)]) rfl (pc' := 3) rfl ?_
 refine k_iloadN X0 hx (hb hby d4_3) rfl (pc' := 4) rfl ?_
 refine k_iloadN X0 hx (hb hby d4_4) rfl (pc' := 5) rfl ?_
 refine k_icmp_ne X0 hx (hb hby d4_5) (pn := 8) rfl (py := 14) (by decide) (fun hc => absurd rfl hc) (fun _ => ?_)
 refine k_iload X0 hx (hb hby d4_8) rfl (pc' := 10) rfl ?_
 refine k_iloadN X0 hx (hb hby d4_10) rfl (pc' := 11) rfl ?_
 refine k_iaddL X0 hx (hb hby d4_11) (pc' := 12) rfl (z := (0 : Int32)) (by decide) ?_
 refine k_istore X0 hx (hb hby d4_12) (Ls' := #[iv p1, iv p1, iv (0 : Int32), iv p2, iv (3 : Int32), iv (0 : Int32)]) rfl (pc' := 14) rfl ?_
 refine k_iloadN X0 hx (hb hby d4_14) rfl (pc' := 15) rfl ?_
 refine k_iloadN X0 hx (hb hby d4_15) rfl (pc' := 16) rfl ?_
 refine k_icmp_ne X0 hx (hb hby d4_16) (pn := 19) rfl (py := 26) (by decide) (fun hc1109 => ?_) (fun hc1109 => ?_)
 ·
  refine k_iload X0 hx (hb hby d4_26) rfl (pc' := 28) rfl ?_
  have hf : f4_1108 p1 p2 = (0 : Int32) := by simp only [f4_1108, if_neg hc1109]
  exact k_retI X0 hx Bd.returns (hb hby d4_28) hlk (by decide) (by decide) ⟨N0, e0, by rw [hf]⟩
 ·
  refine k_iload X0 hx (hb hby d4_19) rfl (pc' := 21) rfl ?_
  refine k_iload X0 hx (hb hby d4_21) rfl (pc' := 23) rfl ?_
  refine k_iaddL X0 hx (hb hby d4_23) (pc' := 24) rfl (z := (3 : Int32)) (by decide) ?_
  refine k_istore X0 hx (hb hby d4_24) (Ls' := #[iv p1, iv p1, iv (0 : Int32), iv p2, iv (3 : Int32), iv (3 : Int32)]) rfl (pc' := 26) rfl ?_
  refine k_iload X0 hx (hb hby d4_26) rfl (pc' := 28) rfl ?_
  have hf : f4_1108 p1 p2 = (3 : Int32) := by simp only [f4_1108, if_pos hc1109]
  exact k_retI X0 hx Bd.returns (hb hby d4_28) hlk (by decide) (by decide) ⟨N0, e0, by rw [hf]⟩
abbrev R4_1182 : Room := { frames := 0, cells := 0, slots := 0, locals := 0 }
def f4_1182 (p1 : Int32) (p2 : Int32) (p3 : Int32) : Int32 := (if p1 = p2 then (if p1 = p3 then (1 : Int32) else (1 : Int32)) else (if p1 = p3 then (0 : Int32) else (0 : Int32)))

def Q4_1182 (Z : State) (p1 : Int32) (p2 : Int32) (p3 : Int32) (h0 : Heap) (n0 : Nat) (v : Option Value) (h : Heap) (L : List Loc) : Prop := Fr n0 L ∧ h = h0 ∧ v = some (.int (f4_1182 p1 p2 p3))
theorem ef4_1182 (m : MethodId) (x0 : Int32) (x1 : Int32) (x3 : Int32) : entryFrame m #[(.int x0), (.int x1), (.int (1 : Int32)), (.int x3), (.int (0 : Int32))] 6 = mkF m 0 #[.val (.int x0), .val (.int x1), .val (.int (1 : Int32)), .val (.int x3), .val (.int (0 : Int32)), .unset] [] := by first | (simp [entryFrame, mkF, argsToLocals, Value.category]; done) | rfl
set_option maxRecDepth 65536 in
set_option maxHeartbeats 40000000 in
theorem rm4_1182 (l : Launch) (Z : State) (a0 : Array Value) (hw : ∀ d ∈ tables_1, d.before a0 Z = true) (ws : List Jvm.Cond) (p1 : Int32) (p2 : Int32) (p3 : Int32) (h0 : Heap) (n0 : Nat) (Z0 : n0 ≤ h0.size)  :
    MetFree l (⟨"com/example/dendrotick/dendrotick/VectorClockGetPinLaw", "expected", "(IIIII)I"⟩ : MethodName) (head1 (Jvm.Cond.code (⟨"com/example/dendrotick/dendrotick/VectorClockGetPinLaw", "expected", "(IIIII)I"⟩ : MethodName) method_3_code 6 (some .int) :: ws) R4_1182) (fun a U => a = #[(.int p1), (.int p2), (.int (1 : Int32)), (.int p3), (.int (0 : Int32))] ∧ Z.Warmed39 U.vm ∧ U.heap = h0) (fun _ _ _ _ _ => True) (fun _ U o U' => ∃ v L, o = .returned v ∧ Q4_1182 Z p1 p2 p3 h0 n0 v U'.heap L ∧ FrameEnd U o U' L R4_1182.cells R4_1182.slots) := by
 refine MetFree.of_bodySF (plainFor_of_name pn_1) hisR ?_
 intro p e s m args below meth c s₁ Bd hml0 hP hK
 obtain ⟨rfl, hZ, hh⟩ := hP
 have hx := Bd.exec
 have hby := Bd.bytes
 have hml : c.maxLocals = 6 := hml0
 have hlk : meth.locks = false := Bd.notSynchronized
 have hown : s.vm.findClass "com/example/dendrotick/dendrotick/VectorClockGetPinLaw" = some m.cls := findClass_of_methodNamed Bd.named
 have hnm := (name_of_methodNamed Bd.named Bd.method).1
 have X0 : Stand p l e R4_1182 s m #[(.int p1), (.int p2), (.int (1 : Int32)), (.int p3), (.int (0 : Int32))] below meth c s₁ [] 0 0 := Stand.of_body Bd
 have e0 : s₁.heap = h0 := by rw [← hh, Bd.state]; rfl
 have N0 := Fr.nil n0
 rw [ef4_1182 m p1 p2 p3]
 show KEnds p e below s R4_1182.cells R4_1182.slots (Q4_1182 Z p1 p2 p3 h0 n0) s₁ (mkF m 0 #[iv p1, iv p2, iv (1 : Int32), iv p3, iv (0 : Int32), .unset] [])
 refine k_iconst X0 hx (hb hby d4_0) (pc' := 1) rfl (z := (0 : Int32)) rfl ?_
 refine k_istore X0 hx (hb hby d4_1) (Ls' := #[iv p1, iv p2, iv (1 : Int32), iv p3, iv (0 : Int32), iv (0 : Int32)]) rfl (pc' := 3) rfl ?_
 refine k_iloadN X0 hx (hb hby d4_3) rfl (pc' := 4) rfl ?_
 refine k_iloadN X0 hx (hb hby d4_4) rfl (pc' := 5) rfl ?_
 refine k_icmp_ne X0 hx (hb hby d4_5) (pn := 8) rfl (py := 14) (by decide) (fun hc1183 => ?_) (fun hc1183 => ?_)
 ·
  refine k_iloadN X0 hx (hb hby d4_14) rfl (pc' := 15) rfl ?_
  refine k_iloadN X0 hx (hb hby d4_15) rfl (pc' := 16) rfl ?_
  refine k_icmp_ne X0 hx (hb hby d4_16) (pn := 19) rfl (py := 26) (by decide) (fun hc1184 => ?_) (fun hc1184 => ?_)
  ·
   refine k_iload X0 hx (hb hby d4_26) rfl (pc' := 28) rfl ?_
   have hf : f4_1182 p1 p2 p3 = (0 : Int32) := by simp only [f4_1182, if_neg hc1183, if_neg hc1184]
   exact k_retI X0 hx Bd.returns (hb hby d4_28) hlk (by decide) (by decide) ⟨N0, e0, by rw [hf]⟩
  ·
   refine k_iload X0 hx (hb hby d4_19) rfl (pc' := 21) rfl ?_
   refine k_iload X0 hx (hb hby d4_21) rfl (pc' := 23) rfl ?_
   refine k_iaddL X0 hx (hb hby d4_23) (pc' := 24) rfl (z := (0 : Int32)) (by decide) ?_
   refine k_istore X0 hx (hb hby d4_24) (Ls' := #[iv p1, iv p2, iv (1 : Int32), iv p3, iv (0 : Int32), iv (0 : Int32)]) rfl (pc' := 26) rfl ?_
   refine k_iload X0 hx (hb hby d4_26) rfl (pc' := 28) rfl ?_
   have hf : f4_1182 p1 p2 p3 = (0 : Int32) := by simp only [f4_1182, if_neg hc1183, if_pos hc1184]
   exact k_retI X0 hx Bd.returns (hb hby d4_28) hlk (by decide) (by decide) ⟨N0, e0, by rw [hf]⟩
 ·
  refine k_iload X0 hx (hb hby d4_8) rfl (pc' := 10) rfl ?_
  refine k_iloadN X0 hx (hb hby d4_10) rfl (pc' := 11) rfl ?_
  refine k_iaddL X0 hx (hb hby d4_11) (pc' := 12) rfl (z := (1 : Int32)) (by decide) ?_
  refine k_istore X0 hx (hb hby d4_12) (Ls' := #[iv p1, iv p2, iv (1 : Int32), iv p3, iv (0 : Int32), iv (1 : Int32)]) rfl (pc' := 14) rfl ?_
  refine k_iloadN X0 hx (hb hby d4_14) rfl (pc' := 15) rfl ?_
  refine k_iloadN X0 hx (hb hby d4_15) rfl (pc' := 16) rfl ?_
  refine k_icmp_ne X0 hx (hb hby d4_16) (pn := 19) rfl (py := 26) (by decide) (fun hc1185 => ?_) (fun hc1185 => ?_)
  ·
   refine k_iload X0 hx (hb hby d4_26) rfl (pc' := 28) rfl ?_
   have hf : f4_1182 p1 p2 p3 = (1 : Int32) := by simp only [f4_1182, if_pos hc1183, if_neg hc1185]
   exact k_retI X0 hx Bd.returns (hb hby d4_28) hlk (by decide) (by decide) ⟨N0, e0, by rw [hf]⟩
  ·
   refine k_iload X0 hx (hb hby d4_19) rfl (pc' := 21) rfl ?_
   refine k_iload X0 hx (hb hby d4_21) rfl (pc' := 23) rfl ?_
   refine k_iaddL X0 hx (hb hby d4_23) (pc' := 24) rfl (z := (1 : Int32)) (by decide) ?_
   refine k_istore X0 hx (hb hby d4_24) (Ls' := #[iv p1, iv p2, iv (1 : Int32), iv p3, iv (0 : Int32), iv (1 : Int32)]) rfl (pc' := 26) rfl ?_
   refine k_iload X0 hx (hb hby d4_26) rfl (pc' := 28) rfl ?_
   have hf : f4_1182 p1 p2 p3 = (1 : Int32) := by simp only [f4_1182, if_pos hc1183, if_pos hc1185]
   exact k_retI X0 hx Bd.returns (hb hby d4_28) hlk (by decide) (by decide) ⟨N0, e0, by rw [hf]⟩
abbrev R4_1242 : Room := { frames := 0, cells := 0, slots := 0, locals := 0 }
def f4_1242 (p1 : Int32) (p2 : Int32) : Int32 := (if p1 = p2 then (1 : Int32) else (1 : Int32))

def Q4_1242 (Z : State) (p1 : Int32) (p2 : Int32) (h0 : Heap) (n0 : Nat) (v : Option Value) (h : Heap) (L : List Loc) : Prop := Fr n0 L ∧ h = h0 ∧ v = some (.int (f4_1242 p1 p2))
theorem ef4_1242 (m : MethodId) (x0 : Int32) (x1 : Int32) (x3 : Int32) : entryFrame m #[(.int x0), (.int x1), (.int (1 : Int32)), (.int x3), (.int (0 : Int32))] 6 = mkF m 0 #[.val (.int x0), .val (.int x1), .val (.int (1 : Int32)), .val (.int x3), .val (.int (0 : Int32)), .unset] [] := by first | (simp [entryFrame, mkF, argsToLocals, Value.category]; done) | rfl
set_option maxRecDepth 65536 in
set_option maxHeartbeats 40000000 in
theorem rm4_1242 (l : Launch) (Z : State) (a0 : Array Value) (hw : ∀ d ∈ tables_1, d.before a0 Z = true) (ws : List Jvm.Cond) (p1 : Int32) (p2 : Int32) (h0 : Heap) (n0 : Nat) (Z0 : n0 ≤ h0.size)  :
    MetFree l (⟨"com/example/dendrotick/dendrotick/VectorClockGetPinLaw", "expected", "(IIIII)I"⟩ : MethodName) (head1 (Jvm.Cond.code (⟨"com/example/dendrotick/dendrotick/VectorClockGetPinLaw", "expected", "(IIIII)I"⟩ : MethodName) method_3_code 6 (some .int) :: ws) R4_1242) (fun a U => a = #[(.int p1), (.int p1), (.int (1 : Int32)), (.int p2), (.int (0 : Int32))] ∧ Z.Warmed39 U.vm ∧ U.heap = h0) (fun _ _ _ _ _ => True) (fun _ U o U' => ∃ v L, o = .returned v ∧ Q4_1242 Z p1 p2 h0 n0 v U'.heap L ∧ FrameEnd U o U' L R4_1242.cells R4_1242.slots) := by
 refine MetFree.of_bodySF (plainFor_of_name pn_1) hisR ?_
 intro p e s m args below meth c s₁ Bd hml0 hP hK
 obtain ⟨rfl, hZ, hh⟩ := hP
 have hx := Bd.exec
 have hby := Bd.bytes
 have hml : c.maxLocals = 6 := hml0
 have hlk : meth.locks = false := Bd.notSynchronized
 have hown : s.vm.findClass "com/example/dendrotick/dendrotick/VectorClockGetPinLaw" = some m.cls := findClass_of_methodNamed Bd.named
 have hnm := (name_of_methodNamed Bd.named Bd.method).1
 have X0 : Stand p l e R4_1242 s m #[(.int p1), (.int p1), (.int (1 : Int32)), (.int p2), (.int (0 : Int32))] below meth c s₁ [] 0 0 := Stand.of_body Bd
 have e0 : s₁.heap = h0 := by rw [← hh, Bd.state]; rfl
 have N0 := Fr.nil n0
 rw [ef4_1242 m p1 p1 p2]
 show KEnds p e below s R4_1242.cells R4_1242.slots (Q4_1242 Z p1 p2 h0 n0) s₁ (mkF m 0 #[iv p1, iv p1, iv (1 : Int32), iv p2, iv (0 : Int32), .unset] [])
 refine k_iconst X0 hx (hb hby d4_0) (pc' := 1) rfl (z := (0 : Int32)) rfl ?_
 refine k_istore X0 hx (hb hby d4_1) (Ls' := #[iv p1, iv p1, iv (1 : Int32), iv p2, iv (0 : Int32), iv (0 : Int32)]) rfl (pc' := 3) rfl ?_
 refine k_iloadN X0 hx (hb hby d4_3) rfl (pc' := 4) rfl ?_
 refine k_iloadN X0 hx (hb hby d4_4) rfl (pc' := 5) rfl ?_
 refine k_icmp_ne X0 hx (hb hby d4_5) (pn := 8) rfl (py := 14) (by decide) (fun hc => absurd rfl hc) (fun _ => ?_)
 refine k_iload X0 hx (hb hby d4_8) rfl (pc' := 10) rfl ?_
 refine k_iloadN X0 hx (hb hby d4_10) rfl (pc' := 11) rfl ?_
 refine k_iaddL X0 hx (hb hby d4_11) (pc' := 12) rfl (z := (1 : Int32)) (by decide) ?_
 refine k_istore X0 hx (hb hby d4_12) (Ls' := #[iv p1, iv p1, iv (1 : Int32), iv p2, iv (0 : Int32), iv (1 : Int32)]) rfl (pc' := 14) rfl ?_
 refine k_iloadN X0 hx (hb hby d4_14) rfl (pc' := 15) rfl ?_
 refine k_iloadN X0 hx (hb hby d4_15) rfl (pc' := 16) rfl ?_
 refine k_icmp_ne X0 hx (hb hby d4_16) (pn := 19) rfl (py := 26) (by decide) (fun hc1243 => ?_) (fun hc1243 => ?_)
 ·
  refine k_iload X0 hx (hb hby d4_26) rfl (pc' := 28) rfl ?_
  have hf : f4_1242 p1 p2 = (1 : Int32) := by simp only [f4_1242, if_neg hc1243]
  exact k_retI X0 hx Bd.returns (hb hby d4_28) hlk (by decide) (by decide) ⟨N0, e0, by rw [hf]⟩
 ·
  refine k_iload X0 hx (hb hby d4_19) rfl (pc' := 21) rfl ?_
  refine k_iload X0 hx (hb hby d4_21) rfl (pc' := 23) rfl ?_
  refine k_iaddL X0 hx (hb hby d4_23) (pc' := 24) rfl (z := (1 : Int32)) (by decide) ?_
  refine k_istore X0 hx (hb hby d4_24) (Ls' := #[iv p1, iv p1, iv (1 : Int32), iv p2, iv (0 : Int32), iv (1 : Int32)]) rfl (pc' := 26) rfl ?_
  refine k_iload X0 hx (hb hby d4_26) rfl (pc' := 28) rfl ?_
  have hf : f4_1242 p1 p2 = (1 : Int32) := by simp only [f4_1242, if_pos hc1243]
  exact k_retI X0 hx Bd.returns (hb hby d4_28) hlk (by decide) (by decide) ⟨N0, e0, by rw [hf]⟩
abbrev R4_1369 : Room := { frames := 0, cells := 0, slots := 0, locals := 0 }
def f4_1369 (p1 : Int32) (p2 : Int32) (p3 : Int32) : Int32 := (if p1 = p2 then (if p1 = p3 then (2 : Int32) else (1 : Int32)) else (if p1 = p3 then (1 : Int32) else (0 : Int32)))

def Q4_1369 (Z : State) (p1 : Int32) (p2 : Int32) (p3 : Int32) (h0 : Heap) (n0 : Nat) (v : Option Value) (h : Heap) (L : List Loc) : Prop := Fr n0 L ∧ h = h0 ∧ v = some (.int (f4_1369 p1 p2 p3))
theorem ef4_1369 (m : MethodId) (x0 : Int32) (x1 : Int32) (x3 : Int32) : entryFrame m #[(.int x0), (.int x1), (.int (1 : Int32)), (.int x3), (.int (1 : Int32))] 6 = mkF m 0 #[.val (.int x0), .val (.int x1), .val (.int (1 : Int32)), .val (.int x3), .val (.int (1 : Int32)), .unset] [] := by first | (simp [entryFrame, mkF, argsToLocals, Value.category]; done) | rfl
set_option maxRecDepth 65536 in
set_option maxHeartbeats 40000000 in
theorem rm4_1369 (l : Launch) (Z : State) (a0 : Array Value) (hw : ∀ d ∈ tables_1, d.before a0 Z = true) (ws : List Jvm.Cond) (p1 : Int32) (p2 : Int32) (p3 : Int32) (h0 : Heap) (n0 : Nat) (Z0 : n0 ≤ h0.size)  :
    MetFree l (⟨"com/example/dendrotick/dendrotick/VectorClockGetPinLaw", "expected", "(IIIII)I"⟩ : MethodName) (head1 (Jvm.Cond.code (⟨"com/example/dendrotick/dendrotick/VectorClockGetPinLaw", "expected", "(IIIII)I"⟩ : MethodName) method_3_code 6 (some .int) :: ws) R4_1369) (fun a U => a = #[(.int p1), (.int p2), (.int (1 : Int32)), (.int p3), (.int (1 : Int32))] ∧ Z.Warmed39 U.vm ∧ U.heap = h0) (fun _ _ _ _ _ => True) (fun _ U o U' => ∃ v L, o = .returned v ∧ Q4_1369 Z p1 p2 p3 h0 n0 v U'.heap L ∧ FrameEnd U o U' L R4_1369.cells R4_1369.slots) := by
 refine MetFree.of_bodySF (plainFor_of_name pn_1) hisR ?_
 intro p e s m args below meth c s₁ Bd hml0 hP hK
 obtain ⟨rfl, hZ, hh⟩ := hP
 have hx := Bd.exec
 have hby := Bd.bytes
 have hml : c.maxLocals = 6 := hml0
 have hlk : meth.locks = false := Bd.notSynchronized
 have hown : s.vm.findClass "com/example/dendrotick/dendrotick/VectorClockGetPinLaw" = some m.cls := findClass_of_methodNamed Bd.named
 have hnm := (name_of_methodNamed Bd.named Bd.method).1
 have X0 : Stand p l e R4_1369 s m #[(.int p1), (.int p2), (.int (1 : Int32)), (.int p3), (.int (1 : Int32))] below meth c s₁ [] 0 0 := Stand.of_body Bd
 have e0 : s₁.heap = h0 := by rw [← hh, Bd.state]; rfl
 have N0 := Fr.nil n0
 rw [ef4_1369 m p1 p2 p3]
 show KEnds p e below s R4_1369.cells R4_1369.slots (Q4_1369 Z p1 p2 p3 h0 n0) s₁ (mkF m 0 #[iv p1, iv p2, iv (1 : Int32), iv p3, iv (1 : Int32), .unset] [])
 refine k_iconst X0 hx (hb hby d4_0) (pc' := 1) rfl (z := (0 : Int32)) rfl ?_
 refine k_istore X0 hx (hb hby d4_1) (Ls' := #[iv p1, iv p2, iv (1 : Int32), iv p3, iv (1 : Int32), iv (0 : Int32)]) rfl (pc' := 3) rfl ?_
 refine k_iloadN X0 hx (hb hby d4_3) rfl (pc' := 4) rfl ?_
 refine k_iloadN X0 hx (hb hby d4_4) rfl (pc' := 5) rfl ?_
 refine k_icmp_ne X0 hx (hb hby d4_5) (pn := 8) rfl (py := 14) (by decide) (fun hc1370 => ?_) (fun hc1370 => ?_)
 ·
  refine k_iloadN X0 hx (hb hby d4_14) rfl (pc' := 15) rfl ?_
  refine k_iloadN X0 hx (hb hby d4_15) rfl (pc' := 16) rfl ?_
  refine k_icmp_ne X0 hx (hb hby d4_16) (pn := 19) rfl (py := 26) (by decide) (fun hc1371 => ?_) (fun hc1371 => ?_)
  ·
   refine k_iload X0 hx (hb hby d4_26) rfl (pc' := 28) rfl ?_
   have hf : f4_1369 p1 p2 p3 = (0 : Int32) := by simp only [f4_1369, if_neg hc1370, if_neg hc1371]
   exact k_retI X0 hx Bd.returns (hb hby d4_28) hlk (by decide) (by decide) ⟨N0, e0, by rw [hf]⟩
  ·
   refine k_iload X0 hx (hb hby d4_19) rfl (pc' := 21) rfl ?_
   refine k_iload X0 hx (hb hby d4_21) rfl (pc' := 23) rfl ?_
   refine k_iaddL X0 hx (hb hby d4_23) (pc' := 24) rfl (z := (1 : Int32)) (by decide) ?_
   refine k_istore X0 hx (hb hby d4_24) (Ls' := #[iv p1, iv p2, iv (1 : Int32), iv p3, iv (1 : Int32), iv (1 : Int32)]) rfl (pc' := 26) rfl ?_
   refine k_iload X0 hx (hb hby d4_26) rfl (pc' := 28) rfl ?_
   have hf : f4_1369 p1 p2 p3 = (1 : Int32) := by simp only [f4_1369, if_neg hc1370, if_pos hc1371]
   exact k_retI X0 hx Bd.returns (hb hby d4_28) hlk (by decide) (by decide) ⟨N0, e0, by rw [hf]⟩
 ·
  refine k_iload X0 hx (hb hby d4_8) rfl (pc' := 10) rfl ?_
  refine k_iloadN X0 hx (hb hby d4_10) rfl (pc' := 11) rfl ?_
  refine k_iaddL X0 hx (hb hby d4_11) (pc' := 12) rfl (z := (1 : Int32)) (by decide) ?_
  refine k_istore X0 hx (hb hby d4_12) (Ls' := #[iv p1, iv p2, iv (1 : Int32), iv p3, iv (1 : Int32), iv (1 : Int32)]) rfl (pc' := 14) rfl ?_
  refine k_iloadN X0 hx (hb hby d4_14) rfl (pc' := 15) rfl ?_
  refine k_iloadN X0 hx (hb hby d4_15) rfl (pc' := 16) rfl ?_
  refine k_icmp_ne X0 hx (hb hby d4_16) (pn := 19) rfl (py := 26) (by decide) (fun hc1372 => ?_) (fun hc1372 => ?_)
  ·
   refine k_iload X0 hx (hb hby d4_26) rfl (pc' := 28) rfl ?_
   have hf : f4_1369 p1 p2 p3 = (1 : Int32) := by simp only [f4_1369, if_pos hc1370, if_neg hc1372]
   exact k_retI X0 hx Bd.returns (hb hby d4_28) hlk (by decide) (by decide) ⟨N0, e0, by rw [hf]⟩
  ·
   refine k_iload X0 hx (hb hby d4_19) rfl (pc' := 21) rfl ?_
   refine k_iload X0 hx (hb hby d4_21) rfl (pc' := 23) rfl ?_
   refine k_iaddL X0 hx (hb hby d4_23) (pc' := 24) rfl (z := (2 : Int32)) (by decide) ?_
   refine k_istore X0 hx (hb hby d4_24) (Ls' := #[iv p1, iv p2, iv (1 : Int32), iv p3, iv (1 : Int32), iv (2 : Int32)]) rfl (pc' := 26) rfl ?_
   refine k_iload X0 hx (hb hby d4_26) rfl (pc' := 28) rfl ?_
   have hf : f4_1369 p1 p2 p3 = (2 : Int32) := by simp only [f4_1369, if_pos hc1370, if_pos hc1372]
   exact k_retI X0 hx Bd.returns (hb hby d4_28) hlk (by decide) (by decide) ⟨N0, e0, by rw [hf]⟩
abbrev R4_1404 : Room := { frames := 0, cells := 0, slots := 0, locals := 0 }
def f4_1404 (p1 : Int32) (p2 : Int32) : Int32 := (if p1 = p2 then (2 : Int32) else (1 : Int32))

def Q4_1404 (Z : State) (p1 : Int32) (p2 : Int32) (h0 : Heap) (n0 : Nat) (v : Option Value) (h : Heap) (L : List Loc) : Prop := Fr n0 L ∧ h = h0 ∧ v = some (.int (f4_1404 p1 p2))
theorem ef4_1404 (m : MethodId) (x0 : Int32) (x1 : Int32) (x3 : Int32) : entryFrame m #[(.int x0), (.int x1), (.int (1 : Int32)), (.int x3), (.int (1 : Int32))] 6 = mkF m 0 #[.val (.int x0), .val (.int x1), .val (.int (1 : Int32)), .val (.int x3), .val (.int (1 : Int32)), .unset] [] := by first | (simp [entryFrame, mkF, argsToLocals, Value.category]; done) | rfl
set_option maxRecDepth 65536 in
set_option maxHeartbeats 40000000 in
theorem rm4_1404 (l : Launch) (Z : State) (a0 : Array Value) (hw : ∀ d ∈ tables_1, d.before a0 Z = true) (ws : List Jvm.Cond) (p1 : Int32) (p2 : Int32) (h0 : Heap) (n0 : Nat) (Z0 : n0 ≤ h0.size)  :
    MetFree l (⟨"com/example/dendrotick/dendrotick/VectorClockGetPinLaw", "expected", "(IIIII)I"⟩ : MethodName) (head1 (Jvm.Cond.code (⟨"com/example/dendrotick/dendrotick/VectorClockGetPinLaw", "expected", "(IIIII)I"⟩ : MethodName) method_3_code 6 (some .int) :: ws) R4_1404) (fun a U => a = #[(.int p1), (.int p1), (.int (1 : Int32)), (.int p2), (.int (1 : Int32))] ∧ Z.Warmed39 U.vm ∧ U.heap = h0) (fun _ _ _ _ _ => True) (fun _ U o U' => ∃ v L, o = .returned v ∧ Q4_1404 Z p1 p2 h0 n0 v U'.heap L ∧ FrameEnd U o U' L R4_1404.cells R4_1404.slots) := by
 refine MetFree.of_bodySF (plainFor_of_name pn_1) hisR ?_
 intro p e s m args below meth c s₁ Bd hml0 hP hK
 obtain ⟨rfl, hZ, hh⟩ := hP
 have hx := Bd.exec
 have hby := Bd.bytes
 have hml : c.maxLocals = 6 := hml0
 have hlk : meth.locks = false := Bd.notSynchronized
 have hown : s.vm.findClass "com/example/dendrotick/dendrotick/VectorClockGetPinLaw" = some m.cls := findClass_of_methodNamed Bd.named
 have hnm := (name_of_methodNamed Bd.named Bd.method).1
 have X0 : Stand p l e R4_1404 s m #[(.int p1), (.int p1), (.int (1 : Int32)), (.int p2), (.int (1 : Int32))] below meth c s₁ [] 0 0 := Stand.of_body Bd
 have e0 : s₁.heap = h0 := by rw [← hh, Bd.state]; rfl
 have N0 := Fr.nil n0
 rw [ef4_1404 m p1 p1 p2]
 show KEnds p e below s R4_1404.cells R4_1404.slots (Q4_1404 Z p1 p2 h0 n0) s₁ (mkF m 0 #[iv p1, iv p1, iv (1 : Int32), iv p2, iv (1 : Int32), .unset] [])
 refine k_iconst X0 hx (hb hby d4_0) (pc' := 1) rfl (z := (0 : Int32)) rfl ?_
 refine k_istore X0 hx (hb hby d4_1) (Ls' := #[iv p1, iv p1, iv (1 : Int32), iv p2, iv (1 : Int32), iv (0 : Int32)]) rfl (pc' := 3) rfl ?_
 refine k_iloadN X0 hx (hb hby d4_3) rfl (pc' := 4) rfl ?_
 refine k_iloadN X0 hx (hb hby d4_4) rfl (pc' := 5) rfl ?_
 refine k_icmp_ne X0 hx (hb hby d4_5) (pn := 8) rfl (py := 14) (by decide) (fun hc => absurd rfl hc) (fun _ => ?_)
 refine k_iload X0 hx (hb hby d4_8) rfl (pc' := 10) rfl ?_
 refine k_iloadN X0 hx (hb hby d4_10) rfl (pc' := 11) rfl ?_
 refine k_iaddL X0 hx (hb hby d4_11) (pc' := 12) rfl (z := (1 : Int32)) (by decide) ?_
 refine k_istore X0 hx (hb hby d4_12) (Ls' := #[iv p1, iv p1, iv (1 : Int32), iv p2, iv (1 : Int32), iv (1 : Int32)]) rfl (pc' := 14) rfl ?_
 refine k_iloadN X0 hx (hb hby d4_14) rfl (pc' := 15) rfl ?_
 refine k_iloadN X0 hx (hb hby d4_15) rfl (pc' := 16) rfl ?_
 refine k_icmp_ne X0 hx (hb hby d4_16) (pn := 19) rfl (py := 26) (by decide) (fun hc1405 => ?_) (fun hc1405 => ?_)
 ·
  refine k_iload X0 hx (hb hby d4_26) rfl (pc' := 28) rfl ?_
  have hf : f4_1404 p1 p2 = (1 : Int32) := by simp only [f4_1404, if_neg hc1405]
  exact k_retI X0 hx Bd.returns (hb hby d4_28) hlk (by decide) (by decide) ⟨N0, e0, by rw [hf]⟩
 ·
  refine k_iload X0 hx (hb hby d4_19) rfl (pc' := 21) rfl ?_
  refine k_iload X0 hx (hb hby d4_21) rfl (pc' := 23) rfl ?_
  refine k_iaddL X0 hx (hb hby d4_23) (pc' := 24) rfl (z := (2 : Int32)) (by decide) ?_
  refine k_istore X0 hx (hb hby d4_24) (Ls' := #[iv p1, iv p1, iv (1 : Int32), iv p2, iv (1 : Int32), iv (2 : Int32)]) rfl (pc' := 26) rfl ?_
  refine k_iload X0 hx (hb hby d4_26) rfl (pc' := 28) rfl ?_
  have hf : f4_1404 p1 p2 = (2 : Int32) := by simp only [f4_1404, if_pos hc1405]
  exact k_retI X0 hx Bd.returns (hb hby d4_28) hlk (by decide) (by decide) ⟨N0, e0, by rw [hf]⟩
abbrev R4_1533 : Room := { frames := 0, cells := 0, slots := 0, locals := 0 }
def f4_1533 (p1 : Int32) (p2 : Int32) (p3 : Int32) : Int32 := (if p1 = p2 then (if p1 = p3 then (3 : Int32) else (1 : Int32)) else (if p1 = p3 then (2 : Int32) else (0 : Int32)))

def Q4_1533 (Z : State) (p1 : Int32) (p2 : Int32) (p3 : Int32) (h0 : Heap) (n0 : Nat) (v : Option Value) (h : Heap) (L : List Loc) : Prop := Fr n0 L ∧ h = h0 ∧ v = some (.int (f4_1533 p1 p2 p3))
theorem ef4_1533 (m : MethodId) (x0 : Int32) (x1 : Int32) (x3 : Int32) : entryFrame m #[(.int x0), (.int x1), (.int (1 : Int32)), (.int x3), (.int (2 : Int32))] 6 = mkF m 0 #[.val (.int x0), .val (.int x1), .val (.int (1 : Int32)), .val (.int x3), .val (.int (2 : Int32)), .unset] [] := by first | (simp [entryFrame, mkF, argsToLocals, Value.category]; done) | rfl
set_option maxRecDepth 65536 in
set_option maxHeartbeats 40000000 in
theorem rm4_1533 (l : Launch) (Z : State) (a0 : Array Value) (hw : ∀ d ∈ tables_1, d.before a0 Z = true) (ws : List Jvm.Cond) (p1 : Int32) (p2 : Int32) (p3 : Int32) (h0 : Heap) (n0 : Nat) (Z0 : n0 ≤ h0.size)  :
    MetFree l (⟨"com/example/dendrotick/dendrotick/VectorClockGetPinLaw", "expected", "(IIIII)I"⟩ : MethodName) (head1 (Jvm.Cond.code (⟨"com/example/dendrotick/dendrotick/VectorClockGetPinLaw", "expected", "(IIIII)I"⟩ : MethodName) method_3_code 6 (some .int) :: ws) R4_1533) (fun a U => a = #[(.int p1), (.int p2), (.int (1 : Int32)), (.int p3), (.int (2 : Int32))] ∧ Z.Warmed39 U.vm ∧ U.heap = h0) (fun _ _ _ _ _ => True) (fun _ U o U' => ∃ v L, o = .returned v ∧ Q4_1533 Z p1 p2 p3 h0 n0 v U'.heap L ∧ FrameEnd U o U' L R4_1533.cells R4_1533.slots) := by
 refine MetFree.of_bodySF (plainFor_of_name pn_1) hisR ?_
 intro p e s m args below meth c s₁ Bd hml0 hP hK
 obtain ⟨rfl, hZ, hh⟩ := hP
 have hx := Bd.exec
 have hby := Bd.bytes
 have hml : c.maxLocals = 6 := hml0
 have hlk : meth.locks = false := Bd.notSynchronized
 have hown : s.vm.findClass "com/example/dendrotick/dendrotick/VectorClockGetPinLaw" = some m.cls := findClass_of_methodNamed Bd.named
 have hnm := (name_of_methodNamed Bd.named Bd.method).1
 have X0 : Stand p l e R4_1533 s m #[(.int p1), (.int p2), (.int (1 : Int32)), (.int p3), (.int (2 : Int32))] below meth c s₁ [] 0 0 := Stand.of_body Bd
 have e0 : s₁.heap = h0 := by rw [← hh, Bd.state]; rfl
 have N0 := Fr.nil n0
 rw [ef4_1533 m p1 p2 p3]
 show KEnds p e below s R4_1533.cells R4_1533.slots (Q4_1533 Z p1 p2 p3 h0 n0) s₁ (mkF m 0 #[iv p1, iv p2, iv (1 : Int32), iv p3, iv (2 : Int32), .unset] [])
 refine k_iconst X0 hx (hb hby d4_0) (pc' := 1) rfl (z := (0 : Int32)) rfl ?_
 refine k_istore X0 hx (hb hby d4_1) (Ls' := #[iv p1, iv p2, iv (1 : Int32), iv p3, iv (2 : Int32), iv (0 : Int32)]) rfl (pc' := 3) rfl ?_
 refine k_iloadN X0 hx (hb hby d4_3) rfl (pc' := 4) rfl ?_
 refine k_iloadN X0 hx (hb hby d4_4) rfl (pc' := 5) rfl ?_
 refine k_icmp_ne X0 hx (hb hby d4_5) (pn := 8) rfl (py := 14) (by decide) (fun hc1534 => ?_) (fun hc1534 => ?_)
 ·
  refine k_iloadN X0 hx (hb hby d4_14) rfl (pc' := 15) rfl ?_
  refine k_iloadN X0 hx (hb hby d4_15) rfl (pc' := 16) rfl ?_
  refine k_icmp_ne X0 hx (hb hby d4_16) (pn := 19) rfl (py := 26) (by decide) (fun hc1535 => ?_) (fun hc1535 => ?_)
  ·
   refine k_iload X0 hx (hb hby d4_26) rfl (pc' := 28) rfl ?_
   have hf : f4_1533 p1 p2 p3 = (0 : Int32) := by simp only [f4_1533, if_neg hc1534, if_neg hc1535]
   exact k_retI X0 hx Bd.returns (hb hby d4_28) hlk (by decide) (by decide) ⟨N0, e0, by rw [hf]⟩
  ·
   refine k_iload X0 hx (hb hby d4_19) rfl (pc' := 21) rfl ?_
   refine k_iload X0 hx (hb hby d4_21) rfl (pc' := 23) rfl ?_
   refine k_iaddL X0 hx (hb hby d4_23) (pc' := 24) rfl (z := (2 : Int32)) (by decide) ?_
   refine k_istore X0 hx (hb hby d4_24) (Ls' := #[iv p1, iv p2, iv (1 : Int32), iv p3, iv (2 : Int32), iv (2 : Int32)]) rfl (pc' := 26) rfl ?_
   refine k_iload X0 hx (hb hby d4_26) rfl (pc' := 28) rfl ?_
   have hf : f4_1533 p1 p2 p3 = (2 : Int32) := by simp only [f4_1533, if_neg hc1534, if_pos hc1535]
   exact k_retI X0 hx Bd.returns (hb hby d4_28) hlk (by decide) (by decide) ⟨N0, e0, by rw [hf]⟩
 ·
  refine k_iload X0 hx (hb hby d4_8) rfl (pc' := 10) rfl ?_
  refine k_iloadN X0 hx (hb hby d4_10) rfl (pc' := 11) rfl ?_
  refine k_iaddL X0 hx (hb hby d4_11) (pc' := 12) rfl (z := (1 : Int32)) (by decide) ?_
  refine k_istore X0 hx (hb hby d4_12) (Ls' := #[iv p1, iv p2, iv (1 : Int32), iv p3, iv (2 : Int32), iv (1 : Int32)]) rfl (pc' := 14) rfl ?_
  refine k_iloadN X0 hx (hb hby d4_14) rfl (pc' := 15) rfl ?_
  refine k_iloadN X0 hx (hb hby d4_15) rfl (pc' := 16) rfl ?_
  refine k_icmp_ne X0 hx (hb hby d4_16) (pn := 19) rfl (py := 26) (by decide) (fun hc1536 => ?_) (fun hc1536 => ?_)
  ·
   refine k_iload X0 hx (hb hby d4_26) rfl (pc' := 28) rfl ?_
   have hf : f4_1533 p1 p2 p3 = (1 : Int32) := by simp only [f4_1533, if_pos hc1534, if_neg hc1536]
   exact k_retI X0 hx Bd.returns (hb hby d4_28) hlk (by decide) (by decide) ⟨N0, e0, by rw [hf]⟩
  ·
   refine k_iload X0 hx (hb hby d4_19) rfl (pc' := 21) rfl ?_
   refine k_iload X0 hx (hb hby d4_21) rfl (pc' := 23) rfl ?_
   refine k_iaddL X0 hx (hb hby d4_23) (pc' := 24) rfl (z := (3 : Int32)) (by decide) ?_
   refine k_istore X0 hx (hb hby d4_24) (Ls' := #[iv p1, iv p2, iv (1 : Int32), iv p3, iv (2 : Int32), iv (3 : Int32)]) rfl (pc' := 26) rfl ?_
   refine k_iload X0 hx (hb hby d4_26) rfl (pc' := 28) rfl ?_
   have hf : f4_1533 p1 p2 p3 = (3 : Int32) := by simp only [f4_1533, if_pos hc1534, if_pos hc1536]
   exact k_retI X0 hx Bd.returns (hb hby d4_28) hlk (by decide) (by decide) ⟨N0, e0, by rw [hf]⟩
abbrev R4_1571 : Room := { frames := 0, cells := 0, slots := 0, locals := 0 }
def f4_1571 (p1 : Int32) (p2 : Int32) : Int32 := (if p1 = p2 then (3 : Int32) else (1 : Int32))

def Q4_1571 (Z : State) (p1 : Int32) (p2 : Int32) (h0 : Heap) (n0 : Nat) (v : Option Value) (h : Heap) (L : List Loc) : Prop := Fr n0 L ∧ h = h0 ∧ v = some (.int (f4_1571 p1 p2))
theorem ef4_1571 (m : MethodId) (x0 : Int32) (x1 : Int32) (x3 : Int32) : entryFrame m #[(.int x0), (.int x1), (.int (1 : Int32)), (.int x3), (.int (2 : Int32))] 6 = mkF m 0 #[.val (.int x0), .val (.int x1), .val (.int (1 : Int32)), .val (.int x3), .val (.int (2 : Int32)), .unset] [] := by first | (simp [entryFrame, mkF, argsToLocals, Value.category]; done) | rfl
set_option maxRecDepth 65536 in
set_option maxHeartbeats 40000000 in
theorem rm4_1571 (l : Launch) (Z : State) (a0 : Array Value) (hw : ∀ d ∈ tables_1, d.before a0 Z = true) (ws : List Jvm.Cond) (p1 : Int32) (p2 : Int32) (h0 : Heap) (n0 : Nat) (Z0 : n0 ≤ h0.size)  :
    MetFree l (⟨"com/example/dendrotick/dendrotick/VectorClockGetPinLaw", "expected", "(IIIII)I"⟩ : MethodName) (head1 (Jvm.Cond.code (⟨"com/example/dendrotick/dendrotick/VectorClockGetPinLaw", "expected", "(IIIII)I"⟩ : MethodName) method_3_code 6 (some .int) :: ws) R4_1571) (fun a U => a = #[(.int p1), (.int p1), (.int (1 : Int32)), (.int p2), (.int (2 : Int32))] ∧ Z.Warmed39 U.vm ∧ U.heap = h0) (fun _ _ _ _ _ => True) (fun _ U o U' => ∃ v L, o = .returned v ∧ Q4_1571 Z p1 p2 h0 n0 v U'.heap L ∧ FrameEnd U o U' L R4_1571.cells R4_1571.slots) := by
 refine MetFree.of_bodySF (plainFor_of_name pn_1) hisR ?_
 intro p e s m args below meth c s₁ Bd hml0 hP hK
 obtain ⟨rfl, hZ, hh⟩ := hP
 have hx := Bd.exec
 have hby := Bd.bytes
 have hml : c.maxLocals = 6 := hml0
 have hlk : meth.locks = false := Bd.notSynchronized
 have hown : s.vm.findClass "com/example/dendrotick/dendrotick/VectorClockGetPinLaw" = some m.cls := findClass_of_methodNamed Bd.named
 have hnm := (name_of_methodNamed Bd.named Bd.method).1
 have X0 : Stand p l e R4_1571 s m #[(.int p1), (.int p1), (.int (1 : Int32)), (.int p2), (.int (2 : Int32))] below meth c s₁ [] 0 0 := Stand.of_body Bd
 have e0 : s₁.heap = h0 := by rw [← hh, Bd.state]; rfl
 have N0 := Fr.nil n0
 rw [ef4_1571 m p1 p1 p2]
 show KEnds p e below s R4_1571.cells R4_1571.slots (Q4_1571 Z p1 p2 h0 n0) s₁ (mkF m 0 #[iv p1, iv p1, iv (1 : Int32), iv p2, iv (2 : Int32), .unset] [])
 refine k_iconst X0 hx (hb hby d4_0) (pc' := 1) rfl (z := (0 : Int32)) rfl ?_
 refine k_istore X0 hx (hb hby d4_1) (Ls' := #[iv p1, iv p1, iv (1 : Int32), iv p2, iv (2 : Int32), iv (0 : Int32)]) rfl (pc' := 3) rfl ?_
 refine k_iloadN X0 hx (hb hby d4_3) rfl (pc' := 4) rfl ?_
 refine k_iloadN X0 hx (hb hby d4_4) rfl (pc' := 5) rfl ?_
 refine k_icmp_ne X0 hx (hb hby d4_5) (pn := 8) rfl (py := 14) (by decide) (fun hc => absurd rfl hc) (fun _ => ?_)
 refine k_iload X0 hx (hb hby d4_8) rfl (pc' := 10) rfl ?_
 refine k_iloadN X0 hx (hb hby d4_10) rfl (pc' := 11) rfl ?_
 refine k_iaddL X0 hx (hb hby d4_11) (pc' := 12) rfl (z := (1 : Int32)) (by decide) ?_
 refine k_istore X0 hx (hb hby d4_12) (Ls' := #[iv p1, iv p1, iv (1 : Int32), iv p2, iv (2 : Int32), iv (1 : Int32)]) rfl (pc' := 14) rfl ?_
 refine k_iloadN X0 hx (hb hby d4_14) rfl (pc' := 15) rfl ?_
 refine k_iloadN X0 hx (hb hby d4_15) rfl (pc' := 16) rfl ?_
 refine k_icmp_ne X0 hx (hb hby d4_16) (pn := 19) rfl (py := 26) (by decide) (fun hc1572 => ?_) (fun hc1572 => ?_)
 ·
  refine k_iload X0 hx (hb hby d4_26) rfl (pc' := 28) rfl ?_
  have hf : f4_1571 p1 p2 = (1 : Int32) := by simp only [f4_1571, if_neg hc1572]
  exact k_retI X0 hx Bd.returns (hb hby d4_28) hlk (by decide) (by decide) ⟨N0, e0, by rw [hf]⟩
 ·
  refine k_iload X0 hx (hb hby d4_19) rfl (pc' := 21) rfl ?_
  refine k_iload X0 hx (hb hby d4_21) rfl (pc' := 23) rfl ?_
  refine k_iaddL X0 hx (hb hby d4_23) (pc' := 24) rfl (z := (3 : Int32)) (by decide) ?_
  refine k_istore X0 hx (hb hby d4_24) (Ls' := #[iv p1, iv p1, iv (1 : Int32), iv p2, iv (2 : Int32), iv (3 : Int32)]) rfl (pc' := 26) rfl ?_
  refine k_iload X0 hx (hb hby d4_26) rfl (pc' := 28) rfl ?_
  have hf : f4_1571 p1 p2 = (3 : Int32) := by simp only [f4_1571, if_pos hc1572]
  exact k_retI X0 hx Bd.returns (hb hby d4_28) hlk (by decide) (by decide) ⟨N0, e0, by rw [hf]⟩
abbrev R4_1719 : Room := { frames := 0, cells := 0, slots := 0, locals := 0 }
def f4_1719 (p1 : Int32) (p2 : Int32) (p3 : Int32) : Int32 := (if p1 = p2 then (if p1 = p3 then (4 : Int32) else (1 : Int32)) else (if p1 = p3 then (3 : Int32) else (0 : Int32)))

def Q4_1719 (Z : State) (p1 : Int32) (p2 : Int32) (p3 : Int32) (h0 : Heap) (n0 : Nat) (v : Option Value) (h : Heap) (L : List Loc) : Prop := Fr n0 L ∧ h = h0 ∧ v = some (.int (f4_1719 p1 p2 p3))
theorem ef4_1719 (m : MethodId) (x0 : Int32) (x1 : Int32) (x3 : Int32) : entryFrame m #[(.int x0), (.int x1), (.int (1 : Int32)), (.int x3), (.int (3 : Int32))] 6 = mkF m 0 #[.val (.int x0), .val (.int x1), .val (.int (1 : Int32)), .val (.int x3), .val (.int (3 : Int32)), .unset] [] := by first | (simp [entryFrame, mkF, argsToLocals, Value.category]; done) | rfl
set_option maxRecDepth 65536 in
set_option maxHeartbeats 40000000 in
theorem rm4_1719 (l : Launch) (Z : State) (a0 : Array Value) (hw : ∀ d ∈ tables_1, d.before a0 Z = true) (ws : List Jvm.Cond) (p1 : Int32) (p2 : Int32) (p3 : Int32) (h0 : Heap) (n0 : Nat) (Z0 : n0 ≤ h0.size)  :
    MetFree l (⟨"com/example/dendrotick/dendrotick/VectorClockGetPinLaw", "expected", "(IIIII)I"⟩ : MethodName) (head1 (Jvm.Cond.code (⟨"com/example/dendrotick/dendrotick/VectorClockGetPinLaw", "expected", "(IIIII)I"⟩ : MethodName) method_3_code 6 (some .int) :: ws) R4_1719) (fun a U => a = #[(.int p1), (.int p2), (.int (1 : Int32)), (.int p3), (.int (3 : Int32))] ∧ Z.Warmed39 U.vm ∧ U.heap = h0) (fun _ _ _ _ _ => True) (fun _ U o U' => ∃ v L, o = .returned v ∧ Q4_1719 Z p1 p2 p3 h0 n0 v U'.heap L ∧ FrameEnd U o U' L R4_1719.cells R4_1719.slots) := by
 refine MetFree.of_bodySF (plainFor_of_name pn_1) hisR ?_
 intro p e s m args below meth c s₁ Bd hml0 hP hK
 obtain ⟨rfl, hZ, hh⟩ := hP
 have hx := Bd.exec
 have hby := Bd.bytes
 have hml : c.maxLocals = 6 := hml0
 have hlk : meth.locks = false := Bd.notSynchronized
 have hown : s.vm.findClass "com/example/dendrotick/dendrotick/VectorClockGetPinLaw" = some m.cls := findClass_of_methodNamed Bd.named
 have hnm := (name_of_methodNamed Bd.named Bd.method).1
 have X0 : Stand p l e R4_1719 s m #[(.int p1), (.int p2), (.int (1 : Int32)), (.int p3), (.int (3 : Int32))] below meth c s₁ [] 0 0 := Stand.of_body Bd
 have e0 : s₁.heap = h0 := by rw [← hh, Bd.state]; rfl
 have N0 := Fr.nil n0
 rw [ef4_1719 m p1 p2 p3]
 show KEnds p e below s R4_1719.cells R4_1719.slots (Q4_1719 Z p1 p2 p3 h0 n0) s₁ (mkF m 0 #[iv p1, iv p2, iv (1 : Int32), iv p3, iv (3 : Int32), .unset] [])
 refine k_iconst X0 hx (hb hby d4_0) (pc' := 1) rfl (z := (0 : Int32)) rfl ?_
 refine k_istore X0 hx (hb hby d4_1) (Ls' := #[iv p1, iv p2, iv (1 : Int32), iv p3, iv (3 : Int32), iv (0 : Int32)]) rfl (pc' := 3) rfl ?_
 refine k_iloadN X0 hx (hb hby d4_3) rfl (pc' := 4) rfl ?_
 refine k_iloadN X0 hx (hb hby d4_4) rfl (pc' := 5) rfl ?_
 refine k_icmp_ne X0 hx (hb hby d4_5) (pn := 8) rfl (py := 14) (by decide) (fun hc1720 => ?_) (fun hc1720 => ?_)
 ·
  refine k_iloadN X0 hx (hb hby d4_14) rfl (pc' := 15) rfl ?_
  refine k_iloadN X0 hx (hb hby d4_15) rfl (pc' := 16) rfl ?_
  refine k_icmp_ne X0 hx (hb hby d4_16) (pn := 19) rfl (py := 26) (by decide) (fun hc1721 => ?_) (fun hc1721 => ?_)
  ·
   refine k_iload X0 hx (hb hby d4_26) rfl (pc' := 28) rfl ?_
   have hf : f4_1719 p1 p2 p3 = (0 : Int32) := by simp only [f4_1719, if_neg hc1720, if_neg hc1721]
   exact k_retI X0 hx Bd.returns (hb hby d4_28) hlk (by decide) (by decide) ⟨N0, e0, by rw [hf]⟩
  ·
   refine k_iload X0 hx (hb hby d4_19) rfl (pc' := 21) rfl ?_
   refine k_iload X0 hx (hb hby d4_21) rfl (pc' := 23) rfl ?_
   refine k_iaddL X0 hx (hb hby d4_23) (pc' := 24) rfl (z := (3 : Int32)) (by decide) ?_
   refine k_istore X0 hx (hb hby d4_24) (Ls' := #[iv p1, iv p2, iv (1 : Int32), iv p3, iv (3 : Int32), iv (3 : Int32)]) rfl (pc' := 26) rfl ?_
   refine k_iload X0 hx (hb hby d4_26) rfl (pc' := 28) rfl ?_
   have hf : f4_1719 p1 p2 p3 = (3 : Int32) := by simp only [f4_1719, if_neg hc1720, if_pos hc1721]
   exact k_retI X0 hx Bd.returns (hb hby d4_28) hlk (by decide) (by decide) ⟨N0, e0, by rw [hf]⟩
 ·
  refine k_iload X0 hx (hb hby d4_8) rfl (pc' := 10) rfl ?_
  refine k_iloadN X0 hx (hb hby d4_10) rfl (pc' := 11) rfl ?_
  refine k_iaddL X0 hx (hb hby d4_11) (pc' := 12) rfl (z := (1 : Int32)) (by decide) ?_
  refine k_istore X0 hx (hb hby d4_12) (Ls' := #[iv p1, iv p2, iv (1 : Int32), iv p3, iv (3 : Int32), iv (1 : Int32)]) rfl (pc' := 14) rfl ?_
  refine k_iloadN X0 hx (hb hby d4_14) rfl (pc' := 15) rfl ?_
  refine k_iloadN X0 hx (hb hby d4_15) rfl (pc' := 16) rfl ?_
  refine k_icmp_ne X0 hx (hb hby d4_16) (pn := 19) rfl (py := 26) (by decide) (fun hc1722 => ?_) (fun hc1722 => ?_)
  ·
   refine k_iload X0 hx (hb hby d4_26) rfl (pc' := 28) rfl ?_
   have hf : f4_1719 p1 p2 p3 = (1 : Int32) := by simp only [f4_1719, if_pos hc1720, if_neg hc1722]
   exact k_retI X0 hx Bd.returns (hb hby d4_28) hlk (by decide) (by decide) ⟨N0, e0, by rw [hf]⟩
  ·
   refine k_iload X0 hx (hb hby d4_19) rfl (pc' := 21) rfl ?_
   refine k_iload X0 hx (hb hby d4_21) rfl (pc' := 23) rfl ?_
   refine k_iaddL X0 hx (hb hby d4_23) (pc' := 24) rfl (z := (4 : Int32)) (by decide) ?_
   refine k_istore X0 hx (hb hby d4_24) (Ls' := #[iv p1, iv p2, iv (1 : Int32), iv p3, iv (3 : Int32), iv (4 : Int32)]) rfl (pc' := 26) rfl ?_
   refine k_iload X0 hx (hb hby d4_26) rfl (pc' := 28) rfl ?_
   have hf : f4_1719 p1 p2 p3 = (4 : Int32) := by simp only [f4_1719, if_pos hc1720, if_pos hc1722]
   exact k_retI X0 hx Bd.returns (hb hby d4_28) hlk (by decide) (by decide) ⟨N0, e0, by rw [hf]⟩
abbrev R4_1760 : Room := { frames := 0, cells := 0, slots := 0, locals := 0 }
def f4_1760 (p1 : Int32) (p2 : Int32) : Int32 := (if p1 = p2 then (4 : Int32) else (1 : Int32))

def Q4_1760 (Z : State) (p1 : Int32) (p2 : Int32) (h0 : Heap) (n0 : Nat) (v : Option Value) (h : Heap) (L : List Loc) : Prop := Fr n0 L ∧ h = h0 ∧ v = some (.int (f4_1760 p1 p2))
theorem ef4_1760 (m : MethodId) (x0 : Int32) (x1 : Int32) (x3 : Int32) : entryFrame m #[(.int x0), (.int x1), (.int (1 : Int32)), (.int x3), (.int (3 : Int32))] 6 = mkF m 0 #[.val (.int x0), .val (.int x1), .val (.int (1 : Int32)), .val (.int x3), .val (.int (3 : Int32)), .unset] [] := by first | (simp [entryFrame, mkF, argsToLocals, Value.category]; done) | rfl
set_option maxRecDepth 65536 in
set_option maxHeartbeats 40000000 in
theorem rm4_1760 (l : Launch) (Z : State) (a0 : Array Value) (hw : ∀ d ∈ tables_1, d.before a0 Z = true) (ws : List Jvm.Cond) (p1 : Int32) (p2 : Int32) (h0 : Heap) (n0 : Nat) (Z0 : n0 ≤ h0.size)  :
    MetFree l (⟨"com/example/dendrotick/dendrotick/VectorClockGetPinLaw", "expected", "(IIIII)I"⟩ : MethodName) (head1 (Jvm.Cond.code (⟨"com/example/dendrotick/dendrotick/VectorClockGetPinLaw", "expected", "(IIIII)I"⟩ : MethodName) method_3_code 6 (some .int) :: ws) R4_1760) (fun a U => a = #[(.int p1), (.int p1), (.int (1 : Int32)), (.int p2), (.int (3 : Int32))] ∧ Z.Warmed39 U.vm ∧ U.heap = h0) (fun _ _ _ _ _ => True) (fun _ U o U' => ∃ v L, o = .returned v ∧ Q4_1760 Z p1 p2 h0 n0 v U'.heap L ∧ FrameEnd U o U' L R4_1760.cells R4_1760.slots) := by
 refine MetFree.of_bodySF (plainFor_of_name pn_1) hisR ?_
 intro p e s m args below meth c s₁ Bd hml0 hP hK
 obtain ⟨rfl, hZ, hh⟩ := hP
 have hx := Bd.exec
 have hby := Bd.bytes
 have hml : c.maxLocals = 6 := hml0
 have hlk : meth.locks = false := Bd.notSynchronized
 have hown : s.vm.findClass "com/example/dendrotick/dendrotick/VectorClockGetPinLaw" = some m.cls := findClass_of_methodNamed Bd.named
 have hnm := (name_of_methodNamed Bd.named Bd.method).1
 have X0 : Stand p l e R4_1760 s m #[(.int p1), (.int p1), (.int (1 : Int32)), (.int p2), (.int (3 : Int32))] below meth c s₁ [] 0 0 := Stand.of_body Bd
 have e0 : s₁.heap = h0 := by rw [← hh, Bd.state]; rfl
 have N0 := Fr.nil n0
 rw [ef4_1760 m p1 p1 p2]
 show KEnds p e below s R4_1760.cells R4_1760.slots (Q4_1760 Z p1 p2 h0 n0) s₁ (mkF m 0 #[iv p1, iv p1, iv (1 : Int32), iv p2, iv (3 : Int32), .unset] [])
 refine k_iconst X0 hx (hb hby d4_0) (pc' := 1) rfl (z := (0 : Int32)) rfl ?_
 refine k_istore X0 hx (hb hby d4_1) (Ls' := #[iv p1, iv p1, iv (1 : Int32), iv p2, iv (3 : Int32), iv (0 : Int32)]) rfl (pc' := 3) rfl ?_
 refine k_iloadN X0 hx (hb hby d4_3) rfl (pc' := 4) rfl ?_
 refine k_iloadN X0 hx (hb hby d4_4) rfl (pc' := 5) rfl ?_
 refine k_icmp_ne X0 hx (hb hby d4_5) (pn := 8) rfl (py := 14) (by decide) (fun hc => absurd rfl hc) (fun _ => ?_)
 refine k_iload X0 hx (hb hby d4_8) rfl (pc' := 10) rfl ?_
 refine k_iloadN X0 hx (hb hby d4_10) rfl (pc' := 11) rfl ?_
 refine k_iaddL X0 hx (hb hby d4_11) (pc' := 12) rfl (z := (1 : Int32)) (by decide) ?_
 refine k_istore X0 hx (hb hby d4_12) (Ls' := #[iv p1, iv p1, iv (1 : Int32), iv p2, iv (3 : Int32), iv (1 : Int32)]) rfl (pc' := 14) rfl ?_
 refine k_iloadN X0 hx (hb hby d4_14) rfl (pc' := 15) rfl ?_
 refine k_iloadN X0 hx (hb hby d4_15) rfl (pc' := 16) rfl ?_
 refine k_icmp_ne X0 hx (hb hby d4_16) (pn := 19) rfl (py := 26) (by decide) (fun hc1761 => ?_) (fun hc1761 => ?_)
 ·
  refine k_iload X0 hx (hb hby d4_26) rfl (pc' := 28) rfl ?_
  have hf : f4_1760 p1 p2 = (1 : Int32) := by simp only [f4_1760, if_neg hc1761]
  exact k_retI X0 hx Bd.returns (hb hby d4_28) hlk (by decide) (by decide) ⟨N0, e0, by rw [hf]⟩
 ·
  refine k_iload X0 hx (hb hby d4_19) rfl (pc' := 21) rfl ?_
  refine k_iload X0 hx (hb hby d4_21) rfl (pc' := 23) rfl ?_
  refine k_iaddL X0 hx (hb hby d4_23) (pc' := 24) rfl (z := (4 : Int32)) (by decide) ?_
  refine k_istore X0 hx (hb hby d4_24) (Ls' := #[iv p1, iv p1, iv (1 : Int32), iv p2, iv (3 : Int32), iv (4 : Int32)]) rfl (pc' := 26) rfl ?_
  refine k_iload X0 hx (hb hby d4_26) rfl (pc' := 28) rfl ?_
  have hf : f4_1760 p1 p2 = (4 : Int32) := by simp only [f4_1760, if_pos hc1761]
  exact k_retI X0 hx Bd.returns (hb hby d4_28) hlk (by decide) (by decide) ⟨N0, e0, by rw [hf]⟩
abbrev R4_1853 : Room := { frames := 0, cells := 0, slots := 0, locals := 0 }
def f4_1853 (p1 : Int32) (p2 : Int32) (p3 : Int32) : Int32 := (if p1 = p2 then (if p1 = p3 then (2 : Int32) else (2 : Int32)) else (if p1 = p3 then (0 : Int32) else (0 : Int32)))

def Q4_1853 (Z : State) (p1 : Int32) (p2 : Int32) (p3 : Int32) (h0 : Heap) (n0 : Nat) (v : Option Value) (h : Heap) (L : List Loc) : Prop := Fr n0 L ∧ h = h0 ∧ v = some (.int (f4_1853 p1 p2 p3))
theorem ef4_1853 (m : MethodId) (x0 : Int32) (x1 : Int32) (x3 : Int32) : entryFrame m #[(.int x0), (.int x1), (.int (2 : Int32)), (.int x3), (.int (0 : Int32))] 6 = mkF m 0 #[.val (.int x0), .val (.int x1), .val (.int (2 : Int32)), .val (.int x3), .val (.int (0 : Int32)), .unset] [] := by first | (simp [entryFrame, mkF, argsToLocals, Value.category]; done) | rfl
set_option maxRecDepth 65536 in
set_option maxHeartbeats 40000000 in
theorem rm4_1853 (l : Launch) (Z : State) (a0 : Array Value) (hw : ∀ d ∈ tables_1, d.before a0 Z = true) (ws : List Jvm.Cond) (p1 : Int32) (p2 : Int32) (p3 : Int32) (h0 : Heap) (n0 : Nat) (Z0 : n0 ≤ h0.size)  :
    MetFree l (⟨"com/example/dendrotick/dendrotick/VectorClockGetPinLaw", "expected", "(IIIII)I"⟩ : MethodName) (head1 (Jvm.Cond.code (⟨"com/example/dendrotick/dendrotick/VectorClockGetPinLaw", "expected", "(IIIII)I"⟩ : MethodName) method_3_code 6 (some .int) :: ws) R4_1853) (fun a U => a = #[(.int p1), (.int p2), (.int (2 : Int32)), (.int p3), (.int (0 : Int32))] ∧ Z.Warmed39 U.vm ∧ U.heap = h0) (fun _ _ _ _ _ => True) (fun _ U o U' => ∃ v L, o = .returned v ∧ Q4_1853 Z p1 p2 p3 h0 n0 v U'.heap L ∧ FrameEnd U o U' L R4_1853.cells R4_1853.slots) := by
 refine MetFree.of_bodySF (plainFor_of_name pn_1) hisR ?_
 intro p e s m args below meth c s₁ Bd hml0 hP hK
 obtain ⟨rfl, hZ, hh⟩ := hP
 have hx := Bd.exec
 have hby := Bd.bytes
 have hml : c.maxLocals = 6 := hml0
 have hlk : meth.locks = false := Bd.notSynchronized
 have hown : s.vm.findClass "com/example/dendrotick/dendrotick/VectorClockGetPinLaw" = some m.cls := findClass_of_methodNamed Bd.named
 have hnm := (name_of_methodNamed Bd.named Bd.method).1
 have X0 : Stand p l e R4_1853 s m #[(.int p1), (.int p2), (.int (2 : Int32)), (.int p3), (.int (0 : Int32))] below meth c s₁ [] 0 0 := Stand.of_body Bd
 have e0 : s₁.heap = h0 := by rw [← hh, Bd.state]; rfl
 have N0 := Fr.nil n0
 rw [ef4_1853 m p1 p2 p3]
 show KEnds p e below s R4_1853.cells R4_1853.slots (Q4_1853 Z p1 p2 p3 h0 n0) s₁ (mkF m 0 #[iv p1, iv p2, iv (2 : Int32), iv p3, iv (0 : Int32), .unset] [])
 refine k_iconst X0 hx (hb hby d4_0) (pc' := 1) rfl (z := (0 : Int32)) rfl ?_
 refine k_istore X0 hx (hb hby d4_1) (Ls' := #[iv p1, iv p2, iv (2 : Int32), iv p3, iv (0 : Int32), iv (0 : Int32)]) rfl (pc' := 3) rfl ?_
 refine k_iloadN X0 hx (hb hby d4_3) rfl (pc' := 4) rfl ?_
 refine k_iloadN X0 hx (hb hby d4_4) rfl (pc' := 5) rfl ?_
 refine k_icmp_ne X0 hx (hb hby d4_5) (pn := 8) rfl (py := 14) (by decide) (fun hc1854 => ?_) (fun hc1854 => ?_)
 ·
  refine k_iloadN X0 hx (hb hby d4_14) rfl (pc' := 15) rfl ?_
  refine k_iloadN X0 hx (hb hby d4_15) rfl (pc' := 16) rfl ?_
  refine k_icmp_ne X0 hx (hb hby d4_16) (pn := 19) rfl (py := 26) (by decide) (fun hc1855 => ?_) (fun hc1855 => ?_)
  ·
   refine k_iload X0 hx (hb hby d4_26) rfl (pc' := 28) rfl ?_
   have hf : f4_1853 p1 p2 p3 = (0 : Int32) := by simp only [f4_1853, if_neg hc1854, if_neg hc1855]
   exact k_retI X0 hx Bd.returns (hb hby d4_28) hlk (by decide) (by decide) ⟨N0, e0, by rw [hf]⟩
  ·
   refine k_iload X0 hx (hb hby d4_19) rfl (pc' := 21) rfl ?_
   refine k_iload X0 hx (hb hby d4_21) rfl (pc' := 23) rfl ?_
   refine k_iaddL X0 hx (hb hby d4_23) (pc' := 24) rfl (z := (0 : Int32)) (by decide) ?_
   refine k_istore X0 hx (hb hby d4_24) (Ls' := #[iv p1, iv p2, iv (2 : Int32), iv p3, iv (0 : Int32), iv (0 : Int32)]) rfl (pc' := 26) rfl ?_
   refine k_iload X0 hx (hb hby d4_26) rfl (pc' := 28) rfl ?_
   have hf : f4_1853 p1 p2 p3 = (0 : Int32) := by simp only [f4_1853, if_neg hc1854, if_pos hc1855]
   exact k_retI X0 hx Bd.returns (hb hby d4_28) hlk (by decide) (by decide) ⟨N0, e0, by rw [hf]⟩
 ·
  refine k_iload X0 hx (hb hby d4_8) rfl (pc' := 10) rfl ?_
  refine k_iloadN X0 hx (hb hby d4_10) rfl (pc' := 11) rfl ?_
  refine k_iaddL X0 hx (hb hby d4_11) (pc' := 12) rfl (z := (2 : Int32)) (by decide) ?_
  refine k_istore X0 hx (hb hby d4_12) (Ls' := #[iv p1, iv p2, iv (2 : Int32), iv p3, iv (0 : Int32), iv (2 : Int32)]) rfl (pc' := 14) rfl ?_
  refine k_iloadN X0 hx (hb hby d4_14) rfl (pc' := 15) rfl ?_
  refine k_iloadN X0 hx (hb hby d4_15) rfl (pc' := 16) rfl ?_
  refine k_icmp_ne X0 hx (hb hby d4_16) (pn := 19) rfl (py := 26) (by decide) (fun hc1856 => ?_) (fun hc1856 => ?_)
  ·
   refine k_iload X0 hx (hb hby d4_26) rfl (pc' := 28) rfl ?_
   have hf : f4_1853 p1 p2 p3 = (2 : Int32) := by simp only [f4_1853, if_pos hc1854, if_neg hc1856]
   exact k_retI X0 hx Bd.returns (hb hby d4_28) hlk (by decide) (by decide) ⟨N0, e0, by rw [hf]⟩
  ·
   refine k_iload X0 hx (hb hby d4_19) rfl (pc' := 21) rfl ?_
   refine k_iload X0 hx (hb hby d4_21) rfl (pc' := 23) rfl ?_
   refine k_iaddL X0 hx (hb hby d4_23) (pc' := 24) rfl (z := (2 : Int32)) (by decide) ?_
   refine k_istore X0 hx (hb hby d4_24) (Ls' := #[iv p1, iv p2, iv (2 : Int32), iv p3, iv (0 : Int32), iv (2 : Int32)]) rfl (pc' := 26) rfl ?_
   refine k_iload X0 hx (hb hby d4_26) rfl (pc' := 28) rfl ?_
   have hf : f4_1853 p1 p2 p3 = (2 : Int32) := by simp only [f4_1853, if_pos hc1854, if_pos hc1856]
   exact k_retI X0 hx Bd.returns (hb hby d4_28) hlk (by decide) (by decide) ⟨N0, e0, by rw [hf]⟩
abbrev R4_1922 : Room := { frames := 0, cells := 0, slots := 0, locals := 0 }
def f4_1922 (p1 : Int32) (p2 : Int32) : Int32 := (if p1 = p2 then (2 : Int32) else (2 : Int32))

def Q4_1922 (Z : State) (p1 : Int32) (p2 : Int32) (h0 : Heap) (n0 : Nat) (v : Option Value) (h : Heap) (L : List Loc) : Prop := Fr n0 L ∧ h = h0 ∧ v = some (.int (f4_1922 p1 p2))
theorem ef4_1922 (m : MethodId) (x0 : Int32) (x1 : Int32) (x3 : Int32) : entryFrame m #[(.int x0), (.int x1), (.int (2 : Int32)), (.int x3), (.int (0 : Int32))] 6 = mkF m 0 #[.val (.int x0), .val (.int x1), .val (.int (2 : Int32)), .val (.int x3), .val (.int (0 : Int32)), .unset] [] := by first | (simp [entryFrame, mkF, argsToLocals, Value.category]; done) | rfl
set_option maxRecDepth 65536 in
set_option maxHeartbeats 40000000 in
theorem rm4_1922 (l : Launch) (Z : State) (a0 : Array Value) (hw : ∀ d ∈ tables_1, d.before a0 Z = true) (ws : List Jvm.Cond) (p1 : Int32) (p2 : Int32) (h0 : Heap) (n0 : Nat) (Z0 : n0 ≤ h0.size)  :
    MetFree l (⟨"com/example/dendrotick/dendrotick/VectorClockGetPinLaw", "expected", "(IIIII)I"⟩ : MethodName) (head1 (Jvm.Cond.code (⟨"com/example/dendrotick/dendrotick/VectorClockGetPinLaw", "expected", "(IIIII)I"⟩ : MethodName) method_3_code 6 (some .int) :: ws) R4_1922) (fun a U => a = #[(.int p1), (.int p1), (.int (2 : Int32)), (.int p2), (.int (0 : Int32))] ∧ Z.Warmed39 U.vm ∧ U.heap = h0) (fun _ _ _ _ _ => True) (fun _ U o U' => ∃ v L, o = .returned v ∧ Q4_1922 Z p1 p2 h0 n0 v U'.heap L ∧ FrameEnd U o U' L R4_1922.cells R4_1922.slots) := by
 refine MetFree.of_bodySF (plainFor_of_name pn_1) hisR ?_
 intro p e s m args below meth c s₁ Bd hml0 hP hK
 obtain ⟨rfl, hZ, hh⟩ := hP
 have hx := Bd.exec
 have hby := Bd.bytes
 have hml : c.maxLocals = 6 := hml0
 have hlk : meth.locks = false := Bd.notSynchronized
 have hown : s.vm.findClass "com/example/dendrotick/dendrotick/VectorClockGetPinLaw" = some m.cls := findClass_of_methodNamed Bd.named
 have hnm := (name_of_methodNamed Bd.named Bd.method).1
 have X0 : Stand p l e R4_1922 s m #[(.int p1), (.int p1), (.int (2 : Int32)), (.int p2), (.int (0 : Int32))] below meth c s₁ [] 0 0 := Stand.of_body Bd
 have e0 : s₁.heap = h0 := by rw [← hh, Bd.state]; rfl
 have N0 := Fr.nil n0
 rw [ef4_1922 m p1 p1 p2]
 show KEnds p e below s R4_1922.cells R4_1922.slots (Q4_1922 Z p1 p2 h0 n0) s₁ (mkF m 0 #[iv p1, iv p1, iv (2 : Int32), iv p2, iv (0 : Int32), .unset] [])
 refine k_iconst X0 hx (hb hby d4_0) (pc' := 1) rfl (z := (0 : Int32)) rfl ?_
 refine k_istore X0 hx (hb hby d4_1) (Ls' := #[iv p1, iv p1, iv (2 : Int32), iv p2, iv (0 : Int32), iv (0 : Int32)]) rfl (pc' := 3) rfl ?_
 refine k_iloadN X0 hx (hb hby d4_3) rfl (pc' := 4) rfl ?_
 refine k_iloadN X0 hx (hb hby d4_4) rfl (pc' := 5) rfl ?_
 refine k_icmp_ne X0 hx (hb hby d4_5) (pn := 8) rfl (py := 14) (by decide) (fun hc => absurd rfl hc) (fun _ => ?_)
 refine k_iload X0 hx (hb hby d4_8) rfl (pc' := 10) rfl ?_
 refine k_iloadN X0 hx (hb hby d4_10) rfl (pc' := 11) rfl ?_
 refine k_iaddL X0 hx (hb hby d4_11) (pc' := 12) rfl (z := (2 : Int32)) (by decide) ?_
 refine k_istore X0 hx (hb hby d4_12) (Ls' := #[iv p1, iv p1, iv (2 : Int32), iv p2, iv (0 : Int32), iv (2 : Int32)]) rfl (pc' := 14) rfl ?_
 refine k_iloadN X0 hx (hb hby d4_14) rfl (pc' := 15) rfl ?_
 refine k_iloadN X0 hx (hb hby d4_15) rfl (pc' := 16) rfl ?_
 refine k_icmp_ne X0 hx (hb hby d4_16) (pn := 19) rfl (py := 26) (by decide) (fun hc1923 => ?_) (fun hc1923 => ?_)
 ·
  refine k_iload X0 hx (hb hby d4_26) rfl (pc' := 28) rfl ?_
  have hf : f4_1922 p1 p2 = (2 : Int32) := by simp only [f4_1922, if_neg hc1923]
  exact k_retI X0 hx Bd.returns (hb hby d4_28) hlk (by decide) (by decide) ⟨N0, e0, by rw [hf]⟩
 ·
  refine k_iload X0 hx (hb hby d4_19) rfl (pc' := 21) rfl ?_
  refine k_iload X0 hx (hb hby d4_21) rfl (pc' := 23) rfl ?_
  refine k_iaddL X0 hx (hb hby d4_23) (pc' := 24) rfl (z := (2 : Int32)) (by decide) ?_
  refine k_istore X0 hx (hb hby d4_24) (Ls' := #[iv p1, iv p1, iv (2 : Int32), iv p2, iv (0 : Int32), iv (2 : Int32)]) rfl (pc' := 26) rfl ?_
  refine k_iload X0 hx (hb hby d4_26) rfl (pc' := 28) rfl ?_
  have hf : f4_1922 p1 p2 = (2 : Int32) := by simp only [f4_1922, if_pos hc1923]
  exact k_retI X0 hx Bd.returns (hb hby d4_28) hlk (by decide) (by decide) ⟨N0, e0, by rw [hf]⟩
abbrev R4_2077 : Room := { frames := 0, cells := 0, slots := 0, locals := 0 }
def f4_2077 (p1 : Int32) (p2 : Int32) (p3 : Int32) : Int32 := (if p1 = p2 then (if p1 = p3 then (3 : Int32) else (2 : Int32)) else (if p1 = p3 then (1 : Int32) else (0 : Int32)))

def Q4_2077 (Z : State) (p1 : Int32) (p2 : Int32) (p3 : Int32) (h0 : Heap) (n0 : Nat) (v : Option Value) (h : Heap) (L : List Loc) : Prop := Fr n0 L ∧ h = h0 ∧ v = some (.int (f4_2077 p1 p2 p3))
theorem ef4_2077 (m : MethodId) (x0 : Int32) (x1 : Int32) (x3 : Int32) : entryFrame m #[(.int x0), (.int x1), (.int (2 : Int32)), (.int x3), (.int (1 : Int32))] 6 = mkF m 0 #[.val (.int x0), .val (.int x1), .val (.int (2 : Int32)), .val (.int x3), .val (.int (1 : Int32)), .unset] [] := by first | (simp [entryFrame, mkF, argsToLocals, Value.category]; done) | rfl
set_option maxRecDepth 65536 in
set_option maxHeartbeats 40000000 in
theorem rm4_2077 (l : Launch) (Z : State) (a0 : Array Value) (hw : ∀ d ∈ tables_1, d.before a0 Z = true) (ws : List Jvm.Cond) (p1 : Int32) (p2 : Int32) (p3 : Int32) (h0 : Heap) (n0 : Nat) (Z0 : n0 ≤ h0.size)  :
    MetFree l (⟨"com/example/dendrotick/dendrotick/VectorClockGetPinLaw", "expected", "(IIIII)I"⟩ : MethodName) (head1 (Jvm.Cond.code (⟨"com/example/dendrotick/dendrotick/VectorClockGetPinLaw", "expected", "(IIIII)I"⟩ : MethodName) method_3_code 6 (some .int) :: ws) R4_2077) (fun a U => a = #[(.int p1), (.int p2), (.int (2 : Int32)), (.int p3), (.int (1 : Int32))] ∧ Z.Warmed39 U.vm ∧ U.heap = h0) (fun _ _ _ _ _ => True) (fun _ U o U' => ∃ v L, o = .returned v ∧ Q4_2077 Z p1 p2 p3 h0 n0 v U'.heap L ∧ FrameEnd U o U' L R4_2077.cells R4_2077.slots) := by
 refine MetFree.of_bodySF (plainFor_of_name pn_1) hisR ?_
 intro p e s m args below meth c s₁ Bd hml0 hP hK
 obtain ⟨rfl, hZ, hh⟩ := hP
 have hx := Bd.exec
 have hby := Bd.bytes
 have hml : c.maxLocals = 6 := hml0
 have hlk : meth.locks = false := Bd.notSynchronized
 have hown : s.vm.findClass "com/example/dendrotick/dendrotick/VectorClockGetPinLaw" = some m.cls := findClass_of_methodNamed Bd.named
 have hnm := (name_of_methodNamed Bd.named Bd.method).1
 have X0 : Stand p l e R4_2077 s m #[(.int p1), (.int p2), (.int (2 : Int32)), (.int p3), (.int (1 : Int32))] below meth c s₁ [] 0 0 := Stand.of_body Bd
 have e0 : s₁.heap = h0 := by rw [← hh, Bd.state]; rfl
 have N0 := Fr.nil n0
 rw [ef4_2077 m p1 p2 p3]
 show KEnds p e below s R4_2077.cells R4_2077.slots (Q4_2077 Z p1 p2 p3 h0 n0) s₁ (mkF m 0 #[iv p1, iv p2, iv (2 : Int32), iv p3, iv (1 : Int32), .unset] [])
 refine k_iconst X0 hx (hb hby d4_0) (pc' := 1) rfl (z := (0 : Int32)) rfl ?_
 refine k_istore X0 hx (hb hby d4_1) (Ls' := #[iv p1, iv p2, iv (2 : Int32), iv p3, iv (1 : Int32), iv (0 : Int32)]) rfl (pc' := 3) rfl ?_
 refine k_iloadN X0 hx (hb hby d4_3) rfl (pc' := 4) rfl ?_
 refine k_iloadN X0 hx (hb hby d4_4) rfl (pc' := 5) rfl ?_
 refine k_icmp_ne X0 hx (hb hby d4_5) (pn := 8) rfl (py := 14) (by decide) (fun hc2078 => ?_) (fun hc2078 => ?_)
 ·
  refine k_iloadN X0 hx (hb hby d4_14) rfl (pc' := 15) rfl ?_
  refine k_iloadN X0 hx (hb hby d4_15) rfl (pc' := 16) rfl ?_
  refine k_icmp_ne X0 hx (hb hby d4_16) (pn := 19) rfl (py := 26) (by decide) (fun hc2079 => ?_) (fun hc2079 => ?_)
  ·
   refine k_iload X0 hx (hb hby d4_26) rfl (pc' := 28) rfl ?_
   have hf : f4_2077 p1 p2 p3 = (0 : Int32) := by simp only [f4_2077, if_neg hc2078, if_neg hc2079]
   exact k_retI X0 hx Bd.returns (hb hby d4_28) hlk (by decide) (by decide) ⟨N0, e0, by rw [hf]⟩
  ·
   refine k_iload X0 hx (hb hby d4_19) rfl (pc' := 21) rfl ?_
   refine k_iload X0 hx (hb hby d4_21) rfl (pc' := 23) rfl ?_
   refine k_iaddL X0 hx (hb hby d4_23) (pc' := 24) rfl (z := (1 : Int32)) (by decide) ?_
   refine k_istore X0 hx (hb hby d4_24) (Ls' := #[iv p1, iv p2, iv (2 : Int32), iv p3, iv (1 : Int32), iv (1 : Int32)]) rfl (pc' := 26) rfl ?_
   refine k_iload X0 hx (hb hby d4_26) rfl (pc' := 28) rfl ?_
   have hf : f4_2077 p1 p2 p3 = (1 : Int32) := by simp only [f4_2077, if_neg hc2078, if_pos hc2079]
   exact k_retI X0 hx Bd.returns (hb hby d4_28) hlk (by decide) (by decide) ⟨N0, e0, by rw [hf]⟩
 ·
  refine k_iload X0 hx (hb hby d4_8) rfl (pc' := 10) rfl ?_
  refine k_iloadN X0 hx (hb hby d4_10) rfl (pc' := 11) rfl ?_
  refine k_iaddL X0 hx (hb hby d4_11) (pc' := 12) rfl (z := (2 : Int32)) (by decide) ?_
  refine k_istore X0 hx (hb hby d4_12) (Ls' := #[iv p1, iv p2, iv (2 : Int32), iv p3, iv (1 : Int32), iv (2 : Int32)]) rfl (pc' := 14) rfl ?_
  refine k_iloadN X0 hx (hb hby d4_14) rfl (pc' := 15) rfl ?_
  refine k_iloadN X0 hx (hb hby d4_15) rfl (pc' := 16) rfl ?_
  refine k_icmp_ne X0 hx (hb hby d4_16) (pn := 19) rfl (py := 26) (by decide) (fun hc2080 => ?_) (fun hc2080 => ?_)
  ·
   refine k_iload X0 hx (hb hby d4_26) rfl (pc' := 28) rfl ?_
   have hf : f4_2077 p1 p2 p3 = (2 : Int32) := by simp only [f4_2077, if_pos hc2078, if_neg hc2080]
   exact k_retI X0 hx Bd.returns (hb hby d4_28) hlk (by decide) (by decide) ⟨N0, e0, by rw [hf]⟩
  ·
   refine k_iload X0 hx (hb hby d4_19) rfl (pc' := 21) rfl ?_
   refine k_iload X0 hx (hb hby d4_21) rfl (pc' := 23) rfl ?_
   refine k_iaddL X0 hx (hb hby d4_23) (pc' := 24) rfl (z := (3 : Int32)) (by decide) ?_
   refine k_istore X0 hx (hb hby d4_24) (Ls' := #[iv p1, iv p2, iv (2 : Int32), iv p3, iv (1 : Int32), iv (3 : Int32)]) rfl (pc' := 26) rfl ?_
   refine k_iload X0 hx (hb hby d4_26) rfl (pc' := 28) rfl ?_
   have hf : f4_2077 p1 p2 p3 = (3 : Int32) := by simp only [f4_2077, if_pos hc2078, if_pos hc2080]
   exact k_retI X0 hx Bd.returns (hb hby d4_28) hlk (by decide) (by decide) ⟨N0, e0, by rw [hf]⟩
abbrev R4_2115 : Room := { frames := 0, cells := 0, slots := 0, locals := 0 }
def f4_2115 (p1 : Int32) (p2 : Int32) : Int32 := (if p1 = p2 then (3 : Int32) else (2 : Int32))

def Q4_2115 (Z : State) (p1 : Int32) (p2 : Int32) (h0 : Heap) (n0 : Nat) (v : Option Value) (h : Heap) (L : List Loc) : Prop := Fr n0 L ∧ h = h0 ∧ v = some (.int (f4_2115 p1 p2))
theorem ef4_2115 (m : MethodId) (x0 : Int32) (x1 : Int32) (x3 : Int32) : entryFrame m #[(.int x0), (.int x1), (.int (2 : Int32)), (.int x3), (.int (1 : Int32))] 6 = mkF m 0 #[.val (.int x0), .val (.int x1), .val (.int (2 : Int32)), .val (.int x3), .val (.int (1 : Int32)), .unset] [] := by first | (simp [entryFrame, mkF, argsToLocals, Value.category]; done) | rfl
set_option maxRecDepth 65536 in
set_option maxHeartbeats 40000000 in
theorem rm4_2115 (l : Launch) (Z : State) (a0 : Array Value) (hw : ∀ d ∈ tables_1, d.before a0 Z = true) (ws : List Jvm.Cond) (p1 : Int32) (p2 : Int32) (h0 : Heap) (n0 : Nat) (Z0 : n0 ≤ h0.size)  :
    MetFree l (⟨"com/example/dendrotick/dendrotick/VectorClockGetPinLaw", "expected", "(IIIII)I"⟩ : MethodName) (head1 (Jvm.Cond.code (⟨"com/example/dendrotick/dendrotick/VectorClockGetPinLaw", "expected", "(IIIII)I"⟩ : MethodName) method_3_code 6 (some .int) :: ws) R4_2115) (fun a U => a = #[(.int p1), (.int p1), (.int (2 : Int32)), (.int p2), (.int (1 : Int32))] ∧ Z.Warmed39 U.vm ∧ U.heap = h0) (fun _ _ _ _ _ => True) (fun _ U o U' => ∃ v L, o = .returned v ∧ Q4_2115 Z p1 p2 h0 n0 v U'.heap L ∧ FrameEnd U o U' L R4_2115.cells R4_2115.slots) := by
 refine MetFree.of_bodySF (plainFor_of_name pn_1) hisR ?_
 intro p e s m args below meth c s₁ Bd hml0 hP hK
 obtain ⟨rfl, hZ, hh⟩ := hP
 have hx := Bd.exec
 have hby := Bd.bytes
 have hml : c.maxLocals = 6 := hml0
 have hlk : meth.locks = false := Bd.notSynchronized
 have hown : s.vm.findClass "com/example/dendrotick/dendrotick/VectorClockGetPinLaw" = some m.cls := findClass_of_methodNamed Bd.named
 have hnm := (name_of_methodNamed Bd.named Bd.method).1
 have X0 : Stand p l e R4_2115 s m #[(.int p1), (.int p1), (.int (2 : Int32)), (.int p2), (.int (1 : Int32))] below meth c s₁ [] 0 0 := Stand.of_body Bd
 have e0 : s₁.heap = h0 := by rw [← hh, Bd.state]; rfl
 have N0 := Fr.nil n0
 rw [ef4_2115 m p1 p1 p2]
 show KEnds p e below s R4_2115.cells R4_2115.slots (Q4_2115 Z p1 p2 h0 n0) s₁ (mkF m 0 #[iv p1, iv p1, iv (2 : Int32), iv p2, iv (1 : Int32), .unset] [])
 refine k_iconst X0 hx (hb hby d4_0) (pc' := 1) rfl (z := (0 : Int32)) rfl ?_
 refine k_istore X0 hx (hb hby d4_1) (Ls' := #[iv p1, iv p1, iv (2 : Int32), iv p2, iv (1 : Int32), iv (0 : Int32)]) rfl (pc' := 3) rfl ?_
 refine k_iloadN X0 hx (hb hby d4_3) rfl (pc' := 4) rfl ?_
 refine k_iloadN X0 hx (hb hby d4_4) rfl (pc' := 5) rfl ?_
 refine k_icmp_ne X0 hx (hb hby d4_5) (pn := 8) rfl (py := 14) (by decide) (fun hc => absurd rfl hc) (fun _ => ?_)
 refine k_iload X0 hx (hb hby d4_8) rfl (pc' := 10) rfl ?_
 refine k_iloadN X0 hx (hb hby d4_10) rfl (pc' := 11) rfl ?_
 refine k_iaddL X0 hx (hb hby d4_11) (pc' := 12) rfl (z := (2 : Int32)) (by decide) ?_
 refine k_istore X0 hx (hb hby d4_12) (Ls' := #[iv p1, iv p1, iv (2 : Int32), iv p2, iv (1 : Int32), iv (2 : Int32)]) rfl (pc' := 14) rfl ?_
 refine k_iloadN X0 hx (hb hby d4_14) rfl (pc' := 15) rfl ?_
 refine k_iloadN X0 hx (hb hby d4_15) rfl (pc' := 16) rfl ?_
 refine k_icmp_ne X0 hx (hb hby d4_16) (pn := 19) rfl (py := 26) (by decide) (fun hc2116 => ?_) (fun hc2116 => ?_)
 ·
  refine k_iload X0 hx (hb hby d4_26) rfl (pc' := 28) rfl ?_
  have hf : f4_2115 p1 p2 = (2 : Int32) := by simp only [f4_2115, if_neg hc2116]
  exact k_retI X0 hx Bd.returns (hb hby d4_28) hlk (by decide) (by decide) ⟨N0, e0, by rw [hf]⟩
 ·
  refine k_iload X0 hx (hb hby d4_19) rfl (pc' := 21) rfl ?_
  refine k_iload X0 hx (hb hby d4_21) rfl (pc' := 23) rfl ?_
  refine k_iaddL X0 hx (hb hby d4_23) (pc' := 24) rfl (z := (3 : Int32)) (by decide) ?_
  refine k_istore X0 hx (hb hby d4_24) (Ls' := #[iv p1, iv p1, iv (2 : Int32), iv p2, iv (1 : Int32), iv (3 : Int32)]) rfl (pc' := 26) rfl ?_
  refine k_iload X0 hx (hb hby d4_26) rfl (pc' := 28) rfl ?_
  have hf : f4_2115 p1 p2 = (3 : Int32) := by simp only [f4_2115, if_pos hc2116]
  exact k_retI X0 hx Bd.returns (hb hby d4_28) hlk (by decide) (by decide) ⟨N0, e0, by rw [hf]⟩
abbrev R4_2269 : Room := { frames := 0, cells := 0, slots := 0, locals := 0 }
def f4_2269 (p1 : Int32) (p2 : Int32) (p3 : Int32) : Int32 := (if p1 = p2 then (if p1 = p3 then (4 : Int32) else (2 : Int32)) else (if p1 = p3 then (2 : Int32) else (0 : Int32)))

def Q4_2269 (Z : State) (p1 : Int32) (p2 : Int32) (p3 : Int32) (h0 : Heap) (n0 : Nat) (v : Option Value) (h : Heap) (L : List Loc) : Prop := Fr n0 L ∧ h = h0 ∧ v = some (.int (f4_2269 p1 p2 p3))
theorem ef4_2269 (m : MethodId) (x0 : Int32) (x1 : Int32) (x3 : Int32) : entryFrame m #[(.int x0), (.int x1), (.int (2 : Int32)), (.int x3), (.int (2 : Int32))] 6 = mkF m 0 #[.val (.int x0), .val (.int x1), .val (.int (2 : Int32)), .val (.int x3), .val (.int (2 : Int32)), .unset] [] := by first | (simp [entryFrame, mkF, argsToLocals, Value.category]; done) | rfl
set_option maxRecDepth 65536 in
set_option maxHeartbeats 40000000 in
theorem rm4_2269 (l : Launch) (Z : State) (a0 : Array Value) (hw : ∀ d ∈ tables_1, d.before a0 Z = true) (ws : List Jvm.Cond) (p1 : Int32) (p2 : Int32) (p3 : Int32) (h0 : Heap) (n0 : Nat) (Z0 : n0 ≤ h0.size)  :
    MetFree l (⟨"com/example/dendrotick/dendrotick/VectorClockGetPinLaw", "expected", "(IIIII)I"⟩ : MethodName) (head1 (Jvm.Cond.code (⟨"com/example/dendrotick/dendrotick/VectorClockGetPinLaw", "expected", "(IIIII)I"⟩ : MethodName) method_3_code 6 (some .int) :: ws) R4_2269) (fun a U => a = #[(.int p1), (.int p2), (.int (2 : Int32)), (.int p3), (.int (2 : Int32))] ∧ Z.Warmed39 U.vm ∧ U.heap = h0) (fun _ _ _ _ _ => True) (fun _ U o U' => ∃ v L, o = .returned v ∧ Q4_2269 Z p1 p2 p3 h0 n0 v U'.heap L ∧ FrameEnd U o U' L R4_2269.cells R4_2269.slots) := by
 refine MetFree.of_bodySF (plainFor_of_name pn_1) hisR ?_
 intro p e s m args below meth c s₁ Bd hml0 hP hK
 obtain ⟨rfl, hZ, hh⟩ := hP
 have hx := Bd.exec
 have hby := Bd.bytes
 have hml : c.maxLocals = 6 := hml0
 have hlk : meth.locks = false := Bd.notSynchronized
 have hown : s.vm.findClass "com/example/dendrotick/dendrotick/VectorClockGetPinLaw" = some m.cls := findClass_of_methodNamed Bd.named
 have hnm := (name_of_methodNamed Bd.named Bd.method).1
 have X0 : Stand p l e R4_2269 s m #[(.int p1), (.int p2), (.int (2 : Int32)), (.int p3), (.int (2 : Int32))] below meth c s₁ [] 0 0 := Stand.of_body Bd
 have e0 : s₁.heap = h0 := by rw [← hh, Bd.state]; rfl
 have N0 := Fr.nil n0
 rw [ef4_2269 m p1 p2 p3]
 show KEnds p e below s R4_2269.cells R4_2269.slots (Q4_2269 Z p1 p2 p3 h0 n0) s₁ (mkF m 0 #[iv p1, iv p2, iv (2 : Int32), iv p3, iv (2 : Int32), .unset] [])
 refine k_iconst X0 hx (hb hby d4_0) (pc' := 1) rfl (z := (0 : Int32)) rfl ?_
 refine k_istore X0 hx (hb hby d4_1) (Ls' := #[iv p1, iv p2, iv (2 : Int32), iv p3, iv (2 : Int32), iv (0 : Int32)]) rfl (pc' := 3) rfl ?_
 refine k_iloadN X0 hx (hb hby d4_3) rfl (pc' := 4) rfl ?_
 refine k_iloadN X0 hx (hb hby d4_4) rfl (pc' := 5) rfl ?_
 refine k_icmp_ne X0 hx (hb hby d4_5) (pn := 8) rfl (py := 14) (by decide) (fun hc2270 => ?_) (fun hc2270 => ?_)
 ·
  refine k_iloadN X0 hx (hb hby d4_14) rfl (pc' := 15) rfl ?_
  refine k_iloadN X0 hx (hb hby d4_15) rfl (pc' := 16) rfl ?_
  refine k_icmp_ne X0 hx (hb hby d4_16) (pn := 19) rfl (py := 26) (by decide) (fun hc2271 => ?_) (fun hc2271 => ?_)
  ·
   refine k_iload X0 hx (hb hby d4_26) rfl (pc' := 28) rfl ?_
   have hf : f4_2269 p1 p2 p3 = (0 : Int32) := by simp only [f4_2269, if_neg hc2270, if_neg hc2271]
   exact k_retI X0 hx Bd.returns (hb hby d4_28) hlk (by decide) (by decide) ⟨N0, e0, by rw [hf]⟩
  ·
   refine k_iload X0 hx (hb hby d4_19) rfl (pc' := 21) rfl ?_
   refine k_iload X0 hx (hb hby d4_21) rfl (pc' := 23) rfl ?_
   refine k_iaddL X0 hx (hb hby d4_23) (pc' := 24) rfl (z := (2 : Int32)) (by decide) ?_
   refine k_istore X0 hx (hb hby d4_24) (Ls' := #[iv p1, iv p2, iv (2 : Int32), iv p3, iv (2 : Int32), iv (2 : Int32)]) rfl (pc' := 26) rfl ?_
   refine k_iload X0 hx (hb hby d4_26) rfl (pc' := 28) rfl ?_
   have hf : f4_2269 p1 p2 p3 = (2 : Int32) := by simp only [f4_2269, if_neg hc2270, if_pos hc2271]
   exact k_retI X0 hx Bd.returns (hb hby d4_28) hlk (by decide) (by decide) ⟨N0, e0, by rw [hf]⟩
 ·
  refine k_iload X0 hx (hb hby d4_8) rfl (pc' := 10) rfl ?_
  refine k_iloadN X0 hx (hb hby d4_10) rfl (pc' := 11) rfl ?_
  refine k_iaddL X0 hx (hb hby d4_11) (pc' := 12) rfl (z := (2 : Int32)) (by decide) ?_
  refine k_istore X0 hx (hb hby d4_12) (Ls' := #[iv p1, iv p2, iv (2 : Int32), iv p3, iv (2 : Int32), iv (2 : Int32)]) rfl (pc' := 14) rfl ?_
  refine k_iloadN X0 hx (hb hby d4_14) rfl (pc' := 15) rfl ?_
  refine k_iloadN X0 hx (hb hby d4_15) rfl (pc' := 16) rfl ?_
  refine k_icmp_ne X0 hx (hb hby d4_16) (pn := 19) rfl (py := 26) (by decide) (fun hc2272 => ?_) (fun hc2272 => ?_)
  ·
   refine k_iload X0 hx (hb hby d4_26) rfl (pc' := 28) rfl ?_
   have hf : f4_2269 p1 p2 p3 = (2 : Int32) := by simp only [f4_2269, if_pos hc2270, if_neg hc2272]
   exact k_retI X0 hx Bd.returns (hb hby d4_28) hlk (by decide) (by decide) ⟨N0, e0, by rw [hf]⟩
  ·
   refine k_iload X0 hx (hb hby d4_19) rfl (pc' := 21) rfl ?_
   refine k_iload X0 hx (hb hby d4_21) rfl (pc' := 23) rfl ?_
   refine k_iaddL X0 hx (hb hby d4_23) (pc' := 24) rfl (z := (4 : Int32)) (by decide) ?_
   refine k_istore X0 hx (hb hby d4_24) (Ls' := #[iv p1, iv p2, iv (2 : Int32), iv p3, iv (2 : Int32), iv (4 : Int32)]) rfl (pc' := 26) rfl ?_
   refine k_iload X0 hx (hb hby d4_26) rfl (pc' := 28) rfl ?_
   have hf : f4_2269 p1 p2 p3 = (4 : Int32) := by simp only [f4_2269, if_pos hc2270, if_pos hc2272]
   exact k_retI X0 hx Bd.returns (hb hby d4_28) hlk (by decide) (by decide) ⟨N0, e0, by rw [hf]⟩
abbrev R4_2310 : Room := { frames := 0, cells := 0, slots := 0, locals := 0 }
def f4_2310 (p1 : Int32) (p2 : Int32) : Int32 := (if p1 = p2 then (4 : Int32) else (2 : Int32))

def Q4_2310 (Z : State) (p1 : Int32) (p2 : Int32) (h0 : Heap) (n0 : Nat) (v : Option Value) (h : Heap) (L : List Loc) : Prop := Fr n0 L ∧ h = h0 ∧ v = some (.int (f4_2310 p1 p2))
theorem ef4_2310 (m : MethodId) (x0 : Int32) (x1 : Int32) (x3 : Int32) : entryFrame m #[(.int x0), (.int x1), (.int (2 : Int32)), (.int x3), (.int (2 : Int32))] 6 = mkF m 0 #[.val (.int x0), .val (.int x1), .val (.int (2 : Int32)), .val (.int x3), .val (.int (2 : Int32)), .unset] [] := by first | (simp [entryFrame, mkF, argsToLocals, Value.category]; done) | rfl
set_option maxRecDepth 65536 in
set_option maxHeartbeats 40000000 in
theorem rm4_2310 (l : Launch) (Z : State) (a0 : Array Value) (hw : ∀ d ∈ tables_1, d.before a0 Z = true) (ws : List Jvm.Cond) (p1 : Int32) (p2 : Int32) (h0 : Heap) (n0 : Nat) (Z0 : n0 ≤ h0.size)  :
    MetFree l (⟨"com/example/dendrotick/dendrotick/VectorClockGetPinLaw", "expected", "(IIIII)I"⟩ : MethodName) (head1 (Jvm.Cond.code (⟨"com/example/dendrotick/dendrotick/VectorClockGetPinLaw", "expected", "(IIIII)I"⟩ : MethodName) method_3_code 6 (some .int) :: ws) R4_2310) (fun a U => a = #[(.int p1), (.int p1), (.int (2 : Int32)), (.int p2), (.int (2 : Int32))] ∧ Z.Warmed39 U.vm ∧ U.heap = h0) (fun _ _ _ _ _ => True) (fun _ U o U' => ∃ v L, o = .returned v ∧ Q4_2310 Z p1 p2 h0 n0 v U'.heap L ∧ FrameEnd U o U' L R4_2310.cells R4_2310.slots) := by
 refine MetFree.of_bodySF (plainFor_of_name pn_1) hisR ?_
 intro p e s m args below meth c s₁ Bd hml0 hP hK
 obtain ⟨rfl, hZ, hh⟩ := hP
 have hx := Bd.exec
 have hby := Bd.bytes
 have hml : c.maxLocals = 6 := hml0
 have hlk : meth.locks = false := Bd.notSynchronized
 have hown : s.vm.findClass "com/example/dendrotick/dendrotick/VectorClockGetPinLaw" = some m.cls := findClass_of_methodNamed Bd.named
 have hnm := (name_of_methodNamed Bd.named Bd.method).1
 have X0 : Stand p l e R4_2310 s m #[(.int p1), (.int p1), (.int (2 : Int32)), (.int p2), (.int (2 : Int32))] below meth c s₁ [] 0 0 := Stand.of_body Bd
 have e0 : s₁.heap = h0 := by rw [← hh, Bd.state]; rfl
 have N0 := Fr.nil n0
 rw [ef4_2310 m p1 p1 p2]
 show KEnds p e below s R4_2310.cells R4_2310.slots (Q4_2310 Z p1 p2 h0 n0) s₁ (mkF m 0 #[iv p1, iv p1, iv (2 : Int32), iv p2, iv (2 : Int32), .unset] [])
 refine k_iconst X0 hx (hb hby d4_0) (pc' := 1) rfl (z := (0 : Int32)) rfl ?_
 refine k_istore X0 hx (hb hby d4_1) (Ls' := #[iv p1, iv p1, iv (2 : Int32), iv p2, iv (2 : Int32), iv (0 : Int32)]) rfl (pc' := 3) rfl ?_
 refine k_iloadN X0 hx (hb hby d4_3) rfl (pc' := 4) rfl ?_
 refine k_iloadN X0 hx (hb hby d4_4) rfl (pc' := 5) rfl ?_
 refine k_icmp_ne X0 hx (hb hby d4_5) (pn := 8) rfl (py := 14) (by decide) (fun hc => absurd rfl hc) (fun _ => ?_)
 refine k_iload X0 hx (hb hby d4_8) rfl (pc' := 10) rfl ?_
 refine k_iloadN X0 hx (hb hby d4_10) rfl (pc' := 11) rfl ?_
 refine k_iaddL X0 hx (hb hby d4_11) (pc' := 12) rfl (z := (2 : Int32)) (by decide) ?_
 refine k_istore X0 hx (hb hby d4_12) (Ls' := #[iv p1, iv p1, iv (2 : Int32), iv p2, iv (2 : Int32), iv (2 : Int32)]) rfl (pc' := 14) rfl ?_
 refine k_iloadN X0 hx (hb hby d4_14) rfl (pc' := 15) rfl ?_
 refine k_iloadN X0 hx (hb hby d4_15) rfl (pc' := 16) rfl ?_
 refine k_icmp_ne X0 hx (hb hby d4_16) (pn := 19) rfl (py := 26) (by decide) (fun hc2311 => ?_) (fun hc2311 => ?_)
 ·
  refine k_iload X0 hx (hb hby d4_26) rfl (pc' := 28) rfl ?_
  have hf : f4_2310 p1 p2 = (2 : Int32) := by simp only [f4_2310, if_neg hc2311]
  exact k_retI X0 hx Bd.returns (hb hby d4_28) hlk (by decide) (by decide) ⟨N0, e0, by rw [hf]⟩
 ·
  refine k_iload X0 hx (hb hby d4_19) rfl (pc' := 21) rfl ?_
  refine k_iload X0 hx (hb hby d4_21) rfl (pc' := 23) rfl ?_
  refine k_iaddL X0 hx (hb hby d4_23) (pc' := 24) rfl (z := (4 : Int32)) (by decide) ?_
  refine k_istore X0 hx (hb hby d4_24) (Ls' := #[iv p1, iv p1, iv (2 : Int32), iv p2, iv (2 : Int32), iv (4 : Int32)]) rfl (pc' := 26) rfl ?_
  refine k_iload X0 hx (hb hby d4_26) rfl (pc' := 28) rfl ?_
  have hf : f4_2310 p1 p2 = (4 : Int32) := by simp only [f4_2310, if_pos hc2311]
  exact k_retI X0 hx Bd.returns (hb hby d4_28) hlk (by decide) (by decide) ⟨N0, e0, by rw [hf]⟩
abbrev R4_2483 : Room := { frames := 0, cells := 0, slots := 0, locals := 0 }
def f4_2483 (p1 : Int32) (p2 : Int32) (p3 : Int32) : Int32 := (if p1 = p2 then (if p1 = p3 then (5 : Int32) else (2 : Int32)) else (if p1 = p3 then (3 : Int32) else (0 : Int32)))

def Q4_2483 (Z : State) (p1 : Int32) (p2 : Int32) (p3 : Int32) (h0 : Heap) (n0 : Nat) (v : Option Value) (h : Heap) (L : List Loc) : Prop := Fr n0 L ∧ h = h0 ∧ v = some (.int (f4_2483 p1 p2 p3))
theorem ef4_2483 (m : MethodId) (x0 : Int32) (x1 : Int32) (x3 : Int32) : entryFrame m #[(.int x0), (.int x1), (.int (2 : Int32)), (.int x3), (.int (3 : Int32))] 6 = mkF m 0 #[.val (.int x0), .val (.int x1), .val (.int (2 : Int32)), .val (.int x3), .val (.int (3 : Int32)), .unset] [] := by first | (simp [entryFrame, mkF, argsToLocals, Value.category]; done) | rfl
set_option maxRecDepth 65536 in
set_option maxHeartbeats 40000000 in
theorem rm4_2483 (l : Launch) (Z : State) (a0 : Array Value) (hw : ∀ d ∈ tables_1, d.before a0 Z = true) (ws : List Jvm.Cond) (p1 : Int32) (p2 : Int32) (p3 : Int32) (h0 : Heap) (n0 : Nat) (Z0 : n0 ≤ h0.size)  :
    MetFree l (⟨"com/example/dendrotick/dendrotick/VectorClockGetPinLaw", "expected", "(IIIII)I"⟩ : MethodName) (head1 (Jvm.Cond.code (⟨"com/example/dendrotick/dendrotick/VectorClockGetPinLaw", "expected", "(IIIII)I"⟩ : MethodName) method_3_code 6 (some .int) :: ws) R4_2483) (fun a U => a = #[(.int p1), (.int p2), (.int (2 : Int32)), (.int p3), (.int (3 : Int32))] ∧ Z.Warmed39 U.vm ∧ U.heap = h0) (fun _ _ _ _ _ => True) (fun _ U o U' => ∃ v L, o = .returned v ∧ Q4_2483 Z p1 p2 p3 h0 n0 v U'.heap L ∧ FrameEnd U o U' L R4_2483.cells R4_2483.slots) := by
 refine MetFree.of_bodySF (plainFor_of_name pn_1) hisR ?_
 intro p e s m args below meth c s₁ Bd hml0 hP hK
 obtain ⟨rfl, hZ, hh⟩ := hP
 have hx := Bd.exec
 have hby := Bd.bytes
 have hml : c.maxLocals = 6 := hml0
 have hlk : meth.locks = false := Bd.notSynchronized
 have hown : s.vm.findClass "com/example/dendrotick/dendrotick/VectorClockGetPinLaw" = some m.cls := findClass_of_methodNamed Bd.named
 have hnm := (name_of_methodNamed Bd.named Bd.method).1
 have X0 : Stand p l e R4_2483 s m #[(.int p1), (.int p2), (.int (2 : Int32)), (.int p3), (.int (3 : Int32))] below meth c s₁ [] 0 0 := Stand.of_body Bd
 have e0 : s₁.heap = h0 := by rw [← hh, Bd.state]; rfl
 have N0 := Fr.nil n0
 rw [ef4_2483 m p1 p2 p3]
 show KEnds p e below s R4_2483.cells R4_2483.slots (Q4_2483 Z p1 p2 p3 h0 n0) s₁ (mkF m 0 #[iv p1, iv p2, iv (2 : Int32), iv p3, iv (3 : Int32), .unset] [])
 refine k_iconst X0 hx (hb hby d4_0) (pc' := 1) rfl (z := (0 : Int32)) rfl ?_
 refine k_istore X0 hx (hb hby d4_1) (Ls' := #[iv p1, iv p2, iv (2 : Int32), iv p3, iv (3 : Int32), iv (0 : Int32)]) rfl (pc' := 3) rfl ?_
 refine k_iloadN X0 hx (hb hby d4_3) rfl (pc' := 4) rfl ?_
 refine k_iloadN X0 hx (hb hby d4_4) rfl (pc' := 5) rfl ?_
 refine k_icmp_ne X0 hx (hb hby d4_5) (pn := 8) rfl (py := 14) (by decide) (fun hc2484 => ?_) (fun hc2484 => ?_)
 ·
  refine k_iloadN X0 hx (hb hby d4_14) rfl (pc' := 15) rfl ?_
  refine k_iloadN X0 hx (hb hby d4_15) rfl (pc' := 16) rfl ?_
  refine k_icmp_ne X0 hx (hb hby d4_16) (pn := 19) rfl (py := 26) (by decide) (fun hc2485 => ?_) (fun hc2485 => ?_)
  ·
   refine k_iload X0 hx (hb hby d4_26) rfl (pc' := 28) rfl ?_
   have hf : f4_2483 p1 p2 p3 = (0 : Int32) := by simp only [f4_2483, if_neg hc2484, if_neg hc2485]
   exact k_retI X0 hx Bd.returns (hb hby d4_28) hlk (by decide) (by decide) ⟨N0, e0, by rw [hf]⟩
  ·
   refine k_iload X0 hx (hb hby d4_19) rfl (pc' := 21) rfl ?_
   refine k_iload X0 hx (hb hby d4_21) rfl (pc' := 23) rfl ?_
   refine k_iaddL X0 hx (hb hby d4_23) (pc' := 24) rfl (z := (3 : Int32)) (by decide) ?_
   refine k_istore X0 hx (hb hby d4_24) (Ls' := #[iv p1, iv p2, iv (2 : Int32), iv p3, iv (3 : Int32), iv (3 : Int32)]) rfl (pc' := 26) rfl ?_
   refine k_iload X0 hx (hb hby d4_26) rfl (pc' := 28) rfl ?_
   have hf : f4_2483 p1 p2 p3 = (3 : Int32) := by simp only [f4_2483, if_neg hc2484, if_pos hc2485]
   exact k_retI X0 hx Bd.returns (hb hby d4_28) hlk (by decide) (by decide) ⟨N0, e0, by rw [hf]⟩
 ·
  refine k_iload X0 hx (hb hby d4_8) rfl (pc' := 10) rfl ?_
  refine k_iloadN X0 hx (hb hby d4_10) rfl (pc' := 11) rfl ?_
  refine k_iaddL X0 hx (hb hby d4_11) (pc' := 12) rfl (z := (2 : Int32)) (by decide) ?_
  refine k_istore X0 hx (hb hby d4_12) (Ls' := #[iv p1, iv p2, iv (2 : Int32), iv p3, iv (3 : Int32), iv (2 : Int32)]) rfl (pc' := 14) rfl ?_
  refine k_iloadN X0 hx (hb hby d4_14) rfl (pc' := 15) rfl ?_
  refine k_iloadN X0 hx (hb hby d4_15) rfl (pc' := 16) rfl ?_
  refine k_icmp_ne X0 hx (hb hby d4_16) (pn := 19) rfl (py := 26) (by decide) (fun hc2486 => ?_) (fun hc2486 => ?_)
  ·
   refine k_iload X0 hx (hb hby d4_26) rfl (pc' := 28) rfl ?_
   have hf : f4_2483 p1 p2 p3 = (2 : Int32) := by simp only [f4_2483, if_pos hc2484, if_neg hc2486]
   exact k_retI X0 hx Bd.returns (hb hby d4_28) hlk (by decide) (by decide) ⟨N0, e0, by rw [hf]⟩
  ·
   refine k_iload X0 hx (hb hby d4_19) rfl (pc' := 21) rfl ?_
   refine k_iload X0 hx (hb hby d4_21) rfl (pc' := 23) rfl ?_
   refine k_iaddL X0 hx (hb hby d4_23) (pc' := 24) rfl (z := (5 : Int32)) (by decide) ?_
   refine k_istore X0 hx (hb hby d4_24) (Ls' := #[iv p1, iv p2, iv (2 : Int32), iv p3, iv (3 : Int32), iv (5 : Int32)]) rfl (pc' := 26) rfl ?_
   refine k_iload X0 hx (hb hby d4_26) rfl (pc' := 28) rfl ?_
   have hf : f4_2483 p1 p2 p3 = (5 : Int32) := by simp only [f4_2483, if_pos hc2484, if_pos hc2486]
   exact k_retI X0 hx Bd.returns (hb hby d4_28) hlk (by decide) (by decide) ⟨N0, e0, by rw [hf]⟩
abbrev R4_2527 : Room := { frames := 0, cells := 0, slots := 0, locals := 0 }
def f4_2527 (p1 : Int32) (p2 : Int32) : Int32 := (if p1 = p2 then (5 : Int32) else (2 : Int32))

def Q4_2527 (Z : State) (p1 : Int32) (p2 : Int32) (h0 : Heap) (n0 : Nat) (v : Option Value) (h : Heap) (L : List Loc) : Prop := Fr n0 L ∧ h = h0 ∧ v = some (.int (f4_2527 p1 p2))
theorem ef4_2527 (m : MethodId) (x0 : Int32) (x1 : Int32) (x3 : Int32) : entryFrame m #[(.int x0), (.int x1), (.int (2 : Int32)), (.int x3), (.int (3 : Int32))] 6 = mkF m 0 #[.val (.int x0), .val (.int x1), .val (.int (2 : Int32)), .val (.int x3), .val (.int (3 : Int32)), .unset] [] := by first | (simp [entryFrame, mkF, argsToLocals, Value.category]; done) | rfl
set_option maxRecDepth 65536 in
set_option maxHeartbeats 40000000 in
theorem rm4_2527 (l : Launch) (Z : State) (a0 : Array Value) (hw : ∀ d ∈ tables_1, d.before a0 Z = true) (ws : List Jvm.Cond) (p1 : Int32) (p2 : Int32) (h0 : Heap) (n0 : Nat) (Z0 : n0 ≤ h0.size)  :
    MetFree l (⟨"com/example/dendrotick/dendrotick/VectorClockGetPinLaw", "expected", "(IIIII)I"⟩ : MethodName) (head1 (Jvm.Cond.code (⟨"com/example/dendrotick/dendrotick/VectorClockGetPinLaw", "expected", "(IIIII)I"⟩ : MethodName) method_3_code 6 (some .int) :: ws) R4_2527) (fun a U => a = #[(.int p1), (.int p1), (.int (2 : Int32)), (.int p2), (.int (3 : Int32))] ∧ Z.Warmed39 U.vm ∧ U.heap = h0) (fun _ _ _ _ _ => True) (fun _ U o U' => ∃ v L, o = .returned v ∧ Q4_2527 Z p1 p2 h0 n0 v U'.heap L ∧ FrameEnd U o U' L R4_2527.cells R4_2527.slots) := by
 refine MetFree.of_bodySF (plainFor_of_name pn_1) hisR ?_
 intro p e s m args below meth c s₁ Bd hml0 hP hK
 obtain ⟨rfl, hZ, hh⟩ := hP
 have hx := Bd.exec
 have hby := Bd.bytes
 have hml : c.maxLocals = 6 := hml0
 have hlk : meth.locks = false := Bd.notSynchronized
 have hown : s.vm.findClass "com/example/dendrotick/dendrotick/VectorClockGetPinLaw" = some m.cls := findClass_of_methodNamed Bd.named
 have hnm := (name_of_methodNamed Bd.named Bd.method).1
 have X0 : Stand p l e R4_2527 s m #[(.int p1), (.int p1), (.int (2 : Int32)), (.int p2), (.int (3 : Int32))] below meth c s₁ [] 0 0 := Stand.of_body Bd
 have e0 : s₁.heap = h0 := by rw [← hh, Bd.state]; rfl
 have N0 := Fr.nil n0
 rw [ef4_2527 m p1 p1 p2]
 show KEnds p e below s R4_2527.cells R4_2527.slots (Q4_2527 Z p1 p2 h0 n0) s₁ (mkF m 0 #[iv p1, iv p1, iv (2 : Int32), iv p2, iv (3 : Int32), .unset] [])
 refine k_iconst X0 hx (hb hby d4_0) (pc' := 1) rfl (z := (0 : Int32)) rfl ?_
 refine k_istore X0 hx (hb hby d4_1) (Ls' := #[iv p1, iv p1, iv (2 : Int32), iv p2, iv (3 : Int32), iv (0 : Int32)]) rfl (pc' := 3) rfl ?_
 refine k_iloadN X0 hx (hb hby d4_3) rfl (pc' := 4) rfl ?_
 refine k_iloadN X0 hx (hb hby d4_4) rfl (pc' := 5) rfl ?_
 refine k_icmp_ne X0 hx (hb hby d4_5) (pn := 8) rfl (py := 14) (by decide) (fun hc => absurd rfl hc) (fun _ => ?_)
 refine k_iload X0 hx (hb hby d4_8) rfl (pc' := 10) rfl ?_
 refine k_iloadN X0 hx (hb hby d4_10) rfl (pc' := 11) rfl ?_
 refine k_iaddL X0 hx (hb hby d4_11) (pc' := 12) rfl (z := (2 : Int32)) (by decide) ?_
 refine k_istore X0 hx (hb hby d4_12) (Ls' := #[iv p1, iv p1, iv (2 : Int32), iv p2, iv (3 : Int32), iv (2 : Int32)]) rfl (pc' := 14) rfl ?_
 refine k_iloadN X0 hx (hb hby d4_14) rfl (pc' := 15) rfl ?_
 refine k_iloadN X0 hx (hb hby d4_15) rfl (pc' := 16) rfl ?_
 refine k_icmp_ne X0 hx (hb hby d4_16) (pn := 19) rfl (py := 26) (by decide) (fun hc2528 => ?_) (fun hc2528 => ?_)
 ·
  refine k_iload X0 hx (hb hby d4_26) rfl (pc' := 28) rfl ?_
  have hf : f4_2527 p1 p2 = (2 : Int32) := by simp only [f4_2527, if_neg hc2528]
  exact k_retI X0 hx Bd.returns (hb hby d4_28) hlk (by decide) (by decide) ⟨N0, e0, by rw [hf]⟩
 ·
  refine k_iload X0 hx (hb hby d4_19) rfl (pc' := 21) rfl ?_
  refine k_iload X0 hx (hb hby d4_21) rfl (pc' := 23) rfl ?_
  refine k_iaddL X0 hx (hb hby d4_23) (pc' := 24) rfl (z := (5 : Int32)) (by decide) ?_
  refine k_istore X0 hx (hb hby d4_24) (Ls' := #[iv p1, iv p1, iv (2 : Int32), iv p2, iv (3 : Int32), iv (5 : Int32)]) rfl (pc' := 26) rfl ?_
  refine k_iload X0 hx (hb hby d4_26) rfl (pc' := 28) rfl ?_
  have hf : f4_2527 p1 p2 = (5 : Int32) := by simp only [f4_2527, if_pos hc2528]
  exact k_retI X0 hx Bd.returns (hb hby d4_28) hlk (by decide) (by decide) ⟨N0, e0, by rw [hf]⟩
abbrev R4_2639 : Room := { frames := 0, cells := 0, slots := 0, locals := 0 }
def f4_2639 (p1 : Int32) (p2 : Int32) (p3 : Int32) : Int32 := (if p1 = p2 then (if p1 = p3 then (3 : Int32) else (3 : Int32)) else (if p1 = p3 then (0 : Int32) else (0 : Int32)))

def Q4_2639 (Z : State) (p1 : Int32) (p2 : Int32) (p3 : Int32) (h0 : Heap) (n0 : Nat) (v : Option Value) (h : Heap) (L : List Loc) : Prop := Fr n0 L ∧ h = h0 ∧ v = some (.int (f4_2639 p1 p2 p3))
theorem ef4_2639 (m : MethodId) (x0 : Int32) (x1 : Int32) (x3 : Int32) : entryFrame m #[(.int x0), (.int x1), (.int (3 : Int32)), (.int x3), (.int (0 : Int32))] 6 = mkF m 0 #[.val (.int x0), .val (.int x1), .val (.int (3 : Int32)), .val (.int x3), .val (.int (0 : Int32)), .unset] [] := by first | (simp [entryFrame, mkF, argsToLocals, Value.category]; done) | rfl
set_option maxRecDepth 65536 in
set_option maxHeartbeats 40000000 in
theorem rm4_2639 (l : Launch) (Z : State) (a0 : Array Value) (hw : ∀ d ∈ tables_1, d.before a0 Z = true) (ws : List Jvm.Cond) (p1 : Int32) (p2 : Int32) (p3 : Int32) (h0 : Heap) (n0 : Nat) (Z0 : n0 ≤ h0.size)  :
    MetFree l (⟨"com/example/dendrotick/dendrotick/VectorClockGetPinLaw", "expected", "(IIIII)I"⟩ : MethodName) (head1 (Jvm.Cond.code (⟨"com/example/dendrotick/dendrotick/VectorClockGetPinLaw", "expected", "(IIIII)I"⟩ : MethodName) method_3_code 6 (some .int) :: ws) R4_2639) (fun a U => a = #[(.int p1), (.int p2), (.int (3 : Int32)), (.int p3), (.int (0 : Int32))] ∧ Z.Warmed39 U.vm ∧ U.heap = h0) (fun _ _ _ _ _ => True) (fun _ U o U' => ∃ v L, o = .returned v ∧ Q4_2639 Z p1 p2 p3 h0 n0 v U'.heap L ∧ FrameEnd U o U' L R4_2639.cells R4_2639.slots) := by
 refine MetFree.of_bodySF (plainFor_of_name pn_1) hisR ?_
 intro p e s m args below meth c s₁ Bd hml0 hP hK
 obtain ⟨rfl, hZ, hh⟩ := hP
 have hx := Bd.exec
 have hby := Bd.bytes
 have hml : c.maxLocals = 6 := hml0
 have hlk : meth.locks = false := Bd.notSynchronized
 have hown : s.vm.findClass "com/example/dendrotick/dendrotick/VectorClockGetPinLaw" = some m.cls := findClass_of_methodNamed Bd.named
 have hnm := (name_of_methodNamed Bd.named Bd.method).1
 have X0 : Stand p l e R4_2639 s m #[(.int p1), (.int p2), (.int (3 : Int32)), (.int p3), (.int (0 : Int32))] below meth c s₁ [] 0 0 := Stand.of_body Bd
 have e0 : s₁.heap = h0 := by rw [← hh, Bd.state]; rfl
 have N0 := Fr.nil n0
 rw [ef4_2639 m p1 p2 p3]
 show KEnds p e below s R4_2639.cells R4_2639.slots (Q4_2639 Z p1 p2 p3 h0 n0) s₁ (mkF m 0 #[iv p1, iv p2, iv (3 : Int32), iv p3, iv (0 : Int32), .unset] [])
 refine k_iconst X0 hx (hb hby d4_0) (pc' := 1) rfl (z := (0 : Int32)) rfl ?_
 refine k_istore X0 hx (hb hby d4_1) (Ls' := #[iv p1, iv p2, iv (3 : Int32), iv p3, iv (0 : Int32), iv (0 : Int32)]) rfl (pc' := 3) rfl ?_
 refine k_iloadN X0 hx (hb hby d4_3) rfl (pc' := 4) rfl ?_
 refine k_iloadN X0 hx (hb hby d4_4) rfl (pc' := 5) rfl ?_
 refine k_icmp_ne X0 hx (hb hby d4_5) (pn := 8) rfl (py := 14) (by decide) (fun hc2640 => ?_) (fun hc2640 => ?_)
 ·
  refine k_iloadN X0 hx (hb hby d4_14) rfl (pc' := 15) rfl ?_
  refine k_iloadN X0 hx (hb hby d4_15) rfl (pc' := 16) rfl ?_
  refine k_icmp_ne X0 hx (hb hby d4_16) (pn := 19) rfl (py := 26) (by decide) (fun hc2641 => ?_) (fun hc2641 => ?_)
  ·
   refine k_iload X0 hx (hb hby d4_26) rfl (pc' := 28) rfl ?_
   have hf : f4_2639 p1 p2 p3 = (0 : Int32) := by simp only [f4_2639, if_neg hc2640, if_neg hc2641]
   exact k_retI X0 hx Bd.returns (hb hby d4_28) hlk (by decide) (by decide) ⟨N0, e0, by rw [hf]⟩
  ·
   refine k_iload X0 hx (hb hby d4_19) rfl (pc' := 21) rfl ?_
   refine k_iload X0 hx (hb hby d4_21) rfl (pc' := 23) rfl ?_
   refine k_iaddL X0 hx (hb hby d4_23) (pc' := 24) rfl (z := (0 : Int32)) (by decide) ?_
   refine k_istore X0 hx (hb hby d4_24) (Ls' := #[iv p1, iv p2, iv (3 : Int32), iv p3, iv (0 : Int32), iv (0 : Int32)]) rfl (pc' := 26) rfl ?_
   refine k_iload X0 hx (hb hby d4_26) rfl (pc' := 28) rfl ?_
   have hf : f4_2639 p1 p2 p3 = (0 : Int32) := by simp only [f4_2639, if_neg hc2640, if_pos hc2641]
   exact k_retI X0 hx Bd.returns (hb hby d4_28) hlk (by decide) (by decide) ⟨N0, e0, by rw [hf]⟩
 ·
  refine k_iload X0 hx (hb hby d4_8) rfl (pc' := 10) rfl ?_
  refine k_iloadN X0 hx (hb hby d4_10) rfl (pc' := 11) rfl ?_
  refine k_iaddL X0 hx (hb hby d4_11) (pc' := 12) rfl (z := (3 : Int32)) (by decide) ?_
  refine k_istore X0 hx (hb hby d4_12) (Ls' := #[iv p1, iv p2, iv (3 : Int32), iv p3, iv (0 : Int32), iv (3 : Int32)]) rfl (pc' := 14) rfl ?_
  refine k_iloadN X0 hx (hb hby d4_14) rfl (pc' := 15) rfl ?_
  refine k_iloadN X0 hx (hb hby d4_15) rfl (pc' := 16) rfl ?_
  refine k_icmp_ne X0 hx (hb hby d4_16) (pn := 19) rfl (py := 26) (by decide) (fun hc2642 => ?_) (fun hc2642 => ?_)
  ·
   refine k_iload X0 hx (hb hby d4_26) rfl (pc' := 28) rfl ?_
   have hf : f4_2639 p1 p2 p3 = (3 : Int32) := by simp only [f4_2639, if_pos hc2640, if_neg hc2642]
   exact k_retI X0 hx Bd.returns (hb hby d4_28) hlk (by decide) (by decide) ⟨N0, e0, by rw [hf]⟩
  ·
   refine k_iload X0 hx (hb hby d4_19) rfl (pc' := 21) rfl ?_
   refine k_iload X0 hx (hb hby d4_21) rfl (pc' := 23) rfl ?_
   refine k_iaddL X0 hx (hb hby d4_23) (pc' := 24) rfl (z := (3 : Int32)) (by decide) ?_
   refine k_istore X0 hx (hb hby d4_24) (Ls' := #[iv p1, iv p2, iv (3 : Int32), iv p3, iv (0 : Int32), iv (3 : Int32)]) rfl (pc' := 26) rfl ?_
   refine k_iload X0 hx (hb hby d4_26) rfl (pc' := 28) rfl ?_
   have hf : f4_2639 p1 p2 p3 = (3 : Int32) := by simp only [f4_2639, if_pos hc2640, if_pos hc2642]
   exact k_retI X0 hx Bd.returns (hb hby d4_28) hlk (by decide) (by decide) ⟨N0, e0, by rw [hf]⟩
abbrev R4_2717 : Room := { frames := 0, cells := 0, slots := 0, locals := 0 }
def f4_2717 (p1 : Int32) (p2 : Int32) : Int32 := (if p1 = p2 then (3 : Int32) else (3 : Int32))

def Q4_2717 (Z : State) (p1 : Int32) (p2 : Int32) (h0 : Heap) (n0 : Nat) (v : Option Value) (h : Heap) (L : List Loc) : Prop := Fr n0 L ∧ h = h0 ∧ v = some (.int (f4_2717 p1 p2))
theorem ef4_2717 (m : MethodId) (x0 : Int32) (x1 : Int32) (x3 : Int32) : entryFrame m #[(.int x0), (.int x1), (.int (3 : Int32)), (.int x3), (.int (0 : Int32))] 6 = mkF m 0 #[.val (.int x0), .val (.int x1), .val (.int (3 : Int32)), .val (.int x3), .val (.int (0 : Int32)), .unset] [] := by first | (simp [entryFrame, mkF, argsToLocals, Value.category]; done) | rfl
set_option maxRecDepth 65536 in
set_option maxHeartbeats 40000000 in
theorem rm4_2717 (l : Launch) (Z : State) (a0 : Array Value) (hw : ∀ d ∈ tables_1, d.before a0 Z = true) (ws : List Jvm.Cond) (p1 : Int32) (p2 : Int32) (h0 : Heap) (n0 : Nat) (Z0 : n0 ≤ h0.size)  :
    MetFree l (⟨"com/example/dendrotick/dendrotick/VectorClockGetPinLaw", "expected", "(IIIII)I"⟩ : MethodName) (head1 (Jvm.Cond.code (⟨"com/example/dendrotick/dendrotick/VectorClockGetPinLaw", "expected", "(IIIII)I"⟩ : MethodName) method_3_code 6 (some .int) :: ws) R4_2717) (fun a U => a = #[(.int p1), (.int p1), (.int (3 : Int32)), (.int p2), (.int (0 : Int32))] ∧ Z.Warmed39 U.vm ∧ U.heap = h0) (fun _ _ _ _ _ => True) (fun _ U o U' => ∃ v L, o = .returned v ∧ Q4_2717 Z p1 p2 h0 n0 v U'.heap L ∧ FrameEnd U o U' L R4_2717.cells R4_2717.slots) := by
 refine MetFree.of_bodySF (plainFor_of_name pn_1) hisR ?_
 intro p e s m args below meth c s₁ Bd hml0 hP hK
 obtain ⟨rfl, hZ, hh⟩ := hP
 have hx := Bd.exec
 have hby := Bd.bytes
 have hml : c.maxLocals = 6 := hml0
 have hlk : meth.locks = false := Bd.notSynchronized
 have hown : s.vm.findClass "com/example/dendrotick/dendrotick/VectorClockGetPinLaw" = some m.cls := findClass_of_methodNamed Bd.named
 have hnm := (name_of_methodNamed Bd.named Bd.method).1
 have X0 : Stand p l e R4_2717 s m #[(.int p1), (.int p1), (.int (3 : Int32)), (.int p2), (.int (0 : Int32))] below meth c s₁ [] 0 0 := Stand.of_body Bd
 have e0 : s₁.heap = h0 := by rw [← hh, Bd.state]; rfl
 have N0 := Fr.nil n0
 rw [ef4_2717 m p1 p1 p2]
 show KEnds p e below s R4_2717.cells R4_2717.slots (Q4_2717 Z p1 p2 h0 n0) s₁ (mkF m 0 #[iv p1, iv p1, iv (3 : Int32), iv p2, iv (0 : Int32), .unset] [])
 refine k_iconst X0 hx (hb hby d4_0) (pc' := 1) rfl (z := (0 : Int32)) rfl ?_
 refine k_istore X0 hx (hb hby d4_1) (Ls' := #[iv p1, iv p1, iv (3 : Int32), iv p2, iv (0 : Int32), iv (0 : Int32)]) rfl (pc' := 3) rfl ?_
 refine k_iloadN X0 hx (hb hby d4_3) rfl (pc' := 4) rfl ?_
 refine k_iloadN X0 hx (hb hby d4_4) rfl (pc' := 5) rfl ?_
 refine k_icmp_ne X0 hx (hb hby d4_5) (pn := 8) rfl (py := 14) (by decide) (fun hc => absurd rfl hc) (fun _ => ?_)
 refine k_iload X0 hx (hb hby d4_8) rfl (pc' := 10) rfl ?_
 refine k_iloadN X0 hx (hb hby d4_10) rfl (pc' := 11) rfl ?_
 refine k_iaddL X0 hx (hb hby d4_11) (pc' := 12) rfl (z := (3 : Int32)) (by decide) ?_
 refine k_istore X0 hx (hb hby d4_12) (Ls' := #[iv p1, iv p1, iv (3 : Int32), iv p2, iv (0 : Int32), iv (3 : Int32)]) rfl (pc' := 14) rfl ?_
 refine k_iloadN X0 hx (hb hby d4_14) rfl (pc' := 15) rfl ?_
 refine k_iloadN X0 hx (hb hby d4_15) rfl (pc' := 16) rfl ?_
 refine k_icmp_ne X0 hx (hb hby d4_16) (pn := 19) rfl (py := 26) (by decide) (fun hc2718 => ?_) (fun hc2718 => ?_)
 ·
  refine k_iload X0 hx (hb hby d4_26) rfl (pc' := 28) rfl ?_
  have hf : f4_2717 p1 p2 = (3 : Int32) := by simp only [f4_2717, if_neg hc2718]
  exact k_retI X0 hx Bd.returns (hb hby d4_28) hlk (by decide) (by decide) ⟨N0, e0, by rw [hf]⟩
 ·
  refine k_iload X0 hx (hb hby d4_19) rfl (pc' := 21) rfl ?_
  refine k_iload X0 hx (hb hby d4_21) rfl (pc' := 23) rfl ?_
  refine k_iaddL X0 hx (hb hby d4_23) (pc' := 24) rfl (z := (3 : Int32)) (by decide) ?_
  refine k_istore X0 hx (hb hby d4_24) (Ls' := #[iv p1, iv p1, iv (3 : Int32), iv p2, iv (0 : Int32), iv (3 : Int32)]) rfl (pc' := 26) rfl ?_
  refine k_iload X0 hx (hb hby d4_26) rfl (pc' := 28) rfl ?_
  have hf : f4_2717 p1 p2 = (3 : Int32) := by simp only [f4_2717, if_pos hc2718]
  exact k_retI X0 hx Bd.returns (hb hby d4_28) hlk (by decide) (by decide) ⟨N0, e0, by rw [hf]⟩
abbrev R4_2900 : Room := { frames := 0, cells := 0, slots := 0, locals := 0 }
def f4_2900 (p1 : Int32) (p2 : Int32) (p3 : Int32) : Int32 := (if p1 = p2 then (if p1 = p3 then (4 : Int32) else (3 : Int32)) else (if p1 = p3 then (1 : Int32) else (0 : Int32)))

def Q4_2900 (Z : State) (p1 : Int32) (p2 : Int32) (p3 : Int32) (h0 : Heap) (n0 : Nat) (v : Option Value) (h : Heap) (L : List Loc) : Prop := Fr n0 L ∧ h = h0 ∧ v = some (.int (f4_2900 p1 p2 p3))
theorem ef4_2900 (m : MethodId) (x0 : Int32) (x1 : Int32) (x3 : Int32) : entryFrame m #[(.int x0), (.int x1), (.int (3 : Int32)), (.int x3), (.int (1 : Int32))] 6 = mkF m 0 #[.val (.int x0), .val (.int x1), .val (.int (3 : Int32)), .val (.int x3), .val (.int (1 : Int32)), .unset] [] := by first | (simp [entryFrame, mkF, argsToLocals, Value.category]; done) | rfl
set_option maxRecDepth 65536 in
set_option maxHeartbeats 40000000 in
theorem rm4_2900 (l : Launch) (Z : State) (a0 : Array Value) (hw : ∀ d ∈ tables_1, d.before a0 Z = true) (ws : List Jvm.Cond) (p1 : Int32) (p2 : Int32) (p3 : Int32) (h0 : Heap) (n0 : Nat) (Z0 : n0 ≤ h0.size)  :
    MetFree l (⟨"com/example/dendrotick/dendrotick/VectorClockGetPinLaw", "expected", "(IIIII)I"⟩ : MethodName) (head1 (Jvm.Cond.code (⟨"com/example/dendrotick/dendrotick/VectorClockGetPinLaw", "expected", "(IIIII)I"⟩ : MethodName) method_3_code 6 (some .int) :: ws) R4_2900) (fun a U => a = #[(.int p1), (.int p2), (.int (3 : Int32)), (.int p3), (.int (1 : Int32))] ∧ Z.Warmed39 U.vm ∧ U.heap = h0) (fun _ _ _ _ _ => True) (fun _ U o U' => ∃ v L, o = .returned v ∧ Q4_2900 Z p1 p2 p3 h0 n0 v U'.heap L ∧ FrameEnd U o U' L R4_2900.cells R4_2900.slots) := by
 refine MetFree.of_bodySF (plainFor_of_name pn_1) hisR ?_
 intro p e s m args below meth c s₁ Bd hml0 hP hK
 obtain ⟨rfl, hZ, hh⟩ := hP
 have hx := Bd.exec
 have hby := Bd.bytes
 have hml : c.maxLocals = 6 := hml0
 have hlk : meth.locks = false := Bd.notSynchronized
 have hown : s.vm.findClass "com/example/dendrotick/dendrotick/VectorClockGetPinLaw" = some m.cls := findClass_of_methodNamed Bd.named
 have hnm := (name_of_methodNamed Bd.named Bd.method).1
 have X0 : Stand p l e R4_2900 s m #[(.int p1), (.int p2), (.int (3 : Int32)), (.int p3), (.int (1 : Int32))] below meth c s₁ [] 0 0 := Stand.of_body Bd
 have e0 : s₁.heap = h0 := by rw [← hh, Bd.state]; rfl
 have N0 := Fr.nil n0
 rw [ef4_2900 m p1 p2 p3]
 show KEnds p e below s R4_2900.cells R4_2900.slots (Q4_2900 Z p1 p2 p3 h0 n0) s₁ (mkF m 0 #[iv p1, iv p2, iv (3 : Int32), iv p3, iv (1 : Int32), .unset] [])
 refine k_iconst X0 hx (hb hby d4_0) (pc' := 1) rfl (z := (0 : Int32)) rfl ?_
 refine k_istore X0 hx (hb hby d4_1) (Ls' := #[iv p1, iv p2, iv (3 : Int32), iv p3, iv (1 : Int32), iv (0 : Int32)]) rfl (pc' := 3) rfl ?_
 refine k_iloadN X0 hx (hb hby d4_3) rfl (pc' := 4) rfl ?_
 refine k_iloadN X0 hx (hb hby d4_4) rfl (pc' := 5) rfl ?_
 refine k_icmp_ne X0 hx (hb hby d4_5) (pn := 8) rfl (py := 14) (by decide) (fun hc2901 => ?_) (fun hc2901 => ?_)
 ·
  refine k_iloadN X0 hx (hb hby d4_14) rfl (pc' := 15) rfl ?_
  refine k_iloadN X0 hx (hb hby d4_15) rfl (pc' := 16) rfl ?_
  refine k_icmp_ne X0 hx (hb hby d4_16) (pn := 19) rfl (py := 26) (by decide) (fun hc2902 => ?_) (fun hc2902 => ?_)
  ·
   refine k_iload X0 hx (hb hby d4_26) rfl (pc' := 28) rfl ?_
   have hf : f4_2900 p1 p2 p3 = (0 : Int32) := by simp only [f4_2900, if_neg hc2901, if_neg hc2902]
   exact k_retI X0 hx Bd.returns (hb hby d4_28) hlk (by decide) (by decide) ⟨N0, e0, by rw [hf]⟩
  ·
   refine k_iload X0 hx (hb hby d4_19) rfl (pc' := 21) rfl ?_
   refine k_iload X0 hx (hb hby d4_21) rfl (pc' := 23) rfl ?_
   refine k_iaddL X0 hx (hb hby d4_23) (pc' := 24) rfl (z := (1 : Int32)) (by decide) ?_
   refine k_istore X0 hx (hb hby d4_24) (Ls' := #[iv p1, iv p2, iv (3 : Int32), iv p3, iv (1 : Int32), iv (1 : Int32)]) rfl (pc' := 26) rfl ?_
   refine k_iload X0 hx (hb hby d4_26) rfl (pc' := 28) rfl ?_
   have hf : f4_2900 p1 p2 p3 = (1 : Int32) := by simp only [f4_2900, if_neg hc2901, if_pos hc2902]
   exact k_retI X0 hx Bd.returns (hb hby d4_28) hlk (by decide) (by decide) ⟨N0, e0, by rw [hf]⟩
 ·
  refine k_iload X0 hx (hb hby d4_8) rfl (pc' := 10) rfl ?_
  refine k_iloadN X0 hx (hb hby d4_10) rfl (pc' := 11) rfl ?_
  refine k_iaddL X0 hx (hb hby d4_11) (pc' := 12) rfl (z := (3 : Int32)) (by decide) ?_
  refine k_istore X0 hx (hb hby d4_12) (Ls' := #[iv p1, iv p2, iv (3 : Int32), iv p3, iv (1 : Int32), iv (3 : Int32)]) rfl (pc' := 14) rfl ?_
  refine k_iloadN X0 hx (hb hby d4_14) rfl (pc' := 15) rfl ?_
  refine k_iloadN X0 hx (hb hby d4_15) rfl (pc' := 16) rfl ?_
  refine k_icmp_ne X0 hx (hb hby d4_16) (pn := 19) rfl (py := 26) (by decide) (fun hc2903 => ?_) (fun hc2903 => ?_)
  ·
   refine k_iload X0 hx (hb hby d4_26) rfl (pc' := 28) rfl ?_
   have hf : f4_2900 p1 p2 p3 = (3 : Int32) := by simp only [f4_2900, if_pos hc2901, if_neg hc2903]
   exact k_retI X0 hx Bd.returns (hb hby d4_28) hlk (by decide) (by decide) ⟨N0, e0, by rw [hf]⟩
  ·
   refine k_iload X0 hx (hb hby d4_19) rfl (pc' := 21) rfl ?_
   refine k_iload X0 hx (hb hby d4_21) rfl (pc' := 23) rfl ?_
   refine k_iaddL X0 hx (hb hby d4_23) (pc' := 24) rfl (z := (4 : Int32)) (by decide) ?_
   refine k_istore X0 hx (hb hby d4_24) (Ls' := #[iv p1, iv p2, iv (3 : Int32), iv p3, iv (1 : Int32), iv (4 : Int32)]) rfl (pc' := 26) rfl ?_
   refine k_iload X0 hx (hb hby d4_26) rfl (pc' := 28) rfl ?_
   have hf : f4_2900 p1 p2 p3 = (4 : Int32) := by simp only [f4_2900, if_pos hc2901, if_pos hc2903]
   exact k_retI X0 hx Bd.returns (hb hby d4_28) hlk (by decide) (by decide) ⟨N0, e0, by rw [hf]⟩
abbrev R4_2941 : Room := { frames := 0, cells := 0, slots := 0, locals := 0 }
def f4_2941 (p1 : Int32) (p2 : Int32) : Int32 := (if p1 = p2 then (4 : Int32) else (3 : Int32))

def Q4_2941 (Z : State) (p1 : Int32) (p2 : Int32) (h0 : Heap) (n0 : Nat) (v : Option Value) (h : Heap) (L : List Loc) : Prop := Fr n0 L ∧ h = h0 ∧ v = some (.int (f4_2941 p1 p2))
theorem ef4_2941 (m : MethodId) (x0 : Int32) (x1 : Int32) (x3 : Int32) : entryFrame m #[(.int x0), (.int x1), (.int (3 : Int32)), (.int x3), (.int (1 : Int32))] 6 = mkF m 0 #[.val (.int x0), .val (.int x1), .val (.int (3 : Int32)), .val (.int x3), .val (.int (1 : Int32)), .unset] [] := by first | (simp [entryFrame, mkF, argsToLocals, Value.category]; done) | rfl
set_option maxRecDepth 65536 in
set_option maxHeartbeats 40000000 in
theorem rm4_2941 (l : Launch) (Z : State) (a0 : Array Value) (hw : ∀ d ∈ tables_1, d.before a0 Z = true) (ws : List Jvm.Cond) (p1 : Int32) (p2 : Int32) (h0 : Heap) (n0 : Nat) (Z0 : n0 ≤ h0.size)  :
    MetFree l (⟨"com/example/dendrotick/dendrotick/VectorClockGetPinLaw", "expected", "(IIIII)I"⟩ : MethodName) (head1 (Jvm.Cond.code (⟨"com/example/dendrotick/dendrotick/VectorClockGetPinLaw", "expected", "(IIIII)I"⟩ : MethodName) method_3_code 6 (some .int) :: ws) R4_2941) (fun a U => a = #[(.int p1), (.int p1), (.int (3 : Int32)), (.int p2), (.int (1 : Int32))] ∧ Z.Warmed39 U.vm ∧ U.heap = h0) (fun _ _ _ _ _ => True) (fun _ U o U' => ∃ v L, o = .returned v ∧ Q4_2941 Z p1 p2 h0 n0 v U'.heap L ∧ FrameEnd U o U' L R4_2941.cells R4_2941.slots) := by
 refine MetFree.of_bodySF (plainFor_of_name pn_1) hisR ?_
 intro p e s m args below meth c s₁ Bd hml0 hP hK
 obtain ⟨rfl, hZ, hh⟩ := hP
 have hx := Bd.exec
 have hby := Bd.bytes
 have hml : c.maxLocals = 6 := hml0
 have hlk : meth.locks = false := Bd.notSynchronized
 have hown : s.vm.findClass "com/example/dendrotick/dendrotick/VectorClockGetPinLaw" = some m.cls := findClass_of_methodNamed Bd.named
 have hnm := (name_of_methodNamed Bd.named Bd.method).1
 have X0 : Stand p l e R4_2941 s m #[(.int p1), (.int p1), (.int (3 : Int32)), (.int p2), (.int (1 : Int32))] below meth c s₁ [] 0 0 := Stand.of_body Bd
 have e0 : s₁.heap = h0 := by rw [← hh, Bd.state]; rfl
 have N0 := Fr.nil n0
 rw [ef4_2941 m p1 p1 p2]
 show KEnds p e below s R4_2941.cells R4_2941.slots (Q4_2941 Z p1 p2 h0 n0) s₁ (mkF m 0 #[iv p1, iv p1, iv (3 : Int32), iv p2, iv (1 : Int32), .unset] [])
 refine k_iconst X0 hx (hb hby d4_0) (pc' := 1) rfl (z := (0 : Int32)) rfl ?_
 refine k_istore X0 hx (hb hby d4_1) (Ls' := #[iv p1, iv p1, iv (3 : Int32), iv p2, iv (1 : Int32), iv (0 : Int32)]) rfl (pc' := 3) rfl ?_
 refine k_iloadN X0 hx (hb hby d4_3) rfl (pc' := 4) rfl ?_
 refine k_iloadN X0 hx (hb hby d4_4) rfl (pc' := 5) rfl ?_
 refine k_icmp_ne X0 hx (hb hby d4_5) (pn := 8) rfl (py := 14) (by decide) (fun hc => absurd rfl hc) (fun _ => ?_)
 refine k_iload X0 hx (hb hby d4_8) rfl (pc' := 10) rfl ?_
 refine k_iloadN X0 hx (hb hby d4_10) rfl (pc' := 11) rfl ?_
 refine k_iaddL X0 hx (hb hby d4_11) (pc' := 12) rfl (z := (3 : Int32)) (by decide) ?_
 refine k_istore X0 hx (hb hby d4_12) (Ls' := #[iv p1, iv p1, iv (3 : Int32), iv p2, iv (1 : Int32), iv (3 : Int32)]) rfl (pc' := 14) rfl ?_
 refine k_iloadN X0 hx (hb hby d4_14) rfl (pc' := 15) rfl ?_
 refine k_iloadN X0 hx (hb hby d4_15) rfl (pc' := 16) rfl ?_
 refine k_icmp_ne X0 hx (hb hby d4_16) (pn := 19) rfl (py := 26) (by decide) (fun hc2942 => ?_) (fun hc2942 => ?_)
 ·
  refine k_iload X0 hx (hb hby d4_26) rfl (pc' := 28) rfl ?_
  have hf : f4_2941 p1 p2 = (3 : Int32) := by simp only [f4_2941, if_neg hc2942]
  exact k_retI X0 hx Bd.returns (hb hby d4_28) hlk (by decide) (by decide) ⟨N0, e0, by rw [hf]⟩
 ·
  refine k_iload X0 hx (hb hby d4_19) rfl (pc' := 21) rfl ?_
  refine k_iload X0 hx (hb hby d4_21) rfl (pc' := 23) rfl ?_
  refine k_iaddL X0 hx (hb hby d4_23) (pc' := 24) rfl (z := (4 : Int32)) (by decide) ?_
  refine k_istore X0 hx (hb hby d4_24) (Ls' := #[iv p1, iv p1, iv (3 : Int32), iv p2, iv (1 : Int32), iv (4 : Int32)]) rfl (pc' := 26) rfl ?_
  refine k_iload X0 hx (hb hby d4_26) rfl (pc' := 28) rfl ?_
  have hf : f4_2941 p1 p2 = (4 : Int32) := by simp only [f4_2941, if_pos hc2942]
  exact k_retI X0 hx Bd.returns (hb hby d4_28) hlk (by decide) (by decide) ⟨N0, e0, by rw [hf]⟩
abbrev R4_3120 : Room := { frames := 0, cells := 0, slots := 0, locals := 0 }
def f4_3120 (p1 : Int32) (p2 : Int32) (p3 : Int32) : Int32 := (if p1 = p2 then (if p1 = p3 then (5 : Int32) else (3 : Int32)) else (if p1 = p3 then (2 : Int32) else (0 : Int32)))

def Q4_3120 (Z : State) (p1 : Int32) (p2 : Int32) (p3 : Int32) (h0 : Heap) (n0 : Nat) (v : Option Value) (h : Heap) (L : List Loc) : Prop := Fr n0 L ∧ h = h0 ∧ v = some (.int (f4_3120 p1 p2 p3))
theorem ef4_3120 (m : MethodId) (x0 : Int32) (x1 : Int32) (x3 : Int32) : entryFrame m #[(.int x0), (.int x1), (.int (3 : Int32)), (.int x3), (.int (2 : Int32))] 6 = mkF m 0 #[.val (.int x0), .val (.int x1), .val (.int (3 : Int32)), .val (.int x3), .val (.int (2 : Int32)), .unset] [] := by first | (simp [entryFrame, mkF, argsToLocals, Value.category]; done) | rfl
set_option maxRecDepth 65536 in
set_option maxHeartbeats 40000000 in
theorem rm4_3120 (l : Launch) (Z : State) (a0 : Array Value) (hw : ∀ d ∈ tables_1, d.before a0 Z = true) (ws : List Jvm.Cond) (p1 : Int32) (p2 : Int32) (p3 : Int32) (h0 : Heap) (n0 : Nat) (Z0 : n0 ≤ h0.size)  :
    MetFree l (⟨"com/example/dendrotick/dendrotick/VectorClockGetPinLaw", "expected", "(IIIII)I"⟩ : MethodName) (head1 (Jvm.Cond.code (⟨"com/example/dendrotick/dendrotick/VectorClockGetPinLaw", "expected", "(IIIII)I"⟩ : MethodName) method_3_code 6 (some .int) :: ws) R4_3120) (fun a U => a = #[(.int p1), (.int p2), (.int (3 : Int32)), (.int p3), (.int (2 : Int32))] ∧ Z.Warmed39 U.vm ∧ U.heap = h0) (fun _ _ _ _ _ => True) (fun _ U o U' => ∃ v L, o = .returned v ∧ Q4_3120 Z p1 p2 p3 h0 n0 v U'.heap L ∧ FrameEnd U o U' L R4_3120.cells R4_3120.slots) := by
 refine MetFree.of_bodySF (plainFor_of_name pn_1) hisR ?_
 intro p e s m args below meth c s₁ Bd hml0 hP hK
 obtain ⟨rfl, hZ, hh⟩ := hP
 have hx := Bd.exec
 have hby := Bd.bytes
 have hml : c.maxLocals = 6 := hml0
 have hlk : meth.locks = false := Bd.notSynchronized
 have hown : s.vm.findClass "com/example/dendrotick/dendrotick/VectorClockGetPinLaw" = some m.cls := findClass_of_methodNamed Bd.named
 have hnm := (name_of_methodNamed Bd.named Bd.method).1
 have X0 : Stand p l e R4_3120 s m #[(.int p1), (.int p2), (.int (3 : Int32)), (.int p3), (.int (2 : Int32))] below meth c s₁ [] 0 0 := Stand.of_body Bd
 have e0 : s₁.heap = h0 := by rw [← hh, Bd.state]; rfl
 have N0 := Fr.nil n0
 rw [ef4_3120 m p1 p2 p3]
 show KEnds p e below s R4_3120.cells R4_3120.slots (Q4_3120 Z p1 p2 p3 h0 n0) s₁ (mkF m 0 #[iv p1, iv p2, iv (3 : Int32), iv p3, iv (2 : Int32), .unset] [])
 refine k_iconst X0 hx (hb hby d4_0) (pc' := 1) rfl (z := (0 : Int32)) rfl ?_
 refine k_istore X0 hx (hb hby d4_1) (Ls' := #[iv p1, iv p2, iv (3 : Int32), iv p3, iv (2 : Int32), iv (0 : Int32)]) rfl (pc' := 3) rfl ?_
 refine k_iloadN X0 hx (hb hby d4_3) rfl (pc' := 4) rfl ?_
 refine k_iloadN X0 hx (hb hby d4_4) rfl (pc' := 5) rfl ?_
 refine k_icmp_ne X0 hx (hb hby d4_5) (pn := 8) rfl (py := 14) (by decide) (fun hc3121 => ?_) (fun hc3121 => ?_)
 ·
  refine k_iloadN X0 hx (hb hby d4_14) rfl (pc' := 15) rfl ?_
  refine k_iloadN X0 hx (hb hby d4_15) rfl (pc' := 16) rfl ?_
  refine k_icmp_ne X0 hx (hb hby d4_16) (pn := 19) rfl (py := 26) (by decide) (fun hc3122 => ?_) (fun hc3122 => ?_)
  ·
   refine k_iload X0 hx (hb hby d4_26) rfl (pc' := 28) rfl ?_
   have hf : f4_3120 p1 p2 p3 = (0 : Int32) := by simp only [f4_3120, if_neg hc3121, if_neg hc3122]
   exact k_retI X0 hx Bd.returns (hb hby d4_28) hlk (by decide) (by decide) ⟨N0, e0, by rw [hf]⟩
  ·
   refine k_iload X0 hx (hb hby d4_19) rfl (pc' := 21) rfl ?_
   refine k_iload X0 hx (hb hby d4_21) rfl (pc' := 23) rfl ?_
   refine k_iaddL X0 hx (hb hby d4_23) (pc' := 24) rfl (z := (2 : Int32)) (by decide) ?_
   refine k_istore X0 hx (hb hby d4_24) (Ls' := #[iv p1, iv p2, iv (3 : Int32), iv p3, iv (2 : Int32), iv (2 : Int32)]) rfl (pc' := 26) rfl ?_
   refine k_iload X0 hx (hb hby d4_26) rfl (pc' := 28) rfl ?_
   have hf : f4_3120 p1 p2 p3 = (2 : Int32) := by simp only [f4_3120, if_neg hc3121, if_pos hc3122]
   exact k_retI X0 hx Bd.returns (hb hby d4_28) hlk (by decide) (by decide) ⟨N0, e0, by rw [hf]⟩
 ·
  refine k_iload X0 hx (hb hby d4_8) rfl (pc' := 10) rfl ?_
  refine k_iloadN X0 hx (hb hby d4_10) rfl (pc' := 11) rfl ?_
  refine k_iaddL X0 hx (hb hby d4_11) (pc' := 12) rfl (z := (3 : Int32)) (by decide) ?_
  refine k_istore X0 hx (hb hby d4_12) (Ls' := #[iv p1, iv p2, iv (3 : Int32), iv p3, iv (2 : Int32), iv (3 : Int32)]) rfl (pc' := 14) rfl ?_
  refine k_iloadN X0 hx (hb hby d4_14) rfl (pc' := 15) rfl ?_
  refine k_iloadN X0 hx (hb hby d4_15) rfl (pc' := 16) rfl ?_
  refine k_icmp_ne X0 hx (hb hby d4_16) (pn := 19) rfl (py := 26) (by decide) (fun hc3123 => ?_) (fun hc3123 => ?_)
  ·
   refine k_iload X0 hx (hb hby d4_26) rfl (pc' := 28) rfl ?_
   have hf : f4_3120 p1 p2 p3 = (3 : Int32) := by simp only [f4_3120, if_pos hc3121, if_neg hc3123]
   exact k_retI X0 hx Bd.returns (hb hby d4_28) hlk (by decide) (by decide) ⟨N0, e0, by rw [hf]⟩
  ·
   refine k_iload X0 hx (hb hby d4_19) rfl (pc' := 21) rfl ?_
   refine k_iload X0 hx (hb hby d4_21) rfl (pc' := 23) rfl ?_
   refine k_iaddL X0 hx (hb hby d4_23) (pc' := 24) rfl (z := (5 : Int32)) (by decide) ?_
   refine k_istore X0 hx (hb hby d4_24) (Ls' := #[iv p1, iv p2, iv (3 : Int32), iv p3, iv (2 : Int32), iv (5 : Int32)]) rfl (pc' := 26) rfl ?_
   refine k_iload X0 hx (hb hby d4_26) rfl (pc' := 28) rfl ?_
   have hf : f4_3120 p1 p2 p3 = (5 : Int32) := by simp only [f4_3120, if_pos hc3121, if_pos hc3123]
   exact k_retI X0 hx Bd.returns (hb hby d4_28) hlk (by decide) (by decide) ⟨N0, e0, by rw [hf]⟩
abbrev R4_3164 : Room := { frames := 0, cells := 0, slots := 0, locals := 0 }
def f4_3164 (p1 : Int32) (p2 : Int32) : Int32 := (if p1 = p2 then (5 : Int32) else (3 : Int32))

def Q4_3164 (Z : State) (p1 : Int32) (p2 : Int32) (h0 : Heap) (n0 : Nat) (v : Option Value) (h : Heap) (L : List Loc) : Prop := Fr n0 L ∧ h = h0 ∧ v = some (.int (f4_3164 p1 p2))
theorem ef4_3164 (m : MethodId) (x0 : Int32) (x1 : Int32) (x3 : Int32) : entryFrame m #[(.int x0), (.int x1), (.int (3 : Int32)), (.int x3), (.int (2 : Int32))] 6 = mkF m 0 #[.val (.int x0), .val (.int x1), .val (.int (3 : Int32)), .val (.int x3), .val (.int (2 : Int32)), .unset] [] := by first | (simp [entryFrame, mkF, argsToLocals, Value.category]; done) | rfl
set_option maxRecDepth 65536 in
set_option maxHeartbeats 40000000 in
theorem rm4_3164 (l : Launch) (Z : State) (a0 : Array Value) (hw : ∀ d ∈ tables_1, d.before a0 Z = true) (ws : List Jvm.Cond) (p1 : Int32) (p2 : Int32) (h0 : Heap) (n0 : Nat) (Z0 : n0 ≤ h0.size)  :
    MetFree l (⟨"com/example/dendrotick/dendrotick/VectorClockGetPinLaw", "expected", "(IIIII)I"⟩ : MethodName) (head1 (Jvm.Cond.code (⟨"com/example/dendrotick/dendrotick/VectorClockGetPinLaw", "expected", "(IIIII)I"⟩ : MethodName) method_3_code 6 (some .int) :: ws) R4_3164) (fun a U => a = #[(.int p1), (.int p1), (.int (3 : Int32)), (.int p2), (.int (2 : Int32))] ∧ Z.Warmed39 U.vm ∧ U.heap = h0) (fun _ _ _ _ _ => True) (fun _ U o U' => ∃ v L, o = .returned v ∧ Q4_3164 Z p1 p2 h0 n0 v U'.heap L ∧ FrameEnd U o U' L R4_3164.cells R4_3164.slots) := by
 refine MetFree.of_bodySF (plainFor_of_name pn_1) hisR ?_
 intro p e s m args below meth c s₁ Bd hml0 hP hK
 obtain ⟨rfl, hZ, hh⟩ := hP
 have hx := Bd.exec
 have hby := Bd.bytes
 have hml : c.maxLocals = 6 := hml0
 have hlk : meth.locks = false := Bd.notSynchronized
 have hown : s.vm.findClass "com/example/dendrotick/dendrotick/VectorClockGetPinLaw" = some m.cls := findClass_of_methodNamed Bd.named
 have hnm := (name_of_methodNamed Bd.named Bd.method).1
 have X0 : Stand p l e R4_3164 s m #[(.int p1), (.int p1), (.int (3 : Int32)), (.int p2), (.int (2 : Int32))] below meth c s₁ [] 0 0 := Stand.of_body Bd
 have e0 : s₁.heap = h0 := by rw [← hh, Bd.state]; rfl
 have N0 := Fr.nil n0
 rw [ef4_3164 m p1 p1 p2]
 show KEnds p e below s R4_3164.cells R4_3164.slots (Q4_3164 Z p1 p2 h0 n0) s₁ (mkF m 0 #[iv p1, iv p1, iv (3 : Int32), iv p2, iv (2 : Int32), .unset] [])
 refine k_iconst X0 hx (hb hby d4_0) (pc' := 1) rfl (z := (0 : Int32)) rfl ?_
 refine k_istore X0 hx (hb hby d4_1) (Ls' := #[iv p1, iv p1, iv (3 : Int32), iv p2, iv (2 : Int32), iv (0 : Int32)]) rfl (pc' := 3) rfl ?_
 refine k_iloadN X0 hx (hb hby d4_3) rfl (pc' := 4) rfl ?_
 refine k_iloadN X0 hx (hb hby d4_4) rfl (pc' := 5) rfl ?_
 refine k_icmp_ne X0 hx (hb hby d4_5) (pn := 8) rfl (py := 14) (by decide) (fun hc => absurd rfl hc) (fun _ => ?_)
 refine k_iload X0 hx (hb hby d4_8) rfl (pc' := 10) rfl ?_
 refine k_iloadN X0 hx (hb hby d4_10) rfl (pc' := 11) rfl ?_
 refine k_iaddL X0 hx (hb hby d4_11) (pc' := 12) rfl (z := (3 : Int32)) (by decide) ?_
 refine k_istore X0 hx (hb hby d4_12) (Ls' := #[iv p1, iv p1, iv (3 : Int32), iv p2, iv (2 : Int32), iv (3 : Int32)]) rfl (pc' := 14) rfl ?_
 refine k_iloadN X0 hx (hb hby d4_14) rfl (pc' := 15) rfl ?_
 refine k_iloadN X0 hx (hb hby d4_15) rfl (pc' := 16) rfl ?_
 refine k_icmp_ne X0 hx (hb hby d4_16) (pn := 19) rfl (py := 26) (by decide) (fun hc3165 => ?_) (fun hc3165 => ?_)
 ·
  refine k_iload X0 hx (hb hby d4_26) rfl (pc' := 28) rfl ?_
  have hf : f4_3164 p1 p2 = (3 : Int32) := by simp only [f4_3164, if_neg hc3165]
  exact k_retI X0 hx Bd.returns (hb hby d4_28) hlk (by decide) (by decide) ⟨N0, e0, by rw [hf]⟩
 ·
  refine k_iload X0 hx (hb hby d4_19) rfl (pc' := 21) rfl ?_
  refine k_iload X0 hx (hb hby d4_21) rfl (pc' := 23) rfl ?_
  refine k_iaddL X0 hx (hb hby d4_23) (pc' := 24) rfl (z := (5 : Int32)) (by decide) ?_
  refine k_istore X0 hx (hb hby d4_24) (Ls' := #[iv p1, iv p1, iv (3 : Int32), iv p2, iv (2 : Int32), iv (5 : Int32)]) rfl (pc' := 26) rfl ?_
  refine k_iload X0 hx (hb hby d4_26) rfl (pc' := 28) rfl ?_
  have hf : f4_3164 p1 p2 = (5 : Int32) := by simp only [f4_3164, if_pos hc3165]
  exact k_retI X0 hx Bd.returns (hb hby d4_28) hlk (by decide) (by decide) ⟨N0, e0, by rw [hf]⟩
abbrev R4_3362 : Room := { frames := 0, cells := 0, slots := 0, locals := 0 }
def f4_3362 (p1 : Int32) (p2 : Int32) (p3 : Int32) : Int32 := (if p1 = p2 then (if p1 = p3 then (6 : Int32) else (3 : Int32)) else (if p1 = p3 then (3 : Int32) else (0 : Int32)))

def Q4_3362 (Z : State) (p1 : Int32) (p2 : Int32) (p3 : Int32) (h0 : Heap) (n0 : Nat) (v : Option Value) (h : Heap) (L : List Loc) : Prop := Fr n0 L ∧ h = h0 ∧ v = some (.int (f4_3362 p1 p2 p3))
theorem ef4_3362 (m : MethodId) (x0 : Int32) (x1 : Int32) (x3 : Int32) : entryFrame m #[(.int x0), (.int x1), (.int (3 : Int32)), (.int x3), (.int (3 : Int32))] 6 = mkF m 0 #[.val (.int x0), .val (.int x1), .val (.int (3 : Int32)), .val (.int x3), .val (.int (3 : Int32)), .unset] [] := by first | (simp [entryFrame, mkF, argsToLocals, Value.category]; done) | rfl
set_option maxRecDepth 65536 in
set_option maxHeartbeats 40000000 in
theorem rm4_3362 (l : Launch) (Z : State) (a0 : Array Value) (hw : ∀ d ∈ tables_1, d.before a0 Z = true) (ws : List Jvm.Cond) (p1 : Int32) (p2 : Int32) (p3 : Int32) (h0 : Heap) (n0 : Nat) (Z0 : n0 ≤ h0.size)  :
    MetFree l (⟨"com/example/dendrotick/dendrotick/VectorClockGetPinLaw", "expected", "(IIIII)I"⟩ : MethodName) (head1 (Jvm.Cond.code (⟨"com/example/dendrotick/dendrotick/VectorClockGetPinLaw", "expected", "(IIIII)I"⟩ : MethodName) method_3_code 6 (some .int) :: ws) R4_3362) (fun a U => a = #[(.int p1), (.int p2), (.int (3 : Int32)), (.int p3), (.int (3 : Int32))] ∧ Z.Warmed39 U.vm ∧ U.heap = h0) (fun _ _ _ _ _ => True) (fun _ U o U' => ∃ v L, o = .returned v ∧ Q4_3362 Z p1 p2 p3 h0 n0 v U'.heap L ∧ FrameEnd U o U' L R4_3362.cells R4_3362.slots) := by
 refine MetFree.of_bodySF (plainFor_of_name pn_1) hisR ?_
 intro p e s m args below meth c s₁ Bd hml0 hP hK
 obtain ⟨rfl, hZ, hh⟩ := hP
 have hx := Bd.exec
 have hby := Bd.bytes
 have hml : c.maxLocals = 6 := hml0
 have hlk : meth.locks = false := Bd.notSynchronized
 have hown : s.vm.findClass "com/example/dendrotick/dendrotick/VectorClockGetPinLaw" = some m.cls := findClass_of_methodNamed Bd.named
 have hnm := (name_of_methodNamed Bd.named Bd.method).1
 have X0 : Stand p l e R4_3362 s m #[(.int p1), (.int p2), (.int (3 : Int32)), (.int p3), (.int (3 : Int32))] below meth c s₁ [] 0 0 := Stand.of_body Bd
 have e0 : s₁.heap = h0 := by rw [← hh, Bd.state]; rfl
 have N0 := Fr.nil n0
 rw [ef4_3362 m p1 p2 p3]
 show KEnds p e below s R4_3362.cells R4_3362.slots (Q4_3362 Z p1 p2 p3 h0 n0) s₁ (mkF m 0 #[iv p1, iv p2, iv (3 : Int32), iv p3, iv (3 : Int32), .unset] [])
 refine k_iconst X0 hx (hb hby d4_0) (pc' := 1) rfl (z := (0 : Int32)) rfl ?_
 refine k_istore X0 hx (hb hby d4_1) (Ls' := #[iv p1, iv p2, iv (3 : Int32), iv p3, iv (3 : Int32), iv (0 : Int32)]) rfl (pc' := 3) rfl ?_
 refine k_iloadN X0 hx (hb hby d4_3) rfl (pc' := 4) rfl ?_
 refine k_iloadN X0 hx (hb hby d4_4) rfl (pc' := 5) rfl ?_
 refine k_icmp_ne X0 hx (hb hby d4_5) (pn := 8) rfl (py := 14) (by decide) (fun hc3363 => ?_) (fun hc3363 => ?_)
 ·
  refine k_iloadN X0 hx (hb hby d4_14) rfl (pc' := 15) rfl ?_
  refine k_iloadN X0 hx (hb hby d4_15) rfl (pc' := 16) rfl ?_
  refine k_icmp_ne X0 hx (hb hby d4_16) (pn := 19) rfl (py := 26) (by decide) (fun hc3364 => ?_) (fun hc3364 => ?_)
  ·
   refine k_iload X0 hx (hb hby d4_26) rfl (pc' := 28) rfl ?_
   have hf : f4_3362 p1 p2 p3 = (0 : Int32) := by simp only [f4_3362, if_neg hc3363, if_neg hc3364]
   exact k_retI X0 hx Bd.returns (hb hby d4_28) hlk (by decide) (by decide) ⟨N0, e0, by rw [hf]⟩
  ·
   refine k_iload X0 hx (hb hby d4_19) rfl (pc' := 21) rfl ?_
   refine k_iload X0 hx (hb hby d4_21) rfl (pc' := 23) rfl ?_
   refine k_iaddL X0 hx (hb hby d4_23) (pc' := 24) rfl (z := (3 : Int32)) (by decide) ?_
   refine k_istore X0 hx (hb hby d4_24) (Ls' := #[iv p1, iv p2, iv (3 : Int32), iv p3, iv (3 : Int32), iv (3 : Int32)]) rfl (pc' := 26) rfl ?_
   refine k_iload X0 hx (hb hby d4_26) rfl (pc' := 28) rfl ?_
   have hf : f4_3362 p1 p2 p3 = (3 : Int32) := by simp only [f4_3362, if_neg hc3363, if_pos hc3364]
   exact k_retI X0 hx Bd.returns (hb hby d4_28) hlk (by decide) (by decide) ⟨N0, e0, by rw [hf]⟩
 ·
  refine k_iload X0 hx (hb hby d4_8) rfl (pc' := 10) rfl ?_
  refine k_iloadN X0 hx (hb hby d4_10) rfl (pc' := 11) rfl ?_
  refine k_iaddL X0 hx (hb hby d4_11) (pc' := 12) rfl (z := (3 : Int32)) (by decide) ?_
  refine k_istore X0 hx (hb hby d4_12) (Ls' := #[iv p1, iv p2, iv (3 : Int32), iv p3, iv (3 : Int32), iv (3 : Int32)]) rfl (pc' := 14) rfl ?_
  refine k_iloadN X0 hx (hb hby d4_14) rfl (pc' := 15) rfl ?_
  refine k_iloadN X0 hx (hb hby d4_15) rfl (pc' := 16) rfl ?_
  refine k_icmp_ne X0 hx (hb hby d4_16) (pn := 19) rfl (py := 26) (by decide) (fun hc3365 => ?_) (fun hc3365 => ?_)
  ·
   refine k_iload X0 hx (hb hby d4_26) rfl (pc' := 28) rfl ?_
   have hf : f4_3362 p1 p2 p3 = (3 : Int32) := by simp only [f4_3362, if_pos hc3363, if_neg hc3365]
   exact k_retI X0 hx Bd.returns (hb hby d4_28) hlk (by decide) (by decide) ⟨N0, e0, by rw [hf]⟩
  ·
   refine k_iload X0 hx (hb hby d4_19) rfl (pc' := 21) rfl ?_
   refine k_iload X0 hx (hb hby d4_21) rfl (pc' := 23) rfl ?_
   refine k_iaddL X0 hx (hb hby d4_23) (pc' := 24) rfl (z := (6 : Int32)) (by decide) ?_
   refine k_istore X0 hx (hb hby d4_24) (Ls' := #[iv p1, iv p2, iv (3 : Int32), iv p3, iv (3 : Int32), iv (6 : Int32)]) rfl (pc' := 26) rfl ?_
   refine k_iload X0 hx (hb hby d4_26) rfl (pc' := 28) rfl ?_
   have hf : f4_3362 p1 p2 p3 = (6 : Int32) := by simp only [f4_3362, if_pos hc3363, if_pos hc3365]
   exact k_retI X0 hx Bd.returns (hb hby d4_28) hlk (by decide) (by decide) ⟨N0, e0, by rw [hf]⟩
abbrev R4_3409 : Room := { frames := 0, cells := 0, slots := 0, locals := 0 }
def f4_3409 (p1 : Int32) (p2 : Int32) : Int32 := (if p1 = p2 then (6 : Int32) else (3 : Int32))

def Q4_3409 (Z : State) (p1 : Int32) (p2 : Int32) (h0 : Heap) (n0 : Nat) (v : Option Value) (h : Heap) (L : List Loc) : Prop := Fr n0 L ∧ h = h0 ∧ v = some (.int (f4_3409 p1 p2))
theorem ef4_3409 (m : MethodId) (x0 : Int32) (x1 : Int32) (x3 : Int32) : entryFrame m #[(.int x0), (.int x1), (.int (3 : Int32)), (.int x3), (.int (3 : Int32))] 6 = mkF m 0 #[.val (.int x0), .val (.int x1), .val (.int (3 : Int32)), .val (.int x3), .val (.int (3 : Int32)), .unset] [] := by first | (simp [entryFrame, mkF, argsToLocals, Value.category]; done) | rfl
set_option maxRecDepth 65536 in
set_option maxHeartbeats 40000000 in
theorem rm4_3409 (l : Launch) (Z : State) (a0 : Array Value) (hw : ∀ d ∈ tables_1, d.before a0 Z = true) (ws : List Jvm.Cond) (p1 : Int32) (p2 : Int32) (h0 : Heap) (n0 : Nat) (Z0 : n0 ≤ h0.size)  :
    MetFree l (⟨"com/example/dendrotick/dendrotick/VectorClockGetPinLaw", "expected", "(IIIII)I"⟩ : MethodName) (head1 (Jvm.Cond.code (⟨"com/example/dendrotick/dendrotick/VectorClockGetPinLaw", "expected", "(IIIII)I"⟩ : MethodName) method_3_code 6 (some .int) :: ws) R4_3409) (fun a U => a = #[(.int p1), (.int p1), (.int (3 : Int32)), (.int p2), (.int (3 : Int32))] ∧ Z.Warmed39 U.vm ∧ U.heap = h0) (fun _ _ _ _ _ => True) (fun _ U o U' => ∃ v L, o = .returned v ∧ Q4_3409 Z p1 p2 h0 n0 v U'.heap L ∧ FrameEnd U o U' L R4_3409.cells R4_3409.slots) := by
 refine MetFree.of_bodySF (plainFor_of_name pn_1) hisR ?_
 intro p e s m args below meth c s₁ Bd hml0 hP hK
 obtain ⟨rfl, hZ, hh⟩ := hP
 have hx := Bd.exec
 have hby := Bd.bytes
 have hml : c.maxLocals = 6 := hml0
 have hlk : meth.locks = false := Bd.notSynchronized
 have hown : s.vm.findClass "com/example/dendrotick/dendrotick/VectorClockGetPinLaw" = some m.cls := findClass_of_methodNamed Bd.named
 have hnm := (name_of_methodNamed Bd.named Bd.method).1
 have X0 : Stand p l e R4_3409 s m #[(.int p1), (.int p1), (.int (3 : Int32)), (.int p2), (.int (3 : Int32))] below meth c s₁ [] 0 0 := Stand.of_body Bd
 have e0 : s₁.heap = h0 := by rw [← hh, Bd.state]; rfl
 have N0 := Fr.nil n0
 rw [ef4_3409 m p1 p1 p2]
 show KEnds p e below s R4_3409.cells R4_3409.slots (Q4_3409 Z p1 p2 h0 n0) s₁ (mkF m 0 #[iv p1, iv p1, iv (3 : Int32), iv p2, iv (3 : Int32), .unset] [])
 refine k_iconst X0 hx (hb hby d4_0) (pc' := 1) rfl (z := (0 : Int32)) rfl ?_
 refine k_istore X0 hx (hb hby d4_1) (Ls' := #[iv p1, iv p1, iv (3 : Int32), iv p2, iv (3 : Int32), iv (0 : Int32)]) rfl (pc' := 3) rfl ?_
 refine k_iloadN X0 hx (hb hby d4_3) rfl (pc' := 4) rfl ?_
 refine k_iloadN X0 hx (hb hby d4_4) rfl (pc' := 5) rfl ?_
 refine k_icmp_ne X0 hx (hb hby d4_5) (pn := 8) rfl (py := 14) (by decide) (fun hc => absurd rfl hc) (fun _ => ?_)
 refine k_iload X0 hx (hb hby d4_8) rfl (pc' := 10) rfl ?_
 refine k_iloadN X0 hx (hb hby d4_10) rfl (pc' := 11) rfl ?_
 refine k_iaddL X0 hx (hb hby d4_11) (pc' := 12) rfl (z := (3 : Int32)) (by decide) ?_
 refine k_istore X0 hx (hb hby d4_12) (Ls' := #[iv p1, iv p1, iv (3 : Int32), iv p2, iv (3 : Int32), iv (3 : Int32)]) rfl (pc' := 14) rfl ?_
 refine k_iloadN X0 hx (hb hby d4_14) rfl (pc' := 15) rfl ?_
 refine k_iloadN X0 hx (hb hby d4_15) rfl (pc' := 16) rfl ?_
 refine k_icmp_ne X0 hx (hb hby d4_16) (pn := 19) rfl (py := 26) (by decide) (fun hc3410 => ?_) (fun hc3410 => ?_)
 ·
  refine k_iload X0 hx (hb hby d4_26) rfl (pc' := 28) rfl ?_
  have hf : f4_3409 p1 p2 = (3 : Int32) := by simp only [f4_3409, if_neg hc3410]
  exact k_retI X0 hx Bd.returns (hb hby d4_28) hlk (by decide) (by decide) ⟨N0, e0, by rw [hf]⟩
 ·
  refine k_iload X0 hx (hb hby d4_19) rfl (pc' := 21) rfl ?_
  refine k_iload X0 hx (hb hby d4_21) rfl (pc' := 23) rfl ?_
  refine k_iaddL X0 hx (hb hby d4_23) (pc' := 24) rfl (z := (6 : Int32)) (by decide) ?_
  refine k_istore X0 hx (hb hby d4_24) (Ls' := #[iv p1, iv p1, iv (3 : Int32), iv p2, iv (3 : Int32), iv (6 : Int32)]) rfl (pc' := 26) rfl ?_
  refine k_iload X0 hx (hb hby d4_26) rfl (pc' := 28) rfl ?_
  have hf : f4_3409 p1 p2 = (6 : Int32) := by simp only [f4_3409, if_pos hc3410]
  exact k_retI X0 hx Bd.returns (hb hby d4_28) hlk (by decide) (by decide) ⟨N0, e0, by rw [hf]⟩
theorem ef0 (m : MethodId) (x0 : Int32) (x1 : Int32) (x2 : Int32) (x3 : Int32) : entryFrame m #[(.int x0), (.int x1), (.int x2), (.int x3)] maxLocals = mkF m 0 #[.val (.int x0), .val (.int x1), .val (.int x2), .val (.int x3), .unset, .unset, .unset, .unset, .unset, .unset, .unset, .unset, .unset, .unset] [] := by first | (simp [entryFrame, mkF, argsToLocals, Value.category, maxLocals]; done) | rfl
theorem own_nat {q t : Int32} (hq : ¬ q < 0) (ht : ¬ t < 0) : (q.toNatClampNeg = t.toNatClampNeg) = (q = t) := propext ⟨fun h => by
  have h1 := nat_of hq; have h2 := nat_of ht
  exact Int32.toInt_inj.mp (by omega), fun h => by rw [h]⟩
theorem own_fin_0 (v21 : Int32) (v1 : Int32) (v11 : Int32) (hq : ¬ v21 < 0) (h1 : ¬ v1 < 0) (h2 : ¬ v11 < 0) : (fun _ => 0) v21.toNatClampNeg = f4_61 v21 v1 v11 := by
  simp only [updF, own_nat hq h1, own_nat hq h2, own_nat h1 h2, own_nat h2 h1, own_nat h1 hq, own_nat h2 hq, own_nat h1 h1, own_nat h2 h2, f4_61]
  by_cases e1 : v21 = v1
  · subst e1
    by_cases e2 : v21 = v11
    · subst e2; simp
    · have e3 : ¬ v11 = v21 := fun h => e2 h.symm
      simp [e2, e3]
  · have e4 : ¬ v1 = v21 := fun h => e1 h.symm
    by_cases e2 : v21 = v11
    · subst e2; simp [e1, e4]
    · simp [e1, e2]
theorem own_fin_1 (v22 : Int32) (v1 : Int32) (v11 : Int32) (hq : ¬ v22 < 0) (h1 : ¬ v1 < 0) (h2 : ¬ v11 < 0) : (fun _ => 0) v22.toNatClampNeg = f4_61 v22 v1 v11 := by
  simp only [updF, own_nat hq h1, own_nat hq h2, own_nat h1 h2, own_nat h2 h1, own_nat h1 hq, own_nat h2 hq, own_nat h1 h1, own_nat h2 h2, f4_61]
  by_cases e1 : v22 = v1
  · subst e1
    by_cases e2 : v22 = v11
    · subst e2; simp
    · have e3 : ¬ v11 = v22 := fun h => e2 h.symm
      simp [e2, e3]
  · have e4 : ¬ v1 = v22 := fun h => e1 h.symm
    by_cases e2 : v22 = v11
    · subst e2; simp [e1, e4]
    · simp [e1, e2]
theorem own_fin_2 (v1 : Int32) (v11 : Int32) (hq : ¬ v1 < 0) (h1 : ¬ v1 < 0) (h2 : ¬ v11 < 0) : (fun _ => 0) v1.toNatClampNeg = f4_134 v1 v11 := by
  simp only [updF, own_nat hq h1, own_nat hq h2, own_nat h1 h2, own_nat h2 h1, own_nat h1 hq, own_nat h2 hq, own_nat h1 h1, own_nat h2 h2, f4_134]
  by_cases e2 : v1 = v11
  · subst e2; simp
  · have e3 : ¬ v11 = v1 := fun h => e2 h.symm
    simp [e2, e3]
theorem own_fin_3 (v153 : Int32) (v1 : Int32) (v11 : Int32) (hq : ¬ v153 < 0) (h1 : ¬ v1 < 0) (h2 : ¬ v11 < 0) : (updF (fun _ => 0) v11.toNatClampNeg ((fun _ => 0) v11.toNatClampNeg + 1)) v153.toNatClampNeg = f4_653 v153 v1 v11 := by
  simp only [updF, own_nat hq h1, own_nat hq h2, own_nat h1 h2, own_nat h2 h1, own_nat h1 hq, own_nat h2 hq, own_nat h1 h1, own_nat h2 h2, f4_653]
  by_cases e1 : v153 = v1
  · subst e1
    by_cases e2 : v153 = v11
    · subst e2; simp
    · have e3 : ¬ v11 = v153 := fun h => e2 h.symm
      simp [e2, e3]
  · have e4 : ¬ v1 = v153 := fun h => e1 h.symm
    by_cases e2 : v153 = v11
    · subst e2; simp [e1, e4]
    · simp [e1, e2]
theorem own_fin_4 (v154 : Int32) (v1 : Int32) (v11 : Int32) (hq : ¬ v154 < 0) (h1 : ¬ v1 < 0) (h2 : ¬ v11 < 0) : (updF (fun _ => 0) v11.toNatClampNeg ((fun _ => 0) v11.toNatClampNeg + 1)) v154.toNatClampNeg = f4_653 v154 v1 v11 := by
  simp only [updF, own_nat hq h1, own_nat hq h2, own_nat h1 h2, own_nat h2 h1, own_nat h1 hq, own_nat h2 hq, own_nat h1 h1, own_nat h2 h2, f4_653]
  by_cases e1 : v154 = v1
  · subst e1
    by_cases e2 : v154 = v11
    · subst e2; simp
    · have e3 : ¬ v11 = v154 := fun h => e2 h.symm
      simp [e2, e3]
  · have e4 : ¬ v1 = v154 := fun h => e1 h.symm
    by_cases e2 : v154 = v11
    · subst e2; simp [e1, e4]
    · simp [e1, e2]
theorem own_fin_5 (v1 : Int32) (v11 : Int32) (hq : ¬ v1 < 0) (h1 : ¬ v1 < 0) (h2 : ¬ v11 < 0) : (updF (fun _ => 0) v11.toNatClampNeg ((fun _ => 0) v11.toNatClampNeg + 1)) v1.toNatClampNeg = f4_731 v1 v11 := by
  simp only [updF, own_nat hq h1, own_nat hq h2, own_nat h1 h2, own_nat h2 h1, own_nat h1 hq, own_nat h2 hq, own_nat h1 h1, own_nat h2 h2, f4_731]
  by_cases e2 : v1 = v11
  · subst e2; simp
  · have e3 : ¬ v11 = v1 := fun h => e2 h.symm
    simp [e2, e3]
theorem own_fin_6 (v736 : Int32) (v1 : Int32) (v11 : Int32) (hq : ¬ v736 < 0) (h1 : ¬ v1 < 0) (h2 : ¬ v11 < 0) : (updF (updF (fun _ => 0) v11.toNatClampNeg ((fun _ => 0) v11.toNatClampNeg + 1)) v11.toNatClampNeg ((updF (fun _ => 0) v11.toNatClampNeg ((fun _ => 0) v11.toNatClampNeg + 1)) v11.toNatClampNeg + 1)) v736.toNatClampNeg = f4_814 v736 v1 v11 := by
  simp only [updF, own_nat hq h1, own_nat hq h2, own_nat h1 h2, own_nat h2 h1, own_nat h1 hq, own_nat h2 hq, own_nat h1 h1, own_nat h2 h2, f4_814]
  by_cases e1 : v736 = v1
  · subst e1
    by_cases e2 : v736 = v11
    · subst e2; simp
    · have e3 : ¬ v11 = v736 := fun h => e2 h.symm
      simp [e2, e3]
  · have e4 : ¬ v1 = v736 := fun h => e1 h.symm
    by_cases e2 : v736 = v11
    · subst e2; simp [e1, e4]
    · simp [e1, e2]
theorem own_fin_7 (v737 : Int32) (v1 : Int32) (v11 : Int32) (hq : ¬ v737 < 0) (h1 : ¬ v1 < 0) (h2 : ¬ v11 < 0) : (updF (updF (fun _ => 0) v11.toNatClampNeg ((fun _ => 0) v11.toNatClampNeg + 1)) v11.toNatClampNeg ((updF (fun _ => 0) v11.toNatClampNeg ((fun _ => 0) v11.toNatClampNeg + 1)) v11.toNatClampNeg + 1)) v737.toNatClampNeg = f4_814 v737 v1 v11 := by
  simp only [updF, own_nat hq h1, own_nat hq h2, own_nat h1 h2, own_nat h2 h1, own_nat h1 hq, own_nat h2 hq, own_nat h1 h1, own_nat h2 h2, f4_814]
  by_cases e1 : v737 = v1
  · subst e1
    by_cases e2 : v737 = v11
    · subst e2; simp
    · have e3 : ¬ v11 = v737 := fun h => e2 h.symm
      simp [e2, e3]
  · have e4 : ¬ v1 = v737 := fun h => e1 h.symm
    by_cases e2 : v737 = v11
    · subst e2; simp [e1, e4]
    · simp [e1, e2]
theorem own_fin_8 (v1 : Int32) (v11 : Int32) (hq : ¬ v1 < 0) (h1 : ¬ v1 < 0) (h2 : ¬ v11 < 0) : (updF (updF (fun _ => 0) v11.toNatClampNeg ((fun _ => 0) v11.toNatClampNeg + 1)) v11.toNatClampNeg ((updF (fun _ => 0) v11.toNatClampNeg ((fun _ => 0) v11.toNatClampNeg + 1)) v11.toNatClampNeg + 1)) v1.toNatClampNeg = f4_904 v1 v11 := by
  simp only [updF, own_nat hq h1, own_nat hq h2, own_nat h1 h2, own_nat h2 h1, own_nat h1 hq, own_nat h2 hq, own_nat h1 h1, own_nat h2 h2, f4_904]
  by_cases e2 : v1 = v11
  · subst e2; simp
  · have e3 : ¬ v11 = v1 := fun h => e2 h.symm
    simp [e2, e3]
theorem own_fin_9 (v909 : Int32) (v1 : Int32) (v11 : Int32) (hq : ¬ v909 < 0) (h1 : ¬ v1 < 0) (h2 : ¬ v11 < 0) : (updF (updF (updF (fun _ => 0) v11.toNatClampNeg ((fun _ => 0) v11.toNatClampNeg + 1)) v11.toNatClampNeg ((updF (fun _ => 0) v11.toNatClampNeg ((fun _ => 0) v11.toNatClampNeg + 1)) v11.toNatClampNeg + 1)) v11.toNatClampNeg ((updF (updF (fun _ => 0) v11.toNatClampNeg ((fun _ => 0) v11.toNatClampNeg + 1)) v11.toNatClampNeg ((updF (fun _ => 0) v11.toNatClampNeg ((fun _ => 0) v11.toNatClampNeg + 1)) v11.toNatClampNeg + 1)) v11.toNatClampNeg + 1)) v909.toNatClampNeg = f4_1006 v909 v1 v11 := by
  simp only [updF, own_nat hq h1, own_nat hq h2, own_nat h1 h2, own_nat h2 h1, own_nat h1 hq, own_nat h2 hq, own_nat h1 h1, own_nat h2 h2, f4_1006]
  by_cases e1 : v909 = v1
  · subst e1
    by_cases e2 : v909 = v11
    · subst e2; simp
    · have e3 : ¬ v11 = v909 := fun h => e2 h.symm
      simp [e2, e3]
  · have e4 : ¬ v1 = v909 := fun h => e1 h.symm
    by_cases e2 : v909 = v11
    · subst e2; simp [e1, e4]
    · simp [e1, e2]
theorem own_fin_10 (v910 : Int32) (v1 : Int32) (v11 : Int32) (hq : ¬ v910 < 0) (h1 : ¬ v1 < 0) (h2 : ¬ v11 < 0) : (updF (updF (updF (fun _ => 0) v11.toNatClampNeg ((fun _ => 0) v11.toNatClampNeg + 1)) v11.toNatClampNeg ((updF (fun _ => 0) v11.toNatClampNeg ((fun _ => 0) v11.toNatClampNeg + 1)) v11.toNatClampNeg + 1)) v11.toNatClampNeg ((updF (updF (fun _ => 0) v11.toNatClampNeg ((fun _ => 0) v11.toNatClampNeg + 1)) v11.toNatClampNeg ((updF (fun _ => 0) v11.toNatClampNeg ((fun _ => 0) v11.toNatClampNeg + 1)) v11.toNatClampNeg + 1)) v11.toNatClampNeg + 1)) v910.toNatClampNeg = f4_1006 v910 v1 v11 := by
  simp only [updF, own_nat hq h1, own_nat hq h2, own_nat h1 h2, own_nat h2 h1, own_nat h1 hq, own_nat h2 hq, own_nat h1 h1, own_nat h2 h2, f4_1006]
  by_cases e1 : v910 = v1
  · subst e1
    by_cases e2 : v910 = v11
    · subst e2; simp
    · have e3 : ¬ v11 = v910 := fun h => e2 h.symm
      simp [e2, e3]
  · have e4 : ¬ v1 = v910 := fun h => e1 h.symm
    by_cases e2 : v910 = v11
    · subst e2; simp [e1, e4]
    · simp [e1, e2]
theorem own_fin_11 (v1 : Int32) (v11 : Int32) (hq : ¬ v1 < 0) (h1 : ¬ v1 < 0) (h2 : ¬ v11 < 0) : (updF (updF (updF (fun _ => 0) v11.toNatClampNeg ((fun _ => 0) v11.toNatClampNeg + 1)) v11.toNatClampNeg ((updF (fun _ => 0) v11.toNatClampNeg ((fun _ => 0) v11.toNatClampNeg + 1)) v11.toNatClampNeg + 1)) v11.toNatClampNeg ((updF (updF (fun _ => 0) v11.toNatClampNeg ((fun _ => 0) v11.toNatClampNeg + 1)) v11.toNatClampNeg ((updF (fun _ => 0) v11.toNatClampNeg ((fun _ => 0) v11.toNatClampNeg + 1)) v11.toNatClampNeg + 1)) v11.toNatClampNeg + 1)) v1.toNatClampNeg = f4_1108 v1 v11 := by
  simp only [updF, own_nat hq h1, own_nat hq h2, own_nat h1 h2, own_nat h2 h1, own_nat h1 hq, own_nat h2 hq, own_nat h1 h1, own_nat h2 h2, f4_1108]
  by_cases e2 : v1 = v11
  · subst e2; simp
  · have e3 : ¬ v11 = v1 := fun h => e2 h.symm
    simp [e2, e3]
theorem own_fin_12 (v1123 : Int32) (v1 : Int32) (v1113 : Int32) (hq : ¬ v1123 < 0) (h1 : ¬ v1 < 0) (h2 : ¬ v1113 < 0) : (updF (fun _ => 0) v1.toNatClampNeg ((fun _ => 0) v1.toNatClampNeg + 1)) v1123.toNatClampNeg = f4_1182 v1123 v1 v1113 := by
  simp only [updF, own_nat hq h1, own_nat hq h2, own_nat h1 h2, own_nat h2 h1, own_nat h1 hq, own_nat h2 hq, own_nat h1 h1, own_nat h2 h2, f4_1182]
  by_cases e1 : v1123 = v1
  · subst e1
    by_cases e2 : v1123 = v1113
    · subst e2; simp
    · have e3 : ¬ v1113 = v1123 := fun h => e2 h.symm
      simp [e2, e3]
  · have e4 : ¬ v1 = v1123 := fun h => e1 h.symm
    by_cases e2 : v1123 = v1113
    · subst e2; simp [e1, e4]
    · simp [e1, e2]
theorem own_fin_13 (v1124 : Int32) (v1 : Int32) (v1113 : Int32) (hq : ¬ v1124 < 0) (h1 : ¬ v1 < 0) (h2 : ¬ v1113 < 0) : (updF (fun _ => 0) v1.toNatClampNeg ((fun _ => 0) v1.toNatClampNeg + 1)) v1124.toNatClampNeg = f4_1182 v1124 v1 v1113 := by
  simp only [updF, own_nat hq h1, own_nat hq h2, own_nat h1 h2, own_nat h2 h1, own_nat h1 hq, own_nat h2 hq, own_nat h1 h1, own_nat h2 h2, f4_1182]
  by_cases e1 : v1124 = v1
  · subst e1
    by_cases e2 : v1124 = v1113
    · subst e2; simp
    · have e3 : ¬ v1113 = v1124 := fun h => e2 h.symm
      simp [e2, e3]
  · have e4 : ¬ v1 = v1124 := fun h => e1 h.symm
    by_cases e2 : v1124 = v1113
    · subst e2; simp [e1, e4]
    · simp [e1, e2]
theorem own_fin_14 (v1 : Int32) (v1113 : Int32) (hq : ¬ v1 < 0) (h1 : ¬ v1 < 0) (h2 : ¬ v1113 < 0) : (updF (fun _ => 0) v1.toNatClampNeg ((fun _ => 0) v1.toNatClampNeg + 1)) v1.toNatClampNeg = f4_1242 v1 v1113 := by
  simp only [updF, own_nat hq h1, own_nat hq h2, own_nat h1 h2, own_nat h2 h1, own_nat h1 hq, own_nat h2 hq, own_nat h1 h1, own_nat h2 h2, f4_1242]
  by_cases e2 : v1 = v1113
  · subst e2; simp
  · have e3 : ¬ v1113 = v1 := fun h => e2 h.symm
    simp [e2, e3]
theorem own_fin_15 (v1264 : Int32) (v1 : Int32) (v1113 : Int32) (hq : ¬ v1264 < 0) (h1 : ¬ v1 < 0) (h2 : ¬ v1113 < 0) : (updF (updF (fun _ => 0) v1.toNatClampNeg ((fun _ => 0) v1.toNatClampNeg + 1)) v1113.toNatClampNeg ((updF (fun _ => 0) v1.toNatClampNeg ((fun _ => 0) v1.toNatClampNeg + 1)) v1113.toNatClampNeg + 1)) v1264.toNatClampNeg = f4_1369 v1264 v1 v1113 := by
  simp only [updF, own_nat hq h1, own_nat hq h2, own_nat h1 h2, own_nat h2 h1, own_nat h1 hq, own_nat h2 hq, own_nat h1 h1, own_nat h2 h2, f4_1369]
  by_cases e1 : v1264 = v1
  · subst e1
    by_cases e2 : v1264 = v1113
    · subst e2; simp
    · have e3 : ¬ v1113 = v1264 := fun h => e2 h.symm
      simp [e2, e3]
  · have e4 : ¬ v1 = v1264 := fun h => e1 h.symm
    by_cases e2 : v1264 = v1113
    · subst e2; simp [e1, e4]
    · simp [e1, e2]
theorem own_fin_16 (v1265 : Int32) (v1 : Int32) (v1113 : Int32) (hq : ¬ v1265 < 0) (h1 : ¬ v1 < 0) (h2 : ¬ v1113 < 0) : (updF (updF (fun _ => 0) v1.toNatClampNeg ((fun _ => 0) v1.toNatClampNeg + 1)) v1113.toNatClampNeg ((updF (fun _ => 0) v1.toNatClampNeg ((fun _ => 0) v1.toNatClampNeg + 1)) v1113.toNatClampNeg + 1)) v1265.toNatClampNeg = f4_1369 v1265 v1 v1113 := by
  simp only [updF, own_nat hq h1, own_nat hq h2, own_nat h1 h2, own_nat h2 h1, own_nat h1 hq, own_nat h2 hq, own_nat h1 h1, own_nat h2 h2, f4_1369]
  by_cases e1 : v1265 = v1
  · subst e1
    by_cases e2 : v1265 = v1113
    · subst e2; simp
    · have e3 : ¬ v1113 = v1265 := fun h => e2 h.symm
      simp [e2, e3]
  · have e4 : ¬ v1 = v1265 := fun h => e1 h.symm
    by_cases e2 : v1265 = v1113
    · subst e2; simp [e1, e4]
    · simp [e1, e2]
theorem own_fin_17 (v1 : Int32) (v1113 : Int32) (hq : ¬ v1 < 0) (h1 : ¬ v1 < 0) (h2 : ¬ v1113 < 0) : (updF (updF (fun _ => 0) v1.toNatClampNeg ((fun _ => 0) v1.toNatClampNeg + 1)) v1113.toNatClampNeg ((updF (fun _ => 0) v1.toNatClampNeg ((fun _ => 0) v1.toNatClampNeg + 1)) v1113.toNatClampNeg + 1)) v1.toNatClampNeg = f4_1404 v1 v1113 := by
  simp only [updF, own_nat hq h1, own_nat hq h2, own_nat h1 h2, own_nat h2 h1, own_nat h1 hq, own_nat h2 hq, own_nat h1 h1, own_nat h2 h2, f4_1404]
  by_cases e2 : v1 = v1113
  · subst e2; simp
  · have e3 : ¬ v1113 = v1 := fun h => e2 h.symm
    simp [e2, e3]
theorem own_fin_18 (v1409 : Int32) (v1 : Int32) (v1113 : Int32) (hq : ¬ v1409 < 0) (h1 : ¬ v1 < 0) (h2 : ¬ v1113 < 0) : (updF (updF (updF (fun _ => 0) v1.toNatClampNeg ((fun _ => 0) v1.toNatClampNeg + 1)) v1113.toNatClampNeg ((updF (fun _ => 0) v1.toNatClampNeg ((fun _ => 0) v1.toNatClampNeg + 1)) v1113.toNatClampNeg + 1)) v1113.toNatClampNeg ((updF (updF (fun _ => 0) v1.toNatClampNeg ((fun _ => 0) v1.toNatClampNeg + 1)) v1113.toNatClampNeg ((updF (fun _ => 0) v1.toNatClampNeg ((fun _ => 0) v1.toNatClampNeg + 1)) v1113.toNatClampNeg + 1)) v1113.toNatClampNeg + 1)) v1409.toNatClampNeg = f4_1533 v1409 v1 v1113 := by
  simp only [updF, own_nat hq h1, own_nat hq h2, own_nat h1 h2, own_nat h2 h1, own_nat h1 hq, own_nat h2 hq, own_nat h1 h1, own_nat h2 h2, f4_1533]
  by_cases e1 : v1409 = v1
  · subst e1
    by_cases e2 : v1409 = v1113
    · subst e2; simp
    · have e3 : ¬ v1113 = v1409 := fun h => e2 h.symm
      simp [e2, e3]
  · have e4 : ¬ v1 = v1409 := fun h => e1 h.symm
    by_cases e2 : v1409 = v1113
    · subst e2; simp [e1, e4]
    · simp [e1, e2]
theorem own_fin_19 (v1410 : Int32) (v1 : Int32) (v1113 : Int32) (hq : ¬ v1410 < 0) (h1 : ¬ v1 < 0) (h2 : ¬ v1113 < 0) : (updF (updF (updF (fun _ => 0) v1.toNatClampNeg ((fun _ => 0) v1.toNatClampNeg + 1)) v1113.toNatClampNeg ((updF (fun _ => 0) v1.toNatClampNeg ((fun _ => 0) v1.toNatClampNeg + 1)) v1113.toNatClampNeg + 1)) v1113.toNatClampNeg ((updF (updF (fun _ => 0) v1.toNatClampNeg ((fun _ => 0) v1.toNatClampNeg + 1)) v1113.toNatClampNeg ((updF (fun _ => 0) v1.toNatClampNeg ((fun _ => 0) v1.toNatClampNeg + 1)) v1113.toNatClampNeg + 1)) v1113.toNatClampNeg + 1)) v1410.toNatClampNeg = f4_1533 v1410 v1 v1113 := by
  simp only [updF, own_nat hq h1, own_nat hq h2, own_nat h1 h2, own_nat h2 h1, own_nat h1 hq, own_nat h2 hq, own_nat h1 h1, own_nat h2 h2, f4_1533]
  by_cases e1 : v1410 = v1
  · subst e1
    by_cases e2 : v1410 = v1113
    · subst e2; simp
    · have e3 : ¬ v1113 = v1410 := fun h => e2 h.symm
      simp [e2, e3]
  · have e4 : ¬ v1 = v1410 := fun h => e1 h.symm
    by_cases e2 : v1410 = v1113
    · subst e2; simp [e1, e4]
    · simp [e1, e2]
theorem own_fin_20 (v1 : Int32) (v1113 : Int32) (hq : ¬ v1 < 0) (h1 : ¬ v1 < 0) (h2 : ¬ v1113 < 0) : (updF (updF (updF (fun _ => 0) v1.toNatClampNeg ((fun _ => 0) v1.toNatClampNeg + 1)) v1113.toNatClampNeg ((updF (fun _ => 0) v1.toNatClampNeg ((fun _ => 0) v1.toNatClampNeg + 1)) v1113.toNatClampNeg + 1)) v1113.toNatClampNeg ((updF (updF (fun _ => 0) v1.toNatClampNeg ((fun _ => 0) v1.toNatClampNeg + 1)) v1113.toNatClampNeg ((updF (fun _ => 0) v1.toNatClampNeg ((fun _ => 0) v1.toNatClampNeg + 1)) v1113.toNatClampNeg + 1)) v1113.toNatClampNeg + 1)) v1.toNatClampNeg = f4_1571 v1 v1113 := by
  simp only [updF, own_nat hq h1, own_nat hq h2, own_nat h1 h2, own_nat h2 h1, own_nat h1 hq, own_nat h2 hq, own_nat h1 h1, own_nat h2 h2, f4_1571]
  by_cases e2 : v1 = v1113
  · subst e2; simp
  · have e3 : ¬ v1113 = v1 := fun h => e2 h.symm
    simp [e2, e3]
theorem own_fin_21 (v1576 : Int32) (v1 : Int32) (v1113 : Int32) (hq : ¬ v1576 < 0) (h1 : ¬ v1 < 0) (h2 : ¬ v1113 < 0) : (updF (updF (updF (updF (fun _ => 0) v1.toNatClampNeg ((fun _ => 0) v1.toNatClampNeg + 1)) v1113.toNatClampNeg ((updF (fun _ => 0) v1.toNatClampNeg ((fun _ => 0) v1.toNatClampNeg + 1)) v1113.toNatClampNeg + 1)) v1113.toNatClampNeg ((updF (updF (fun _ => 0) v1.toNatClampNeg ((fun _ => 0) v1.toNatClampNeg + 1)) v1113.toNatClampNeg ((updF (fun _ => 0) v1.toNatClampNeg ((fun _ => 0) v1.toNatClampNeg + 1)) v1113.toNatClampNeg + 1)) v1113.toNatClampNeg + 1)) v1113.toNatClampNeg ((updF (updF (updF (fun _ => 0) v1.toNatClampNeg ((fun _ => 0) v1.toNatClampNeg + 1)) v1113.toNatClampNeg ((updF (fun _ => 0) v1.toNatClampNeg ((fun _ => 0) v1.toNatClampNeg + 1)) v1113.toNatClampNeg + 1)) v1113.toNatClampNeg ((updF (updF (fun _ => 0) v1.toNatClampNeg ((fun _ => 0) v1.toNatClampNeg + 1)) v1113.toNatClampNeg ((updF (fun _ => 0) v1.toNatClampNeg ((fun _ => 0) v1.toNatClampNeg + 1)) v1113.toNatClampNeg + 1)) v1113.toNatClampNeg + 1)) v1113.toNatClampNeg + 1)) v1576.toNatClampNeg = f4_1719 v1576 v1 v1113 := by
  simp only [updF, own_nat hq h1, own_nat hq h2, own_nat h1 h2, own_nat h2 h1, own_nat h1 hq, own_nat h2 hq, own_nat h1 h1, own_nat h2 h2, f4_1719]
  by_cases e1 : v1576 = v1
  · subst e1
    by_cases e2 : v1576 = v1113
    · subst e2; simp
    · have e3 : ¬ v1113 = v1576 := fun h => e2 h.symm
      simp [e2, e3]
  · have e4 : ¬ v1 = v1576 := fun h => e1 h.symm
    by_cases e2 : v1576 = v1113
    · subst e2; simp [e1, e4]
    · simp [e1, e2]
theorem own_fin_22 (v1577 : Int32) (v1 : Int32) (v1113 : Int32) (hq : ¬ v1577 < 0) (h1 : ¬ v1 < 0) (h2 : ¬ v1113 < 0) : (updF (updF (updF (updF (fun _ => 0) v1.toNatClampNeg ((fun _ => 0) v1.toNatClampNeg + 1)) v1113.toNatClampNeg ((updF (fun _ => 0) v1.toNatClampNeg ((fun _ => 0) v1.toNatClampNeg + 1)) v1113.toNatClampNeg + 1)) v1113.toNatClampNeg ((updF (updF (fun _ => 0) v1.toNatClampNeg ((fun _ => 0) v1.toNatClampNeg + 1)) v1113.toNatClampNeg ((updF (fun _ => 0) v1.toNatClampNeg ((fun _ => 0) v1.toNatClampNeg + 1)) v1113.toNatClampNeg + 1)) v1113.toNatClampNeg + 1)) v1113.toNatClampNeg ((updF (updF (updF (fun _ => 0) v1.toNatClampNeg ((fun _ => 0) v1.toNatClampNeg + 1)) v1113.toNatClampNeg ((updF (fun _ => 0) v1.toNatClampNeg ((fun _ => 0) v1.toNatClampNeg + 1)) v1113.toNatClampNeg + 1)) v1113.toNatClampNeg ((updF (updF (fun _ => 0) v1.toNatClampNeg ((fun _ => 0) v1.toNatClampNeg + 1)) v1113.toNatClampNeg ((updF (fun _ => 0) v1.toNatClampNeg ((fun _ => 0) v1.toNatClampNeg + 1)) v1113.toNatClampNeg + 1)) v1113.toNatClampNeg + 1)) v1113.toNatClampNeg + 1)) v1577.toNatClampNeg = f4_1719 v1577 v1 v1113 := by
  simp only [updF, own_nat hq h1, own_nat hq h2, own_nat h1 h2, own_nat h2 h1, own_nat h1 hq, own_nat h2 hq, own_nat h1 h1, own_nat h2 h2, f4_1719]
  by_cases e1 : v1577 = v1
  · subst e1
    by_cases e2 : v1577 = v1113
    · subst e2; simp
    · have e3 : ¬ v1113 = v1577 := fun h => e2 h.symm
      simp [e2, e3]
  · have e4 : ¬ v1 = v1577 := fun h => e1 h.symm
    by_cases e2 : v1577 = v1113
    · subst e2; simp [e1, e4]
    · simp [e1, e2]
theorem own_fin_23 (v1 : Int32) (v1113 : Int32) (hq : ¬ v1 < 0) (h1 : ¬ v1 < 0) (h2 : ¬ v1113 < 0) : (updF (updF (updF (updF (fun _ => 0) v1.toNatClampNeg ((fun _ => 0) v1.toNatClampNeg + 1)) v1113.toNatClampNeg ((updF (fun _ => 0) v1.toNatClampNeg ((fun _ => 0) v1.toNatClampNeg + 1)) v1113.toNatClampNeg + 1)) v1113.toNatClampNeg ((updF (updF (fun _ => 0) v1.toNatClampNeg ((fun _ => 0) v1.toNatClampNeg + 1)) v1113.toNatClampNeg ((updF (fun _ => 0) v1.toNatClampNeg ((fun _ => 0) v1.toNatClampNeg + 1)) v1113.toNatClampNeg + 1)) v1113.toNatClampNeg + 1)) v1113.toNatClampNeg ((updF (updF (updF (fun _ => 0) v1.toNatClampNeg ((fun _ => 0) v1.toNatClampNeg + 1)) v1113.toNatClampNeg ((updF (fun _ => 0) v1.toNatClampNeg ((fun _ => 0) v1.toNatClampNeg + 1)) v1113.toNatClampNeg + 1)) v1113.toNatClampNeg ((updF (updF (fun _ => 0) v1.toNatClampNeg ((fun _ => 0) v1.toNatClampNeg + 1)) v1113.toNatClampNeg ((updF (fun _ => 0) v1.toNatClampNeg ((fun _ => 0) v1.toNatClampNeg + 1)) v1113.toNatClampNeg + 1)) v1113.toNatClampNeg + 1)) v1113.toNatClampNeg + 1)) v1.toNatClampNeg = f4_1760 v1 v1113 := by
  simp only [updF, own_nat hq h1, own_nat hq h2, own_nat h1 h2, own_nat h2 h1, own_nat h1 hq, own_nat h2 hq, own_nat h1 h1, own_nat h2 h2, f4_1760]
  by_cases e2 : v1 = v1113
  · subst e2; simp
  · have e3 : ¬ v1113 = v1 := fun h => e2 h.symm
    simp [e2, e3]
theorem own_fin_24 (v1775 : Int32) (v1 : Int32) (v1765 : Int32) (hq : ¬ v1775 < 0) (h1 : ¬ v1 < 0) (h2 : ¬ v1765 < 0) : (updF (updF (fun _ => 0) v1.toNatClampNeg ((fun _ => 0) v1.toNatClampNeg + 1)) v1.toNatClampNeg ((updF (fun _ => 0) v1.toNatClampNeg ((fun _ => 0) v1.toNatClampNeg + 1)) v1.toNatClampNeg + 1)) v1775.toNatClampNeg = f4_1853 v1775 v1 v1765 := by
  simp only [updF, own_nat hq h1, own_nat hq h2, own_nat h1 h2, own_nat h2 h1, own_nat h1 hq, own_nat h2 hq, own_nat h1 h1, own_nat h2 h2, f4_1853]
  by_cases e1 : v1775 = v1
  · subst e1
    by_cases e2 : v1775 = v1765
    · subst e2; simp
    · have e3 : ¬ v1765 = v1775 := fun h => e2 h.symm
      simp [e2, e3]
  · have e4 : ¬ v1 = v1775 := fun h => e1 h.symm
    by_cases e2 : v1775 = v1765
    · subst e2; simp [e1, e4]
    · simp [e1, e2]
theorem own_fin_25 (v1776 : Int32) (v1 : Int32) (v1765 : Int32) (hq : ¬ v1776 < 0) (h1 : ¬ v1 < 0) (h2 : ¬ v1765 < 0) : (updF (updF (fun _ => 0) v1.toNatClampNeg ((fun _ => 0) v1.toNatClampNeg + 1)) v1.toNatClampNeg ((updF (fun _ => 0) v1.toNatClampNeg ((fun _ => 0) v1.toNatClampNeg + 1)) v1.toNatClampNeg + 1)) v1776.toNatClampNeg = f4_1853 v1776 v1 v1765 := by
  simp only [updF, own_nat hq h1, own_nat hq h2, own_nat h1 h2, own_nat h2 h1, own_nat h1 hq, own_nat h2 hq, own_nat h1 h1, own_nat h2 h2, f4_1853]
  by_cases e1 : v1776 = v1
  · subst e1
    by_cases e2 : v1776 = v1765
    · subst e2; simp
    · have e3 : ¬ v1765 = v1776 := fun h => e2 h.symm
      simp [e2, e3]
  · have e4 : ¬ v1 = v1776 := fun h => e1 h.symm
    by_cases e2 : v1776 = v1765
    · subst e2; simp [e1, e4]
    · simp [e1, e2]
theorem own_fin_26 (v1 : Int32) (v1765 : Int32) (hq : ¬ v1 < 0) (h1 : ¬ v1 < 0) (h2 : ¬ v1765 < 0) : (updF (updF (fun _ => 0) v1.toNatClampNeg ((fun _ => 0) v1.toNatClampNeg + 1)) v1.toNatClampNeg ((updF (fun _ => 0) v1.toNatClampNeg ((fun _ => 0) v1.toNatClampNeg + 1)) v1.toNatClampNeg + 1)) v1.toNatClampNeg = f4_1922 v1 v1765 := by
  simp only [updF, own_nat hq h1, own_nat hq h2, own_nat h1 h2, own_nat h2 h1, own_nat h1 hq, own_nat h2 hq, own_nat h1 h1, own_nat h2 h2, f4_1922]
  by_cases e2 : v1 = v1765
  · subst e2; simp
  · have e3 : ¬ v1765 = v1 := fun h => e2 h.symm
    simp [e2, e3]
theorem own_fin_27 (v1947 : Int32) (v1 : Int32) (v1765 : Int32) (hq : ¬ v1947 < 0) (h1 : ¬ v1 < 0) (h2 : ¬ v1765 < 0) : (updF (updF (updF (fun _ => 0) v1.toNatClampNeg ((fun _ => 0) v1.toNatClampNeg + 1)) v1.toNatClampNeg ((updF (fun _ => 0) v1.toNatClampNeg ((fun _ => 0) v1.toNatClampNeg + 1)) v1.toNatClampNeg + 1)) v1765.toNatClampNeg ((updF (updF (fun _ => 0) v1.toNatClampNeg ((fun _ => 0) v1.toNatClampNeg + 1)) v1.toNatClampNeg ((updF (fun _ => 0) v1.toNatClampNeg ((fun _ => 0) v1.toNatClampNeg + 1)) v1.toNatClampNeg + 1)) v1765.toNatClampNeg + 1)) v1947.toNatClampNeg = f4_2077 v1947 v1 v1765 := by
  simp only [updF, own_nat hq h1, own_nat hq h2, own_nat h1 h2, own_nat h2 h1, own_nat h1 hq, own_nat h2 hq, own_nat h1 h1, own_nat h2 h2, f4_2077]
  by_cases e1 : v1947 = v1
  · subst e1
    by_cases e2 : v1947 = v1765
    · subst e2; simp
    · have e3 : ¬ v1765 = v1947 := fun h => e2 h.symm
      simp [e2, e3]
  · have e4 : ¬ v1 = v1947 := fun h => e1 h.symm
    by_cases e2 : v1947 = v1765
    · subst e2; simp [e1, e4]
    · simp [e1, e2]
theorem own_fin_28 (v1948 : Int32) (v1 : Int32) (v1765 : Int32) (hq : ¬ v1948 < 0) (h1 : ¬ v1 < 0) (h2 : ¬ v1765 < 0) : (updF (updF (updF (fun _ => 0) v1.toNatClampNeg ((fun _ => 0) v1.toNatClampNeg + 1)) v1.toNatClampNeg ((updF (fun _ => 0) v1.toNatClampNeg ((fun _ => 0) v1.toNatClampNeg + 1)) v1.toNatClampNeg + 1)) v1765.toNatClampNeg ((updF (updF (fun _ => 0) v1.toNatClampNeg ((fun _ => 0) v1.toNatClampNeg + 1)) v1.toNatClampNeg ((updF (fun _ => 0) v1.toNatClampNeg ((fun _ => 0) v1.toNatClampNeg + 1)) v1.toNatClampNeg + 1)) v1765.toNatClampNeg + 1)) v1948.toNatClampNeg = f4_2077 v1948 v1 v1765 := by
  simp only [updF, own_nat hq h1, own_nat hq h2, own_nat h1 h2, own_nat h2 h1, own_nat h1 hq, own_nat h2 hq, own_nat h1 h1, own_nat h2 h2, f4_2077]
  by_cases e1 : v1948 = v1
  · subst e1
    by_cases e2 : v1948 = v1765
    · subst e2; simp
    · have e3 : ¬ v1765 = v1948 := fun h => e2 h.symm
      simp [e2, e3]
  · have e4 : ¬ v1 = v1948 := fun h => e1 h.symm
    by_cases e2 : v1948 = v1765
    · subst e2; simp [e1, e4]
    · simp [e1, e2]
theorem own_fin_29 (v1 : Int32) (v1765 : Int32) (hq : ¬ v1 < 0) (h1 : ¬ v1 < 0) (h2 : ¬ v1765 < 0) : (updF (updF (updF (fun _ => 0) v1.toNatClampNeg ((fun _ => 0) v1.toNatClampNeg + 1)) v1.toNatClampNeg ((updF (fun _ => 0) v1.toNatClampNeg ((fun _ => 0) v1.toNatClampNeg + 1)) v1.toNatClampNeg + 1)) v1765.toNatClampNeg ((updF (updF (fun _ => 0) v1.toNatClampNeg ((fun _ => 0) v1.toNatClampNeg + 1)) v1.toNatClampNeg ((updF (fun _ => 0) v1.toNatClampNeg ((fun _ => 0) v1.toNatClampNeg + 1)) v1.toNatClampNeg + 1)) v1765.toNatClampNeg + 1)) v1.toNatClampNeg = f4_2115 v1 v1765 := by
  simp only [updF, own_nat hq h1, own_nat hq h2, own_nat h1 h2, own_nat h2 h1, own_nat h1 hq, own_nat h2 hq, own_nat h1 h1, own_nat h2 h2, f4_2115]
  by_cases e2 : v1 = v1765
  · subst e2; simp
  · have e3 : ¬ v1765 = v1 := fun h => e2 h.symm
    simp [e2, e3]
theorem own_fin_30 (v2120 : Int32) (v1 : Int32) (v1765 : Int32) (hq : ¬ v2120 < 0) (h1 : ¬ v1 < 0) (h2 : ¬ v1765 < 0) : (updF (updF (updF (updF (fun _ => 0) v1.toNatClampNeg ((fun _ => 0) v1.toNatClampNeg + 1)) v1.toNatClampNeg ((updF (fun _ => 0) v1.toNatClampNeg ((fun _ => 0) v1.toNatClampNeg + 1)) v1.toNatClampNeg + 1)) v1765.toNatClampNeg ((updF (updF (fun _ => 0) v1.toNatClampNeg ((fun _ => 0) v1.toNatClampNeg + 1)) v1.toNatClampNeg ((updF (fun _ => 0) v1.toNatClampNeg ((fun _ => 0) v1.toNatClampNeg + 1)) v1.toNatClampNeg + 1)) v1765.toNatClampNeg + 1)) v1765.toNatClampNeg ((updF (updF (updF (fun _ => 0) v1.toNatClampNeg ((fun _ => 0) v1.toNatClampNeg + 1)) v1.toNatClampNeg ((updF (fun _ => 0) v1.toNatClampNeg ((fun _ => 0) v1.toNatClampNeg + 1)) v1.toNatClampNeg + 1)) v1765.toNatClampNeg ((updF (updF (fun _ => 0) v1.toNatClampNeg ((fun _ => 0) v1.toNatClampNeg + 1)) v1.toNatClampNeg ((updF (fun _ => 0) v1.toNatClampNeg ((fun _ => 0) v1.toNatClampNeg + 1)) v1.toNatClampNeg + 1)) v1765.toNatClampNeg + 1)) v1765.toNatClampNeg + 1)) v2120.toNatClampNeg = f4_2269 v2120 v1 v1765 := by
  simp only [updF, own_nat hq h1, own_nat hq h2, own_nat h1 h2, own_nat h2 h1, own_nat h1 hq, own_nat h2 hq, own_nat h1 h1, own_nat h2 h2, f4_2269]
  by_cases e1 : v2120 = v1
  · subst e1
    by_cases e2 : v2120 = v1765
    · subst e2; simp
    · have e3 : ¬ v1765 = v2120 := fun h => e2 h.symm
      simp [e2, e3]
  · have e4 : ¬ v1 = v2120 := fun h => e1 h.symm
    by_cases e2 : v2120 = v1765
    · subst e2; simp [e1, e4]
    · simp [e1, e2]
theorem own_fin_31 (v2121 : Int32) (v1 : Int32) (v1765 : Int32) (hq : ¬ v2121 < 0) (h1 : ¬ v1 < 0) (h2 : ¬ v1765 < 0) : (updF (updF (updF (updF (fun _ => 0) v1.toNatClampNeg ((fun _ => 0) v1.toNatClampNeg + 1)) v1.toNatClampNeg ((updF (fun _ => 0) v1.toNatClampNeg ((fun _ => 0) v1.toNatClampNeg + 1)) v1.toNatClampNeg + 1)) v1765.toNatClampNeg ((updF (updF (fun _ => 0) v1.toNatClampNeg ((fun _ => 0) v1.toNatClampNeg + 1)) v1.toNatClampNeg ((updF (fun _ => 0) v1.toNatClampNeg ((fun _ => 0) v1.toNatClampNeg + 1)) v1.toNatClampNeg + 1)) v1765.toNatClampNeg + 1)) v1765.toNatClampNeg ((updF (updF (updF (fun _ => 0) v1.toNatClampNeg ((fun _ => 0) v1.toNatClampNeg + 1)) v1.toNatClampNeg ((updF (fun _ => 0) v1.toNatClampNeg ((fun _ => 0) v1.toNatClampNeg + 1)) v1.toNatClampNeg + 1)) v1765.toNatClampNeg ((updF (updF (fun _ => 0) v1.toNatClampNeg ((fun _ => 0) v1.toNatClampNeg + 1)) v1.toNatClampNeg ((updF (fun _ => 0) v1.toNatClampNeg ((fun _ => 0) v1.toNatClampNeg + 1)) v1.toNatClampNeg + 1)) v1765.toNatClampNeg + 1)) v1765.toNatClampNeg + 1)) v2121.toNatClampNeg = f4_2269 v2121 v1 v1765 := by
  simp only [updF, own_nat hq h1, own_nat hq h2, own_nat h1 h2, own_nat h2 h1, own_nat h1 hq, own_nat h2 hq, own_nat h1 h1, own_nat h2 h2, f4_2269]
  by_cases e1 : v2121 = v1
  · subst e1
    by_cases e2 : v2121 = v1765
    · subst e2; simp
    · have e3 : ¬ v1765 = v2121 := fun h => e2 h.symm
      simp [e2, e3]
  · have e4 : ¬ v1 = v2121 := fun h => e1 h.symm
    by_cases e2 : v2121 = v1765
    · subst e2; simp [e1, e4]
    · simp [e1, e2]
theorem own_fin_32 (v1 : Int32) (v1765 : Int32) (hq : ¬ v1 < 0) (h1 : ¬ v1 < 0) (h2 : ¬ v1765 < 0) : (updF (updF (updF (updF (fun _ => 0) v1.toNatClampNeg ((fun _ => 0) v1.toNatClampNeg + 1)) v1.toNatClampNeg ((updF (fun _ => 0) v1.toNatClampNeg ((fun _ => 0) v1.toNatClampNeg + 1)) v1.toNatClampNeg + 1)) v1765.toNatClampNeg ((updF (updF (fun _ => 0) v1.toNatClampNeg ((fun _ => 0) v1.toNatClampNeg + 1)) v1.toNatClampNeg ((updF (fun _ => 0) v1.toNatClampNeg ((fun _ => 0) v1.toNatClampNeg + 1)) v1.toNatClampNeg + 1)) v1765.toNatClampNeg + 1)) v1765.toNatClampNeg ((updF (updF (updF (fun _ => 0) v1.toNatClampNeg ((fun _ => 0) v1.toNatClampNeg + 1)) v1.toNatClampNeg ((updF (fun _ => 0) v1.toNatClampNeg ((fun _ => 0) v1.toNatClampNeg + 1)) v1.toNatClampNeg + 1)) v1765.toNatClampNeg ((updF (updF (fun _ => 0) v1.toNatClampNeg ((fun _ => 0) v1.toNatClampNeg + 1)) v1.toNatClampNeg ((updF (fun _ => 0) v1.toNatClampNeg ((fun _ => 0) v1.toNatClampNeg + 1)) v1.toNatClampNeg + 1)) v1765.toNatClampNeg + 1)) v1765.toNatClampNeg + 1)) v1.toNatClampNeg = f4_2310 v1 v1765 := by
  simp only [updF, own_nat hq h1, own_nat hq h2, own_nat h1 h2, own_nat h2 h1, own_nat h1 hq, own_nat h2 hq, own_nat h1 h1, own_nat h2 h2, f4_2310]
  by_cases e2 : v1 = v1765
  · subst e2; simp
  · have e3 : ¬ v1765 = v1 := fun h => e2 h.symm
    simp [e2, e3]
theorem own_fin_33 (v2315 : Int32) (v1 : Int32) (v1765 : Int32) (hq : ¬ v2315 < 0) (h1 : ¬ v1 < 0) (h2 : ¬ v1765 < 0) : (updF (updF (updF (updF (updF (fun _ => 0) v1.toNatClampNeg ((fun _ => 0) v1.toNatClampNeg + 1)) v1.toNatClampNeg ((updF (fun _ => 0) v1.toNatClampNeg ((fun _ => 0) v1.toNatClampNeg + 1)) v1.toNatClampNeg + 1)) v1765.toNatClampNeg ((updF (updF (fun _ => 0) v1.toNatClampNeg ((fun _ => 0) v1.toNatClampNeg + 1)) v1.toNatClampNeg ((updF (fun _ => 0) v1.toNatClampNeg ((fun _ => 0) v1.toNatClampNeg + 1)) v1.toNatClampNeg + 1)) v1765.toNatClampNeg + 1)) v1765.toNatClampNeg ((updF (updF (updF (fun _ => 0) v1.toNatClampNeg ((fun _ => 0) v1.toNatClampNeg + 1)) v1.toNatClampNeg ((updF (fun _ => 0) v1.toNatClampNeg ((fun _ => 0) v1.toNatClampNeg + 1)) v1.toNatClampNeg + 1)) v1765.toNatClampNeg ((updF (updF (fun _ => 0) v1.toNatClampNeg ((fun _ => 0) v1.toNatClampNeg + 1)) v1.toNatClampNeg ((updF (fun _ => 0) v1.toNatClampNeg ((fun _ => 0) v1.toNatClampNeg + 1)) v1.toNatClampNeg + 1)) v1765.toNatClampNeg + 1)) v1765.toNatClampNeg + 1)) v1765.toNatClampNeg ((updF (updF (updF (updF (fun _ => 0) v1.toNatClampNeg ((fun _ => 0) v1.toNatClampNeg + 1)) v1.toNatClampNeg ((updF (fun _ => 0) v1.toNatClampNeg ((fun _ => 0) v1.toNatClampNeg + 1)) v1.toNatClampNeg + 1)) v1765.toNatClampNeg ((updF (updF (fun _ => 0) v1.toNatClampNeg ((fun _ => 0) v1.toNatClampNeg + 1)) v1.toNatClampNeg ((updF (fun _ => 0) v1.toNatClampNeg ((fun _ => 0) v1.toNatClampNeg + 1)) v1.toNatClampNeg + 1)) v1765.toNatClampNeg + 1)) v1765.toNatClampNeg ((updF (updF (updF (fun _ => 0) v1.toNatClampNeg ((fun _ => 0) v1.toNatClampNeg + 1)) v1.toNatClampNeg ((updF (fun _ => 0) v1.toNatClampNeg ((fun _ => 0) v1.toNatClampNeg + 1)) v1.toNatClampNeg + 1)) v1765.toNatClampNeg ((updF (updF (fun _ => 0) v1.toNatClampNeg ((fun _ => 0) v1.toNatClampNeg + 1)) v1.toNatClampNeg ((updF (fun _ => 0) v1.toNatClampNeg ((fun _ => 0) v1.toNatClampNeg + 1)) v1.toNatClampNeg + 1)) v1765.toNatClampNeg + 1)) v1765.toNatClampNeg + 1)) v1765.toNatClampNeg + 1)) v2315.toNatClampNeg = f4_2483 v2315 v1 v1765 := by
  simp only [updF, own_nat hq h1, own_nat hq h2, own_nat h1 h2, own_nat h2 h1, own_nat h1 hq, own_nat h2 hq, own_nat h1 h1, own_nat h2 h2, f4_2483]
  by_cases e1 : v2315 = v1
  · subst e1
    by_cases e2 : v2315 = v1765
    · subst e2; simp
    · have e3 : ¬ v1765 = v2315 := fun h => e2 h.symm
      simp [e2, e3]
  · have e4 : ¬ v1 = v2315 := fun h => e1 h.symm
    by_cases e2 : v2315 = v1765
    · subst e2; simp [e1, e4]
    · simp [e1, e2]
theorem own_fin_34 (v2316 : Int32) (v1 : Int32) (v1765 : Int32) (hq : ¬ v2316 < 0) (h1 : ¬ v1 < 0) (h2 : ¬ v1765 < 0) : (updF (updF (updF (updF (updF (fun _ => 0) v1.toNatClampNeg ((fun _ => 0) v1.toNatClampNeg + 1)) v1.toNatClampNeg ((updF (fun _ => 0) v1.toNatClampNeg ((fun _ => 0) v1.toNatClampNeg + 1)) v1.toNatClampNeg + 1)) v1765.toNatClampNeg ((updF (updF (fun _ => 0) v1.toNatClampNeg ((fun _ => 0) v1.toNatClampNeg + 1)) v1.toNatClampNeg ((updF (fun _ => 0) v1.toNatClampNeg ((fun _ => 0) v1.toNatClampNeg + 1)) v1.toNatClampNeg + 1)) v1765.toNatClampNeg + 1)) v1765.toNatClampNeg ((updF (updF (updF (fun _ => 0) v1.toNatClampNeg ((fun _ => 0) v1.toNatClampNeg + 1)) v1.toNatClampNeg ((updF (fun _ => 0) v1.toNatClampNeg ((fun _ => 0) v1.toNatClampNeg + 1)) v1.toNatClampNeg + 1)) v1765.toNatClampNeg ((updF (updF (fun _ => 0) v1.toNatClampNeg ((fun _ => 0) v1.toNatClampNeg + 1)) v1.toNatClampNeg ((updF (fun _ => 0) v1.toNatClampNeg ((fun _ => 0) v1.toNatClampNeg + 1)) v1.toNatClampNeg + 1)) v1765.toNatClampNeg + 1)) v1765.toNatClampNeg + 1)) v1765.toNatClampNeg ((updF (updF (updF (updF (fun _ => 0) v1.toNatClampNeg ((fun _ => 0) v1.toNatClampNeg + 1)) v1.toNatClampNeg ((updF (fun _ => 0) v1.toNatClampNeg ((fun _ => 0) v1.toNatClampNeg + 1)) v1.toNatClampNeg + 1)) v1765.toNatClampNeg ((updF (updF (fun _ => 0) v1.toNatClampNeg ((fun _ => 0) v1.toNatClampNeg + 1)) v1.toNatClampNeg ((updF (fun _ => 0) v1.toNatClampNeg ((fun _ => 0) v1.toNatClampNeg + 1)) v1.toNatClampNeg + 1)) v1765.toNatClampNeg + 1)) v1765.toNatClampNeg ((updF (updF (updF (fun _ => 0) v1.toNatClampNeg ((fun _ => 0) v1.toNatClampNeg + 1)) v1.toNatClampNeg ((updF (fun _ => 0) v1.toNatClampNeg ((fun _ => 0) v1.toNatClampNeg + 1)) v1.toNatClampNeg + 1)) v1765.toNatClampNeg ((updF (updF (fun _ => 0) v1.toNatClampNeg ((fun _ => 0) v1.toNatClampNeg + 1)) v1.toNatClampNeg ((updF (fun _ => 0) v1.toNatClampNeg ((fun _ => 0) v1.toNatClampNeg + 1)) v1.toNatClampNeg + 1)) v1765.toNatClampNeg + 1)) v1765.toNatClampNeg + 1)) v1765.toNatClampNeg + 1)) v2316.toNatClampNeg = f4_2483 v2316 v1 v1765 := by
  simp only [updF, own_nat hq h1, own_nat hq h2, own_nat h1 h2, own_nat h2 h1, own_nat h1 hq, own_nat h2 hq, own_nat h1 h1, own_nat h2 h2, f4_2483]
  by_cases e1 : v2316 = v1
  · subst e1
    by_cases e2 : v2316 = v1765
    · subst e2; simp
    · have e3 : ¬ v1765 = v2316 := fun h => e2 h.symm
      simp [e2, e3]
  · have e4 : ¬ v1 = v2316 := fun h => e1 h.symm
    by_cases e2 : v2316 = v1765
    · subst e2; simp [e1, e4]
    · simp [e1, e2]
theorem own_fin_35 (v1 : Int32) (v1765 : Int32) (hq : ¬ v1 < 0) (h1 : ¬ v1 < 0) (h2 : ¬ v1765 < 0) : (updF (updF (updF (updF (updF (fun _ => 0) v1.toNatClampNeg ((fun _ => 0) v1.toNatClampNeg + 1)) v1.toNatClampNeg ((updF (fun _ => 0) v1.toNatClampNeg ((fun _ => 0) v1.toNatClampNeg + 1)) v1.toNatClampNeg + 1)) v1765.toNatClampNeg ((updF (updF (fun _ => 0) v1.toNatClampNeg ((fun _ => 0) v1.toNatClampNeg + 1)) v1.toNatClampNeg ((updF (fun _ => 0) v1.toNatClampNeg ((fun _ => 0) v1.toNatClampNeg + 1)) v1.toNatClampNeg + 1)) v1765.toNatClampNeg + 1)) v1765.toNatClampNeg ((updF (updF (updF (fun _ => 0) v1.toNatClampNeg ((fun _ => 0) v1.toNatClampNeg + 1)) v1.toNatClampNeg ((updF (fun _ => 0) v1.toNatClampNeg ((fun _ => 0) v1.toNatClampNeg + 1)) v1.toNatClampNeg + 1)) v1765.toNatClampNeg ((updF (updF (fun _ => 0) v1.toNatClampNeg ((fun _ => 0) v1.toNatClampNeg + 1)) v1.toNatClampNeg ((updF (fun _ => 0) v1.toNatClampNeg ((fun _ => 0) v1.toNatClampNeg + 1)) v1.toNatClampNeg + 1)) v1765.toNatClampNeg + 1)) v1765.toNatClampNeg + 1)) v1765.toNatClampNeg ((updF (updF (updF (updF (fun _ => 0) v1.toNatClampNeg ((fun _ => 0) v1.toNatClampNeg + 1)) v1.toNatClampNeg ((updF (fun _ => 0) v1.toNatClampNeg ((fun _ => 0) v1.toNatClampNeg + 1)) v1.toNatClampNeg + 1)) v1765.toNatClampNeg ((updF (updF (fun _ => 0) v1.toNatClampNeg ((fun _ => 0) v1.toNatClampNeg + 1)) v1.toNatClampNeg ((updF (fun _ => 0) v1.toNatClampNeg ((fun _ => 0) v1.toNatClampNeg + 1)) v1.toNatClampNeg + 1)) v1765.toNatClampNeg + 1)) v1765.toNatClampNeg ((updF (updF (updF (fun _ => 0) v1.toNatClampNeg ((fun _ => 0) v1.toNatClampNeg + 1)) v1.toNatClampNeg ((updF (fun _ => 0) v1.toNatClampNeg ((fun _ => 0) v1.toNatClampNeg + 1)) v1.toNatClampNeg + 1)) v1765.toNatClampNeg ((updF (updF (fun _ => 0) v1.toNatClampNeg ((fun _ => 0) v1.toNatClampNeg + 1)) v1.toNatClampNeg ((updF (fun _ => 0) v1.toNatClampNeg ((fun _ => 0) v1.toNatClampNeg + 1)) v1.toNatClampNeg + 1)) v1765.toNatClampNeg + 1)) v1765.toNatClampNeg + 1)) v1765.toNatClampNeg + 1)) v1.toNatClampNeg = f4_2527 v1 v1765 := by
  simp only [updF, own_nat hq h1, own_nat hq h2, own_nat h1 h2, own_nat h2 h1, own_nat h1 hq, own_nat h2 hq, own_nat h1 h1, own_nat h2 h2, f4_2527]
  by_cases e2 : v1 = v1765
  · subst e2; simp
  · have e3 : ¬ v1765 = v1 := fun h => e2 h.symm
    simp [e2, e3]
theorem own_fin_36 (v2542 : Int32) (v1 : Int32) (v2532 : Int32) (hq : ¬ v2542 < 0) (h1 : ¬ v1 < 0) (h2 : ¬ v2532 < 0) : (updF (updF (updF (fun _ => 0) v1.toNatClampNeg ((fun _ => 0) v1.toNatClampNeg + 1)) v1.toNatClampNeg ((updF (fun _ => 0) v1.toNatClampNeg ((fun _ => 0) v1.toNatClampNeg + 1)) v1.toNatClampNeg + 1)) v1.toNatClampNeg ((updF (updF (fun _ => 0) v1.toNatClampNeg ((fun _ => 0) v1.toNatClampNeg + 1)) v1.toNatClampNeg ((updF (fun _ => 0) v1.toNatClampNeg ((fun _ => 0) v1.toNatClampNeg + 1)) v1.toNatClampNeg + 1)) v1.toNatClampNeg + 1)) v2542.toNatClampNeg = f4_2639 v2542 v1 v2532 := by
  simp only [updF, own_nat hq h1, own_nat hq h2, own_nat h1 h2, own_nat h2 h1, own_nat h1 hq, own_nat h2 hq, own_nat h1 h1, own_nat h2 h2, f4_2639]
  by_cases e1 : v2542 = v1
  · subst e1
    by_cases e2 : v2542 = v2532
    · subst e2; simp
    · have e3 : ¬ v2532 = v2542 := fun h => e2 h.symm
      simp [e2, e3]
  · have e4 : ¬ v1 = v2542 := fun h => e1 h.symm
    by_cases e2 : v2542 = v2532
    · subst e2; simp [e1, e4]
    · simp [e1, e2]
theorem own_fin_37 (v2543 : Int32) (v1 : Int32) (v2532 : Int32) (hq : ¬ v2543 < 0) (h1 : ¬ v1 < 0) (h2 : ¬ v2532 < 0) : (updF (updF (updF (fun _ => 0) v1.toNatClampNeg ((fun _ => 0) v1.toNatClampNeg + 1)) v1.toNatClampNeg ((updF (fun _ => 0) v1.toNatClampNeg ((fun _ => 0) v1.toNatClampNeg + 1)) v1.toNatClampNeg + 1)) v1.toNatClampNeg ((updF (updF (fun _ => 0) v1.toNatClampNeg ((fun _ => 0) v1.toNatClampNeg + 1)) v1.toNatClampNeg ((updF (fun _ => 0) v1.toNatClampNeg ((fun _ => 0) v1.toNatClampNeg + 1)) v1.toNatClampNeg + 1)) v1.toNatClampNeg + 1)) v2543.toNatClampNeg = f4_2639 v2543 v1 v2532 := by
  simp only [updF, own_nat hq h1, own_nat hq h2, own_nat h1 h2, own_nat h2 h1, own_nat h1 hq, own_nat h2 hq, own_nat h1 h1, own_nat h2 h2, f4_2639]
  by_cases e1 : v2543 = v1
  · subst e1
    by_cases e2 : v2543 = v2532
    · subst e2; simp
    · have e3 : ¬ v2532 = v2543 := fun h => e2 h.symm
      simp [e2, e3]
  · have e4 : ¬ v1 = v2543 := fun h => e1 h.symm
    by_cases e2 : v2543 = v2532
    · subst e2; simp [e1, e4]
    · simp [e1, e2]
theorem own_fin_38 (v1 : Int32) (v2532 : Int32) (hq : ¬ v1 < 0) (h1 : ¬ v1 < 0) (h2 : ¬ v2532 < 0) : (updF (updF (updF (fun _ => 0) v1.toNatClampNeg ((fun _ => 0) v1.toNatClampNeg + 1)) v1.toNatClampNeg ((updF (fun _ => 0) v1.toNatClampNeg ((fun _ => 0) v1.toNatClampNeg + 1)) v1.toNatClampNeg + 1)) v1.toNatClampNeg ((updF (updF (fun _ => 0) v1.toNatClampNeg ((fun _ => 0) v1.toNatClampNeg + 1)) v1.toNatClampNeg ((updF (fun _ => 0) v1.toNatClampNeg ((fun _ => 0) v1.toNatClampNeg + 1)) v1.toNatClampNeg + 1)) v1.toNatClampNeg + 1)) v1.toNatClampNeg = f4_2717 v1 v2532 := by
  simp only [updF, own_nat hq h1, own_nat hq h2, own_nat h1 h2, own_nat h2 h1, own_nat h1 hq, own_nat h2 hq, own_nat h1 h1, own_nat h2 h2, f4_2717]
  by_cases e2 : v1 = v2532
  · subst e2; simp
  · have e3 : ¬ v2532 = v1 := fun h => e2 h.symm
    simp [e2, e3]
theorem own_fin_39 (v2745 : Int32) (v1 : Int32) (v2532 : Int32) (hq : ¬ v2745 < 0) (h1 : ¬ v1 < 0) (h2 : ¬ v2532 < 0) : (updF (updF (updF (updF (fun _ => 0) v1.toNatClampNeg ((fun _ => 0) v1.toNatClampNeg + 1)) v1.toNatClampNeg ((updF (fun _ => 0) v1.toNatClampNeg ((fun _ => 0) v1.toNatClampNeg + 1)) v1.toNatClampNeg + 1)) v1.toNatClampNeg ((updF (updF (fun _ => 0) v1.toNatClampNeg ((fun _ => 0) v1.toNatClampNeg + 1)) v1.toNatClampNeg ((updF (fun _ => 0) v1.toNatClampNeg ((fun _ => 0) v1.toNatClampNeg + 1)) v1.toNatClampNeg + 1)) v1.toNatClampNeg + 1)) v2532.toNatClampNeg ((updF (updF (updF (fun _ => 0) v1.toNatClampNeg ((fun _ => 0) v1.toNatClampNeg + 1)) v1.toNatClampNeg ((updF (fun _ => 0) v1.toNatClampNeg ((fun _ => 0) v1.toNatClampNeg + 1)) v1.toNatClampNeg + 1)) v1.toNatClampNeg ((updF (updF (fun _ => 0) v1.toNatClampNeg ((fun _ => 0) v1.toNatClampNeg + 1)) v1.toNatClampNeg ((updF (fun _ => 0) v1.toNatClampNeg ((fun _ => 0) v1.toNatClampNeg + 1)) v1.toNatClampNeg + 1)) v1.toNatClampNeg + 1)) v2532.toNatClampNeg + 1)) v2745.toNatClampNeg = f4_2900 v2745 v1 v2532 := by
  simp only [updF, own_nat hq h1, own_nat hq h2, own_nat h1 h2, own_nat h2 h1, own_nat h1 hq, own_nat h2 hq, own_nat h1 h1, own_nat h2 h2, f4_2900]
  by_cases e1 : v2745 = v1
  · subst e1
    by_cases e2 : v2745 = v2532
    · subst e2; simp
    · have e3 : ¬ v2532 = v2745 := fun h => e2 h.symm
      simp [e2, e3]
  · have e4 : ¬ v1 = v2745 := fun h => e1 h.symm
    by_cases e2 : v2745 = v2532
    · subst e2; simp [e1, e4]
    · simp [e1, e2]
theorem own_fin_40 (v2746 : Int32) (v1 : Int32) (v2532 : Int32) (hq : ¬ v2746 < 0) (h1 : ¬ v1 < 0) (h2 : ¬ v2532 < 0) : (updF (updF (updF (updF (fun _ => 0) v1.toNatClampNeg ((fun _ => 0) v1.toNatClampNeg + 1)) v1.toNatClampNeg ((updF (fun _ => 0) v1.toNatClampNeg ((fun _ => 0) v1.toNatClampNeg + 1)) v1.toNatClampNeg + 1)) v1.toNatClampNeg ((updF (updF (fun _ => 0) v1.toNatClampNeg ((fun _ => 0) v1.toNatClampNeg + 1)) v1.toNatClampNeg ((updF (fun _ => 0) v1.toNatClampNeg ((fun _ => 0) v1.toNatClampNeg + 1)) v1.toNatClampNeg + 1)) v1.toNatClampNeg + 1)) v2532.toNatClampNeg ((updF (updF (updF (fun _ => 0) v1.toNatClampNeg ((fun _ => 0) v1.toNatClampNeg + 1)) v1.toNatClampNeg ((updF (fun _ => 0) v1.toNatClampNeg ((fun _ => 0) v1.toNatClampNeg + 1)) v1.toNatClampNeg + 1)) v1.toNatClampNeg ((updF (updF (fun _ => 0) v1.toNatClampNeg ((fun _ => 0) v1.toNatClampNeg + 1)) v1.toNatClampNeg ((updF (fun _ => 0) v1.toNatClampNeg ((fun _ => 0) v1.toNatClampNeg + 1)) v1.toNatClampNeg + 1)) v1.toNatClampNeg + 1)) v2532.toNatClampNeg + 1)) v2746.toNatClampNeg = f4_2900 v2746 v1 v2532 := by
  simp only [updF, own_nat hq h1, own_nat hq h2, own_nat h1 h2, own_nat h2 h1, own_nat h1 hq, own_nat h2 hq, own_nat h1 h1, own_nat h2 h2, f4_2900]
  by_cases e1 : v2746 = v1
  · subst e1
    by_cases e2 : v2746 = v2532
    · subst e2; simp
    · have e3 : ¬ v2532 = v2746 := fun h => e2 h.symm
      simp [e2, e3]
  · have e4 : ¬ v1 = v2746 := fun h => e1 h.symm
    by_cases e2 : v2746 = v2532
    · subst e2; simp [e1, e4]
    · simp [e1, e2]
theorem own_fin_41 (v1 : Int32) (v2532 : Int32) (hq : ¬ v1 < 0) (h1 : ¬ v1 < 0) (h2 : ¬ v2532 < 0) : (updF (updF (updF (updF (fun _ => 0) v1.toNatClampNeg ((fun _ => 0) v1.toNatClampNeg + 1)) v1.toNatClampNeg ((updF (fun _ => 0) v1.toNatClampNeg ((fun _ => 0) v1.toNatClampNeg + 1)) v1.toNatClampNeg + 1)) v1.toNatClampNeg ((updF (updF (fun _ => 0) v1.toNatClampNeg ((fun _ => 0) v1.toNatClampNeg + 1)) v1.toNatClampNeg ((updF (fun _ => 0) v1.toNatClampNeg ((fun _ => 0) v1.toNatClampNeg + 1)) v1.toNatClampNeg + 1)) v1.toNatClampNeg + 1)) v2532.toNatClampNeg ((updF (updF (updF (fun _ => 0) v1.toNatClampNeg ((fun _ => 0) v1.toNatClampNeg + 1)) v1.toNatClampNeg ((updF (fun _ => 0) v1.toNatClampNeg ((fun _ => 0) v1.toNatClampNeg + 1)) v1.toNatClampNeg + 1)) v1.toNatClampNeg ((updF (updF (fun _ => 0) v1.toNatClampNeg ((fun _ => 0) v1.toNatClampNeg + 1)) v1.toNatClampNeg ((updF (fun _ => 0) v1.toNatClampNeg ((fun _ => 0) v1.toNatClampNeg + 1)) v1.toNatClampNeg + 1)) v1.toNatClampNeg + 1)) v2532.toNatClampNeg + 1)) v1.toNatClampNeg = f4_2941 v1 v2532 := by
  simp only [updF, own_nat hq h1, own_nat hq h2, own_nat h1 h2, own_nat h2 h1, own_nat h1 hq, own_nat h2 hq, own_nat h1 h1, own_nat h2 h2, f4_2941]
  by_cases e2 : v1 = v2532
  · subst e2; simp
  · have e3 : ¬ v2532 = v1 := fun h => e2 h.symm
    simp [e2, e3]
theorem own_fin_42 (v2946 : Int32) (v1 : Int32) (v2532 : Int32) (hq : ¬ v2946 < 0) (h1 : ¬ v1 < 0) (h2 : ¬ v2532 < 0) : (updF (updF (updF (updF (updF (fun _ => 0) v1.toNatClampNeg ((fun _ => 0) v1.toNatClampNeg + 1)) v1.toNatClampNeg ((updF (fun _ => 0) v1.toNatClampNeg ((fun _ => 0) v1.toNatClampNeg + 1)) v1.toNatClampNeg + 1)) v1.toNatClampNeg ((updF (updF (fun _ => 0) v1.toNatClampNeg ((fun _ => 0) v1.toNatClampNeg + 1)) v1.toNatClampNeg ((updF (fun _ => 0) v1.toNatClampNeg ((fun _ => 0) v1.toNatClampNeg + 1)) v1.toNatClampNeg + 1)) v1.toNatClampNeg + 1)) v2532.toNatClampNeg ((updF (updF (updF (fun _ => 0) v1.toNatClampNeg ((fun _ => 0) v1.toNatClampNeg + 1)) v1.toNatClampNeg ((updF (fun _ => 0) v1.toNatClampNeg ((fun _ => 0) v1.toNatClampNeg + 1)) v1.toNatClampNeg + 1)) v1.toNatClampNeg ((updF (updF (fun _ => 0) v1.toNatClampNeg ((fun _ => 0) v1.toNatClampNeg + 1)) v1.toNatClampNeg ((updF (fun _ => 0) v1.toNatClampNeg ((fun _ => 0) v1.toNatClampNeg + 1)) v1.toNatClampNeg + 1)) v1.toNatClampNeg + 1)) v2532.toNatClampNeg + 1)) v2532.toNatClampNeg ((updF (updF (updF (updF (fun _ => 0) v1.toNatClampNeg ((fun _ => 0) v1.toNatClampNeg + 1)) v1.toNatClampNeg ((updF (fun _ => 0) v1.toNatClampNeg ((fun _ => 0) v1.toNatClampNeg + 1)) v1.toNatClampNeg + 1)) v1.toNatClampNeg ((updF (updF (fun _ => 0) v1.toNatClampNeg ((fun _ => 0) v1.toNatClampNeg + 1)) v1.toNatClampNeg ((updF (fun _ => 0) v1.toNatClampNeg ((fun _ => 0) v1.toNatClampNeg + 1)) v1.toNatClampNeg + 1)) v1.toNatClampNeg + 1)) v2532.toNatClampNeg ((updF (updF (updF (fun _ => 0) v1.toNatClampNeg ((fun _ => 0) v1.toNatClampNeg + 1)) v1.toNatClampNeg ((updF (fun _ => 0) v1.toNatClampNeg ((fun _ => 0) v1.toNatClampNeg + 1)) v1.toNatClampNeg + 1)) v1.toNatClampNeg ((updF (updF (fun _ => 0) v1.toNatClampNeg ((fun _ => 0) v1.toNatClampNeg + 1)) v1.toNatClampNeg ((updF (fun _ => 0) v1.toNatClampNeg ((fun _ => 0) v1.toNatClampNeg + 1)) v1.toNatClampNeg + 1)) v1.toNatClampNeg + 1)) v2532.toNatClampNeg + 1)) v2532.toNatClampNeg + 1)) v2946.toNatClampNeg = f4_3120 v2946 v1 v2532 := by
  simp only [updF, own_nat hq h1, own_nat hq h2, own_nat h1 h2, own_nat h2 h1, own_nat h1 hq, own_nat h2 hq, own_nat h1 h1, own_nat h2 h2, f4_3120]
  by_cases e1 : v2946 = v1
  · subst e1
    by_cases e2 : v2946 = v2532
    · subst e2; simp
    · have e3 : ¬ v2532 = v2946 := fun h => e2 h.symm
      simp [e2, e3]
  · have e4 : ¬ v1 = v2946 := fun h => e1 h.symm
    by_cases e2 : v2946 = v2532
    · subst e2; simp [e1, e4]
    · simp [e1, e2]
theorem own_fin_43 (v2947 : Int32) (v1 : Int32) (v2532 : Int32) (hq : ¬ v2947 < 0) (h1 : ¬ v1 < 0) (h2 : ¬ v2532 < 0) : (updF (updF (updF (updF (updF (fun _ => 0) v1.toNatClampNeg ((fun _ => 0) v1.toNatClampNeg + 1)) v1.toNatClampNeg ((updF (fun _ => 0) v1.toNatClampNeg ((fun _ => 0) v1.toNatClampNeg + 1)) v1.toNatClampNeg + 1)) v1.toNatClampNeg ((updF (updF (fun _ => 0) v1.toNatClampNeg ((fun _ => 0) v1.toNatClampNeg + 1)) v1.toNatClampNeg ((updF (fun _ => 0) v1.toNatClampNeg ((fun _ => 0) v1.toNatClampNeg + 1)) v1.toNatClampNeg + 1)) v1.toNatClampNeg + 1)) v2532.toNatClampNeg ((updF (updF (updF (fun _ => 0) v1.toNatClampNeg ((fun _ => 0) v1.toNatClampNeg + 1)) v1.toNatClampNeg ((updF (fun _ => 0) v1.toNatClampNeg ((fun _ => 0) v1.toNatClampNeg + 1)) v1.toNatClampNeg + 1)) v1.toNatClampNeg ((updF (updF (fun _ => 0) v1.toNatClampNeg ((fun _ => 0) v1.toNatClampNeg + 1)) v1.toNatClampNeg ((updF (fun _ => 0) v1.toNatClampNeg ((fun _ => 0) v1.toNatClampNeg + 1)) v1.toNatClampNeg + 1)) v1.toNatClampNeg + 1)) v2532.toNatClampNeg + 1)) v2532.toNatClampNeg ((updF (updF (updF (updF (fun _ => 0) v1.toNatClampNeg ((fun _ => 0) v1.toNatClampNeg + 1)) v1.toNatClampNeg ((updF (fun _ => 0) v1.toNatClampNeg ((fun _ => 0) v1.toNatClampNeg + 1)) v1.toNatClampNeg + 1)) v1.toNatClampNeg ((updF (updF (fun _ => 0) v1.toNatClampNeg ((fun _ => 0) v1.toNatClampNeg + 1)) v1.toNatClampNeg ((updF (fun _ => 0) v1.toNatClampNeg ((fun _ => 0) v1.toNatClampNeg + 1)) v1.toNatClampNeg + 1)) v1.toNatClampNeg + 1)) v2532.toNatClampNeg ((updF (updF (updF (fun _ => 0) v1.toNatClampNeg ((fun _ => 0) v1.toNatClampNeg + 1)) v1.toNatClampNeg ((updF (fun _ => 0) v1.toNatClampNeg ((fun _ => 0) v1.toNatClampNeg + 1)) v1.toNatClampNeg + 1)) v1.toNatClampNeg ((updF (updF (fun _ => 0) v1.toNatClampNeg ((fun _ => 0) v1.toNatClampNeg + 1)) v1.toNatClampNeg ((updF (fun _ => 0) v1.toNatClampNeg ((fun _ => 0) v1.toNatClampNeg + 1)) v1.toNatClampNeg + 1)) v1.toNatClampNeg + 1)) v2532.toNatClampNeg + 1)) v2532.toNatClampNeg + 1)) v2947.toNatClampNeg = f4_3120 v2947 v1 v2532 := by
  simp only [updF, own_nat hq h1, own_nat hq h2, own_nat h1 h2, own_nat h2 h1, own_nat h1 hq, own_nat h2 hq, own_nat h1 h1, own_nat h2 h2, f4_3120]
  by_cases e1 : v2947 = v1
  · subst e1
    by_cases e2 : v2947 = v2532
    · subst e2; simp
    · have e3 : ¬ v2532 = v2947 := fun h => e2 h.symm
      simp [e2, e3]
  · have e4 : ¬ v1 = v2947 := fun h => e1 h.symm
    by_cases e2 : v2947 = v2532
    · subst e2; simp [e1, e4]
    · simp [e1, e2]
theorem own_fin_44 (v1 : Int32) (v2532 : Int32) (hq : ¬ v1 < 0) (h1 : ¬ v1 < 0) (h2 : ¬ v2532 < 0) : (updF (updF (updF (updF (updF (fun _ => 0) v1.toNatClampNeg ((fun _ => 0) v1.toNatClampNeg + 1)) v1.toNatClampNeg ((updF (fun _ => 0) v1.toNatClampNeg ((fun _ => 0) v1.toNatClampNeg + 1)) v1.toNatClampNeg + 1)) v1.toNatClampNeg ((updF (updF (fun _ => 0) v1.toNatClampNeg ((fun _ => 0) v1.toNatClampNeg + 1)) v1.toNatClampNeg ((updF (fun _ => 0) v1.toNatClampNeg ((fun _ => 0) v1.toNatClampNeg + 1)) v1.toNatClampNeg + 1)) v1.toNatClampNeg + 1)) v2532.toNatClampNeg ((updF (updF (updF (fun _ => 0) v1.toNatClampNeg ((fun _ => 0) v1.toNatClampNeg + 1)) v1.toNatClampNeg ((updF (fun _ => 0) v1.toNatClampNeg ((fun _ => 0) v1.toNatClampNeg + 1)) v1.toNatClampNeg + 1)) v1.toNatClampNeg ((updF (updF (fun _ => 0) v1.toNatClampNeg ((fun _ => 0) v1.toNatClampNeg + 1)) v1.toNatClampNeg ((updF (fun _ => 0) v1.toNatClampNeg ((fun _ => 0) v1.toNatClampNeg + 1)) v1.toNatClampNeg + 1)) v1.toNatClampNeg + 1)) v2532.toNatClampNeg + 1)) v2532.toNatClampNeg ((updF (updF (updF (updF (fun _ => 0) v1.toNatClampNeg ((fun _ => 0) v1.toNatClampNeg + 1)) v1.toNatClampNeg ((updF (fun _ => 0) v1.toNatClampNeg ((fun _ => 0) v1.toNatClampNeg + 1)) v1.toNatClampNeg + 1)) v1.toNatClampNeg ((updF (updF (fun _ => 0) v1.toNatClampNeg ((fun _ => 0) v1.toNatClampNeg + 1)) v1.toNatClampNeg ((updF (fun _ => 0) v1.toNatClampNeg ((fun _ => 0) v1.toNatClampNeg + 1)) v1.toNatClampNeg + 1)) v1.toNatClampNeg + 1)) v2532.toNatClampNeg ((updF (updF (updF (fun _ => 0) v1.toNatClampNeg ((fun _ => 0) v1.toNatClampNeg + 1)) v1.toNatClampNeg ((updF (fun _ => 0) v1.toNatClampNeg ((fun _ => 0) v1.toNatClampNeg + 1)) v1.toNatClampNeg + 1)) v1.toNatClampNeg ((updF (updF (fun _ => 0) v1.toNatClampNeg ((fun _ => 0) v1.toNatClampNeg + 1)) v1.toNatClampNeg ((updF (fun _ => 0) v1.toNatClampNeg ((fun _ => 0) v1.toNatClampNeg + 1)) v1.toNatClampNeg + 1)) v1.toNatClampNeg + 1)) v2532.toNatClampNeg + 1)) v2532.toNatClampNeg + 1)) v1.toNatClampNeg = f4_3164 v1 v2532 := by
  simp only [updF, own_nat hq h1, own_nat hq h2, own_nat h1 h2, own_nat h2 h1, own_nat h1 hq, own_nat h2 hq, own_nat h1 h1, own_nat h2 h2, f4_3164]
  by_cases e2 : v1 = v2532
  · subst e2; simp
  · have e3 : ¬ v2532 = v1 := fun h => e2 h.symm
    simp [e2, e3]
theorem own_fin_45 (v3169 : Int32) (v1 : Int32) (v2532 : Int32) (hq : ¬ v3169 < 0) (h1 : ¬ v1 < 0) (h2 : ¬ v2532 < 0) : (updF (updF (updF (updF (updF (updF (fun _ => 0) v1.toNatClampNeg ((fun _ => 0) v1.toNatClampNeg + 1)) v1.toNatClampNeg ((updF (fun _ => 0) v1.toNatClampNeg ((fun _ => 0) v1.toNatClampNeg + 1)) v1.toNatClampNeg + 1)) v1.toNatClampNeg ((updF (updF (fun _ => 0) v1.toNatClampNeg ((fun _ => 0) v1.toNatClampNeg + 1)) v1.toNatClampNeg ((updF (fun _ => 0) v1.toNatClampNeg ((fun _ => 0) v1.toNatClampNeg + 1)) v1.toNatClampNeg + 1)) v1.toNatClampNeg + 1)) v2532.toNatClampNeg ((updF (updF (updF (fun _ => 0) v1.toNatClampNeg ((fun _ => 0) v1.toNatClampNeg + 1)) v1.toNatClampNeg ((updF (fun _ => 0) v1.toNatClampNeg ((fun _ => 0) v1.toNatClampNeg + 1)) v1.toNatClampNeg + 1)) v1.toNatClampNeg ((updF (updF (fun _ => 0) v1.toNatClampNeg ((fun _ => 0) v1.toNatClampNeg + 1)) v1.toNatClampNeg ((updF (fun _ => 0) v1.toNatClampNeg ((fun _ => 0) v1.toNatClampNeg + 1)) v1.toNatClampNeg + 1)) v1.toNatClampNeg + 1)) v2532.toNatClampNeg + 1)) v2532.toNatClampNeg ((updF (updF (updF (updF (fun _ => 0) v1.toNatClampNeg ((fun _ => 0) v1.toNatClampNeg + 1)) v1.toNatClampNeg ((updF (fun _ => 0) v1.toNatClampNeg ((fun _ => 0) v1.toNatClampNeg + 1)) v1.toNatClampNeg + 1)) v1.toNatClampNeg ((updF (updF (fun _ => 0) v1.toNatClampNeg ((fun _ => 0) v1.toNatClampNeg + 1)) v1.toNatClampNeg ((updF (fun _ => 0) v1.toNatClampNeg ((fun _ => 0) v1.toNatClampNeg + 1)) v1.toNatClampNeg + 1)) v1.toNatClampNeg + 1)) v2532.toNatClampNeg ((updF (updF (updF (fun _ => 0) v1.toNatClampNeg ((fun _ => 0) v1.toNatClampNeg + 1)) v1.toNatClampNeg ((updF (fun _ => 0) v1.toNatClampNeg ((fun _ => 0) v1.toNatClampNeg + 1)) v1.toNatClampNeg + 1)) v1.toNatClampNeg ((updF (updF (fun _ => 0) v1.toNatClampNeg ((fun _ => 0) v1.toNatClampNeg + 1)) v1.toNatClampNeg ((updF (fun _ => 0) v1.toNatClampNeg ((fun _ => 0) v1.toNatClampNeg + 1)) v1.toNatClampNeg + 1)) v1.toNatClampNeg + 1)) v2532.toNatClampNeg + 1)) v2532.toNatClampNeg + 1)) v2532.toNatClampNeg ((updF (updF (updF (updF (updF (fun _ => 0) v1.toNatClampNeg ((fun _ => 0) v1.toNatClampNeg + 1)) v1.toNatClampNeg ((updF (fun _ => 0) v1.toNatClampNeg ((fun _ => 0) v1.toNatClampNeg + 1)) v1.toNatClampNeg + 1)) v1.toNatClampNeg ((updF (updF (fun _ => 0) v1.toNatClampNeg ((fun _ => 0) v1.toNatClampNeg + 1)) v1.toNatClampNeg ((updF (fun _ => 0) v1.toNatClampNeg ((fun _ => 0) v1.toNatClampNeg + 1)) v1.toNatClampNeg + 1)) v1.toNatClampNeg + 1)) v2532.toNatClampNeg ((updF (updF (updF (fun _ => 0) v1.toNatClampNeg ((fun _ => 0) v1.toNatClampNeg + 1)) v1.toNatClampNeg ((updF (fun _ => 0) v1.toNatClampNeg ((fun _ => 0) v1.toNatClampNeg + 1)) v1.toNatClampNeg + 1)) v1.toNatClampNeg ((updF (updF (fun _ => 0) v1.toNatClampNeg ((fun _ => 0) v1.toNatClampNeg + 1)) v1.toNatClampNeg ((updF (fun _ => 0) v1.toNatClampNeg ((fun _ => 0) v1.toNatClampNeg + 1)) v1.toNatClampNeg + 1)) v1.toNatClampNeg + 1)) v2532.toNatClampNeg + 1)) v2532.toNatClampNeg ((updF (updF (updF (updF (fun _ => 0) v1.toNatClampNeg ((fun _ => 0) v1.toNatClampNeg + 1)) v1.toNatClampNeg ((updF (fun _ => 0) v1.toNatClampNeg ((fun _ => 0) v1.toNatClampNeg + 1)) v1.toNatClampNeg + 1)) v1.toNatClampNeg ((updF (updF (fun _ => 0) v1.toNatClampNeg ((fun _ => 0) v1.toNatClampNeg + 1)) v1.toNatClampNeg ((updF (fun _ => 0) v1.toNatClampNeg ((fun _ => 0) v1.toNatClampNeg + 1)) v1.toNatClampNeg + 1)) v1.toNatClampNeg + 1)) v2532.toNatClampNeg ((updF (updF (updF (fun _ => 0) v1.toNatClampNeg ((fun _ => 0) v1.toNatClampNeg + 1)) v1.toNatClampNeg ((updF (fun _ => 0) v1.toNatClampNeg ((fun _ => 0) v1.toNatClampNeg + 1)) v1.toNatClampNeg + 1)) v1.toNatClampNeg ((updF (updF (fun _ => 0) v1.toNatClampNeg ((fun _ => 0) v1.toNatClampNeg + 1)) v1.toNatClampNeg ((updF (fun _ => 0) v1.toNatClampNeg ((fun _ => 0) v1.toNatClampNeg + 1)) v1.toNatClampNeg + 1)) v1.toNatClampNeg + 1)) v2532.toNatClampNeg + 1)) v2532.toNatClampNeg + 1)) v2532.toNatClampNeg + 1)) v3169.toNatClampNeg = f4_3362 v3169 v1 v2532 := by
  simp only [updF, own_nat hq h1, own_nat hq h2, own_nat h1 h2, own_nat h2 h1, own_nat h1 hq, own_nat h2 hq, own_nat h1 h1, own_nat h2 h2, f4_3362]
  by_cases e1 : v3169 = v1
  · subst e1
    by_cases e2 : v3169 = v2532
    · subst e2; simp
    · have e3 : ¬ v2532 = v3169 := fun h => e2 h.symm
      simp [e2, e3]
  · have e4 : ¬ v1 = v3169 := fun h => e1 h.symm
    by_cases e2 : v3169 = v2532
    · subst e2; simp [e1, e4]
    · simp [e1, e2]
theorem own_fin_46 (v3170 : Int32) (v1 : Int32) (v2532 : Int32) (hq : ¬ v3170 < 0) (h1 : ¬ v1 < 0) (h2 : ¬ v2532 < 0) : (updF (updF (updF (updF (updF (updF (fun _ => 0) v1.toNatClampNeg ((fun _ => 0) v1.toNatClampNeg + 1)) v1.toNatClampNeg ((updF (fun _ => 0) v1.toNatClampNeg ((fun _ => 0) v1.toNatClampNeg + 1)) v1.toNatClampNeg + 1)) v1.toNatClampNeg ((updF (updF (fun _ => 0) v1.toNatClampNeg ((fun _ => 0) v1.toNatClampNeg + 1)) v1.toNatClampNeg ((updF (fun _ => 0) v1.toNatClampNeg ((fun _ => 0) v1.toNatClampNeg + 1)) v1.toNatClampNeg + 1)) v1.toNatClampNeg + 1)) v2532.toNatClampNeg ((updF (updF (updF (fun _ => 0) v1.toNatClampNeg ((fun _ => 0) v1.toNatClampNeg + 1)) v1.toNatClampNeg ((updF (fun _ => 0) v1.toNatClampNeg ((fun _ => 0) v1.toNatClampNeg + 1)) v1.toNatClampNeg + 1)) v1.toNatClampNeg ((updF (updF (fun _ => 0) v1.toNatClampNeg ((fun _ => 0) v1.toNatClampNeg + 1)) v1.toNatClampNeg ((updF (fun _ => 0) v1.toNatClampNeg ((fun _ => 0) v1.toNatClampNeg + 1)) v1.toNatClampNeg + 1)) v1.toNatClampNeg + 1)) v2532.toNatClampNeg + 1)) v2532.toNatClampNeg ((updF (updF (updF (updF (fun _ => 0) v1.toNatClampNeg ((fun _ => 0) v1.toNatClampNeg + 1)) v1.toNatClampNeg ((updF (fun _ => 0) v1.toNatClampNeg ((fun _ => 0) v1.toNatClampNeg + 1)) v1.toNatClampNeg + 1)) v1.toNatClampNeg ((updF (updF (fun _ => 0) v1.toNatClampNeg ((fun _ => 0) v1.toNatClampNeg + 1)) v1.toNatClampNeg ((updF (fun _ => 0) v1.toNatClampNeg ((fun _ => 0) v1.toNatClampNeg + 1)) v1.toNatClampNeg + 1)) v1.toNatClampNeg + 1)) v2532.toNatClampNeg ((updF (updF (updF (fun _ => 0) v1.toNatClampNeg ((fun _ => 0) v1.toNatClampNeg + 1)) v1.toNatClampNeg ((updF (fun _ => 0) v1.toNatClampNeg ((fun _ => 0) v1.toNatClampNeg + 1)) v1.toNatClampNeg + 1)) v1.toNatClampNeg ((updF (updF (fun _ => 0) v1.toNatClampNeg ((fun _ => 0) v1.toNatClampNeg + 1)) v1.toNatClampNeg ((updF (fun _ => 0) v1.toNatClampNeg ((fun _ => 0) v1.toNatClampNeg + 1)) v1.toNatClampNeg + 1)) v1.toNatClampNeg + 1)) v2532.toNatClampNeg + 1)) v2532.toNatClampNeg + 1)) v2532.toNatClampNeg ((updF (updF (updF (updF (updF (fun _ => 0) v1.toNatClampNeg ((fun _ => 0) v1.toNatClampNeg + 1)) v1.toNatClampNeg ((updF (fun _ => 0) v1.toNatClampNeg ((fun _ => 0) v1.toNatClampNeg + 1)) v1.toNatClampNeg + 1)) v1.toNatClampNeg ((updF (updF (fun _ => 0) v1.toNatClampNeg ((fun _ => 0) v1.toNatClampNeg + 1)) v1.toNatClampNeg ((updF (fun _ => 0) v1.toNatClampNeg ((fun _ => 0) v1.toNatClampNeg + 1)) v1.toNatClampNeg + 1)) v1.toNatClampNeg + 1)) v2532.toNatClampNeg ((updF (updF (updF (fun _ => 0) v1.toNatClampNeg ((fun _ => 0) v1.toNatClampNeg + 1)) v1.toNatClampNeg ((updF (fun _ => 0) v1.toNatClampNeg ((fun _ => 0) v1.toNatClampNeg + 1)) v1.toNatClampNeg + 1)) v1.toNatClampNeg ((updF (updF (fun _ => 0) v1.toNatClampNeg ((fun _ => 0) v1.toNatClampNeg + 1)) v1.toNatClampNeg ((updF (fun _ => 0) v1.toNatClampNeg ((fun _ => 0) v1.toNatClampNeg + 1)) v1.toNatClampNeg + 1)) v1.toNatClampNeg + 1)) v2532.toNatClampNeg + 1)) v2532.toNatClampNeg ((updF (updF (updF (updF (fun _ => 0) v1.toNatClampNeg ((fun _ => 0) v1.toNatClampNeg + 1)) v1.toNatClampNeg ((updF (fun _ => 0) v1.toNatClampNeg ((fun _ => 0) v1.toNatClampNeg + 1)) v1.toNatClampNeg + 1)) v1.toNatClampNeg ((updF (updF (fun _ => 0) v1.toNatClampNeg ((fun _ => 0) v1.toNatClampNeg + 1)) v1.toNatClampNeg ((updF (fun _ => 0) v1.toNatClampNeg ((fun _ => 0) v1.toNatClampNeg + 1)) v1.toNatClampNeg + 1)) v1.toNatClampNeg + 1)) v2532.toNatClampNeg ((updF (updF (updF (fun _ => 0) v1.toNatClampNeg ((fun _ => 0) v1.toNatClampNeg + 1)) v1.toNatClampNeg ((updF (fun _ => 0) v1.toNatClampNeg ((fun _ => 0) v1.toNatClampNeg + 1)) v1.toNatClampNeg + 1)) v1.toNatClampNeg ((updF (updF (fun _ => 0) v1.toNatClampNeg ((fun _ => 0) v1.toNatClampNeg + 1)) v1.toNatClampNeg ((updF (fun _ => 0) v1.toNatClampNeg ((fun _ => 0) v1.toNatClampNeg + 1)) v1.toNatClampNeg + 1)) v1.toNatClampNeg + 1)) v2532.toNatClampNeg + 1)) v2532.toNatClampNeg + 1)) v2532.toNatClampNeg + 1)) v3170.toNatClampNeg = f4_3362 v3170 v1 v2532 := by
  simp only [updF, own_nat hq h1, own_nat hq h2, own_nat h1 h2, own_nat h2 h1, own_nat h1 hq, own_nat h2 hq, own_nat h1 h1, own_nat h2 h2, f4_3362]
  by_cases e1 : v3170 = v1
  · subst e1
    by_cases e2 : v3170 = v2532
    · subst e2; simp
    · have e3 : ¬ v2532 = v3170 := fun h => e2 h.symm
      simp [e2, e3]
  · have e4 : ¬ v1 = v3170 := fun h => e1 h.symm
    by_cases e2 : v3170 = v2532
    · subst e2; simp [e1, e4]
    · simp [e1, e2]
theorem own_fin_47 (v1 : Int32) (v2532 : Int32) (hq : ¬ v1 < 0) (h1 : ¬ v1 < 0) (h2 : ¬ v2532 < 0) : (updF (updF (updF (updF (updF (updF (fun _ => 0) v1.toNatClampNeg ((fun _ => 0) v1.toNatClampNeg + 1)) v1.toNatClampNeg ((updF (fun _ => 0) v1.toNatClampNeg ((fun _ => 0) v1.toNatClampNeg + 1)) v1.toNatClampNeg + 1)) v1.toNatClampNeg ((updF (updF (fun _ => 0) v1.toNatClampNeg ((fun _ => 0) v1.toNatClampNeg + 1)) v1.toNatClampNeg ((updF (fun _ => 0) v1.toNatClampNeg ((fun _ => 0) v1.toNatClampNeg + 1)) v1.toNatClampNeg + 1)) v1.toNatClampNeg + 1)) v2532.toNatClampNeg ((updF (updF (updF (fun _ => 0) v1.toNatClampNeg ((fun _ => 0) v1.toNatClampNeg + 1)) v1.toNatClampNeg ((updF (fun _ => 0) v1.toNatClampNeg ((fun _ => 0) v1.toNatClampNeg + 1)) v1.toNatClampNeg + 1)) v1.toNatClampNeg ((updF (updF (fun _ => 0) v1.toNatClampNeg ((fun _ => 0) v1.toNatClampNeg + 1)) v1.toNatClampNeg ((updF (fun _ => 0) v1.toNatClampNeg ((fun _ => 0) v1.toNatClampNeg + 1)) v1.toNatClampNeg + 1)) v1.toNatClampNeg + 1)) v2532.toNatClampNeg + 1)) v2532.toNatClampNeg ((updF (updF (updF (updF (fun _ => 0) v1.toNatClampNeg ((fun _ => 0) v1.toNatClampNeg + 1)) v1.toNatClampNeg ((updF (fun _ => 0) v1.toNatClampNeg ((fun _ => 0) v1.toNatClampNeg + 1)) v1.toNatClampNeg + 1)) v1.toNatClampNeg ((updF (updF (fun _ => 0) v1.toNatClampNeg ((fun _ => 0) v1.toNatClampNeg + 1)) v1.toNatClampNeg ((updF (fun _ => 0) v1.toNatClampNeg ((fun _ => 0) v1.toNatClampNeg + 1)) v1.toNatClampNeg + 1)) v1.toNatClampNeg + 1)) v2532.toNatClampNeg ((updF (updF (updF (fun _ => 0) v1.toNatClampNeg ((fun _ => 0) v1.toNatClampNeg + 1)) v1.toNatClampNeg ((updF (fun _ => 0) v1.toNatClampNeg ((fun _ => 0) v1.toNatClampNeg + 1)) v1.toNatClampNeg + 1)) v1.toNatClampNeg ((updF (updF (fun _ => 0) v1.toNatClampNeg ((fun _ => 0) v1.toNatClampNeg + 1)) v1.toNatClampNeg ((updF (fun _ => 0) v1.toNatClampNeg ((fun _ => 0) v1.toNatClampNeg + 1)) v1.toNatClampNeg + 1)) v1.toNatClampNeg + 1)) v2532.toNatClampNeg + 1)) v2532.toNatClampNeg + 1)) v2532.toNatClampNeg ((updF (updF (updF (updF (updF (fun _ => 0) v1.toNatClampNeg ((fun _ => 0) v1.toNatClampNeg + 1)) v1.toNatClampNeg ((updF (fun _ => 0) v1.toNatClampNeg ((fun _ => 0) v1.toNatClampNeg + 1)) v1.toNatClampNeg + 1)) v1.toNatClampNeg ((updF (updF (fun _ => 0) v1.toNatClampNeg ((fun _ => 0) v1.toNatClampNeg + 1)) v1.toNatClampNeg ((updF (fun _ => 0) v1.toNatClampNeg ((fun _ => 0) v1.toNatClampNeg + 1)) v1.toNatClampNeg + 1)) v1.toNatClampNeg + 1)) v2532.toNatClampNeg ((updF (updF (updF (fun _ => 0) v1.toNatClampNeg ((fun _ => 0) v1.toNatClampNeg + 1)) v1.toNatClampNeg ((updF (fun _ => 0) v1.toNatClampNeg ((fun _ => 0) v1.toNatClampNeg + 1)) v1.toNatClampNeg + 1)) v1.toNatClampNeg ((updF (updF (fun _ => 0) v1.toNatClampNeg ((fun _ => 0) v1.toNatClampNeg + 1)) v1.toNatClampNeg ((updF (fun _ => 0) v1.toNatClampNeg ((fun _ => 0) v1.toNatClampNeg + 1)) v1.toNatClampNeg + 1)) v1.toNatClampNeg + 1)) v2532.toNatClampNeg + 1)) v2532.toNatClampNeg ((updF (updF (updF (updF (fun _ => 0) v1.toNatClampNeg ((fun _ => 0) v1.toNatClampNeg + 1)) v1.toNatClampNeg ((updF (fun _ => 0) v1.toNatClampNeg ((fun _ => 0) v1.toNatClampNeg + 1)) v1.toNatClampNeg + 1)) v1.toNatClampNeg ((updF (updF (fun _ => 0) v1.toNatClampNeg ((fun _ => 0) v1.toNatClampNeg + 1)) v1.toNatClampNeg ((updF (fun _ => 0) v1.toNatClampNeg ((fun _ => 0) v1.toNatClampNeg + 1)) v1.toNatClampNeg + 1)) v1.toNatClampNeg + 1)) v2532.toNatClampNeg ((updF (updF (updF (fun _ => 0) v1.toNatClampNeg ((fun _ => 0) v1.toNatClampNeg + 1)) v1.toNatClampNeg ((updF (fun _ => 0) v1.toNatClampNeg ((fun _ => 0) v1.toNatClampNeg + 1)) v1.toNatClampNeg + 1)) v1.toNatClampNeg ((updF (updF (fun _ => 0) v1.toNatClampNeg ((fun _ => 0) v1.toNatClampNeg + 1)) v1.toNatClampNeg ((updF (fun _ => 0) v1.toNatClampNeg ((fun _ => 0) v1.toNatClampNeg + 1)) v1.toNatClampNeg + 1)) v1.toNatClampNeg + 1)) v2532.toNatClampNeg + 1)) v2532.toNatClampNeg + 1)) v2532.toNatClampNeg + 1)) v1.toNatClampNeg = f4_3409 v1 v2532 := by
  simp only [updF, own_nat hq h1, own_nat hq h2, own_nat h1 h2, own_nat h2 h1, own_nat h1 hq, own_nat h2 hq, own_nat h1 h1, own_nat h2 h2, f4_3409]
  by_cases e2 : v1 = v2532
  · subst e2; simp
  · have e3 : ¬ v2532 = v1 := fun h => e2 h.symm
    simp [e2, e3]
def Q0 (n0 : Nat) (v : Option Value) (h : Heap) (L : List Loc) : Prop := v = some (.int 1) ∧ Fr n0 L
set_option maxRecDepth 65536 in
set_option maxHeartbeats 40000000 in
theorem rm0 (l : Launch) (Z : State) (a0 : Array Value) (hw : ∀ d ∈ tables_1, d.before a0 Z = true) (ws : List Jvm.Cond) (i0 : Int32) (i1 : Int32) (i2 : Int32) (i3 : Int32) (h0 : Heap) (n0 : Nat) (Z0 : n0 ≤ h0.size) :
    MetFree l x (head1 (Jvm.Cond.code x code maxLocals ret :: ws) room_1) (fun a U => a = #[(.int i0), (.int i1), (.int i2), (.int i3)] ∧ Z.Warmed39 U.vm ∧ U.heap = h0) (fun _ _ _ _ _ => True) (fun _ U o U' => ∃ v L, o = .returned v ∧ Q0 n0 v U'.heap L ∧ FrameEnd U o U' L 16 192) := by
 refine MetFree.of_bodySF (plainFor_of_name pn_1) hisR ?_
 intro p e s m args below meth c s₁ Bd hml0 hP hK
 obtain ⟨rfl, hZ, hh⟩ := hP
 have hx := Bd.exec
 have hby := Bd.bytes
 have hml : c.maxLocals = 14 := hml0
 have hlk : meth.locks = false := Bd.notSynchronized
 have hown : s.vm.findClass "com/example/dendrotick/dendrotick/VectorClockGetPinLaw" = some m.cls := findClass_of_methodNamed Bd.named
 have hnm := (name_of_methodNamed Bd.named Bd.method).1
 have X0 : Stand p l e room_1 s m #[(.int i0), (.int i1), (.int i2), (.int i3)] below meth c s₁ [] 0 0 := Stand.of_body Bd
 have e0 : s₁.heap = h0 := by rw [← hh, Bd.state]; rfl
 have N0 := Fr.nil n0
 rw [show entryFrame m #[(.int i0), (.int i1), (.int i2), (.int i3)] maxLocals = _ from ef0 m i0 i1 i2 i3]
 show KEnds p e below s 16 192 (Q0 n0) s₁ (mkF m 0 #[iv i0, iv i1, iv i2, iv i3, .unset, .unset, .unset, .unset, .unset, .unset, .unset, .unset, .unset, .unset] [])
 refine k_iloadN X0 hx (hb hby at_0) rfl (pc' := 1) rfl ?_
 refine k_bipush X0 hx (hb hby at_1) (pc' := 3) rfl (z := (15 : Int32)) rfl ?_
 refine k_iand X0 hx (hb hby at_3) (pc' := 4) rfl (fun v1 hv1 => ?_)
 refine k_istore X0 hx (hb hby at_4) (Ls' := #[iv i0, iv i1, iv i2, iv i3, iv v1, .unset, .unset, .unset, .unset, .unset, .unset, .unset, .unset, .unset]) rfl (pc' := 6) rfl ?_
 refine k_iloadN X0 hx (hb hby at_6) rfl (pc' := 7) rfl ?_
 refine k_iconst X0 hx (hb hby at_7) (pc' := 8) rfl (z := (4 : Int32)) rfl ?_
 refine k_iushr X0 hx (hb hby at_8) (pc' := 9) rfl (fun v2 hv2 => ?_)
 refine k_iconst X0 hx (hb hby at_9) (pc' := 10) rfl (z := (3 : Int32)) rfl ?_
 refine k_iand X0 hx (hb hby at_10) (pc' := 11) rfl (fun v3 hv3 => ?_)
 have hs4 : v3 = (0 : Int32) ∨ v3 = (1 : Int32) ∨ v3 = (2 : Int32) ∨ v3 = (3 : Int32) := by
  have B9 : (-2147483648 : Int) ≤ i0.toInt ∧ i0.toInt ≤ 2147483647 := ⟨(rng32 i0).1, Int.le_of_lt_add_one (rng32 i0).2⟩
  have q8 : v2.toInt = (i0.toInt % 4294967296) / 16 := (by rw [hv2]; exact c_iushr _ _ 4 (by decide) (by decide))
  have B7 : (0 : Int) ≤ v2.toInt ∧ v2.toInt ≤ 268435455 := (by rw [q8]; exact k_divmodB (by decide) (by decide) (by decide))
  have q6 : v3.toInt = v2.toInt % 4 := (by rw [hv3]; exact c_mask _ _ 2 (by decide) (by decide))
  have B5 : (0 : Int) ≤ v3.toInt ∧ v3.toInt ≤ 3 := (by rw [q6]; exact k_modB (by decide))
  rcases (by omega : v3.toInt = 0 ∨ v3.toInt = 1 ∨ v3.toInt = 2 ∨ v3.toInt = 3) with hq | hq | hq | hq
  · exact Or.inl (Int32.toInt_inj.mp hq)
  · exact Or.inr (Or.inl (Int32.toInt_inj.mp hq))
  · exact Or.inr (Or.inr (Or.inl (Int32.toInt_inj.mp hq)))
  · exact Or.inr (Or.inr (Or.inr ((Int32.toInt_inj.mp hq))))
 rcases hs4 with rfl | rfl | rfl | rfl
 ·
  show KEnds p e below s _ _ _ s₁ (mkF m 11 #[iv i0, iv i1, iv i2, iv i3, iv v1, .unset, .unset, .unset, .unset, .unset, .unset, .unset, .unset, .unset] [(.int (0 : Int32))])
  refine k_istore X0 hx (hb hby at_11) (Ls' := #[iv i0, iv i1, iv i2, iv i3, iv v1, iv (0 : Int32), .unset, .unset, .unset, .unset, .unset, .unset, .unset, .unset]) rfl (pc' := 13) rfl ?_
  refine k_iloadN X0 hx (hb hby at_13) rfl (pc' := 14) rfl ?_
  refine k_bipush X0 hx (hb hby at_14) (pc' := 16) rfl (z := (15 : Int32)) rfl ?_
  refine k_iand X0 hx (hb hby at_16) (pc' := 17) rfl (fun v11 hv11 => ?_)
  refine k_istore X0 hx (hb hby at_17) (Ls' := #[iv i0, iv i1, iv i2, iv i3, iv v1, iv (0 : Int32), iv v11, .unset, .unset, .unset, .unset, .unset, .unset, .unset]) rfl (pc' := 19) rfl ?_
  refine k_iloadN X0 hx (hb hby at_19) rfl (pc' := 20) rfl ?_
  refine k_iconst X0 hx (hb hby at_20) (pc' := 21) rfl (z := (4 : Int32)) rfl ?_
  refine k_iushr X0 hx (hb hby at_21) (pc' := 22) rfl (fun v12 hv12 => ?_)
  refine k_iconst X0 hx (hb hby at_22) (pc' := 23) rfl (z := (3 : Int32)) rfl ?_
  refine k_iand X0 hx (hb hby at_23) (pc' := 24) rfl (fun v13 hv13 => ?_)
  have hs14 : v13 = (0 : Int32) ∨ v13 = (1 : Int32) ∨ v13 = (2 : Int32) ∨ v13 = (3 : Int32) := by
   have B19 : (-2147483648 : Int) ≤ i1.toInt ∧ i1.toInt ≤ 2147483647 := ⟨(rng32 i1).1, Int.le_of_lt_add_one (rng32 i1).2⟩
   have q18 : v12.toInt = (i1.toInt % 4294967296) / 16 := (by rw [hv12]; exact c_iushr _ _ 4 (by decide) (by decide))
   have B17 : (0 : Int) ≤ v12.toInt ∧ v12.toInt ≤ 268435455 := (by rw [q18]; exact k_divmodB (by decide) (by decide) (by decide))
   have q16 : v13.toInt = v12.toInt % 4 := (by rw [hv13]; exact c_mask _ _ 2 (by decide) (by decide))
   have B15 : (0 : Int) ≤ v13.toInt ∧ v13.toInt ≤ 3 := (by rw [q16]; exact k_modB (by decide))
   rcases (by omega : v13.toInt = 0 ∨ v13.toInt = 1 ∨ v13.toInt = 2 ∨ v13.toInt = 3) with hq | hq | hq | hq
   · exact Or.inl (Int32.toInt_inj.mp hq)
   · exact Or.inr (Or.inl (Int32.toInt_inj.mp hq))
   · exact Or.inr (Or.inr (Or.inl (Int32.toInt_inj.mp hq)))
   · exact Or.inr (Or.inr (Or.inr ((Int32.toInt_inj.mp hq))))
  rcases hs14 with rfl | rfl | rfl | rfl
  ·
   show KEnds p e below s _ _ _ s₁ (mkF m 24 #[iv i0, iv i1, iv i2, iv i3, iv v1, iv (0 : Int32), iv v11, .unset, .unset, .unset, .unset, .unset, .unset, .unset] [(.int (0 : Int32))])
   refine k_istore X0 hx (hb hby at_24) (Ls' := #[iv i0, iv i1, iv i2, iv i3, iv v1, iv (0 : Int32), iv v11, iv (0 : Int32), .unset, .unset, .unset, .unset, .unset, .unset]) rfl (pc' := 26) rfl ?_
   refine k_iloadN X0 hx (hb hby at_26) rfl (pc' := 27) rfl ?_
   refine k_bipush X0 hx (hb hby at_27) (pc' := 29) rfl (z := (31 : Int32)) rfl ?_
   refine k_iand X0 hx (hb hby at_29) (pc' := 30) rfl (fun v21 hv21 => ?_)
   refine k_istore X0 hx (hb hby at_30) (Ls' := #[iv i0, iv i1, iv i2, iv i3, iv v1, iv (0 : Int32), iv v11, iv (0 : Int32), iv v21, .unset, .unset, .unset, .unset, .unset]) rfl (pc' := 32) rfl ?_
   refine k_iloadN X0 hx (hb hby at_32) rfl (pc' := 33) rfl ?_
   refine k_ldc X0 hx hZ hown (hw _ (List.mem_of_getElem? (i := 0) rfl)) (hb hby at_33) (pc' := 35) rfl ?_
   refine k_iand X0 hx (hb hby at_35) (pc' := 36) rfl (fun v22 hv22 => ?_)
   refine k_istore X0 hx (hb hby at_36) (Ls' := #[iv i0, iv i1, iv i2, iv i3, iv v1, iv (0 : Int32), iv v11, iv (0 : Int32), iv v21, iv v22, .unset, .unset, .unset, .unset]) rfl (pc' := 38) rfl ?_
   refine k_newO X0 hx hZ hown (hw _ (List.mem_of_getElem? (i := 1) rfl)) (hw _ (List.mem_of_getElem? (i := 2) rfl)) (hw _ (List.mem_of_getElem? (i := 3) rfl)) e0 (hb hby at_38) (by decide) (by decide) (pc' := 41) rfl (fun T23 h23 b23 g23 X23 e23 E23 A23 D23 => ?_)
   have g_b23 : n0 ≤ b23 := Nat.le_trans Z0 (Nat.le_of_eq g23.symm)
   have Z23 : n0 ≤ h23.size := Nat.le_trans Z0 E23.1
   have F24 : Fld Z h23 b23 "com/example/dendrotick/dendrotick/VectorClock" "entries" "[I" .null := D23 (Or.inl (hw _ (List.mem_of_getElem? (i := 12) rfl))) (ty := (.array .int)) (by decide)
   have F25 : Fld Z h23 b23 "com/example/dendrotick/dendrotick/VectorClock" "work" "Lcom/example/dendrotick/dendrotick/ClockWork;" .null := D23 (Or.inr (hw _ (List.mem_of_getElem? (i := 14) rfl))) (ty := (.object "com/example/dendrotick/dendrotick/ClockWork")) (by decide)
   have F26 : Fld Z h23 b23 "com/example/dendrotick/dendrotick/VectorClock" "size" "I" (.int (0 : Int32)) := D23 (Or.inl (hw _ (List.mem_of_getElem? (i := 21) rfl))) (ty := .int) (by decide)
   refine k_dup X23 hx (hb hby at_41) rfl (pc' := 42) rfl ?_
   refine k_anull X23 hx (hb hby at_42) (pc' := 43) rfl ?_
   refine k_callI X23 hx hZ hown (a := b23) rfl (hw _ (List.mem_of_getElem? (i := 4) rfl)) (hw _ (List.mem_of_getElem? (i := 5) rfl)) (hw _ (List.mem_of_getElem? (i := 3) rfl)) (hw _ (List.mem_of_getElem? (i := 6) rfl)) rfl (by decide) (rm1_27 l Z a0 hw [] b23 h23 n0 Z23 A23 F24 F25 F26 g_b23) (by decide) (by decide) e23 (by rw [hml]; rfl) (argsL := [.null]) (rest := [(.ref b23)]) (lenOf pd_0 rfl) rfl (W := 1) (Nat.le_refl _) rfl (hb hby at_43) (by decide) (by decide) (pc' := 46) rfl (fun T40 L40 r40 X40 q40 => ?_)
   obtain ⟨N40, q40⟩ := q40
   have N40' := Fr.app N0 N40
   obtain ⟨b41, k42, rfl, F43, F44, F45, F46, F47, g_b41, lt48, Z49⟩ := q40
   show KEnds p e below s _ _ _ T40 (mkF m 46 #[iv i0, iv i1, iv i2, iv i3, iv v1, iv (0 : Int32), iv v11, iv (0 : Int32), iv v21, iv v22, .unset, .unset, .unset, .unset] [(.ref b23)])
   refine k_astore X40 hx (hb hby at_46) rfl (Ls' := #[iv i0, iv i1, iv i2, iv i3, iv v1, iv (0 : Int32), iv v11, iv (0 : Int32), iv v21, iv v22, rv b23, .unset, .unset, .unset]) rfl (pc' := 48) rfl ?_
   refine k_iload X40 hx (hb hby at_48) rfl (pc' := 50) rfl ?_
   refine k_iconst X40 hx (hb hby at_50) (pc' := 51) rfl (z := (1 : Int32)) rfl ?_
   refine k_icmp_lt X40 hx (hb hby at_51) (pn := 54) rfl (py := 61) (by decide) (fun _ => ?_) (fun hc => absurd (by decide) hc)
   refine k_iload X40 hx (hb hby at_61) rfl (pc' := 63) rfl ?_
   refine k_iconst X40 hx (hb hby at_63) (pc' := 64) rfl (z := (2 : Int32)) rfl ?_
   refine k_icmp_lt X40 hx (hb hby at_64) (pn := 67) rfl (py := 74) (by decide) (fun _ => ?_) (fun hc => absurd (by decide) hc)
   refine k_iload X40 hx (hb hby at_74) rfl (pc' := 76) rfl ?_
   refine k_iconst X40 hx (hb hby at_76) (pc' := 77) rfl (z := (3 : Int32)) rfl ?_
   refine k_icmp_lt X40 hx (hb hby at_77) (pn := 80) rfl (py := 87) (by decide) (fun _ => ?_) (fun hc => absurd (by decide) hc)
   refine k_iload X40 hx (hb hby at_87) rfl (pc' := 89) rfl ?_
   refine k_iconst X40 hx (hb hby at_89) (pc' := 90) rfl (z := (1 : Int32)) rfl ?_
   refine k_icmp_lt X40 hx (hb hby at_90) (pn := 93) rfl (py := 100) (by decide) (fun _ => ?_) (fun hc => absurd (by decide) hc)
   refine k_iload X40 hx (hb hby at_100) rfl (pc' := 102) rfl ?_
   refine k_iconst X40 hx (hb hby at_102) (pc' := 103) rfl (z := (2 : Int32)) rfl ?_
   refine k_icmp_lt X40 hx (hb hby at_103) (pn := 106) rfl (py := 113) (by decide) (fun _ => ?_) (fun hc => absurd (by decide) hc)
   refine k_iload X40 hx (hb hby at_113) rfl (pc' := 115) rfl ?_
   refine k_iconst X40 hx (hb hby at_115) (pc' := 116) rfl (z := (3 : Int32)) rfl ?_
   refine k_icmp_lt X40 hx (hb hby at_116) (pn := 119) rfl (py := 126) (by decide) (fun _ => ?_) (fun hc => absurd (by decide) hc)
   refine k_aload X40 hx (hb hby at_126) rfl rfl (pc' := 128) rfl ?_
   refine k_iload X40 hx (hb hby at_128) rfl (pc' := 130) rfl ?_
   have hp50 : ¬ v21 < (0 : Int32) := by
    intro hq51
    have B54 : (-2147483648 : Int) ≤ i2.toInt ∧ i2.toInt ≤ 2147483647 := ⟨(rng32 i2).1, Int.le_of_lt_add_one (rng32 i2).2⟩
    have q53 : v21.toInt = i2.toInt % 32 := (by rw [hv21]; exact c_mask _ _ 5 (by decide) (by decide))
    have B52 : (0 : Int) ≤ v21.toInt ∧ v21.toInt ≤ 31 := (by rw [q53]; exact k_modB (by decide))
    have B55 : (0 : Int) ≤ v21.toInt ∧ v21.toInt ≤ -1 := ⟨B52.1, k_lt hq51 (by decide)⟩
    omega
   refine k_callV X40 hx hZ hown (a := b23) (hw _ (List.mem_of_getElem? (i := 15) rfl)) (hw _ (List.mem_of_getElem? (i := 16) rfl)) (hw _ (List.mem_of_getElem? (i := 18) rfl)) (hw _ (List.mem_of_getElem? (i := 17) rfl)) (hw _ (List.mem_of_getElem? (i := 3) rfl)) (hw _ (List.mem_of_getElem? (i := 19) rfl)) (by decide) F43 (rm3_56 l Z a0 hw [] b23 v21 b41 k42 (fun _ => 0) T40.heap n0 Z49 F43 F44 F45 F46 F47 lt48 hp50 (by decide) (fun _ _ => rfl)) (by decide) (by decide) rfl (by rw [hml]; rfl) (argsL := [(.int v21)]) (rest := []) (lenOf pd_1 rfl) rfl (W := 0) (Nat.le_refl _) rfl (hb hby at_130) (by decide) (by decide) (pc' := 133) rfl (fun T58 L58 r58 X58 q58 => ?_)
   obtain ⟨N58, e58, v59, rfl, hS60⟩ := q58
   have N58' := Fr.app N40' N58
   show KEnds p e below s _ _ _ T58 (mkF m 133 #[iv i0, iv i1, iv i2, iv i3, iv v1, iv (0 : Int32), iv v11, iv (0 : Int32), iv v21, iv v22, rv b23, .unset, .unset, .unset] [(.int v59)])
   refine k_iload X58 hx (hb hby at_133) rfl (pc' := 135) rfl ?_
   refine k_iload X58 hx (hb hby at_135) rfl (pc' := 137) rfl ?_
   refine k_iload X58 hx (hb hby at_137) rfl (pc' := 139) rfl ?_
   refine k_iload X58 hx (hb hby at_139) rfl (pc' := 141) rfl ?_
   refine k_iload X58 hx (hb hby at_141) rfl (pc' := 143) rfl ?_
   refine k_callS X58 hx hZ hown (hw _ (List.mem_of_getElem? (i := 22) rfl)) (hw _ (List.mem_of_getElem? (i := 23) rfl)) (hw _ (List.mem_of_getElem? (i := 24) rfl)) (hw _ (List.mem_of_getElem? (i := 25) rfl)) (by decide) (rm4_61 l Z a0 hw [] v21 v1 v11 T40.heap n0 Z49 ) (by decide) (by decide) e58 (by rw [hml]; rfl) (argsL := [(.int v21), (.int v1), (.int (0 : Int32)), (.int v11), (.int (0 : Int32))]) (rest := [(.int v59)]) (lenOf pd_2 rfl) rfl (W := 1) (Nat.le_refl _) rfl (hb hby at_143) (by decide) (by decide) (pc' := 146) rfl (fun T65 L65 r65 X65 q65 => ?_)
   obtain ⟨N65, e65, rfl⟩ := q65
   have N65' := Fr.app N58' N65
   show KEnds p e below s _ _ _ T65 (mkF m 146 #[iv i0, iv i1, iv i2, iv i3, iv v1, iv (0 : Int32), iv v11, iv (0 : Int32), iv v21, iv v22, rv b23, .unset, .unset, .unset] ((.int (f4_61 v21 v1 v11)) :: (.int v59) :: []))
   obtain ⟨v66, hv66⟩ : ∃ z, z = f4_61 v21 v1 v11 := ⟨_, rfl⟩
   rw [← hv66]
   refine k_icmp_ne X65 hx (hb hby at_146) (pn := 149) rfl (py := 153) (by decide) (fun hc => absurd (by rw [hS60, hv66]; exact own_fin_0 v21 v1 v11 hp50 (by intro hq67; have B70 : (-2147483648 : Int) ≤ i2.toInt ∧ i2.toInt ≤ 2147483647 := ⟨(rng32 i2).1, Int.le_of_lt_add_one (rng32 i2).2⟩; have q69 : v21.toInt = i2.toInt % 32 := (by rw [hv21]; exact c_mask _ _ 5 (by decide) (by decide)); have B68 : (0 : Int) ≤ v21.toInt ∧ v21.toInt ≤ 31 := (by rw [q69]; exact k_modB (by decide)); have B73 : (-2147483648 : Int) ≤ i0.toInt ∧ i0.toInt ≤ 2147483647 := ⟨(rng32 i0).1, Int.le_of_lt_add_one (rng32 i0).2⟩; have q72 : v1.toInt = i0.toInt % 16 := (by rw [hv1]; exact c_mask _ _ 4 (by decide) (by decide)); have B71 : (0 : Int) ≤ v1.toInt ∧ v1.toInt ≤ 15 := (by rw [q72]; exact k_modB (by decide)); have B74 : (0 : Int) ≤ v1.toInt ∧ v1.toInt ≤ -1 := ⟨B71.1, k_lt hq67 (by decide)⟩; omega) (by intro hq75; have B78 : (-2147483648 : Int) ≤ i2.toInt ∧ i2.toInt ≤ 2147483647 := ⟨(rng32 i2).1, Int.le_of_lt_add_one (rng32 i2).2⟩; have q77 : v21.toInt = i2.toInt % 32 := (by rw [hv21]; exact c_mask _ _ 5 (by decide) (by decide)); have B76 : (0 : Int) ≤ v21.toInt ∧ v21.toInt ≤ 31 := (by rw [q77]; exact k_modB (by decide)); have B81 : (-2147483648 : Int) ≤ i1.toInt ∧ i1.toInt ≤ 2147483647 := ⟨(rng32 i1).1, Int.le_of_lt_add_one (rng32 i1).2⟩; have q80 : v11.toInt = i1.toInt % 16 := (by rw [hv11]; exact c_mask _ _ 4 (by decide) (by decide)); have B79 : (0 : Int) ≤ v11.toInt ∧ v11.toInt ≤ 15 := (by rw [q80]; exact k_modB (by decide)); have B82 : (0 : Int) ≤ v11.toInt ∧ v11.toInt ≤ -1 := ⟨B79.1, k_lt hq75 (by decide)⟩; omega)) hc) (fun _ => ?_)
   refine k_iconst X65 hx (hb hby at_149) (pc' := 150) rfl (z := (1 : Int32)) rfl ?_
   refine k_goto X65 hx (hb hby at_150) (pc' := 154) (by decide) ?_
   refine k_istore X65 hx (hb hby at_154) (Ls' := #[iv i0, iv i1, iv i2, iv i3, iv v1, iv (0 : Int32), iv v11, iv (0 : Int32), iv v21, iv v22, rv b23, iv (1 : Int32), .unset, .unset]) rfl (pc' := 156) rfl ?_
   refine k_aload X65 hx (hb hby at_156) rfl rfl (pc' := 158) rfl ?_
   refine k_iload X65 hx (hb hby at_158) rfl (pc' := 160) rfl ?_
   have hp83 : ¬ v22 < (0 : Int32) := by
    intro hq84
    have B87 : (-2147483648 : Int) ≤ i2.toInt ∧ i2.toInt ≤ 2147483647 := ⟨(rng32 i2).1, Int.le_of_lt_add_one (rng32 i2).2⟩
    have q86 : v21.toInt = i2.toInt % 32 := (by rw [hv21]; exact c_mask _ _ 5 (by decide) (by decide))
    have B85 : (0 : Int) ≤ v21.toInt ∧ v21.toInt ≤ 31 := (by rw [q86]; exact k_modB (by decide))
    have B90 : (-2147483648 : Int) ≤ i3.toInt ∧ i3.toInt ≤ 2147483647 := ⟨(rng32 i3).1, Int.le_of_lt_add_one (rng32 i3).2⟩
    have q89 : v22.toInt = i3.toInt % 2147483648 := (by rw [hv22]; exact c_mask _ _ 31 (by decide) (by decide))
    have B88 : (0 : Int) ≤ v22.toInt ∧ v22.toInt ≤ 2147483647 := (by rw [q89]; exact k_modB (by decide))
    have B91 : (0 : Int) ≤ v22.toInt ∧ v22.toInt ≤ -1 := ⟨B88.1, k_lt hq84 (by decide)⟩
    omega
   refine k_callV X65 hx hZ hown (a := b23) (hw _ (List.mem_of_getElem? (i := 15) rfl)) (hw _ (List.mem_of_getElem? (i := 16) rfl)) (hw _ (List.mem_of_getElem? (i := 18) rfl)) (hw _ (List.mem_of_getElem? (i := 17) rfl)) (hw _ (List.mem_of_getElem? (i := 3) rfl)) (hw _ (List.mem_of_getElem? (i := 19) rfl)) (by decide) F43 (rm3_56 l Z a0 hw [] b23 v22 b41 k42 (fun _ => 0) T40.heap n0 Z49 F43 F44 F45 F46 F47 lt48 hp83 (by decide) (fun _ _ => rfl)) (by decide) (by decide) e65 (by rw [hml]; rfl) (argsL := [(.int v22)]) (rest := []) (lenOf pd_1 rfl) rfl (W := 0) (Nat.le_refl _) rfl (hb hby at_160) (by decide) (by decide) (pc' := 163) rfl (fun T92 L92 r92 X92 q92 => ?_)
   obtain ⟨N92, e92, v93, rfl, hS94⟩ := q92
   have N92' := Fr.app N65' N92
   show KEnds p e below s _ _ _ T92 (mkF m 163 #[iv i0, iv i1, iv i2, iv i3, iv v1, iv (0 : Int32), iv v11, iv (0 : Int32), iv v21, iv v22, rv b23, iv (1 : Int32), .unset, .unset] [(.int v93)])
   refine k_iload X92 hx (hb hby at_163) rfl (pc' := 165) rfl ?_
   refine k_iload X92 hx (hb hby at_165) rfl (pc' := 167) rfl ?_
   refine k_iload X92 hx (hb hby at_167) rfl (pc' := 169) rfl ?_
   refine k_iload X92 hx (hb hby at_169) rfl (pc' := 171) rfl ?_
   refine k_iload X92 hx (hb hby at_171) rfl (pc' := 173) rfl ?_
   refine k_callS X92 hx hZ hown (hw _ (List.mem_of_getElem? (i := 22) rfl)) (hw _ (List.mem_of_getElem? (i := 23) rfl)) (hw _ (List.mem_of_getElem? (i := 24) rfl)) (hw _ (List.mem_of_getElem? (i := 25) rfl)) (by decide) (rm4_61 l Z a0 hw [] v22 v1 v11 T40.heap n0 Z49 ) (by decide) (by decide) e92 (by rw [hml]; rfl) (argsL := [(.int v22), (.int v1), (.int (0 : Int32)), (.int v11), (.int (0 : Int32))]) (rest := [(.int v93)]) (lenOf pd_2 rfl) rfl (W := 1) (Nat.le_refl _) rfl (hb hby at_173) (by decide) (by decide) (pc' := 176) rfl (fun T95 L95 r95 X95 q95 => ?_)
   obtain ⟨N95, e95, rfl⟩ := q95
   have N95' := Fr.app N92' N95
   show KEnds p e below s _ _ _ T95 (mkF m 176 #[iv i0, iv i1, iv i2, iv i3, iv v1, iv (0 : Int32), iv v11, iv (0 : Int32), iv v21, iv v22, rv b23, iv (1 : Int32), .unset, .unset] ((.int (f4_61 v22 v1 v11)) :: (.int v93) :: []))
   obtain ⟨v96, hv96⟩ : ∃ z, z = f4_61 v22 v1 v11 := ⟨_, rfl⟩
   rw [← hv96]
   refine k_icmp_ne X95 hx (hb hby at_176) (pn := 179) rfl (py := 183) (by decide) (fun hc => absurd (by rw [hS94, hv96]; exact own_fin_1 v22 v1 v11 hp83 (by intro hq97; have B100 : (-2147483648 : Int) ≤ i2.toInt ∧ i2.toInt ≤ 2147483647 := ⟨(rng32 i2).1, Int.le_of_lt_add_one (rng32 i2).2⟩; have q99 : v21.toInt = i2.toInt % 32 := (by rw [hv21]; exact c_mask _ _ 5 (by decide) (by decide)); have B98 : (0 : Int) ≤ v21.toInt ∧ v21.toInt ≤ 31 := (by rw [q99]; exact k_modB (by decide)); have B103 : (-2147483648 : Int) ≤ i3.toInt ∧ i3.toInt ≤ 2147483647 := ⟨(rng32 i3).1, Int.le_of_lt_add_one (rng32 i3).2⟩; have q102 : v22.toInt = i3.toInt % 2147483648 := (by rw [hv22]; exact c_mask _ _ 31 (by decide) (by decide)); have B101 : (0 : Int) ≤ v22.toInt ∧ v22.toInt ≤ 2147483647 := (by rw [q102]; exact k_modB (by decide)); have B106 : (-2147483648 : Int) ≤ i0.toInt ∧ i0.toInt ≤ 2147483647 := ⟨(rng32 i0).1, Int.le_of_lt_add_one (rng32 i0).2⟩; have q105 : v1.toInt = i0.toInt % 16 := (by rw [hv1]; exact c_mask _ _ 4 (by decide) (by decide)); have B104 : (0 : Int) ≤ v1.toInt ∧ v1.toInt ≤ 15 := (by rw [q105]; exact k_modB (by decide)); have B107 : (0 : Int) ≤ v1.toInt ∧ v1.toInt ≤ -1 := ⟨B104.1, k_lt hq97 (by decide)⟩; omega) (by intro hq108; have B111 : (-2147483648 : Int) ≤ i2.toInt ∧ i2.toInt ≤ 2147483647 := ⟨(rng32 i2).1, Int.le_of_lt_add_one (rng32 i2).2⟩; have q110 : v21.toInt = i2.toInt % 32 := (by rw [hv21]; exact c_mask _ _ 5 (by decide) (by decide)); have B109 : (0 : Int) ≤ v21.toInt ∧ v21.toInt ≤ 31 := (by rw [q110]; exact k_modB (by decide)); have B114 : (-2147483648 : Int) ≤ i3.toInt ∧ i3.toInt ≤ 2147483647 := ⟨(rng32 i3).1, Int.le_of_lt_add_one (rng32 i3).2⟩; have q113 : v22.toInt = i3.toInt % 2147483648 := (by rw [hv22]; exact c_mask _ _ 31 (by decide) (by decide)); have B112 : (0 : Int) ≤ v22.toInt ∧ v22.toInt ≤ 2147483647 := (by rw [q113]; exact k_modB (by decide)); have B117 : (-2147483648 : Int) ≤ i1.toInt ∧ i1.toInt ≤ 2147483647 := ⟨(rng32 i1).1, Int.le_of_lt_add_one (rng32 i1).2⟩; have q116 : v11.toInt = i1.toInt % 16 := (by rw [hv11]; exact c_mask _ _ 4 (by decide) (by decide)); have B115 : (0 : Int) ≤ v11.toInt ∧ v11.toInt ≤ 15 := (by rw [q116]; exact k_modB (by decide)); have B118 : (0 : Int) ≤ v11.toInt ∧ v11.toInt ≤ -1 := ⟨B115.1, k_lt hq108 (by decide)⟩; omega)) hc) (fun _ => ?_)
   refine k_iconst X95 hx (hb hby at_179) (pc' := 180) rfl (z := (1 : Int32)) rfl ?_
   refine k_goto X95 hx (hb hby at_180) (pc' := 184) (by decide) ?_
   refine k_istore X95 hx (hb hby at_184) (Ls' := #[iv i0, iv i1, iv i2, iv i3, iv v1, iv (0 : Int32), iv v11, iv (0 : Int32), iv v21, iv v22, rv b23, iv (1 : Int32), iv (1 : Int32), .unset]) rfl (pc' := 186) rfl ?_
   refine k_aload X95 hx (hb hby at_186) rfl rfl (pc' := 188) rfl ?_
   refine k_iload X95 hx (hb hby at_188) rfl (pc' := 190) rfl ?_
   have hp119 : ¬ v1 < (0 : Int32) := by
    intro hq120
    have B123 : (-2147483648 : Int) ≤ i2.toInt ∧ i2.toInt ≤ 2147483647 := ⟨(rng32 i2).1, Int.le_of_lt_add_one (rng32 i2).2⟩
    have q122 : v21.toInt = i2.toInt % 32 := (by rw [hv21]; exact c_mask _ _ 5 (by decide) (by decide))
    have B121 : (0 : Int) ≤ v21.toInt ∧ v21.toInt ≤ 31 := (by rw [q122]; exact k_modB (by decide))
    have B126 : (-2147483648 : Int) ≤ i3.toInt ∧ i3.toInt ≤ 2147483647 := ⟨(rng32 i3).1, Int.le_of_lt_add_one (rng32 i3).2⟩
    have q125 : v22.toInt = i3.toInt % 2147483648 := (by rw [hv22]; exact c_mask _ _ 31 (by decide) (by decide))
    have B124 : (0 : Int) ≤ v22.toInt ∧ v22.toInt ≤ 2147483647 := (by rw [q125]; exact k_modB (by decide))
    have B129 : (-2147483648 : Int) ≤ i0.toInt ∧ i0.toInt ≤ 2147483647 := ⟨(rng32 i0).1, Int.le_of_lt_add_one (rng32 i0).2⟩
    have q128 : v1.toInt = i0.toInt % 16 := (by rw [hv1]; exact c_mask _ _ 4 (by decide) (by decide))
    have B127 : (0 : Int) ≤ v1.toInt ∧ v1.toInt ≤ 15 := (by rw [q128]; exact k_modB (by decide))
    have B130 : (0 : Int) ≤ v1.toInt ∧ v1.toInt ≤ -1 := ⟨B127.1, k_lt hq120 (by decide)⟩
    omega
   refine k_callV X95 hx hZ hown (a := b23) (hw _ (List.mem_of_getElem? (i := 15) rfl)) (hw _ (List.mem_of_getElem? (i := 16) rfl)) (hw _ (List.mem_of_getElem? (i := 18) rfl)) (hw _ (List.mem_of_getElem? (i := 17) rfl)) (hw _ (List.mem_of_getElem? (i := 3) rfl)) (hw _ (List.mem_of_getElem? (i := 19) rfl)) (by decide) F43 (rm3_56 l Z a0 hw [] b23 v1 b41 k42 (fun _ => 0) T40.heap n0 Z49 F43 F44 F45 F46 F47 lt48 hp119 (by decide) (fun _ _ => rfl)) (by decide) (by decide) e95 (by rw [hml]; rfl) (argsL := [(.int v1)]) (rest := []) (lenOf pd_1 rfl) rfl (W := 0) (Nat.le_refl _) rfl (hb hby at_190) (by decide) (by decide) (pc' := 193) rfl (fun T131 L131 r131 X131 q131 => ?_)
   obtain ⟨N131, e131, v132, rfl, hS133⟩ := q131
   have N131' := Fr.app N95' N131
   show KEnds p e below s _ _ _ T131 (mkF m 193 #[iv i0, iv i1, iv i2, iv i3, iv v1, iv (0 : Int32), iv v11, iv (0 : Int32), iv v21, iv v22, rv b23, iv (1 : Int32), iv (1 : Int32), .unset] [(.int v132)])
   refine k_iload X131 hx (hb hby at_193) rfl (pc' := 195) rfl ?_
   refine k_iload X131 hx (hb hby at_195) rfl (pc' := 197) rfl ?_
   refine k_iload X131 hx (hb hby at_197) rfl (pc' := 199) rfl ?_
   refine k_iload X131 hx (hb hby at_199) rfl (pc' := 201) rfl ?_
   refine k_iload X131 hx (hb hby at_201) rfl (pc' := 203) rfl ?_
   refine k_callS X131 hx hZ hown (hw _ (List.mem_of_getElem? (i := 22) rfl)) (hw _ (List.mem_of_getElem? (i := 23) rfl)) (hw _ (List.mem_of_getElem? (i := 24) rfl)) (hw _ (List.mem_of_getElem? (i := 25) rfl)) (by decide) (rm4_134 l Z a0 hw [] v1 v11 T40.heap n0 Z49 ) (by decide) (by decide) e131 (by rw [hml]; rfl) (argsL := [(.int v1), (.int v1), (.int (0 : Int32)), (.int v11), (.int (0 : Int32))]) (rest := [(.int v132)]) (lenOf pd_2 rfl) rfl (W := 1) (Nat.le_refl _) rfl (hb hby at_203) (by decide) (by decide) (pc' := 206) rfl (fun T136 L136 r136 X136 q136 => ?_)
   obtain ⟨N136, e136, rfl⟩ := q136
   have N136' := Fr.app N131' N136
   show KEnds p e below s _ _ _ T136 (mkF m 206 #[iv i0, iv i1, iv i2, iv i3, iv v1, iv (0 : Int32), iv v11, iv (0 : Int32), iv v21, iv v22, rv b23, iv (1 : Int32), iv (1 : Int32), .unset] ((.int (f4_134 v1 v11)) :: (.int v132) :: []))
   obtain ⟨v137, hv137⟩ : ∃ z, z = f4_134 v1 v11 := ⟨_, rfl⟩
   rw [← hv137]
   refine k_icmp_ne X136 hx (hb hby at_206) (pn := 209) rfl (py := 213) (by decide) (fun hc => absurd (by rw [hS133, hv137]; exact own_fin_2 v1 v11 hp119 hp119 (by intro hq138; have B141 : (-2147483648 : Int) ≤ i2.toInt ∧ i2.toInt ≤ 2147483647 := ⟨(rng32 i2).1, Int.le_of_lt_add_one (rng32 i2).2⟩; have q140 : v21.toInt = i2.toInt % 32 := (by rw [hv21]; exact c_mask _ _ 5 (by decide) (by decide)); have B139 : (0 : Int) ≤ v21.toInt ∧ v21.toInt ≤ 31 := (by rw [q140]; exact k_modB (by decide)); have B144 : (-2147483648 : Int) ≤ i3.toInt ∧ i3.toInt ≤ 2147483647 := ⟨(rng32 i3).1, Int.le_of_lt_add_one (rng32 i3).2⟩; have q143 : v22.toInt = i3.toInt % 2147483648 := (by rw [hv22]; exact c_mask _ _ 31 (by decide) (by decide)); have B142 : (0 : Int) ≤ v22.toInt ∧ v22.toInt ≤ 2147483647 := (by rw [q143]; exact k_modB (by decide)); have B147 : (-2147483648 : Int) ≤ i0.toInt ∧ i0.toInt ≤ 2147483647 := ⟨(rng32 i0).1, Int.le_of_lt_add_one (rng32 i0).2⟩; have q146 : v1.toInt = i0.toInt % 16 := (by rw [hv1]; exact c_mask _ _ 4 (by decide) (by decide)); have B145 : (0 : Int) ≤ v1.toInt ∧ v1.toInt ≤ 15 := (by rw [q146]; exact k_modB (by decide)); have B150 : (-2147483648 : Int) ≤ i1.toInt ∧ i1.toInt ≤ 2147483647 := ⟨(rng32 i1).1, Int.le_of_lt_add_one (rng32 i1).2⟩; have q149 : v11.toInt = i1.toInt % 16 := (by rw [hv11]; exact c_mask _ _ 4 (by decide) (by decide)); have B148 : (0 : Int) ≤ v11.toInt ∧ v11.toInt ≤ 15 := (by rw [q149]; exact k_modB (by decide)); have B151 : (0 : Int) ≤ v11.toInt ∧ v11.toInt ≤ -1 := ⟨B148.1, k_lt hq138 (by decide)⟩; omega)) hc) (fun _ => ?_)
   refine k_iconst X136 hx (hb hby at_209) (pc' := 210) rfl (z := (1 : Int32)) rfl ?_
   refine k_goto X136 hx (hb hby at_210) (pc' := 214) (by decide) ?_
   refine k_istore X136 hx (hb hby at_214) (Ls' := #[iv i0, iv i1, iv i2, iv i3, iv v1, iv (0 : Int32), iv v11, iv (0 : Int32), iv v21, iv v22, rv b23, iv (1 : Int32), iv (1 : Int32), iv (1 : Int32)]) rfl (pc' := 216) rfl ?_
   refine k_iload X136 hx (hb hby at_216) rfl (pc' := 218) rfl ?_
   refine k_if_eq X136 hx (hb hby at_218) (pn := 221) rfl (py := 235) (by decide) (fun hc => absurd hc (by decide)) (fun _ => ?_)
   refine k_iload X136 hx (hb hby at_221) rfl (pc' := 223) rfl ?_
   refine k_if_eq X136 hx (hb hby at_223) (pn := 226) rfl (py := 235) (by decide) (fun hc => absurd hc (by decide)) (fun _ => ?_)
   refine k_iload X136 hx (hb hby at_226) rfl (pc' := 228) rfl ?_
   refine k_if_eq X136 hx (hb hby at_228) (pn := 231) rfl (py := 235) (by decide) (fun hc => absurd hc (by decide)) (fun _ => ?_)
   refine k_iconst X136 hx (hb hby at_231) (pc' := 232) rfl (z := (1 : Int32)) rfl ?_
   refine k_goto X136 hx (hb hby at_232) (pc' := 236) (by decide) ?_
   exact k_retN X136 hx (t := .boolean) Bd.returns (by simp) (hb hby at_236) hlk (by decide) (by decide) (z' := (1 : Int32)) rfl ⟨rfl, N136'⟩
  ·
   show KEnds p e below s _ _ _ s₁ (mkF m 24 #[iv i0, iv i1, iv i2, iv i3, iv v1, iv (0 : Int32), iv v11, .unset, .unset, .unset, .unset, .unset, .unset, .unset] [(.int (1 : Int32))])
   refine k_istore X0 hx (hb hby at_24) (Ls' := #[iv i0, iv i1, iv i2, iv i3, iv v1, iv (0 : Int32), iv v11, iv (1 : Int32), .unset, .unset, .unset, .unset, .unset, .unset]) rfl (pc' := 26) rfl ?_
   refine k_iloadN X0 hx (hb hby at_26) rfl (pc' := 27) rfl ?_
   refine k_bipush X0 hx (hb hby at_27) (pc' := 29) rfl (z := (31 : Int32)) rfl ?_
   refine k_iand X0 hx (hb hby at_29) (pc' := 30) rfl (fun v153 hv153 => ?_)
   refine k_istore X0 hx (hb hby at_30) (Ls' := #[iv i0, iv i1, iv i2, iv i3, iv v1, iv (0 : Int32), iv v11, iv (1 : Int32), iv v153, .unset, .unset, .unset, .unset, .unset]) rfl (pc' := 32) rfl ?_
   refine k_iloadN X0 hx (hb hby at_32) rfl (pc' := 33) rfl ?_
   refine k_ldc X0 hx hZ hown (hw _ (List.mem_of_getElem? (i := 0) rfl)) (hb hby at_33) (pc' := 35) rfl ?_
   refine k_iand X0 hx (hb hby at_35) (pc' := 36) rfl (fun v154 hv154 => ?_)
   refine k_istore X0 hx (hb hby at_36) (Ls' := #[iv i0, iv i1, iv i2, iv i3, iv v1, iv (0 : Int32), iv v11, iv (1 : Int32), iv v153, iv v154, .unset, .unset, .unset, .unset]) rfl (pc' := 38) rfl ?_
   refine k_newO X0 hx hZ hown (hw _ (List.mem_of_getElem? (i := 1) rfl)) (hw _ (List.mem_of_getElem? (i := 2) rfl)) (hw _ (List.mem_of_getElem? (i := 3) rfl)) e0 (hb hby at_38) (by decide) (by decide) (pc' := 41) rfl (fun T155 h155 b155 g155 X155 e155 E155 A155 D155 => ?_)
   have g_b155 : n0 ≤ b155 := Nat.le_trans Z0 (Nat.le_of_eq g155.symm)
   have Z155 : n0 ≤ h155.size := Nat.le_trans Z0 E155.1
   have F156 : Fld Z h155 b155 "com/example/dendrotick/dendrotick/VectorClock" "entries" "[I" .null := D155 (Or.inl (hw _ (List.mem_of_getElem? (i := 12) rfl))) (ty := (.array .int)) (by decide)
   have F157 : Fld Z h155 b155 "com/example/dendrotick/dendrotick/VectorClock" "work" "Lcom/example/dendrotick/dendrotick/ClockWork;" .null := D155 (Or.inr (hw _ (List.mem_of_getElem? (i := 14) rfl))) (ty := (.object "com/example/dendrotick/dendrotick/ClockWork")) (by decide)
   have F158 : Fld Z h155 b155 "com/example/dendrotick/dendrotick/VectorClock" "size" "I" (.int (0 : Int32)) := D155 (Or.inl (hw _ (List.mem_of_getElem? (i := 21) rfl))) (ty := .int) (by decide)
   refine k_dup X155 hx (hb hby at_41) rfl (pc' := 42) rfl ?_
   refine k_anull X155 hx (hb hby at_42) (pc' := 43) rfl ?_
   refine k_callI X155 hx hZ hown (a := b155) rfl (hw _ (List.mem_of_getElem? (i := 4) rfl)) (hw _ (List.mem_of_getElem? (i := 5) rfl)) (hw _ (List.mem_of_getElem? (i := 3) rfl)) (hw _ (List.mem_of_getElem? (i := 6) rfl)) rfl (by decide) (rm1_27 l Z a0 hw [] b155 h155 n0 Z155 A155 F156 F157 F158 g_b155) (by decide) (by decide) e155 (by rw [hml]; rfl) (argsL := [.null]) (rest := [(.ref b155)]) (lenOf pd_0 rfl) rfl (W := 1) (Nat.le_refl _) rfl (hb hby at_43) (by decide) (by decide) (pc' := 46) rfl (fun T159 L159 r159 X159 q159 => ?_)
   obtain ⟨N159, q159⟩ := q159
   have N159' := Fr.app N0 N159
   obtain ⟨b160, k161, rfl, F162, F163, F164, F165, F166, g_b160, lt167, Z168⟩ := q159
   show KEnds p e below s _ _ _ T159 (mkF m 46 #[iv i0, iv i1, iv i2, iv i3, iv v1, iv (0 : Int32), iv v11, iv (1 : Int32), iv v153, iv v154, .unset, .unset, .unset, .unset] [(.ref b155)])
   refine k_astore X159 hx (hb hby at_46) rfl (Ls' := #[iv i0, iv i1, iv i2, iv i3, iv v1, iv (0 : Int32), iv v11, iv (1 : Int32), iv v153, iv v154, rv b155, .unset, .unset, .unset]) rfl (pc' := 48) rfl ?_
   refine k_iload X159 hx (hb hby at_48) rfl (pc' := 50) rfl ?_
   refine k_iconst X159 hx (hb hby at_50) (pc' := 51) rfl (z := (1 : Int32)) rfl ?_
   refine k_icmp_lt X159 hx (hb hby at_51) (pn := 54) rfl (py := 61) (by decide) (fun _ => ?_) (fun hc => absurd (by decide) hc)
   refine k_iload X159 hx (hb hby at_61) rfl (pc' := 63) rfl ?_
   refine k_iconst X159 hx (hb hby at_63) (pc' := 64) rfl (z := (2 : Int32)) rfl ?_
   refine k_icmp_lt X159 hx (hb hby at_64) (pn := 67) rfl (py := 74) (by decide) (fun _ => ?_) (fun hc => absurd (by decide) hc)
   refine k_iload X159 hx (hb hby at_74) rfl (pc' := 76) rfl ?_
   refine k_iconst X159 hx (hb hby at_76) (pc' := 77) rfl (z := (3 : Int32)) rfl ?_
   refine k_icmp_lt X159 hx (hb hby at_77) (pn := 80) rfl (py := 87) (by decide) (fun _ => ?_) (fun hc => absurd (by decide) hc)
   refine k_iload X159 hx (hb hby at_87) rfl (pc' := 89) rfl ?_
   refine k_iconst X159 hx (hb hby at_89) (pc' := 90) rfl (z := (1 : Int32)) rfl ?_
   refine k_icmp_lt X159 hx (hb hby at_90) (pn := 93) rfl (py := 100) (by decide) (fun hc => absurd hc (by decide)) (fun _ => ?_)
   refine k_aload X159 hx (hb hby at_93) rfl rfl (pc' := 95) rfl ?_
   refine k_iload X159 hx (hb hby at_95) rfl (pc' := 97) rfl ?_
   have hT592 : ¬ v11 < (0 : Int32) := (by intro hq593; have B596 : (-2147483648 : Int) ≤ i1.toInt ∧ i1.toInt ≤ 2147483647 := ⟨(rng32 i1).1, Int.le_of_lt_add_one (rng32 i1).2⟩; have q595 : v11.toInt = i1.toInt % 16 := (by rw [hv11]; exact c_mask _ _ 4 (by decide) (by decide)); have B594 : (0 : Int) ≤ v11.toInt ∧ v11.toInt ≤ 15 := (by rw [q595]; exact k_modB (by decide)); have B597 : (0 : Int) ≤ v11.toInt ∧ v11.toInt ≤ -1 := ⟨B594.1, k_lt hq593 (by decide)⟩; omega)
   have hT598 : ¬ (15 : Int32) < v11 := (by intro hq599; have B602 : (-2147483648 : Int) ≤ i1.toInt ∧ i1.toInt ≤ 2147483647 := ⟨(rng32 i1).1, Int.le_of_lt_add_one (rng32 i1).2⟩; have q601 : v11.toInt = i1.toInt % 16 := (by rw [hv11]; exact c_mask _ _ 4 (by decide) (by decide)); have B600 : (0 : Int) ≤ v11.toInt ∧ v11.toInt ≤ 15 := (by rw [q601]; exact k_modB (by decide)); have B603 : (16 : Int) ≤ v11.toInt ∧ v11.toInt ≤ 15 := ⟨k_gt hq599 (by decide), B600.2⟩; omega)
   refine k_callV X159 hx hZ hown (a := b155) (hw _ (List.mem_of_getElem? (i := 26) rfl)) (hw _ (List.mem_of_getElem? (i := 27) rfl)) (hw _ (List.mem_of_getElem? (i := 29) rfl)) (hw _ (List.mem_of_getElem? (i := 28) rfl)) (hw _ (List.mem_of_getElem? (i := 3) rfl)) (hw _ (List.mem_of_getElem? (i := 30) rfl)) (by decide) F162 (rm5_169 l Z a0 hw [] b155 b160 k161 (0 : Int32) (0 : Int32) v11 (fun _ => 0) T159.heap n0 Z168 F162 F163 F164 F165 F166 g_b155 g_b160 lt167 (by decide) (by decide) (by decide) (by decide) (fun _ _ => rfl) hT592 hT598) (by decide) (by decide) rfl (by rw [hml]; rfl) (argsL := [(.int v11)]) (rest := []) (lenOf pd_5 rfl) rfl (W := 0) (Nat.le_refl _) rfl (hb hby at_97) (by decide) (by decide) (pc' := 100) rfl (fun T591 L591 r591 X591 q591 => ?_)
   obtain ⟨N591, b591, k591, v604, v605, rfl, F606, F607, F608, F609, F610, g_b591, lt617, Z618, hI611, hI612, hI613, hI614, HZ615⟩ := q591
   have N591' := Fr.app N159' N591
   show KEnds p e below s _ _ _ T591 (mkF m 100 #[iv i0, iv i1, iv i2, iv i3, iv v1, iv (0 : Int32), iv v11, iv (1 : Int32), iv v153, iv v154, rv b155, .unset, .unset, .unset] [])
   refine k_iload X591 hx (hb hby at_100) rfl (pc' := 102) rfl ?_
   refine k_iconst X591 hx (hb hby at_102) (pc' := 103) rfl (z := (2 : Int32)) rfl ?_
   refine k_icmp_lt X591 hx (hb hby at_103) (pn := 106) rfl (py := 113) (by decide) (fun _ => ?_) (fun hc => absurd (by decide) hc)
   refine k_iload X591 hx (hb hby at_113) rfl (pc' := 115) rfl ?_
   refine k_iconst X591 hx (hb hby at_115) (pc' := 116) rfl (z := (3 : Int32)) rfl ?_
   refine k_icmp_lt X591 hx (hb hby at_116) (pn := 119) rfl (py := 126) (by decide) (fun _ => ?_) (fun hc => absurd (by decide) hc)
   refine k_aload X591 hx (hb hby at_126) rfl rfl (pc' := 128) rfl ?_
   refine k_iload X591 hx (hb hby at_128) rfl (pc' := 130) rfl ?_
   have hp619 : ¬ v153 < (0 : Int32) := by
    intro hq620
    have B623 : (-2147483648 : Int) ≤ i1.toInt ∧ i1.toInt ≤ 2147483647 := ⟨(rng32 i1).1, Int.le_of_lt_add_one (rng32 i1).2⟩
    have q622 : v11.toInt = i1.toInt % 16 := (by rw [hv11]; exact c_mask _ _ 4 (by decide) (by decide))
    have B621 : (0 : Int) ≤ v11.toInt ∧ v11.toInt ≤ 15 := (by rw [q622]; exact k_modB (by decide))
    have B624 : (0 : Int) ≤ v604.toInt ∧ v604.toInt ≤ 30 := ⟨k_ge hI611 (by decide), k_le hI612 (by decide)⟩
    have B625 : (0 : Int) ≤ v605.toInt ∧ v605.toInt ≤ 2147483647 := ⟨k_ge hI613 (by decide), Int.le_of_lt_add_one (rng32 v605).2⟩
    have q626 := hI614; rw [Int32.lt_iff_toInt_lt] at q626
    have B629 : (-2147483648 : Int) ≤ i2.toInt ∧ i2.toInt ≤ 2147483647 := ⟨(rng32 i2).1, Int.le_of_lt_add_one (rng32 i2).2⟩
    have q628 : v153.toInt = i2.toInt % 32 := (by rw [hv153]; exact c_mask _ _ 5 (by decide) (by decide))
    have B627 : (0 : Int) ≤ v153.toInt ∧ v153.toInt ≤ 31 := (by rw [q628]; exact k_modB (by decide))
    have B630 : (0 : Int) ≤ v153.toInt ∧ v153.toInt ≤ -1 := ⟨B627.1, k_lt hq620 (by decide)⟩
    omega
   refine k_callV X591 hx hZ hown (a := b155) (hw _ (List.mem_of_getElem? (i := 15) rfl)) (hw _ (List.mem_of_getElem? (i := 16) rfl)) (hw _ (List.mem_of_getElem? (i := 18) rfl)) (hw _ (List.mem_of_getElem? (i := 17) rfl)) (hw _ (List.mem_of_getElem? (i := 3) rfl)) (hw _ (List.mem_of_getElem? (i := 19) rfl)) (by decide) F606 (rm3_631 l Z a0 hw [] b155 v153 b591 v605 k591 v604 (updF (fun _ => 0) v11.toNatClampNeg ((fun _ => 0) v11.toNatClampNeg + 1)) T591.heap n0 Z618 F606 F607 F608 F609 F610 lt617 hp619 hI614 HZ615) (by decide) (by decide) rfl (by rw [hml]; rfl) (argsL := [(.int v153)]) (rest := []) (lenOf pd_1 rfl) rfl (W := 0) (Nat.le_refl _) rfl (hb hby at_130) (by decide) (by decide) (pc' := 133) rfl (fun T650 L650 r650 X650 q650 => ?_)
   obtain ⟨N650, e650, v651, rfl, hS652⟩ := q650
   have N650' := Fr.app N591' N650
   show KEnds p e below s _ _ _ T650 (mkF m 133 #[iv i0, iv i1, iv i2, iv i3, iv v1, iv (0 : Int32), iv v11, iv (1 : Int32), iv v153, iv v154, rv b155, .unset, .unset, .unset] [(.int v651)])
   refine k_iload X650 hx (hb hby at_133) rfl (pc' := 135) rfl ?_
   refine k_iload X650 hx (hb hby at_135) rfl (pc' := 137) rfl ?_
   refine k_iload X650 hx (hb hby at_137) rfl (pc' := 139) rfl ?_
   refine k_iload X650 hx (hb hby at_139) rfl (pc' := 141) rfl ?_
   refine k_iload X650 hx (hb hby at_141) rfl (pc' := 143) rfl ?_
   refine k_callS X650 hx hZ hown (hw _ (List.mem_of_getElem? (i := 22) rfl)) (hw _ (List.mem_of_getElem? (i := 23) rfl)) (hw _ (List.mem_of_getElem? (i := 24) rfl)) (hw _ (List.mem_of_getElem? (i := 25) rfl)) (by decide) (rm4_653 l Z a0 hw [] v153 v1 v11 T591.heap n0 Z618 ) (by decide) (by decide) e650 (by rw [hml]; rfl) (argsL := [(.int v153), (.int v1), (.int (0 : Int32)), (.int v11), (.int (1 : Int32))]) (rest := [(.int v651)]) (lenOf pd_2 rfl) rfl (W := 1) (Nat.le_refl _) rfl (hb hby at_143) (by decide) (by decide) (pc' := 146) rfl (fun T657 L657 r657 X657 q657 => ?_)
   obtain ⟨N657, e657, rfl⟩ := q657
   have N657' := Fr.app N650' N657
   show KEnds p e below s _ _ _ T657 (mkF m 146 #[iv i0, iv i1, iv i2, iv i3, iv v1, iv (0 : Int32), iv v11, iv (1 : Int32), iv v153, iv v154, rv b155, .unset, .unset, .unset] ((.int (f4_653 v153 v1 v11)) :: (.int v651) :: []))
   obtain ⟨v658, hv658⟩ : ∃ z, z = f4_653 v153 v1 v11 := ⟨_, rfl⟩
   rw [← hv658]
   refine k_icmp_ne X657 hx (hb hby at_146) (pn := 149) rfl (py := 153) (by decide) (fun hc => absurd (by rw [hS652, hv658]; exact own_fin_3 v153 v1 v11 hp619 (by intro hq659; have B662 : (-2147483648 : Int) ≤ i1.toInt ∧ i1.toInt ≤ 2147483647 := ⟨(rng32 i1).1, Int.le_of_lt_add_one (rng32 i1).2⟩; have q661 : v11.toInt = i1.toInt % 16 := (by rw [hv11]; exact c_mask _ _ 4 (by decide) (by decide)); have B660 : (0 : Int) ≤ v11.toInt ∧ v11.toInt ≤ 15 := (by rw [q661]; exact k_modB (by decide)); have B663 : (0 : Int) ≤ v604.toInt ∧ v604.toInt ≤ 30 := ⟨k_ge hI611 (by decide), k_le hI612 (by decide)⟩; have B664 : (0 : Int) ≤ v605.toInt ∧ v605.toInt ≤ 2147483647 := ⟨k_ge hI613 (by decide), Int.le_of_lt_add_one (rng32 v605).2⟩; have q665 := hI614; rw [Int32.lt_iff_toInt_lt] at q665; have B668 : (-2147483648 : Int) ≤ i2.toInt ∧ i2.toInt ≤ 2147483647 := ⟨(rng32 i2).1, Int.le_of_lt_add_one (rng32 i2).2⟩; have q667 : v153.toInt = i2.toInt % 32 := (by rw [hv153]; exact c_mask _ _ 5 (by decide) (by decide)); have B666 : (0 : Int) ≤ v153.toInt ∧ v153.toInt ≤ 31 := (by rw [q667]; exact k_modB (by decide)); have B671 : (-2147483648 : Int) ≤ i0.toInt ∧ i0.toInt ≤ 2147483647 := ⟨(rng32 i0).1, Int.le_of_lt_add_one (rng32 i0).2⟩; have q670 : v1.toInt = i0.toInt % 16 := (by rw [hv1]; exact c_mask _ _ 4 (by decide) (by decide)); have B669 : (0 : Int) ≤ v1.toInt ∧ v1.toInt ≤ 15 := (by rw [q670]; exact k_modB (by decide)); have B672 : (0 : Int) ≤ v1.toInt ∧ v1.toInt ≤ -1 := ⟨B669.1, k_lt hq659 (by decide)⟩; omega) hT592) hc) (fun _ => ?_)
   refine k_iconst X657 hx (hb hby at_149) (pc' := 150) rfl (z := (1 : Int32)) rfl ?_
   refine k_goto X657 hx (hb hby at_150) (pc' := 154) (by decide) ?_
   refine k_istore X657 hx (hb hby at_154) (Ls' := #[iv i0, iv i1, iv i2, iv i3, iv v1, iv (0 : Int32), iv v11, iv (1 : Int32), iv v153, iv v154, rv b155, iv (1 : Int32), .unset, .unset]) rfl (pc' := 156) rfl ?_
   refine k_aload X657 hx (hb hby at_156) rfl rfl (pc' := 158) rfl ?_
   refine k_iload X657 hx (hb hby at_158) rfl (pc' := 160) rfl ?_
   have hp673 : ¬ v154 < (0 : Int32) := by
    intro hq674
    have B677 : (-2147483648 : Int) ≤ i1.toInt ∧ i1.toInt ≤ 2147483647 := ⟨(rng32 i1).1, Int.le_of_lt_add_one (rng32 i1).2⟩
    have q676 : v11.toInt = i1.toInt % 16 := (by rw [hv11]; exact c_mask _ _ 4 (by decide) (by decide))
    have B675 : (0 : Int) ≤ v11.toInt ∧ v11.toInt ≤ 15 := (by rw [q676]; exact k_modB (by decide))
    have B678 : (0 : Int) ≤ v604.toInt ∧ v604.toInt ≤ 30 := ⟨k_ge hI611 (by decide), k_le hI612 (by decide)⟩
    have B679 : (0 : Int) ≤ v605.toInt ∧ v605.toInt ≤ 2147483647 := ⟨k_ge hI613 (by decide), Int.le_of_lt_add_one (rng32 v605).2⟩
    have q680 := hI614; rw [Int32.lt_iff_toInt_lt] at q680
    have B683 : (-2147483648 : Int) ≤ i2.toInt ∧ i2.toInt ≤ 2147483647 := ⟨(rng32 i2).1, Int.le_of_lt_add_one (rng32 i2).2⟩
    have q682 : v153.toInt = i2.toInt % 32 := (by rw [hv153]; exact c_mask _ _ 5 (by decide) (by decide))
    have B681 : (0 : Int) ≤ v153.toInt ∧ v153.toInt ≤ 31 := (by rw [q682]; exact k_modB (by decide))
    have B686 : (-2147483648 : Int) ≤ i3.toInt ∧ i3.toInt ≤ 2147483647 := ⟨(rng32 i3).1, Int.le_of_lt_add_one (rng32 i3).2⟩
    have q685 : v154.toInt = i3.toInt % 2147483648 := (by rw [hv154]; exact c_mask _ _ 31 (by decide) (by decide))
    have B684 : (0 : Int) ≤ v154.toInt ∧ v154.toInt ≤ 2147483647 := (by rw [q685]; exact k_modB (by decide))
    have B687 : (0 : Int) ≤ v154.toInt ∧ v154.toInt ≤ -1 := ⟨B684.1, k_lt hq674 (by decide)⟩
    omega
   refine k_callV X657 hx hZ hown (a := b155) (hw _ (List.mem_of_getElem? (i := 15) rfl)) (hw _ (List.mem_of_getElem? (i := 16) rfl)) (hw _ (List.mem_of_getElem? (i := 18) rfl)) (hw _ (List.mem_of_getElem? (i := 17) rfl)) (hw _ (List.mem_of_getElem? (i := 3) rfl)) (hw _ (List.mem_of_getElem? (i := 19) rfl)) (by decide) F606 (rm3_631 l Z a0 hw [] b155 v154 b591 v605 k591 v604 (updF (fun _ => 0) v11.toNatClampNeg ((fun _ => 0) v11.toNatClampNeg + 1)) T591.heap n0 Z618 F606 F607 F608 F609 F610 lt617 hp673 hI614 HZ615) (by decide) (by decide) e657 (by rw [hml]; rfl) (argsL := [(.int v154)]) (rest := []) (lenOf pd_1 rfl) rfl (W := 0) (Nat.le_refl _) rfl (hb hby at_160) (by decide) (by decide) (pc' := 163) rfl (fun T688 L688 r688 X688 q688 => ?_)
   obtain ⟨N688, e688, v689, rfl, hS690⟩ := q688
   have N688' := Fr.app N657' N688
   show KEnds p e below s _ _ _ T688 (mkF m 163 #[iv i0, iv i1, iv i2, iv i3, iv v1, iv (0 : Int32), iv v11, iv (1 : Int32), iv v153, iv v154, rv b155, iv (1 : Int32), .unset, .unset] [(.int v689)])
   refine k_iload X688 hx (hb hby at_163) rfl (pc' := 165) rfl ?_
   refine k_iload X688 hx (hb hby at_165) rfl (pc' := 167) rfl ?_
   refine k_iload X688 hx (hb hby at_167) rfl (pc' := 169) rfl ?_
   refine k_iload X688 hx (hb hby at_169) rfl (pc' := 171) rfl ?_
   refine k_iload X688 hx (hb hby at_171) rfl (pc' := 173) rfl ?_
   refine k_callS X688 hx hZ hown (hw _ (List.mem_of_getElem? (i := 22) rfl)) (hw _ (List.mem_of_getElem? (i := 23) rfl)) (hw _ (List.mem_of_getElem? (i := 24) rfl)) (hw _ (List.mem_of_getElem? (i := 25) rfl)) (by decide) (rm4_653 l Z a0 hw [] v154 v1 v11 T591.heap n0 Z618 ) (by decide) (by decide) e688 (by rw [hml]; rfl) (argsL := [(.int v154), (.int v1), (.int (0 : Int32)), (.int v11), (.int (1 : Int32))]) (rest := [(.int v689)]) (lenOf pd_2 rfl) rfl (W := 1) (Nat.le_refl _) rfl (hb hby at_173) (by decide) (by decide) (pc' := 176) rfl (fun T691 L691 r691 X691 q691 => ?_)
   obtain ⟨N691, e691, rfl⟩ := q691
   have N691' := Fr.app N688' N691
   show KEnds p e below s _ _ _ T691 (mkF m 176 #[iv i0, iv i1, iv i2, iv i3, iv v1, iv (0 : Int32), iv v11, iv (1 : Int32), iv v153, iv v154, rv b155, iv (1 : Int32), .unset, .unset] ((.int (f4_653 v154 v1 v11)) :: (.int v689) :: []))
   obtain ⟨v692, hv692⟩ : ∃ z, z = f4_653 v154 v1 v11 := ⟨_, rfl⟩
   rw [← hv692]
   refine k_icmp_ne X691 hx (hb hby at_176) (pn := 179) rfl (py := 183) (by decide) (fun hc => absurd (by rw [hS690, hv692]; exact own_fin_4 v154 v1 v11 hp673 (by intro hq693; have B696 : (-2147483648 : Int) ≤ i1.toInt ∧ i1.toInt ≤ 2147483647 := ⟨(rng32 i1).1, Int.le_of_lt_add_one (rng32 i1).2⟩; have q695 : v11.toInt = i1.toInt % 16 := (by rw [hv11]; exact c_mask _ _ 4 (by decide) (by decide)); have B694 : (0 : Int) ≤ v11.toInt ∧ v11.toInt ≤ 15 := (by rw [q695]; exact k_modB (by decide)); have B697 : (0 : Int) ≤ v604.toInt ∧ v604.toInt ≤ 30 := ⟨k_ge hI611 (by decide), k_le hI612 (by decide)⟩; have B698 : (0 : Int) ≤ v605.toInt ∧ v605.toInt ≤ 2147483647 := ⟨k_ge hI613 (by decide), Int.le_of_lt_add_one (rng32 v605).2⟩; have q699 := hI614; rw [Int32.lt_iff_toInt_lt] at q699; have B702 : (-2147483648 : Int) ≤ i2.toInt ∧ i2.toInt ≤ 2147483647 := ⟨(rng32 i2).1, Int.le_of_lt_add_one (rng32 i2).2⟩; have q701 : v153.toInt = i2.toInt % 32 := (by rw [hv153]; exact c_mask _ _ 5 (by decide) (by decide)); have B700 : (0 : Int) ≤ v153.toInt ∧ v153.toInt ≤ 31 := (by rw [q701]; exact k_modB (by decide)); have B705 : (-2147483648 : Int) ≤ i3.toInt ∧ i3.toInt ≤ 2147483647 := ⟨(rng32 i3).1, Int.le_of_lt_add_one (rng32 i3).2⟩; have q704 : v154.toInt = i3.toInt % 2147483648 := (by rw [hv154]; exact c_mask _ _ 31 (by decide) (by decide)); have B703 : (0 : Int) ≤ v154.toInt ∧ v154.toInt ≤ 2147483647 := (by rw [q704]; exact k_modB (by decide)); have B708 : (-2147483648 : Int) ≤ i0.toInt ∧ i0.toInt ≤ 2147483647 := ⟨(rng32 i0).1, Int.le_of_lt_add_one (rng32 i0).2⟩; have q707 : v1.toInt = i0.toInt % 16 := (by rw [hv1]; exact c_mask _ _ 4 (by decide) (by decide)); have B706 : (0 : Int) ≤ v1.toInt ∧ v1.toInt ≤ 15 := (by rw [q707]; exact k_modB (by decide)); have B709 : (0 : Int) ≤ v1.toInt ∧ v1.toInt ≤ -1 := ⟨B706.1, k_lt hq693 (by decide)⟩; omega) hT592) hc) (fun _ => ?_)
   refine k_iconst X691 hx (hb hby at_179) (pc' := 180) rfl (z := (1 : Int32)) rfl ?_
   refine k_goto X691 hx (hb hby at_180) (pc' := 184) (by decide) ?_
   refine k_istore X691 hx (hb hby at_184) (Ls' := #[iv i0, iv i1, iv i2, iv i3, iv v1, iv (0 : Int32), iv v11, iv (1 : Int32), iv v153, iv v154, rv b155, iv (1 : Int32), iv (1 : Int32), .unset]) rfl (pc' := 186) rfl ?_
   refine k_aload X691 hx (hb hby at_186) rfl rfl (pc' := 188) rfl ?_
   refine k_iload X691 hx (hb hby at_188) rfl (pc' := 190) rfl ?_
   have hp710 : ¬ v1 < (0 : Int32) := by
    intro hq711
    have B714 : (-2147483648 : Int) ≤ i1.toInt ∧ i1.toInt ≤ 2147483647 := ⟨(rng32 i1).1, Int.le_of_lt_add_one (rng32 i1).2⟩
    have q713 : v11.toInt = i1.toInt % 16 := (by rw [hv11]; exact c_mask _ _ 4 (by decide) (by decide))
    have B712 : (0 : Int) ≤ v11.toInt ∧ v11.toInt ≤ 15 := (by rw [q713]; exact k_modB (by decide))
    have B715 : (0 : Int) ≤ v604.toInt ∧ v604.toInt ≤ 30 := ⟨k_ge hI611 (by decide), k_le hI612 (by decide)⟩
    have B716 : (0 : Int) ≤ v605.toInt ∧ v605.toInt ≤ 2147483647 := ⟨k_ge hI613 (by decide), Int.le_of_lt_add_one (rng32 v605).2⟩
    have q717 := hI614; rw [Int32.lt_iff_toInt_lt] at q717
    have B720 : (-2147483648 : Int) ≤ i2.toInt ∧ i2.toInt ≤ 2147483647 := ⟨(rng32 i2).1, Int.le_of_lt_add_one (rng32 i2).2⟩
    have q719 : v153.toInt = i2.toInt % 32 := (by rw [hv153]; exact c_mask _ _ 5 (by decide) (by decide))
    have B718 : (0 : Int) ≤ v153.toInt ∧ v153.toInt ≤ 31 := (by rw [q719]; exact k_modB (by decide))
    have B723 : (-2147483648 : Int) ≤ i3.toInt ∧ i3.toInt ≤ 2147483647 := ⟨(rng32 i3).1, Int.le_of_lt_add_one (rng32 i3).2⟩
    have q722 : v154.toInt = i3.toInt % 2147483648 := (by rw [hv154]; exact c_mask _ _ 31 (by decide) (by decide))
    have B721 : (0 : Int) ≤ v154.toInt ∧ v154.toInt ≤ 2147483647 := (by rw [q722]; exact k_modB (by decide))
    have B726 : (-2147483648 : Int) ≤ i0.toInt ∧ i0.toInt ≤ 2147483647 := ⟨(rng32 i0).1, Int.le_of_lt_add_one (rng32 i0).2⟩
    have q725 : v1.toInt = i0.toInt % 16 := (by rw [hv1]; exact c_mask _ _ 4 (by decide) (by decide))
    have B724 : (0 : Int) ≤ v1.toInt ∧ v1.toInt ≤ 15 := (by rw [q725]; exact k_modB (by decide))
    have B727 : (0 : Int) ≤ v1.toInt ∧ v1.toInt ≤ -1 := ⟨B724.1, k_lt hq711 (by decide)⟩
    omega
   refine k_callV X691 hx hZ hown (a := b155) (hw _ (List.mem_of_getElem? (i := 15) rfl)) (hw _ (List.mem_of_getElem? (i := 16) rfl)) (hw _ (List.mem_of_getElem? (i := 18) rfl)) (hw _ (List.mem_of_getElem? (i := 17) rfl)) (hw _ (List.mem_of_getElem? (i := 3) rfl)) (hw _ (List.mem_of_getElem? (i := 19) rfl)) (by decide) F606 (rm3_631 l Z a0 hw [] b155 v1 b591 v605 k591 v604 (updF (fun _ => 0) v11.toNatClampNeg ((fun _ => 0) v11.toNatClampNeg + 1)) T591.heap n0 Z618 F606 F607 F608 F609 F610 lt617 hp710 hI614 HZ615) (by decide) (by decide) e691 (by rw [hml]; rfl) (argsL := [(.int v1)]) (rest := []) (lenOf pd_1 rfl) rfl (W := 0) (Nat.le_refl _) rfl (hb hby at_190) (by decide) (by decide) (pc' := 193) rfl (fun T728 L728 r728 X728 q728 => ?_)
   obtain ⟨N728, e728, v729, rfl, hS730⟩ := q728
   have N728' := Fr.app N691' N728
   show KEnds p e below s _ _ _ T728 (mkF m 193 #[iv i0, iv i1, iv i2, iv i3, iv v1, iv (0 : Int32), iv v11, iv (1 : Int32), iv v153, iv v154, rv b155, iv (1 : Int32), iv (1 : Int32), .unset] [(.int v729)])
   refine k_iload X728 hx (hb hby at_193) rfl (pc' := 195) rfl ?_
   refine k_iload X728 hx (hb hby at_195) rfl (pc' := 197) rfl ?_
   refine k_iload X728 hx (hb hby at_197) rfl (pc' := 199) rfl ?_
   refine k_iload X728 hx (hb hby at_199) rfl (pc' := 201) rfl ?_
   refine k_iload X728 hx (hb hby at_201) rfl (pc' := 203) rfl ?_
   refine k_callS X728 hx hZ hown (hw _ (List.mem_of_getElem? (i := 22) rfl)) (hw _ (List.mem_of_getElem? (i := 23) rfl)) (hw _ (List.mem_of_getElem? (i := 24) rfl)) (hw _ (List.mem_of_getElem? (i := 25) rfl)) (by decide) (rm4_731 l Z a0 hw [] v1 v11 T591.heap n0 Z618 ) (by decide) (by decide) e728 (by rw [hml]; rfl) (argsL := [(.int v1), (.int v1), (.int (0 : Int32)), (.int v11), (.int (1 : Int32))]) (rest := [(.int v729)]) (lenOf pd_2 rfl) rfl (W := 1) (Nat.le_refl _) rfl (hb hby at_203) (by decide) (by decide) (pc' := 206) rfl (fun T733 L733 r733 X733 q733 => ?_)
   obtain ⟨N733, e733, rfl⟩ := q733
   have N733' := Fr.app N728' N733
   show KEnds p e below s _ _ _ T733 (mkF m 206 #[iv i0, iv i1, iv i2, iv i3, iv v1, iv (0 : Int32), iv v11, iv (1 : Int32), iv v153, iv v154, rv b155, iv (1 : Int32), iv (1 : Int32), .unset] ((.int (f4_731 v1 v11)) :: (.int v729) :: []))
   obtain ⟨v734, hv734⟩ : ∃ z, z = f4_731 v1 v11 := ⟨_, rfl⟩
   rw [← hv734]
   refine k_icmp_ne X733 hx (hb hby at_206) (pn := 209) rfl (py := 213) (by decide) (fun hc => absurd (by rw [hS730, hv734]; exact own_fin_5 v1 v11 hp710 hp710 hT592) hc) (fun _ => ?_)
   refine k_iconst X733 hx (hb hby at_209) (pc' := 210) rfl (z := (1 : Int32)) rfl ?_
   refine k_goto X733 hx (hb hby at_210) (pc' := 214) (by decide) ?_
   refine k_istore X733 hx (hb hby at_214) (Ls' := #[iv i0, iv i1, iv i2, iv i3, iv v1, iv (0 : Int32), iv v11, iv (1 : Int32), iv v153, iv v154, rv b155, iv (1 : Int32), iv (1 : Int32), iv (1 : Int32)]) rfl (pc' := 216) rfl ?_
   refine k_iload X733 hx (hb hby at_216) rfl (pc' := 218) rfl ?_
   refine k_if_eq X733 hx (hb hby at_218) (pn := 221) rfl (py := 235) (by decide) (fun hc => absurd hc (by decide)) (fun _ => ?_)
   refine k_iload X733 hx (hb hby at_221) rfl (pc' := 223) rfl ?_
   refine k_if_eq X733 hx (hb hby at_223) (pn := 226) rfl (py := 235) (by decide) (fun hc => absurd hc (by decide)) (fun _ => ?_)
   refine k_iload X733 hx (hb hby at_226) rfl (pc' := 228) rfl ?_
   refine k_if_eq X733 hx (hb hby at_228) (pn := 231) rfl (py := 235) (by decide) (fun hc => absurd hc (by decide)) (fun _ => ?_)
   refine k_iconst X733 hx (hb hby at_231) (pc' := 232) rfl (z := (1 : Int32)) rfl ?_
   refine k_goto X733 hx (hb hby at_232) (pc' := 236) (by decide) ?_
   exact k_retN X733 hx (t := .boolean) Bd.returns (by simp) (hb hby at_236) hlk (by decide) (by decide) (z' := (1 : Int32)) rfl ⟨rfl, N733'⟩
  ·
   show KEnds p e below s _ _ _ s₁ (mkF m 24 #[iv i0, iv i1, iv i2, iv i3, iv v1, iv (0 : Int32), iv v11, .unset, .unset, .unset, .unset, .unset, .unset, .unset] [(.int (2 : Int32))])
   refine k_istore X0 hx (hb hby at_24) (Ls' := #[iv i0, iv i1, iv i2, iv i3, iv v1, iv (0 : Int32), iv v11, iv (2 : Int32), .unset, .unset, .unset, .unset, .unset, .unset]) rfl (pc' := 26) rfl ?_
   refine k_iloadN X0 hx (hb hby at_26) rfl (pc' := 27) rfl ?_
   refine k_bipush X0 hx (hb hby at_27) (pc' := 29) rfl (z := (31 : Int32)) rfl ?_
   refine k_iand X0 hx (hb hby at_29) (pc' := 30) rfl (fun v736 hv736 => ?_)
   refine k_istore X0 hx (hb hby at_30) (Ls' := #[iv i0, iv i1, iv i2, iv i3, iv v1, iv (0 : Int32), iv v11, iv (2 : Int32), iv v736, .unset, .unset, .unset, .unset, .unset]) rfl (pc' := 32) rfl ?_
   refine k_iloadN X0 hx (hb hby at_32) rfl (pc' := 33) rfl ?_
   refine k_ldc X0 hx hZ hown (hw _ (List.mem_of_getElem? (i := 0) rfl)) (hb hby at_33) (pc' := 35) rfl ?_
   refine k_iand X0 hx (hb hby at_35) (pc' := 36) rfl (fun v737 hv737 => ?_)
   refine k_istore X0 hx (hb hby at_36) (Ls' := #[iv i0, iv i1, iv i2, iv i3, iv v1, iv (0 : Int32), iv v11, iv (2 : Int32), iv v736, iv v737, .unset, .unset, .unset, .unset]) rfl (pc' := 38) rfl ?_
   refine k_newO X0 hx hZ hown (hw _ (List.mem_of_getElem? (i := 1) rfl)) (hw _ (List.mem_of_getElem? (i := 2) rfl)) (hw _ (List.mem_of_getElem? (i := 3) rfl)) e0 (hb hby at_38) (by decide) (by decide) (pc' := 41) rfl (fun T738 h738 b738 g738 X738 e738 E738 A738 D738 => ?_)
   have g_b738 : n0 ≤ b738 := Nat.le_trans Z0 (Nat.le_of_eq g738.symm)
   have Z738 : n0 ≤ h738.size := Nat.le_trans Z0 E738.1
   have F739 : Fld Z h738 b738 "com/example/dendrotick/dendrotick/VectorClock" "entries" "[I" .null := D738 (Or.inl (hw _ (List.mem_of_getElem? (i := 12) rfl))) (ty := (.array .int)) (by decide)
   have F740 : Fld Z h738 b738 "com/example/dendrotick/dendrotick/VectorClock" "work" "Lcom/example/dendrotick/dendrotick/ClockWork;" .null := D738 (Or.inr (hw _ (List.mem_of_getElem? (i := 14) rfl))) (ty := (.object "com/example/dendrotick/dendrotick/ClockWork")) (by decide)
   have F741 : Fld Z h738 b738 "com/example/dendrotick/dendrotick/VectorClock" "size" "I" (.int (0 : Int32)) := D738 (Or.inl (hw _ (List.mem_of_getElem? (i := 21) rfl))) (ty := .int) (by decide)
   refine k_dup X738 hx (hb hby at_41) rfl (pc' := 42) rfl ?_
   refine k_anull X738 hx (hb hby at_42) (pc' := 43) rfl ?_
   refine k_callI X738 hx hZ hown (a := b738) rfl (hw _ (List.mem_of_getElem? (i := 4) rfl)) (hw _ (List.mem_of_getElem? (i := 5) rfl)) (hw _ (List.mem_of_getElem? (i := 3) rfl)) (hw _ (List.mem_of_getElem? (i := 6) rfl)) rfl (by decide) (rm1_27 l Z a0 hw [] b738 h738 n0 Z738 A738 F739 F740 F741 g_b738) (by decide) (by decide) e738 (by rw [hml]; rfl) (argsL := [.null]) (rest := [(.ref b738)]) (lenOf pd_0 rfl) rfl (W := 1) (Nat.le_refl _) rfl (hb hby at_43) (by decide) (by decide) (pc' := 46) rfl (fun T742 L742 r742 X742 q742 => ?_)
   obtain ⟨N742, q742⟩ := q742
   have N742' := Fr.app N0 N742
   obtain ⟨b743, k744, rfl, F745, F746, F747, F748, F749, g_b743, lt750, Z751⟩ := q742
   show KEnds p e below s _ _ _ T742 (mkF m 46 #[iv i0, iv i1, iv i2, iv i3, iv v1, iv (0 : Int32), iv v11, iv (2 : Int32), iv v736, iv v737, .unset, .unset, .unset, .unset] [(.ref b738)])
   refine k_astore X742 hx (hb hby at_46) rfl (Ls' := #[iv i0, iv i1, iv i2, iv i3, iv v1, iv (0 : Int32), iv v11, iv (2 : Int32), iv v736, iv v737, rv b738, .unset, .unset, .unset]) rfl (pc' := 48) rfl ?_
   refine k_iload X742 hx (hb hby at_48) rfl (pc' := 50) rfl ?_
   refine k_iconst X742 hx (hb hby at_50) (pc' := 51) rfl (z := (1 : Int32)) rfl ?_
   refine k_icmp_lt X742 hx (hb hby at_51) (pn := 54) rfl (py := 61) (by decide) (fun _ => ?_) (fun hc => absurd (by decide) hc)
   refine k_iload X742 hx (hb hby at_61) rfl (pc' := 63) rfl ?_
   refine k_iconst X742 hx (hb hby at_63) (pc' := 64) rfl (z := (2 : Int32)) rfl ?_
   refine k_icmp_lt X742 hx (hb hby at_64) (pn := 67) rfl (py := 74) (by decide) (fun _ => ?_) (fun hc => absurd (by decide) hc)
   refine k_iload X742 hx (hb hby at_74) rfl (pc' := 76) rfl ?_
   refine k_iconst X742 hx (hb hby at_76) (pc' := 77) rfl (z := (3 : Int32)) rfl ?_
   refine k_icmp_lt X742 hx (hb hby at_77) (pn := 80) rfl (py := 87) (by decide) (fun _ => ?_) (fun hc => absurd (by decide) hc)
   refine k_iload X742 hx (hb hby at_87) rfl (pc' := 89) rfl ?_
   refine k_iconst X742 hx (hb hby at_89) (pc' := 90) rfl (z := (1 : Int32)) rfl ?_
   refine k_icmp_lt X742 hx (hb hby at_90) (pn := 93) rfl (py := 100) (by decide) (fun hc => absurd hc (by decide)) (fun _ => ?_)
   refine k_aload X742 hx (hb hby at_93) rfl rfl (pc' := 95) rfl ?_
   refine k_iload X742 hx (hb hby at_95) rfl (pc' := 97) rfl ?_
   have hT753 : ¬ v11 < (0 : Int32) := (by intro hq754; have B757 : (-2147483648 : Int) ≤ i1.toInt ∧ i1.toInt ≤ 2147483647 := ⟨(rng32 i1).1, Int.le_of_lt_add_one (rng32 i1).2⟩; have q756 : v11.toInt = i1.toInt % 16 := (by rw [hv11]; exact c_mask _ _ 4 (by decide) (by decide)); have B755 : (0 : Int) ≤ v11.toInt ∧ v11.toInt ≤ 15 := (by rw [q756]; exact k_modB (by decide)); have B758 : (0 : Int) ≤ v11.toInt ∧ v11.toInt ≤ -1 := ⟨B755.1, k_lt hq754 (by decide)⟩; omega)
   have hT759 : ¬ (15 : Int32) < v11 := (by intro hq760; have B763 : (-2147483648 : Int) ≤ i1.toInt ∧ i1.toInt ≤ 2147483647 := ⟨(rng32 i1).1, Int.le_of_lt_add_one (rng32 i1).2⟩; have q762 : v11.toInt = i1.toInt % 16 := (by rw [hv11]; exact c_mask _ _ 4 (by decide) (by decide)); have B761 : (0 : Int) ≤ v11.toInt ∧ v11.toInt ≤ 15 := (by rw [q762]; exact k_modB (by decide)); have B764 : (16 : Int) ≤ v11.toInt ∧ v11.toInt ≤ 15 := ⟨k_gt hq760 (by decide), B761.2⟩; omega)
   refine k_callV X742 hx hZ hown (a := b738) (hw _ (List.mem_of_getElem? (i := 26) rfl)) (hw _ (List.mem_of_getElem? (i := 27) rfl)) (hw _ (List.mem_of_getElem? (i := 29) rfl)) (hw _ (List.mem_of_getElem? (i := 28) rfl)) (hw _ (List.mem_of_getElem? (i := 3) rfl)) (hw _ (List.mem_of_getElem? (i := 30) rfl)) (by decide) F745 (rm5_169 l Z a0 hw [] b738 b743 k744 (0 : Int32) (0 : Int32) v11 (fun _ => 0) T742.heap n0 Z751 F745 F746 F747 F748 F749 g_b738 g_b743 lt750 (by decide) (by decide) (by decide) (by decide) (fun _ _ => rfl) hT753 hT759) (by decide) (by decide) rfl (by rw [hml]; rfl) (argsL := [(.int v11)]) (rest := []) (lenOf pd_5 rfl) rfl (W := 0) (Nat.le_refl _) rfl (hb hby at_97) (by decide) (by decide) (pc' := 100) rfl (fun T752 L752 r752 X752 q752 => ?_)
   obtain ⟨N752, b752, k752, v765, v766, rfl, F767, F768, F769, F770, F771, g_b752, lt778, Z779, hI772, hI773, hI774, hI775, HZ776⟩ := q752
   have N752' := Fr.app N742' N752
   show KEnds p e below s _ _ _ T752 (mkF m 100 #[iv i0, iv i1, iv i2, iv i3, iv v1, iv (0 : Int32), iv v11, iv (2 : Int32), iv v736, iv v737, rv b738, .unset, .unset, .unset] [])
   refine k_iload X752 hx (hb hby at_100) rfl (pc' := 102) rfl ?_
   refine k_iconst X752 hx (hb hby at_102) (pc' := 103) rfl (z := (2 : Int32)) rfl ?_
   refine k_icmp_lt X752 hx (hb hby at_103) (pn := 106) rfl (py := 113) (by decide) (fun hc => absurd hc (by decide)) (fun _ => ?_)
   refine k_aload X752 hx (hb hby at_106) rfl rfl (pc' := 108) rfl ?_
   refine k_iload X752 hx (hb hby at_108) rfl (pc' := 110) rfl ?_
   refine k_callV X752 hx hZ hown (a := b738) (hw _ (List.mem_of_getElem? (i := 26) rfl)) (hw _ (List.mem_of_getElem? (i := 27) rfl)) (hw _ (List.mem_of_getElem? (i := 29) rfl)) (hw _ (List.mem_of_getElem? (i := 28) rfl)) (hw _ (List.mem_of_getElem? (i := 3) rfl)) (hw _ (List.mem_of_getElem? (i := 30) rfl)) (by decide) F767 (rm5_169 l Z a0 hw [] b738 b752 k752 v765 v766 v11 (updF (fun _ => 0) v11.toNatClampNeg ((fun _ => 0) v11.toNatClampNeg + 1)) T752.heap n0 Z779 F767 F768 F769 F770 F771 g_b738 g_b752 lt778 hI772 hI773 hI774 hI775 HZ776 hT753 hT759) (by decide) (by decide) rfl (by rw [hml]; rfl) (argsL := [(.int v11)]) (rest := []) (lenOf pd_5 rfl) rfl (W := 0) (Nat.le_refl _) rfl (hb hby at_110) (by decide) (by decide) (pc' := 113) rfl (fun T780 L780 r780 X780 q780 => ?_)
   obtain ⟨N780, b780, k780, v781, v782, rfl, F783, F784, F785, F786, F787, g_b780, lt794, Z795, hI788, hI789, hI790, hI791, HZ792⟩ := q780
   have N780' := Fr.app N752' N780
   show KEnds p e below s _ _ _ T780 (mkF m 113 #[iv i0, iv i1, iv i2, iv i3, iv v1, iv (0 : Int32), iv v11, iv (2 : Int32), iv v736, iv v737, rv b738, .unset, .unset, .unset] [])
   refine k_iload X780 hx (hb hby at_113) rfl (pc' := 115) rfl ?_
   refine k_iconst X780 hx (hb hby at_115) (pc' := 116) rfl (z := (3 : Int32)) rfl ?_
   refine k_icmp_lt X780 hx (hb hby at_116) (pn := 119) rfl (py := 126) (by decide) (fun _ => ?_) (fun hc => absurd (by decide) hc)
   refine k_aload X780 hx (hb hby at_126) rfl rfl (pc' := 128) rfl ?_
   refine k_iload X780 hx (hb hby at_128) rfl (pc' := 130) rfl ?_
   have hp796 : ¬ v736 < (0 : Int32) := by
    intro hq797
    have B800 : (-2147483648 : Int) ≤ i1.toInt ∧ i1.toInt ≤ 2147483647 := ⟨(rng32 i1).1, Int.le_of_lt_add_one (rng32 i1).2⟩
    have q799 : v11.toInt = i1.toInt % 16 := (by rw [hv11]; exact c_mask _ _ 4 (by decide) (by decide))
    have B798 : (0 : Int) ≤ v11.toInt ∧ v11.toInt ≤ 15 := (by rw [q799]; exact k_modB (by decide))
    have B801 : (0 : Int) ≤ v765.toInt ∧ v765.toInt ≤ 30 := ⟨k_ge hI772 (by decide), k_le hI773 (by decide)⟩
    have B802 : (0 : Int) ≤ v766.toInt ∧ v766.toInt ≤ 2147483647 := ⟨k_ge hI774 (by decide), Int.le_of_lt_add_one (rng32 v766).2⟩
    have q803 := hI775; rw [Int32.lt_iff_toInt_lt] at q803
    have B804 : (0 : Int) ≤ v781.toInt ∧ v781.toInt ≤ 30 := ⟨k_ge hI788 (by decide), k_le hI789 (by decide)⟩
    have B805 : (0 : Int) ≤ v782.toInt ∧ v782.toInt ≤ 2147483647 := ⟨k_ge hI790 (by decide), Int.le_of_lt_add_one (rng32 v782).2⟩
    have q806 := hI791; rw [Int32.lt_iff_toInt_lt] at q806
    have B809 : (-2147483648 : Int) ≤ i2.toInt ∧ i2.toInt ≤ 2147483647 := ⟨(rng32 i2).1, Int.le_of_lt_add_one (rng32 i2).2⟩
    have q808 : v736.toInt = i2.toInt % 32 := (by rw [hv736]; exact c_mask _ _ 5 (by decide) (by decide))
    have B807 : (0 : Int) ≤ v736.toInt ∧ v736.toInt ≤ 31 := (by rw [q808]; exact k_modB (by decide))
    have B810 : (0 : Int) ≤ v736.toInt ∧ v736.toInt ≤ -1 := ⟨B807.1, k_lt hq797 (by decide)⟩
    omega
   refine k_callV X780 hx hZ hown (a := b738) (hw _ (List.mem_of_getElem? (i := 15) rfl)) (hw _ (List.mem_of_getElem? (i := 16) rfl)) (hw _ (List.mem_of_getElem? (i := 18) rfl)) (hw _ (List.mem_of_getElem? (i := 17) rfl)) (hw _ (List.mem_of_getElem? (i := 3) rfl)) (hw _ (List.mem_of_getElem? (i := 19) rfl)) (by decide) F783 (rm3_631 l Z a0 hw [] b738 v736 b780 v782 k780 v781 (updF (updF (fun _ => 0) v11.toNatClampNeg ((fun _ => 0) v11.toNatClampNeg + 1)) v11.toNatClampNeg ((updF (fun _ => 0) v11.toNatClampNeg ((fun _ => 0) v11.toNatClampNeg + 1)) v11.toNatClampNeg + 1)) T780.heap n0 Z795 F783 F784 F785 F786 F787 lt794 hp796 hI791 HZ792) (by decide) (by decide) rfl (by rw [hml]; rfl) (argsL := [(.int v736)]) (rest := []) (lenOf pd_1 rfl) rfl (W := 0) (Nat.le_refl _) rfl (hb hby at_130) (by decide) (by decide) (pc' := 133) rfl (fun T811 L811 r811 X811 q811 => ?_)
   obtain ⟨N811, e811, v812, rfl, hS813⟩ := q811
   have N811' := Fr.app N780' N811
   show KEnds p e below s _ _ _ T811 (mkF m 133 #[iv i0, iv i1, iv i2, iv i3, iv v1, iv (0 : Int32), iv v11, iv (2 : Int32), iv v736, iv v737, rv b738, .unset, .unset, .unset] [(.int v812)])
   refine k_iload X811 hx (hb hby at_133) rfl (pc' := 135) rfl ?_
   refine k_iload X811 hx (hb hby at_135) rfl (pc' := 137) rfl ?_
   refine k_iload X811 hx (hb hby at_137) rfl (pc' := 139) rfl ?_
   refine k_iload X811 hx (hb hby at_139) rfl (pc' := 141) rfl ?_
   refine k_iload X811 hx (hb hby at_141) rfl (pc' := 143) rfl ?_
   refine k_callS X811 hx hZ hown (hw _ (List.mem_of_getElem? (i := 22) rfl)) (hw _ (List.mem_of_getElem? (i := 23) rfl)) (hw _ (List.mem_of_getElem? (i := 24) rfl)) (hw _ (List.mem_of_getElem? (i := 25) rfl)) (by decide) (rm4_814 l Z a0 hw [] v736 v1 v11 T780.heap n0 Z795 ) (by decide) (by decide) e811 (by rw [hml]; rfl) (argsL := [(.int v736), (.int v1), (.int (0 : Int32)), (.int v11), (.int (2 : Int32))]) (rest := [(.int v812)]) (lenOf pd_2 rfl) rfl (W := 1) (Nat.le_refl _) rfl (hb hby at_143) (by decide) (by decide) (pc' := 146) rfl (fun T818 L818 r818 X818 q818 => ?_)
   obtain ⟨N818, e818, rfl⟩ := q818
   have N818' := Fr.app N811' N818
   show KEnds p e below s _ _ _ T818 (mkF m 146 #[iv i0, iv i1, iv i2, iv i3, iv v1, iv (0 : Int32), iv v11, iv (2 : Int32), iv v736, iv v737, rv b738, .unset, .unset, .unset] ((.int (f4_814 v736 v1 v11)) :: (.int v812) :: []))
   obtain ⟨v819, hv819⟩ : ∃ z, z = f4_814 v736 v1 v11 := ⟨_, rfl⟩
   rw [← hv819]
   refine k_icmp_ne X818 hx (hb hby at_146) (pn := 149) rfl (py := 153) (by decide) (fun hc => absurd (by rw [hS813, hv819]; exact own_fin_6 v736 v1 v11 hp796 (by intro hq820; have B823 : (-2147483648 : Int) ≤ i1.toInt ∧ i1.toInt ≤ 2147483647 := ⟨(rng32 i1).1, Int.le_of_lt_add_one (rng32 i1).2⟩; have q822 : v11.toInt = i1.toInt % 16 := (by rw [hv11]; exact c_mask _ _ 4 (by decide) (by decide)); have B821 : (0 : Int) ≤ v11.toInt ∧ v11.toInt ≤ 15 := (by rw [q822]; exact k_modB (by decide)); have B824 : (0 : Int) ≤ v765.toInt ∧ v765.toInt ≤ 30 := ⟨k_ge hI772 (by decide), k_le hI773 (by decide)⟩; have B825 : (0 : Int) ≤ v766.toInt ∧ v766.toInt ≤ 2147483647 := ⟨k_ge hI774 (by decide), Int.le_of_lt_add_one (rng32 v766).2⟩; have q826 := hI775; rw [Int32.lt_iff_toInt_lt] at q826; have B827 : (0 : Int) ≤ v781.toInt ∧ v781.toInt ≤ 30 := ⟨k_ge hI788 (by decide), k_le hI789 (by decide)⟩; have B828 : (0 : Int) ≤ v782.toInt ∧ v782.toInt ≤ 2147483647 := ⟨k_ge hI790 (by decide), Int.le_of_lt_add_one (rng32 v782).2⟩; have q829 := hI791; rw [Int32.lt_iff_toInt_lt] at q829; have B832 : (-2147483648 : Int) ≤ i2.toInt ∧ i2.toInt ≤ 2147483647 := ⟨(rng32 i2).1, Int.le_of_lt_add_one (rng32 i2).2⟩; have q831 : v736.toInt = i2.toInt % 32 := (by rw [hv736]; exact c_mask _ _ 5 (by decide) (by decide)); have B830 : (0 : Int) ≤ v736.toInt ∧ v736.toInt ≤ 31 := (by rw [q831]; exact k_modB (by decide)); have B835 : (-2147483648 : Int) ≤ i0.toInt ∧ i0.toInt ≤ 2147483647 := ⟨(rng32 i0).1, Int.le_of_lt_add_one (rng32 i0).2⟩; have q834 : v1.toInt = i0.toInt % 16 := (by rw [hv1]; exact c_mask _ _ 4 (by decide) (by decide)); have B833 : (0 : Int) ≤ v1.toInt ∧ v1.toInt ≤ 15 := (by rw [q834]; exact k_modB (by decide)); have B836 : (0 : Int) ≤ v1.toInt ∧ v1.toInt ≤ -1 := ⟨B833.1, k_lt hq820 (by decide)⟩; omega) hT753) hc) (fun _ => ?_)
   refine k_iconst X818 hx (hb hby at_149) (pc' := 150) rfl (z := (1 : Int32)) rfl ?_
   refine k_goto X818 hx (hb hby at_150) (pc' := 154) (by decide) ?_
   refine k_istore X818 hx (hb hby at_154) (Ls' := #[iv i0, iv i1, iv i2, iv i3, iv v1, iv (0 : Int32), iv v11, iv (2 : Int32), iv v736, iv v737, rv b738, iv (1 : Int32), .unset, .unset]) rfl (pc' := 156) rfl ?_
   refine k_aload X818 hx (hb hby at_156) rfl rfl (pc' := 158) rfl ?_
   refine k_iload X818 hx (hb hby at_158) rfl (pc' := 160) rfl ?_
   have hp837 : ¬ v737 < (0 : Int32) := by
    intro hq838
    have B841 : (-2147483648 : Int) ≤ i1.toInt ∧ i1.toInt ≤ 2147483647 := ⟨(rng32 i1).1, Int.le_of_lt_add_one (rng32 i1).2⟩
    have q840 : v11.toInt = i1.toInt % 16 := (by rw [hv11]; exact c_mask _ _ 4 (by decide) (by decide))
    have B839 : (0 : Int) ≤ v11.toInt ∧ v11.toInt ≤ 15 := (by rw [q840]; exact k_modB (by decide))
    have B842 : (0 : Int) ≤ v765.toInt ∧ v765.toInt ≤ 30 := ⟨k_ge hI772 (by decide), k_le hI773 (by decide)⟩
    have B843 : (0 : Int) ≤ v766.toInt ∧ v766.toInt ≤ 2147483647 := ⟨k_ge hI774 (by decide), Int.le_of_lt_add_one (rng32 v766).2⟩
    have q844 := hI775; rw [Int32.lt_iff_toInt_lt] at q844
    have B845 : (0 : Int) ≤ v781.toInt ∧ v781.toInt ≤ 30 := ⟨k_ge hI788 (by decide), k_le hI789 (by decide)⟩
    have B846 : (0 : Int) ≤ v782.toInt ∧ v782.toInt ≤ 2147483647 := ⟨k_ge hI790 (by decide), Int.le_of_lt_add_one (rng32 v782).2⟩
    have q847 := hI791; rw [Int32.lt_iff_toInt_lt] at q847
    have B850 : (-2147483648 : Int) ≤ i2.toInt ∧ i2.toInt ≤ 2147483647 := ⟨(rng32 i2).1, Int.le_of_lt_add_one (rng32 i2).2⟩
    have q849 : v736.toInt = i2.toInt % 32 := (by rw [hv736]; exact c_mask _ _ 5 (by decide) (by decide))
    have B848 : (0 : Int) ≤ v736.toInt ∧ v736.toInt ≤ 31 := (by rw [q849]; exact k_modB (by decide))
    have B853 : (-2147483648 : Int) ≤ i3.toInt ∧ i3.toInt ≤ 2147483647 := ⟨(rng32 i3).1, Int.le_of_lt_add_one (rng32 i3).2⟩
    have q852 : v737.toInt = i3.toInt % 2147483648 := (by rw [hv737]; exact c_mask _ _ 31 (by decide) (by decide))
    have B851 : (0 : Int) ≤ v737.toInt ∧ v737.toInt ≤ 2147483647 := (by rw [q852]; exact k_modB (by decide))
    have B854 : (0 : Int) ≤ v737.toInt ∧ v737.toInt ≤ -1 := ⟨B851.1, k_lt hq838 (by decide)⟩
    omega
   refine k_callV X818 hx hZ hown (a := b738) (hw _ (List.mem_of_getElem? (i := 15) rfl)) (hw _ (List.mem_of_getElem? (i := 16) rfl)) (hw _ (List.mem_of_getElem? (i := 18) rfl)) (hw _ (List.mem_of_getElem? (i := 17) rfl)) (hw _ (List.mem_of_getElem? (i := 3) rfl)) (hw _ (List.mem_of_getElem? (i := 19) rfl)) (by decide) F783 (rm3_631 l Z a0 hw [] b738 v737 b780 v782 k780 v781 (updF (updF (fun _ => 0) v11.toNatClampNeg ((fun _ => 0) v11.toNatClampNeg + 1)) v11.toNatClampNeg ((updF (fun _ => 0) v11.toNatClampNeg ((fun _ => 0) v11.toNatClampNeg + 1)) v11.toNatClampNeg + 1)) T780.heap n0 Z795 F783 F784 F785 F786 F787 lt794 hp837 hI791 HZ792) (by decide) (by decide) e818 (by rw [hml]; rfl) (argsL := [(.int v737)]) (rest := []) (lenOf pd_1 rfl) rfl (W := 0) (Nat.le_refl _) rfl (hb hby at_160) (by decide) (by decide) (pc' := 163) rfl (fun T855 L855 r855 X855 q855 => ?_)
   obtain ⟨N855, e855, v856, rfl, hS857⟩ := q855
   have N855' := Fr.app N818' N855
   show KEnds p e below s _ _ _ T855 (mkF m 163 #[iv i0, iv i1, iv i2, iv i3, iv v1, iv (0 : Int32), iv v11, iv (2 : Int32), iv v736, iv v737, rv b738, iv (1 : Int32), .unset, .unset] [(.int v856)])
   refine k_iload X855 hx (hb hby at_163) rfl (pc' := 165) rfl ?_
   refine k_iload X855 hx (hb hby at_165) rfl (pc' := 167) rfl ?_
   refine k_iload X855 hx (hb hby at_167) rfl (pc' := 169) rfl ?_
   refine k_iload X855 hx (hb hby at_169) rfl (pc' := 171) rfl ?_
   refine k_iload X855 hx (hb hby at_171) rfl (pc' := 173) rfl ?_
   refine k_callS X855 hx hZ hown (hw _ (List.mem_of_getElem? (i := 22) rfl)) (hw _ (List.mem_of_getElem? (i := 23) rfl)) (hw _ (List.mem_of_getElem? (i := 24) rfl)) (hw _ (List.mem_of_getElem? (i := 25) rfl)) (by decide) (rm4_814 l Z a0 hw [] v737 v1 v11 T780.heap n0 Z795 ) (by decide) (by decide) e855 (by rw [hml]; rfl) (argsL := [(.int v737), (.int v1), (.int (0 : Int32)), (.int v11), (.int (2 : Int32))]) (rest := [(.int v856)]) (lenOf pd_2 rfl) rfl (W := 1) (Nat.le_refl _) rfl (hb hby at_173) (by decide) (by decide) (pc' := 176) rfl (fun T858 L858 r858 X858 q858 => ?_)
   obtain ⟨N858, e858, rfl⟩ := q858
   have N858' := Fr.app N855' N858
   show KEnds p e below s _ _ _ T858 (mkF m 176 #[iv i0, iv i1, iv i2, iv i3, iv v1, iv (0 : Int32), iv v11, iv (2 : Int32), iv v736, iv v737, rv b738, iv (1 : Int32), .unset, .unset] ((.int (f4_814 v737 v1 v11)) :: (.int v856) :: []))
   obtain ⟨v859, hv859⟩ : ∃ z, z = f4_814 v737 v1 v11 := ⟨_, rfl⟩
   rw [← hv859]
   refine k_icmp_ne X858 hx (hb hby at_176) (pn := 179) rfl (py := 183) (by decide) (fun hc => absurd (by rw [hS857, hv859]; exact own_fin_7 v737 v1 v11 hp837 (by intro hq860; have B863 : (-2147483648 : Int) ≤ i1.toInt ∧ i1.toInt ≤ 2147483647 := ⟨(rng32 i1).1, Int.le_of_lt_add_one (rng32 i1).2⟩; have q862 : v11.toInt = i1.toInt % 16 := (by rw [hv11]; exact c_mask _ _ 4 (by decide) (by decide)); have B861 : (0 : Int) ≤ v11.toInt ∧ v11.toInt ≤ 15 := (by rw [q862]; exact k_modB (by decide)); have B864 : (0 : Int) ≤ v765.toInt ∧ v765.toInt ≤ 30 := ⟨k_ge hI772 (by decide), k_le hI773 (by decide)⟩; have B865 : (0 : Int) ≤ v766.toInt ∧ v766.toInt ≤ 2147483647 := ⟨k_ge hI774 (by decide), Int.le_of_lt_add_one (rng32 v766).2⟩; have q866 := hI775; rw [Int32.lt_iff_toInt_lt] at q866; have B867 : (0 : Int) ≤ v781.toInt ∧ v781.toInt ≤ 30 := ⟨k_ge hI788 (by decide), k_le hI789 (by decide)⟩; have B868 : (0 : Int) ≤ v782.toInt ∧ v782.toInt ≤ 2147483647 := ⟨k_ge hI790 (by decide), Int.le_of_lt_add_one (rng32 v782).2⟩; have q869 := hI791; rw [Int32.lt_iff_toInt_lt] at q869; have B872 : (-2147483648 : Int) ≤ i2.toInt ∧ i2.toInt ≤ 2147483647 := ⟨(rng32 i2).1, Int.le_of_lt_add_one (rng32 i2).2⟩; have q871 : v736.toInt = i2.toInt % 32 := (by rw [hv736]; exact c_mask _ _ 5 (by decide) (by decide)); have B870 : (0 : Int) ≤ v736.toInt ∧ v736.toInt ≤ 31 := (by rw [q871]; exact k_modB (by decide)); have B875 : (-2147483648 : Int) ≤ i3.toInt ∧ i3.toInt ≤ 2147483647 := ⟨(rng32 i3).1, Int.le_of_lt_add_one (rng32 i3).2⟩; have q874 : v737.toInt = i3.toInt % 2147483648 := (by rw [hv737]; exact c_mask _ _ 31 (by decide) (by decide)); have B873 : (0 : Int) ≤ v737.toInt ∧ v737.toInt ≤ 2147483647 := (by rw [q874]; exact k_modB (by decide)); have B878 : (-2147483648 : Int) ≤ i0.toInt ∧ i0.toInt ≤ 2147483647 := ⟨(rng32 i0).1, Int.le_of_lt_add_one (rng32 i0).2⟩; have q877 : v1.toInt = i0.toInt % 16 := (by rw [hv1]; exact c_mask _ _ 4 (by decide) (by decide)); have B876 : (0 : Int) ≤ v1.toInt ∧ v1.toInt ≤ 15 := (by rw [q877]; exact k_modB (by decide)); have B879 : (0 : Int) ≤ v1.toInt ∧ v1.toInt ≤ -1 := ⟨B876.1, k_lt hq860 (by decide)⟩; omega) hT753) hc) (fun _ => ?_)
   refine k_iconst X858 hx (hb hby at_179) (pc' := 180) rfl (z := (1 : Int32)) rfl ?_
   refine k_goto X858 hx (hb hby at_180) (pc' := 184) (by decide) ?_
   refine k_istore X858 hx (hb hby at_184) (Ls' := #[iv i0, iv i1, iv i2, iv i3, iv v1, iv (0 : Int32), iv v11, iv (2 : Int32), iv v736, iv v737, rv b738, iv (1 : Int32), iv (1 : Int32), .unset]) rfl (pc' := 186) rfl ?_
   refine k_aload X858 hx (hb hby at_186) rfl rfl (pc' := 188) rfl ?_
   refine k_iload X858 hx (hb hby at_188) rfl (pc' := 190) rfl ?_
   have hp880 : ¬ v1 < (0 : Int32) := by
    intro hq881
    have B884 : (-2147483648 : Int) ≤ i1.toInt ∧ i1.toInt ≤ 2147483647 := ⟨(rng32 i1).1, Int.le_of_lt_add_one (rng32 i1).2⟩
    have q883 : v11.toInt = i1.toInt % 16 := (by rw [hv11]; exact c_mask _ _ 4 (by decide) (by decide))
    have B882 : (0 : Int) ≤ v11.toInt ∧ v11.toInt ≤ 15 := (by rw [q883]; exact k_modB (by decide))
    have B885 : (0 : Int) ≤ v765.toInt ∧ v765.toInt ≤ 30 := ⟨k_ge hI772 (by decide), k_le hI773 (by decide)⟩
    have B886 : (0 : Int) ≤ v766.toInt ∧ v766.toInt ≤ 2147483647 := ⟨k_ge hI774 (by decide), Int.le_of_lt_add_one (rng32 v766).2⟩
    have q887 := hI775; rw [Int32.lt_iff_toInt_lt] at q887
    have B888 : (0 : Int) ≤ v781.toInt ∧ v781.toInt ≤ 30 := ⟨k_ge hI788 (by decide), k_le hI789 (by decide)⟩
    have B889 : (0 : Int) ≤ v782.toInt ∧ v782.toInt ≤ 2147483647 := ⟨k_ge hI790 (by decide), Int.le_of_lt_add_one (rng32 v782).2⟩
    have q890 := hI791; rw [Int32.lt_iff_toInt_lt] at q890
    have B893 : (-2147483648 : Int) ≤ i2.toInt ∧ i2.toInt ≤ 2147483647 := ⟨(rng32 i2).1, Int.le_of_lt_add_one (rng32 i2).2⟩
    have q892 : v736.toInt = i2.toInt % 32 := (by rw [hv736]; exact c_mask _ _ 5 (by decide) (by decide))
    have B891 : (0 : Int) ≤ v736.toInt ∧ v736.toInt ≤ 31 := (by rw [q892]; exact k_modB (by decide))
    have B896 : (-2147483648 : Int) ≤ i3.toInt ∧ i3.toInt ≤ 2147483647 := ⟨(rng32 i3).1, Int.le_of_lt_add_one (rng32 i3).2⟩
    have q895 : v737.toInt = i3.toInt % 2147483648 := (by rw [hv737]; exact c_mask _ _ 31 (by decide) (by decide))
    have B894 : (0 : Int) ≤ v737.toInt ∧ v737.toInt ≤ 2147483647 := (by rw [q895]; exact k_modB (by decide))
    have B899 : (-2147483648 : Int) ≤ i0.toInt ∧ i0.toInt ≤ 2147483647 := ⟨(rng32 i0).1, Int.le_of_lt_add_one (rng32 i0).2⟩
    have q898 : v1.toInt = i0.toInt % 16 := (by rw [hv1]; exact c_mask _ _ 4 (by decide) (by decide))
    have B897 : (0 : Int) ≤ v1.toInt ∧ v1.toInt ≤ 15 := (by rw [q898]; exact k_modB (by decide))
    have B900 : (0 : Int) ≤ v1.toInt ∧ v1.toInt ≤ -1 := ⟨B897.1, k_lt hq881 (by decide)⟩
    omega
   refine k_callV X858 hx hZ hown (a := b738) (hw _ (List.mem_of_getElem? (i := 15) rfl)) (hw _ (List.mem_of_getElem? (i := 16) rfl)) (hw _ (List.mem_of_getElem? (i := 18) rfl)) (hw _ (List.mem_of_getElem? (i := 17) rfl)) (hw _ (List.mem_of_getElem? (i := 3) rfl)) (hw _ (List.mem_of_getElem? (i := 19) rfl)) (by decide) F783 (rm3_631 l Z a0 hw [] b738 v1 b780 v782 k780 v781 (updF (updF (fun _ => 0) v11.toNatClampNeg ((fun _ => 0) v11.toNatClampNeg + 1)) v11.toNatClampNeg ((updF (fun _ => 0) v11.toNatClampNeg ((fun _ => 0) v11.toNatClampNeg + 1)) v11.toNatClampNeg + 1)) T780.heap n0 Z795 F783 F784 F785 F786 F787 lt794 hp880 hI791 HZ792) (by decide) (by decide) e858 (by rw [hml]; rfl) (argsL := [(.int v1)]) (rest := []) (lenOf pd_1 rfl) rfl (W := 0) (Nat.le_refl _) rfl (hb hby at_190) (by decide) (by decide) (pc' := 193) rfl (fun T901 L901 r901 X901 q901 => ?_)
   obtain ⟨N901, e901, v902, rfl, hS903⟩ := q901
   have N901' := Fr.app N858' N901
   show KEnds p e below s _ _ _ T901 (mkF m 193 #[iv i0, iv i1, iv i2, iv i3, iv v1, iv (0 : Int32), iv v11, iv (2 : Int32), iv v736, iv v737, rv b738, iv (1 : Int32), iv (1 : Int32), .unset] [(.int v902)])
   refine k_iload X901 hx (hb hby at_193) rfl (pc' := 195) rfl ?_
   refine k_iload X901 hx (hb hby at_195) rfl (pc' := 197) rfl ?_
   refine k_iload X901 hx (hb hby at_197) rfl (pc' := 199) rfl ?_
   refine k_iload X901 hx (hb hby at_199) rfl (pc' := 201) rfl ?_
   refine k_iload X901 hx (hb hby at_201) rfl (pc' := 203) rfl ?_
   refine k_callS X901 hx hZ hown (hw _ (List.mem_of_getElem? (i := 22) rfl)) (hw _ (List.mem_of_getElem? (i := 23) rfl)) (hw _ (List.mem_of_getElem? (i := 24) rfl)) (hw _ (List.mem_of_getElem? (i := 25) rfl)) (by decide) (rm4_904 l Z a0 hw [] v1 v11 T780.heap n0 Z795 ) (by decide) (by decide) e901 (by rw [hml]; rfl) (argsL := [(.int v1), (.int v1), (.int (0 : Int32)), (.int v11), (.int (2 : Int32))]) (rest := [(.int v902)]) (lenOf pd_2 rfl) rfl (W := 1) (Nat.le_refl _) rfl (hb hby at_203) (by decide) (by decide) (pc' := 206) rfl (fun T906 L906 r906 X906 q906 => ?_)
   obtain ⟨N906, e906, rfl⟩ := q906
   have N906' := Fr.app N901' N906
   show KEnds p e below s _ _ _ T906 (mkF m 206 #[iv i0, iv i1, iv i2, iv i3, iv v1, iv (0 : Int32), iv v11, iv (2 : Int32), iv v736, iv v737, rv b738, iv (1 : Int32), iv (1 : Int32), .unset] ((.int (f4_904 v1 v11)) :: (.int v902) :: []))
   obtain ⟨v907, hv907⟩ : ∃ z, z = f4_904 v1 v11 := ⟨_, rfl⟩
   rw [← hv907]
   refine k_icmp_ne X906 hx (hb hby at_206) (pn := 209) rfl (py := 213) (by decide) (fun hc => absurd (by rw [hS903, hv907]; exact own_fin_8 v1 v11 hp880 hp880 hT753) hc) (fun _ => ?_)
   refine k_iconst X906 hx (hb hby at_209) (pc' := 210) rfl (z := (1 : Int32)) rfl ?_
   refine k_goto X906 hx (hb hby at_210) (pc' := 214) (by decide) ?_
   refine k_istore X906 hx (hb hby at_214) (Ls' := #[iv i0, iv i1, iv i2, iv i3, iv v1, iv (0 : Int32), iv v11, iv (2 : Int32), iv v736, iv v737, rv b738, iv (1 : Int32), iv (1 : Int32), iv (1 : Int32)]) rfl (pc' := 216) rfl ?_
   refine k_iload X906 hx (hb hby at_216) rfl (pc' := 218) rfl ?_
   refine k_if_eq X906 hx (hb hby at_218) (pn := 221) rfl (py := 235) (by decide) (fun hc => absurd hc (by decide)) (fun _ => ?_)
   refine k_iload X906 hx (hb hby at_221) rfl (pc' := 223) rfl ?_
   refine k_if_eq X906 hx (hb hby at_223) (pn := 226) rfl (py := 235) (by decide) (fun hc => absurd hc (by decide)) (fun _ => ?_)
   refine k_iload X906 hx (hb hby at_226) rfl (pc' := 228) rfl ?_
   refine k_if_eq X906 hx (hb hby at_228) (pn := 231) rfl (py := 235) (by decide) (fun hc => absurd hc (by decide)) (fun _ => ?_)
   refine k_iconst X906 hx (hb hby at_231) (pc' := 232) rfl (z := (1 : Int32)) rfl ?_
   refine k_goto X906 hx (hb hby at_232) (pc' := 236) (by decide) ?_
   exact k_retN X906 hx (t := .boolean) Bd.returns (by simp) (hb hby at_236) hlk (by decide) (by decide) (z' := (1 : Int32)) rfl ⟨rfl, N906'⟩
  ·
   show KEnds p e below s _ _ _ s₁ (mkF m 24 #[iv i0, iv i1, iv i2, iv i3, iv v1, iv (0 : Int32), iv v11, .unset, .unset, .unset, .unset, .unset, .unset, .unset] [(.int (3 : Int32))])
   refine k_istore X0 hx (hb hby at_24) (Ls' := #[iv i0, iv i1, iv i2, iv i3, iv v1, iv (0 : Int32), iv v11, iv (3 : Int32), .unset, .unset, .unset, .unset, .unset, .unset]) rfl (pc' := 26) rfl ?_
   refine k_iloadN X0 hx (hb hby at_26) rfl (pc' := 27) rfl ?_
   refine k_bipush X0 hx (hb hby at_27) (pc' := 29) rfl (z := (31 : Int32)) rfl ?_
   refine k_iand X0 hx (hb hby at_29) (pc' := 30) rfl (fun v909 hv909 => ?_)
   refine k_istore X0 hx (hb hby at_30) (Ls' := #[iv i0, iv i1, iv i2, iv i3, iv v1, iv (0 : Int32), iv v11, iv (3 : Int32), iv v909, .unset, .unset, .unset, .unset, .unset]) rfl (pc' := 32) rfl ?_
   refine k_iloadN X0 hx (hb hby at_32) rfl (pc' := 33) rfl ?_
   refine k_ldc X0 hx hZ hown (hw _ (List.mem_of_getElem? (i := 0) rfl)) (hb hby at_33) (pc' := 35) rfl ?_
   refine k_iand X0 hx (hb hby at_35) (pc' := 36) rfl (fun v910 hv910 => ?_)
   refine k_istore X0 hx (hb hby at_36) (Ls' := #[iv i0, iv i1, iv i2, iv i3, iv v1, iv (0 : Int32), iv v11, iv (3 : Int32), iv v909, iv v910, .unset, .unset, .unset, .unset]) rfl (pc' := 38) rfl ?_
   refine k_newO X0 hx hZ hown (hw _ (List.mem_of_getElem? (i := 1) rfl)) (hw _ (List.mem_of_getElem? (i := 2) rfl)) (hw _ (List.mem_of_getElem? (i := 3) rfl)) e0 (hb hby at_38) (by decide) (by decide) (pc' := 41) rfl (fun T911 h911 b911 g911 X911 e911 E911 A911 D911 => ?_)
   have g_b911 : n0 ≤ b911 := Nat.le_trans Z0 (Nat.le_of_eq g911.symm)
   have Z911 : n0 ≤ h911.size := Nat.le_trans Z0 E911.1
   have F912 : Fld Z h911 b911 "com/example/dendrotick/dendrotick/VectorClock" "entries" "[I" .null := D911 (Or.inl (hw _ (List.mem_of_getElem? (i := 12) rfl))) (ty := (.array .int)) (by decide)
   have F913 : Fld Z h911 b911 "com/example/dendrotick/dendrotick/VectorClock" "work" "Lcom/example/dendrotick/dendrotick/ClockWork;" .null := D911 (Or.inr (hw _ (List.mem_of_getElem? (i := 14) rfl))) (ty := (.object "com/example/dendrotick/dendrotick/ClockWork")) (by decide)
   have F914 : Fld Z h911 b911 "com/example/dendrotick/dendrotick/VectorClock" "size" "I" (.int (0 : Int32)) := D911 (Or.inl (hw _ (List.mem_of_getElem? (i := 21) rfl))) (ty := .int) (by decide)
   refine k_dup X911 hx (hb hby at_41) rfl (pc' := 42) rfl ?_
   refine k_anull X911 hx (hb hby at_42) (pc' := 43) rfl ?_
   refine k_callI X911 hx hZ hown (a := b911) rfl (hw _ (List.mem_of_getElem? (i := 4) rfl)) (hw _ (List.mem_of_getElem? (i := 5) rfl)) (hw _ (List.mem_of_getElem? (i := 3) rfl)) (hw _ (List.mem_of_getElem? (i := 6) rfl)) rfl (by decide) (rm1_27 l Z a0 hw [] b911 h911 n0 Z911 A911 F912 F913 F914 g_b911) (by decide) (by decide) e911 (by rw [hml]; rfl) (argsL := [.null]) (rest := [(.ref b911)]) (lenOf pd_0 rfl) rfl (W := 1) (Nat.le_refl _) rfl (hb hby at_43) (by decide) (by decide) (pc' := 46) rfl (fun T915 L915 r915 X915 q915 => ?_)
   obtain ⟨N915, q915⟩ := q915
   have N915' := Fr.app N0 N915
   obtain ⟨b916, k917, rfl, F918, F919, F920, F921, F922, g_b916, lt923, Z924⟩ := q915
   show KEnds p e below s _ _ _ T915 (mkF m 46 #[iv i0, iv i1, iv i2, iv i3, iv v1, iv (0 : Int32), iv v11, iv (3 : Int32), iv v909, iv v910, .unset, .unset, .unset, .unset] [(.ref b911)])
   refine k_astore X915 hx (hb hby at_46) rfl (Ls' := #[iv i0, iv i1, iv i2, iv i3, iv v1, iv (0 : Int32), iv v11, iv (3 : Int32), iv v909, iv v910, rv b911, .unset, .unset, .unset]) rfl (pc' := 48) rfl ?_
   refine k_iload X915 hx (hb hby at_48) rfl (pc' := 50) rfl ?_
   refine k_iconst X915 hx (hb hby at_50) (pc' := 51) rfl (z := (1 : Int32)) rfl ?_
   refine k_icmp_lt X915 hx (hb hby at_51) (pn := 54) rfl (py := 61) (by decide) (fun _ => ?_) (fun hc => absurd (by decide) hc)
   refine k_iload X915 hx (hb hby at_61) rfl (pc' := 63) rfl ?_
   refine k_iconst X915 hx (hb hby at_63) (pc' := 64) rfl (z := (2 : Int32)) rfl ?_
   refine k_icmp_lt X915 hx (hb hby at_64) (pn := 67) rfl (py := 74) (by decide) (fun _ => ?_) (fun hc => absurd (by decide) hc)
   refine k_iload X915 hx (hb hby at_74) rfl (pc' := 76) rfl ?_
   refine k_iconst X915 hx (hb hby at_76) (pc' := 77) rfl (z := (3 : Int32)) rfl ?_
   refine k_icmp_lt X915 hx (hb hby at_77) (pn := 80) rfl (py := 87) (by decide) (fun _ => ?_) (fun hc => absurd (by decide) hc)
   refine k_iload X915 hx (hb hby at_87) rfl (pc' := 89) rfl ?_
   refine k_iconst X915 hx (hb hby at_89) (pc' := 90) rfl (z := (1 : Int32)) rfl ?_
   refine k_icmp_lt X915 hx (hb hby at_90) (pn := 93) rfl (py := 100) (by decide) (fun hc => absurd hc (by decide)) (fun _ => ?_)
   refine k_aload X915 hx (hb hby at_93) rfl rfl (pc' := 95) rfl ?_
   refine k_iload X915 hx (hb hby at_95) rfl (pc' := 97) rfl ?_
   have hT926 : ¬ v11 < (0 : Int32) := (by intro hq927; have B930 : (-2147483648 : Int) ≤ i1.toInt ∧ i1.toInt ≤ 2147483647 := ⟨(rng32 i1).1, Int.le_of_lt_add_one (rng32 i1).2⟩; have q929 : v11.toInt = i1.toInt % 16 := (by rw [hv11]; exact c_mask _ _ 4 (by decide) (by decide)); have B928 : (0 : Int) ≤ v11.toInt ∧ v11.toInt ≤ 15 := (by rw [q929]; exact k_modB (by decide)); have B931 : (0 : Int) ≤ v11.toInt ∧ v11.toInt ≤ -1 := ⟨B928.1, k_lt hq927 (by decide)⟩; omega)
   have hT932 : ¬ (15 : Int32) < v11 := (by intro hq933; have B936 : (-2147483648 : Int) ≤ i1.toInt ∧ i1.toInt ≤ 2147483647 := ⟨(rng32 i1).1, Int.le_of_lt_add_one (rng32 i1).2⟩; have q935 : v11.toInt = i1.toInt % 16 := (by rw [hv11]; exact c_mask _ _ 4 (by decide) (by decide)); have B934 : (0 : Int) ≤ v11.toInt ∧ v11.toInt ≤ 15 := (by rw [q935]; exact k_modB (by decide)); have B937 : (16 : Int) ≤ v11.toInt ∧ v11.toInt ≤ 15 := ⟨k_gt hq933 (by decide), B934.2⟩; omega)
   refine k_callV X915 hx hZ hown (a := b911) (hw _ (List.mem_of_getElem? (i := 26) rfl)) (hw _ (List.mem_of_getElem? (i := 27) rfl)) (hw _ (List.mem_of_getElem? (i := 29) rfl)) (hw _ (List.mem_of_getElem? (i := 28) rfl)) (hw _ (List.mem_of_getElem? (i := 3) rfl)) (hw _ (List.mem_of_getElem? (i := 30) rfl)) (by decide) F918 (rm5_169 l Z a0 hw [] b911 b916 k917 (0 : Int32) (0 : Int32) v11 (fun _ => 0) T915.heap n0 Z924 F918 F919 F920 F921 F922 g_b911 g_b916 lt923 (by decide) (by decide) (by decide) (by decide) (fun _ _ => rfl) hT926 hT932) (by decide) (by decide) rfl (by rw [hml]; rfl) (argsL := [(.int v11)]) (rest := []) (lenOf pd_5 rfl) rfl (W := 0) (Nat.le_refl _) rfl (hb hby at_97) (by decide) (by decide) (pc' := 100) rfl (fun T925 L925 r925 X925 q925 => ?_)
   obtain ⟨N925, b925, k925, v938, v939, rfl, F940, F941, F942, F943, F944, g_b925, lt951, Z952, hI945, hI946, hI947, hI948, HZ949⟩ := q925
   have N925' := Fr.app N915' N925
   show KEnds p e below s _ _ _ T925 (mkF m 100 #[iv i0, iv i1, iv i2, iv i3, iv v1, iv (0 : Int32), iv v11, iv (3 : Int32), iv v909, iv v910, rv b911, .unset, .unset, .unset] [])
   refine k_iload X925 hx (hb hby at_100) rfl (pc' := 102) rfl ?_
   refine k_iconst X925 hx (hb hby at_102) (pc' := 103) rfl (z := (2 : Int32)) rfl ?_
   refine k_icmp_lt X925 hx (hb hby at_103) (pn := 106) rfl (py := 113) (by decide) (fun hc => absurd hc (by decide)) (fun _ => ?_)
   refine k_aload X925 hx (hb hby at_106) rfl rfl (pc' := 108) rfl ?_
   refine k_iload X925 hx (hb hby at_108) rfl (pc' := 110) rfl ?_
   refine k_callV X925 hx hZ hown (a := b911) (hw _ (List.mem_of_getElem? (i := 26) rfl)) (hw _ (List.mem_of_getElem? (i := 27) rfl)) (hw _ (List.mem_of_getElem? (i := 29) rfl)) (hw _ (List.mem_of_getElem? (i := 28) rfl)) (hw _ (List.mem_of_getElem? (i := 3) rfl)) (hw _ (List.mem_of_getElem? (i := 30) rfl)) (by decide) F940 (rm5_169 l Z a0 hw [] b911 b925 k925 v938 v939 v11 (updF (fun _ => 0) v11.toNatClampNeg ((fun _ => 0) v11.toNatClampNeg + 1)) T925.heap n0 Z952 F940 F941 F942 F943 F944 g_b911 g_b925 lt951 hI945 hI946 hI947 hI948 HZ949 hT926 hT932) (by decide) (by decide) rfl (by rw [hml]; rfl) (argsL := [(.int v11)]) (rest := []) (lenOf pd_5 rfl) rfl (W := 0) (Nat.le_refl _) rfl (hb hby at_110) (by decide) (by decide) (pc' := 113) rfl (fun T953 L953 r953 X953 q953 => ?_)
   obtain ⟨N953, b953, k953, v954, v955, rfl, F956, F957, F958, F959, F960, g_b953, lt967, Z968, hI961, hI962, hI963, hI964, HZ965⟩ := q953
   have N953' := Fr.app N925' N953
   show KEnds p e below s _ _ _ T953 (mkF m 113 #[iv i0, iv i1, iv i2, iv i3, iv v1, iv (0 : Int32), iv v11, iv (3 : Int32), iv v909, iv v910, rv b911, .unset, .unset, .unset] [])
   refine k_iload X953 hx (hb hby at_113) rfl (pc' := 115) rfl ?_
   refine k_iconst X953 hx (hb hby at_115) (pc' := 116) rfl (z := (3 : Int32)) rfl ?_
   refine k_icmp_lt X953 hx (hb hby at_116) (pn := 119) rfl (py := 126) (by decide) (fun hc => absurd hc (by decide)) (fun _ => ?_)
   refine k_aload X953 hx (hb hby at_119) rfl rfl (pc' := 121) rfl ?_
   refine k_iload X953 hx (hb hby at_121) rfl (pc' := 123) rfl ?_
   refine k_callV X953 hx hZ hown (a := b911) (hw _ (List.mem_of_getElem? (i := 26) rfl)) (hw _ (List.mem_of_getElem? (i := 27) rfl)) (hw _ (List.mem_of_getElem? (i := 29) rfl)) (hw _ (List.mem_of_getElem? (i := 28) rfl)) (hw _ (List.mem_of_getElem? (i := 3) rfl)) (hw _ (List.mem_of_getElem? (i := 30) rfl)) (by decide) F956 (rm5_169 l Z a0 hw [] b911 b953 k953 v954 v955 v11 (updF (updF (fun _ => 0) v11.toNatClampNeg ((fun _ => 0) v11.toNatClampNeg + 1)) v11.toNatClampNeg ((updF (fun _ => 0) v11.toNatClampNeg ((fun _ => 0) v11.toNatClampNeg + 1)) v11.toNatClampNeg + 1)) T953.heap n0 Z968 F956 F957 F958 F959 F960 g_b911 g_b953 lt967 hI961 hI962 hI963 hI964 HZ965 hT926 hT932) (by decide) (by decide) rfl (by rw [hml]; rfl) (argsL := [(.int v11)]) (rest := []) (lenOf pd_5 rfl) rfl (W := 0) (Nat.le_refl _) rfl (hb hby at_123) (by decide) (by decide) (pc' := 126) rfl (fun T969 L969 r969 X969 q969 => ?_)
   obtain ⟨N969, b969, k969, v970, v971, rfl, F972, F973, F974, F975, F976, g_b969, lt983, Z984, hI977, hI978, hI979, hI980, HZ981⟩ := q969
   have N969' := Fr.app N953' N969
   show KEnds p e below s _ _ _ T969 (mkF m 126 #[iv i0, iv i1, iv i2, iv i3, iv v1, iv (0 : Int32), iv v11, iv (3 : Int32), iv v909, iv v910, rv b911, .unset, .unset, .unset] [])
   refine k_aload X969 hx (hb hby at_126) rfl rfl (pc' := 128) rfl ?_
   refine k_iload X969 hx (hb hby at_128) rfl (pc' := 130) rfl ?_
   have hp985 : ¬ v909 < (0 : Int32) := by
    intro hq986
    have B989 : (-2147483648 : Int) ≤ i1.toInt ∧ i1.toInt ≤ 2147483647 := ⟨(rng32 i1).1, Int.le_of_lt_add_one (rng32 i1).2⟩
    have q988 : v11.toInt = i1.toInt % 16 := (by rw [hv11]; exact c_mask _ _ 4 (by decide) (by decide))
    have B987 : (0 : Int) ≤ v11.toInt ∧ v11.toInt ≤ 15 := (by rw [q988]; exact k_modB (by decide))
    have B990 : (0 : Int) ≤ v938.toInt ∧ v938.toInt ≤ 30 := ⟨k_ge hI945 (by decide), k_le hI946 (by decide)⟩
    have B991 : (0 : Int) ≤ v939.toInt ∧ v939.toInt ≤ 2147483647 := ⟨k_ge hI947 (by decide), Int.le_of_lt_add_one (rng32 v939).2⟩
    have q992 := hI948; rw [Int32.lt_iff_toInt_lt] at q992
    have B993 : (0 : Int) ≤ v954.toInt ∧ v954.toInt ≤ 30 := ⟨k_ge hI961 (by decide), k_le hI962 (by decide)⟩
    have B994 : (0 : Int) ≤ v955.toInt ∧ v955.toInt ≤ 2147483647 := ⟨k_ge hI963 (by decide), Int.le_of_lt_add_one (rng32 v955).2⟩
    have q995 := hI964; rw [Int32.lt_iff_toInt_lt] at q995
    have B996 : (0 : Int) ≤ v970.toInt ∧ v970.toInt ≤ 30 := ⟨k_ge hI977 (by decide), k_le hI978 (by decide)⟩
    have B997 : (0 : Int) ≤ v971.toInt ∧ v971.toInt ≤ 2147483647 := ⟨k_ge hI979 (by decide), Int.le_of_lt_add_one (rng32 v971).2⟩
    have q998 := hI980; rw [Int32.lt_iff_toInt_lt] at q998
    have B1001 : (-2147483648 : Int) ≤ i2.toInt ∧ i2.toInt ≤ 2147483647 := ⟨(rng32 i2).1, Int.le_of_lt_add_one (rng32 i2).2⟩
    have q1000 : v909.toInt = i2.toInt % 32 := (by rw [hv909]; exact c_mask _ _ 5 (by decide) (by decide))
    have B999 : (0 : Int) ≤ v909.toInt ∧ v909.toInt ≤ 31 := (by rw [q1000]; exact k_modB (by decide))
    have B1002 : (0 : Int) ≤ v909.toInt ∧ v909.toInt ≤ -1 := ⟨B999.1, k_lt hq986 (by decide)⟩
    omega
   refine k_callV X969 hx hZ hown (a := b911) (hw _ (List.mem_of_getElem? (i := 15) rfl)) (hw _ (List.mem_of_getElem? (i := 16) rfl)) (hw _ (List.mem_of_getElem? (i := 18) rfl)) (hw _ (List.mem_of_getElem? (i := 17) rfl)) (hw _ (List.mem_of_getElem? (i := 3) rfl)) (hw _ (List.mem_of_getElem? (i := 19) rfl)) (by decide) F972 (rm3_631 l Z a0 hw [] b911 v909 b969 v971 k969 v970 (updF (updF (updF (fun _ => 0) v11.toNatClampNeg ((fun _ => 0) v11.toNatClampNeg + 1)) v11.toNatClampNeg ((updF (fun _ => 0) v11.toNatClampNeg ((fun _ => 0) v11.toNatClampNeg + 1)) v11.toNatClampNeg + 1)) v11.toNatClampNeg ((updF (updF (fun _ => 0) v11.toNatClampNeg ((fun _ => 0) v11.toNatClampNeg + 1)) v11.toNatClampNeg ((updF (fun _ => 0) v11.toNatClampNeg ((fun _ => 0) v11.toNatClampNeg + 1)) v11.toNatClampNeg + 1)) v11.toNatClampNeg + 1)) T969.heap n0 Z984 F972 F973 F974 F975 F976 lt983 hp985 hI980 HZ981) (by decide) (by decide) rfl (by rw [hml]; rfl) (argsL := [(.int v909)]) (rest := []) (lenOf pd_1 rfl) rfl (W := 0) (Nat.le_refl _) rfl (hb hby at_130) (by decide) (by decide) (pc' := 133) rfl (fun T1003 L1003 r1003 X1003 q1003 => ?_)
   obtain ⟨N1003, e1003, v1004, rfl, hS1005⟩ := q1003
   have N1003' := Fr.app N969' N1003
   show KEnds p e below s _ _ _ T1003 (mkF m 133 #[iv i0, iv i1, iv i2, iv i3, iv v1, iv (0 : Int32), iv v11, iv (3 : Int32), iv v909, iv v910, rv b911, .unset, .unset, .unset] [(.int v1004)])
   refine k_iload X1003 hx (hb hby at_133) rfl (pc' := 135) rfl ?_
   refine k_iload X1003 hx (hb hby at_135) rfl (pc' := 137) rfl ?_
   refine k_iload X1003 hx (hb hby at_137) rfl (pc' := 139) rfl ?_
   refine k_iload X1003 hx (hb hby at_139) rfl (pc' := 141) rfl ?_
   refine k_iload X1003 hx (hb hby at_141) rfl (pc' := 143) rfl ?_
   refine k_callS X1003 hx hZ hown (hw _ (List.mem_of_getElem? (i := 22) rfl)) (hw _ (List.mem_of_getElem? (i := 23) rfl)) (hw _ (List.mem_of_getElem? (i := 24) rfl)) (hw _ (List.mem_of_getElem? (i := 25) rfl)) (by decide) (rm4_1006 l Z a0 hw [] v909 v1 v11 T969.heap n0 Z984 ) (by decide) (by decide) e1003 (by rw [hml]; rfl) (argsL := [(.int v909), (.int v1), (.int (0 : Int32)), (.int v11), (.int (3 : Int32))]) (rest := [(.int v1004)]) (lenOf pd_2 rfl) rfl (W := 1) (Nat.le_refl _) rfl (hb hby at_143) (by decide) (by decide) (pc' := 146) rfl (fun T1010 L1010 r1010 X1010 q1010 => ?_)
   obtain ⟨N1010, e1010, rfl⟩ := q1010
   have N1010' := Fr.app N1003' N1010
   show KEnds p e below s _ _ _ T1010 (mkF m 146 #[iv i0, iv i1, iv i2, iv i3, iv v1, iv (0 : Int32), iv v11, iv (3 : Int32), iv v909, iv v910, rv b911, .unset, .unset, .unset] ((.int (f4_1006 v909 v1 v11)) :: (.int v1004) :: []))
   obtain ⟨v1011, hv1011⟩ : ∃ z, z = f4_1006 v909 v1 v11 := ⟨_, rfl⟩
   rw [← hv1011]
   refine k_icmp_ne X1010 hx (hb hby at_146) (pn := 149) rfl (py := 153) (by decide) (fun hc => absurd (by rw [hS1005, hv1011]; exact own_fin_9 v909 v1 v11 hp985 (by intro hq1012; have B1015 : (-2147483648 : Int) ≤ i1.toInt ∧ i1.toInt ≤ 2147483647 := ⟨(rng32 i1).1, Int.le_of_lt_add_one (rng32 i1).2⟩; have q1014 : v11.toInt = i1.toInt % 16 := (by rw [hv11]; exact c_mask _ _ 4 (by decide) (by decide)); have B1013 : (0 : Int) ≤ v11.toInt ∧ v11.toInt ≤ 15 := (by rw [q1014]; exact k_modB (by decide)); have B1016 : (0 : Int) ≤ v938.toInt ∧ v938.toInt ≤ 30 := ⟨k_ge hI945 (by decide), k_le hI946 (by decide)⟩; have B1017 : (0 : Int) ≤ v939.toInt ∧ v939.toInt ≤ 2147483647 := ⟨k_ge hI947 (by decide), Int.le_of_lt_add_one (rng32 v939).2⟩; have q1018 := hI948; rw [Int32.lt_iff_toInt_lt] at q1018; have B1019 : (0 : Int) ≤ v954.toInt ∧ v954.toInt ≤ 30 := ⟨k_ge hI961 (by decide), k_le hI962 (by decide)⟩; have B1020 : (0 : Int) ≤ v955.toInt ∧ v955.toInt ≤ 2147483647 := ⟨k_ge hI963 (by decide), Int.le_of_lt_add_one (rng32 v955).2⟩; have q1021 := hI964; rw [Int32.lt_iff_toInt_lt] at q1021; have B1022 : (0 : Int) ≤ v970.toInt ∧ v970.toInt ≤ 30 := ⟨k_ge hI977 (by decide), k_le hI978 (by decide)⟩; have B1023 : (0 : Int) ≤ v971.toInt ∧ v971.toInt ≤ 2147483647 := ⟨k_ge hI979 (by decide), Int.le_of_lt_add_one (rng32 v971).2⟩; have q1024 := hI980; rw [Int32.lt_iff_toInt_lt] at q1024; have B1027 : (-2147483648 : Int) ≤ i2.toInt ∧ i2.toInt ≤ 2147483647 := ⟨(rng32 i2).1, Int.le_of_lt_add_one (rng32 i2).2⟩; have q1026 : v909.toInt = i2.toInt % 32 := (by rw [hv909]; exact c_mask _ _ 5 (by decide) (by decide)); have B1025 : (0 : Int) ≤ v909.toInt ∧ v909.toInt ≤ 31 := (by rw [q1026]; exact k_modB (by decide)); have B1030 : (-2147483648 : Int) ≤ i0.toInt ∧ i0.toInt ≤ 2147483647 := ⟨(rng32 i0).1, Int.le_of_lt_add_one (rng32 i0).2⟩; have q1029 : v1.toInt = i0.toInt % 16 := (by rw [hv1]; exact c_mask _ _ 4 (by decide) (by decide)); have B1028 : (0 : Int) ≤ v1.toInt ∧ v1.toInt ≤ 15 := (by rw [q1029]; exact k_modB (by decide)); have B1031 : (0 : Int) ≤ v1.toInt ∧ v1.toInt ≤ -1 := ⟨B1028.1, k_lt hq1012 (by decide)⟩; omega) hT926) hc) (fun _ => ?_)
   refine k_iconst X1010 hx (hb hby at_149) (pc' := 150) rfl (z := (1 : Int32)) rfl ?_
   refine k_goto X1010 hx (hb hby at_150) (pc' := 154) (by decide) ?_
   refine k_istore X1010 hx (hb hby at_154) (Ls' := #[iv i0, iv i1, iv i2, iv i3, iv v1, iv (0 : Int32), iv v11, iv (3 : Int32), iv v909, iv v910, rv b911, iv (1 : Int32), .unset, .unset]) rfl (pc' := 156) rfl ?_
   refine k_aload X1010 hx (hb hby at_156) rfl rfl (pc' := 158) rfl ?_
   refine k_iload X1010 hx (hb hby at_158) rfl (pc' := 160) rfl ?_
   have hp1032 : ¬ v910 < (0 : Int32) := by
    intro hq1033
    have B1036 : (-2147483648 : Int) ≤ i1.toInt ∧ i1.toInt ≤ 2147483647 := ⟨(rng32 i1).1, Int.le_of_lt_add_one (rng32 i1).2⟩
    have q1035 : v11.toInt = i1.toInt % 16 := (by rw [hv11]; exact c_mask _ _ 4 (by decide) (by decide))
    have B1034 : (0 : Int) ≤ v11.toInt ∧ v11.toInt ≤ 15 := (by rw [q1035]; exact k_modB (by decide))
    have B1037 : (0 : Int) ≤ v938.toInt ∧ v938.toInt ≤ 30 := ⟨k_ge hI945 (by decide), k_le hI946 (by decide)⟩
    have B1038 : (0 : Int) ≤ v939.toInt ∧ v939.toInt ≤ 2147483647 := ⟨k_ge hI947 (by decide), Int.le_of_lt_add_one (rng32 v939).2⟩
    have q1039 := hI948; rw [Int32.lt_iff_toInt_lt] at q1039
    have B1040 : (0 : Int) ≤ v954.toInt ∧ v954.toInt ≤ 30 := ⟨k_ge hI961 (by decide), k_le hI962 (by decide)⟩
    have B1041 : (0 : Int) ≤ v955.toInt ∧ v955.toInt ≤ 2147483647 := ⟨k_ge hI963 (by decide), Int.le_of_lt_add_one (rng32 v955).2⟩
    have q1042 := hI964; rw [Int32.lt_iff_toInt_lt] at q1042
    have B1043 : (0 : Int) ≤ v970.toInt ∧ v970.toInt ≤ 30 := ⟨k_ge hI977 (by decide), k_le hI978 (by decide)⟩
    have B1044 : (0 : Int) ≤ v971.toInt ∧ v971.toInt ≤ 2147483647 := ⟨k_ge hI979 (by decide), Int.le_of_lt_add_one (rng32 v971).2⟩
    have q1045 := hI980; rw [Int32.lt_iff_toInt_lt] at q1045
    have B1048 : (-2147483648 : Int) ≤ i2.toInt ∧ i2.toInt ≤ 2147483647 := ⟨(rng32 i2).1, Int.le_of_lt_add_one (rng32 i2).2⟩
    have q1047 : v909.toInt = i2.toInt % 32 := (by rw [hv909]; exact c_mask _ _ 5 (by decide) (by decide))
    have B1046 : (0 : Int) ≤ v909.toInt ∧ v909.toInt ≤ 31 := (by rw [q1047]; exact k_modB (by decide))
    have B1051 : (-2147483648 : Int) ≤ i3.toInt ∧ i3.toInt ≤ 2147483647 := ⟨(rng32 i3).1, Int.le_of_lt_add_one (rng32 i3).2⟩
    have q1050 : v910.toInt = i3.toInt % 2147483648 := (by rw [hv910]; exact c_mask _ _ 31 (by decide) (by decide))
    have B1049 : (0 : Int) ≤ v910.toInt ∧ v910.toInt ≤ 2147483647 := (by rw [q1050]; exact k_modB (by decide))
    have B1052 : (0 : Int) ≤ v910.toInt ∧ v910.toInt ≤ -1 := ⟨B1049.1, k_lt hq1033 (by decide)⟩
    omega
   refine k_callV X1010 hx hZ hown (a := b911) (hw _ (List.mem_of_getElem? (i := 15) rfl)) (hw _ (List.mem_of_getElem? (i := 16) rfl)) (hw _ (List.mem_of_getElem? (i := 18) rfl)) (hw _ (List.mem_of_getElem? (i := 17) rfl)) (hw _ (List.mem_of_getElem? (i := 3) rfl)) (hw _ (List.mem_of_getElem? (i := 19) rfl)) (by decide) F972 (rm3_631 l Z a0 hw [] b911 v910 b969 v971 k969 v970 (updF (updF (updF (fun _ => 0) v11.toNatClampNeg ((fun _ => 0) v11.toNatClampNeg + 1)) v11.toNatClampNeg ((updF (fun _ => 0) v11.toNatClampNeg ((fun _ => 0) v11.toNatClampNeg + 1)) v11.toNatClampNeg + 1)) v11.toNatClampNeg ((updF (updF (fun _ => 0) v11.toNatClampNeg ((fun _ => 0) v11.toNatClampNeg + 1)) v11.toNatClampNeg ((updF (fun _ => 0) v11.toNatClampNeg ((fun _ => 0) v11.toNatClampNeg + 1)) v11.toNatClampNeg + 1)) v11.toNatClampNeg + 1)) T969.heap n0 Z984 F972 F973 F974 F975 F976 lt983 hp1032 hI980 HZ981) (by decide) (by decide) e1010 (by rw [hml]; rfl) (argsL := [(.int v910)]) (rest := []) (lenOf pd_1 rfl) rfl (W := 0) (Nat.le_refl _) rfl (hb hby at_160) (by decide) (by decide) (pc' := 163) rfl (fun T1053 L1053 r1053 X1053 q1053 => ?_)
   obtain ⟨N1053, e1053, v1054, rfl, hS1055⟩ := q1053
   have N1053' := Fr.app N1010' N1053
   show KEnds p e below s _ _ _ T1053 (mkF m 163 #[iv i0, iv i1, iv i2, iv i3, iv v1, iv (0 : Int32), iv v11, iv (3 : Int32), iv v909, iv v910, rv b911, iv (1 : Int32), .unset, .unset] [(.int v1054)])
   refine k_iload X1053 hx (hb hby at_163) rfl (pc' := 165) rfl ?_
   refine k_iload X1053 hx (hb hby at_165) rfl (pc' := 167) rfl ?_
   refine k_iload X1053 hx (hb hby at_167) rfl (pc' := 169) rfl ?_
   refine k_iload X1053 hx (hb hby at_169) rfl (pc' := 171) rfl ?_
   refine k_iload X1053 hx (hb hby at_171) rfl (pc' := 173) rfl ?_
   refine k_callS X1053 hx hZ hown (hw _ (List.mem_of_getElem? (i := 22) rfl)) (hw _ (List.mem_of_getElem? (i := 23) rfl)) (hw _ (List.mem_of_getElem? (i := 24) rfl)) (hw _ (List.mem_of_getElem? (i := 25) rfl)) (by decide) (rm4_1006 l Z a0 hw [] v910 v1 v11 T969.heap n0 Z984 ) (by decide) (by decide) e1053 (by rw [hml]; rfl) (argsL := [(.int v910), (.int v1), (.int (0 : Int32)), (.int v11), (.int (3 : Int32))]) (rest := [(.int v1054)]) (lenOf pd_2 rfl) rfl (W := 1) (Nat.le_refl _) rfl (hb hby at_173) (by decide) (by decide) (pc' := 176) rfl (fun T1056 L1056 r1056 X1056 q1056 => ?_)
   obtain ⟨N1056, e1056, rfl⟩ := q1056
   have N1056' := Fr.app N1053' N1056
   show KEnds p e below s _ _ _ T1056 (mkF m 176 #[iv i0, iv i1, iv i2, iv i3, iv v1, iv (0 : Int32), iv v11, iv (3 : Int32), iv v909, iv v910, rv b911, iv (1 : Int32), .unset, .unset] ((.int (f4_1006 v910 v1 v11)) :: (.int v1054) :: []))
   obtain ⟨v1057, hv1057⟩ : ∃ z, z = f4_1006 v910 v1 v11 := ⟨_, rfl⟩
   rw [← hv1057]
   refine k_icmp_ne X1056 hx (hb hby at_176) (pn := 179) rfl (py := 183) (by decide) (fun hc => absurd (by rw [hS1055, hv1057]; exact own_fin_10 v910 v1 v11 hp1032 (by intro hq1058; have B1061 : (-2147483648 : Int) ≤ i1.toInt ∧ i1.toInt ≤ 2147483647 := ⟨(rng32 i1).1, Int.le_of_lt_add_one (rng32 i1).2⟩; have q1060 : v11.toInt = i1.toInt % 16 := (by rw [hv11]; exact c_mask _ _ 4 (by decide) (by decide)); have B1059 : (0 : Int) ≤ v11.toInt ∧ v11.toInt ≤ 15 := (by rw [q1060]; exact k_modB (by decide)); have B1062 : (0 : Int) ≤ v938.toInt ∧ v938.toInt ≤ 30 := ⟨k_ge hI945 (by decide), k_le hI946 (by decide)⟩; have B1063 : (0 : Int) ≤ v939.toInt ∧ v939.toInt ≤ 2147483647 := ⟨k_ge hI947 (by decide), Int.le_of_lt_add_one (rng32 v939).2⟩; have q1064 := hI948; rw [Int32.lt_iff_toInt_lt] at q1064; have B1065 : (0 : Int) ≤ v954.toInt ∧ v954.toInt ≤ 30 := ⟨k_ge hI961 (by decide), k_le hI962 (by decide)⟩; have B1066 : (0 : Int) ≤ v955.toInt ∧ v955.toInt ≤ 2147483647 := ⟨k_ge hI963 (by decide), Int.le_of_lt_add_one (rng32 v955).2⟩; have q1067 := hI964; rw [Int32.lt_iff_toInt_lt] at q1067; have B1068 : (0 : Int) ≤ v970.toInt ∧ v970.toInt ≤ 30 := ⟨k_ge hI977 (by decide), k_le hI978 (by decide)⟩; have B1069 : (0 : Int) ≤ v971.toInt ∧ v971.toInt ≤ 2147483647 := ⟨k_ge hI979 (by decide), Int.le_of_lt_add_one (rng32 v971).2⟩; have q1070 := hI980; rw [Int32.lt_iff_toInt_lt] at q1070; have B1073 : (-2147483648 : Int) ≤ i2.toInt ∧ i2.toInt ≤ 2147483647 := ⟨(rng32 i2).1, Int.le_of_lt_add_one (rng32 i2).2⟩; have q1072 : v909.toInt = i2.toInt % 32 := (by rw [hv909]; exact c_mask _ _ 5 (by decide) (by decide)); have B1071 : (0 : Int) ≤ v909.toInt ∧ v909.toInt ≤ 31 := (by rw [q1072]; exact k_modB (by decide)); have B1076 : (-2147483648 : Int) ≤ i3.toInt ∧ i3.toInt ≤ 2147483647 := ⟨(rng32 i3).1, Int.le_of_lt_add_one (rng32 i3).2⟩; have q1075 : v910.toInt = i3.toInt % 2147483648 := (by rw [hv910]; exact c_mask _ _ 31 (by decide) (by decide)); have B1074 : (0 : Int) ≤ v910.toInt ∧ v910.toInt ≤ 2147483647 := (by rw [q1075]; exact k_modB (by decide)); have B1079 : (-2147483648 : Int) ≤ i0.toInt ∧ i0.toInt ≤ 2147483647 := ⟨(rng32 i0).1, Int.le_of_lt_add_one (rng32 i0).2⟩; have q1078 : v1.toInt = i0.toInt % 16 := (by rw [hv1]; exact c_mask _ _ 4 (by decide) (by decide)); have B1077 : (0 : Int) ≤ v1.toInt ∧ v1.toInt ≤ 15 := (by rw [q1078]; exact k_modB (by decide)); have B1080 : (0 : Int) ≤ v1.toInt ∧ v1.toInt ≤ -1 := ⟨B1077.1, k_lt hq1058 (by decide)⟩; omega) hT926) hc) (fun _ => ?_)
   refine k_iconst X1056 hx (hb hby at_179) (pc' := 180) rfl (z := (1 : Int32)) rfl ?_
   refine k_goto X1056 hx (hb hby at_180) (pc' := 184) (by decide) ?_
   refine k_istore X1056 hx (hb hby at_184) (Ls' := #[iv i0, iv i1, iv i2, iv i3, iv v1, iv (0 : Int32), iv v11, iv (3 : Int32), iv v909, iv v910, rv b911, iv (1 : Int32), iv (1 : Int32), .unset]) rfl (pc' := 186) rfl ?_
   refine k_aload X1056 hx (hb hby at_186) rfl rfl (pc' := 188) rfl ?_
   refine k_iload X1056 hx (hb hby at_188) rfl (pc' := 190) rfl ?_
   have hp1081 : ¬ v1 < (0 : Int32) := by
    intro hq1082
    have B1085 : (-2147483648 : Int) ≤ i1.toInt ∧ i1.toInt ≤ 2147483647 := ⟨(rng32 i1).1, Int.le_of_lt_add_one (rng32 i1).2⟩
    have q1084 : v11.toInt = i1.toInt % 16 := (by rw [hv11]; exact c_mask _ _ 4 (by decide) (by decide))
    have B1083 : (0 : Int) ≤ v11.toInt ∧ v11.toInt ≤ 15 := (by rw [q1084]; exact k_modB (by decide))
    have B1086 : (0 : Int) ≤ v938.toInt ∧ v938.toInt ≤ 30 := ⟨k_ge hI945 (by decide), k_le hI946 (by decide)⟩
    have B1087 : (0 : Int) ≤ v939.toInt ∧ v939.toInt ≤ 2147483647 := ⟨k_ge hI947 (by decide), Int.le_of_lt_add_one (rng32 v939).2⟩
    have q1088 := hI948; rw [Int32.lt_iff_toInt_lt] at q1088
    have B1089 : (0 : Int) ≤ v954.toInt ∧ v954.toInt ≤ 30 := ⟨k_ge hI961 (by decide), k_le hI962 (by decide)⟩
    have B1090 : (0 : Int) ≤ v955.toInt ∧ v955.toInt ≤ 2147483647 := ⟨k_ge hI963 (by decide), Int.le_of_lt_add_one (rng32 v955).2⟩
    have q1091 := hI964; rw [Int32.lt_iff_toInt_lt] at q1091
    have B1092 : (0 : Int) ≤ v970.toInt ∧ v970.toInt ≤ 30 := ⟨k_ge hI977 (by decide), k_le hI978 (by decide)⟩
    have B1093 : (0 : Int) ≤ v971.toInt ∧ v971.toInt ≤ 2147483647 := ⟨k_ge hI979 (by decide), Int.le_of_lt_add_one (rng32 v971).2⟩
    have q1094 := hI980; rw [Int32.lt_iff_toInt_lt] at q1094
    have B1097 : (-2147483648 : Int) ≤ i2.toInt ∧ i2.toInt ≤ 2147483647 := ⟨(rng32 i2).1, Int.le_of_lt_add_one (rng32 i2).2⟩
    have q1096 : v909.toInt = i2.toInt % 32 := (by rw [hv909]; exact c_mask _ _ 5 (by decide) (by decide))
    have B1095 : (0 : Int) ≤ v909.toInt ∧ v909.toInt ≤ 31 := (by rw [q1096]; exact k_modB (by decide))
    have B1100 : (-2147483648 : Int) ≤ i3.toInt ∧ i3.toInt ≤ 2147483647 := ⟨(rng32 i3).1, Int.le_of_lt_add_one (rng32 i3).2⟩
    have q1099 : v910.toInt = i3.toInt % 2147483648 := (by rw [hv910]; exact c_mask _ _ 31 (by decide) (by decide))
    have B1098 : (0 : Int) ≤ v910.toInt ∧ v910.toInt ≤ 2147483647 := (by rw [q1099]; exact k_modB (by decide))
    have B1103 : (-2147483648 : Int) ≤ i0.toInt ∧ i0.toInt ≤ 2147483647 := ⟨(rng32 i0).1, Int.le_of_lt_add_one (rng32 i0).2⟩
    have q1102 : v1.toInt = i0.toInt % 16 := (by rw [hv1]; exact c_mask _ _ 4 (by decide) (by decide))
    have B1101 : (0 : Int) ≤ v1.toInt ∧ v1.toInt ≤ 15 := (by rw [q1102]; exact k_modB (by decide))
    have B1104 : (0 : Int) ≤ v1.toInt ∧ v1.toInt ≤ -1 := ⟨B1101.1, k_lt hq1082 (by decide)⟩
    omega
   refine k_callV X1056 hx hZ hown (a := b911) (hw _ (List.mem_of_getElem? (i := 15) rfl)) (hw _ (List.mem_of_getElem? (i := 16) rfl)) (hw _ (List.mem_of_getElem? (i := 18) rfl)) (hw _ (List.mem_of_getElem? (i := 17) rfl)) (hw _ (List.mem_of_getElem? (i := 3) rfl)) (hw _ (List.mem_of_getElem? (i := 19) rfl)) (by decide) F972 (rm3_631 l Z a0 hw [] b911 v1 b969 v971 k969 v970 (updF (updF (updF (fun _ => 0) v11.toNatClampNeg ((fun _ => 0) v11.toNatClampNeg + 1)) v11.toNatClampNeg ((updF (fun _ => 0) v11.toNatClampNeg ((fun _ => 0) v11.toNatClampNeg + 1)) v11.toNatClampNeg + 1)) v11.toNatClampNeg ((updF (updF (fun _ => 0) v11.toNatClampNeg ((fun _ => 0) v11.toNatClampNeg + 1)) v11.toNatClampNeg ((updF (fun _ => 0) v11.toNatClampNeg ((fun _ => 0) v11.toNatClampNeg + 1)) v11.toNatClampNeg + 1)) v11.toNatClampNeg + 1)) T969.heap n0 Z984 F972 F973 F974 F975 F976 lt983 hp1081 hI980 HZ981) (by decide) (by decide) e1056 (by rw [hml]; rfl) (argsL := [(.int v1)]) (rest := []) (lenOf pd_1 rfl) rfl (W := 0) (Nat.le_refl _) rfl (hb hby at_190) (by decide) (by decide) (pc' := 193) rfl (fun T1105 L1105 r1105 X1105 q1105 => ?_)
   obtain ⟨N1105, e1105, v1106, rfl, hS1107⟩ := q1105
   have N1105' := Fr.app N1056' N1105
   show KEnds p e below s _ _ _ T1105 (mkF m 193 #[iv i0, iv i1, iv i2, iv i3, iv v1, iv (0 : Int32), iv v11, iv (3 : Int32), iv v909, iv v910, rv b911, iv (1 : Int32), iv (1 : Int32), .unset] [(.int v1106)])
   refine k_iload X1105 hx (hb hby at_193) rfl (pc' := 195) rfl ?_
   refine k_iload X1105 hx (hb hby at_195) rfl (pc' := 197) rfl ?_
   refine k_iload X1105 hx (hb hby at_197) rfl (pc' := 199) rfl ?_
   refine k_iload X1105 hx (hb hby at_199) rfl (pc' := 201) rfl ?_
   refine k_iload X1105 hx (hb hby at_201) rfl (pc' := 203) rfl ?_
   refine k_callS X1105 hx hZ hown (hw _ (List.mem_of_getElem? (i := 22) rfl)) (hw _ (List.mem_of_getElem? (i := 23) rfl)) (hw _ (List.mem_of_getElem? (i := 24) rfl)) (hw _ (List.mem_of_getElem? (i := 25) rfl)) (by decide) (rm4_1108 l Z a0 hw [] v1 v11 T969.heap n0 Z984 ) (by decide) (by decide) e1105 (by rw [hml]; rfl) (argsL := [(.int v1), (.int v1), (.int (0 : Int32)), (.int v11), (.int (3 : Int32))]) (rest := [(.int v1106)]) (lenOf pd_2 rfl) rfl (W := 1) (Nat.le_refl _) rfl (hb hby at_203) (by decide) (by decide) (pc' := 206) rfl (fun T1110 L1110 r1110 X1110 q1110 => ?_)
   obtain ⟨N1110, e1110, rfl⟩ := q1110
   have N1110' := Fr.app N1105' N1110
   show KEnds p e below s _ _ _ T1110 (mkF m 206 #[iv i0, iv i1, iv i2, iv i3, iv v1, iv (0 : Int32), iv v11, iv (3 : Int32), iv v909, iv v910, rv b911, iv (1 : Int32), iv (1 : Int32), .unset] ((.int (f4_1108 v1 v11)) :: (.int v1106) :: []))
   obtain ⟨v1111, hv1111⟩ : ∃ z, z = f4_1108 v1 v11 := ⟨_, rfl⟩
   rw [← hv1111]
   refine k_icmp_ne X1110 hx (hb hby at_206) (pn := 209) rfl (py := 213) (by decide) (fun hc => absurd (by rw [hS1107, hv1111]; exact own_fin_11 v1 v11 hp1081 hp1081 hT926) hc) (fun _ => ?_)
   refine k_iconst X1110 hx (hb hby at_209) (pc' := 210) rfl (z := (1 : Int32)) rfl ?_
   refine k_goto X1110 hx (hb hby at_210) (pc' := 214) (by decide) ?_
   refine k_istore X1110 hx (hb hby at_214) (Ls' := #[iv i0, iv i1, iv i2, iv i3, iv v1, iv (0 : Int32), iv v11, iv (3 : Int32), iv v909, iv v910, rv b911, iv (1 : Int32), iv (1 : Int32), iv (1 : Int32)]) rfl (pc' := 216) rfl ?_
   refine k_iload X1110 hx (hb hby at_216) rfl (pc' := 218) rfl ?_
   refine k_if_eq X1110 hx (hb hby at_218) (pn := 221) rfl (py := 235) (by decide) (fun hc => absurd hc (by decide)) (fun _ => ?_)
   refine k_iload X1110 hx (hb hby at_221) rfl (pc' := 223) rfl ?_
   refine k_if_eq X1110 hx (hb hby at_223) (pn := 226) rfl (py := 235) (by decide) (fun hc => absurd hc (by decide)) (fun _ => ?_)
   refine k_iload X1110 hx (hb hby at_226) rfl (pc' := 228) rfl ?_
   refine k_if_eq X1110 hx (hb hby at_228) (pn := 231) rfl (py := 235) (by decide) (fun hc => absurd hc (by decide)) (fun _ => ?_)
   refine k_iconst X1110 hx (hb hby at_231) (pc' := 232) rfl (z := (1 : Int32)) rfl ?_
   refine k_goto X1110 hx (hb hby at_232) (pc' := 236) (by decide) ?_
   exact k_retN X1110 hx (t := .boolean) Bd.returns (by simp) (hb hby at_236) hlk (by decide) (by decide) (z' := (1 : Int32)) rfl ⟨rfl, N1110'⟩
 ·
  show KEnds p e below s _ _ _ s₁ (mkF m 11 #[iv i0, iv i1, iv i2, iv i3, iv v1, .unset, .unset, .unset, .unset, .unset, .unset, .unset, .unset, .unset] [(.int (1 : Int32))])
  refine k_istore X0 hx (hb hby at_11) (Ls' := #[iv i0, iv i1, iv i2, iv i3, iv v1, iv (1 : Int32), .unset, .unset, .unset, .unset, .unset, .unset, .unset, .unset]) rfl (pc' := 13) rfl ?_
  refine k_iloadN X0 hx (hb hby at_13) rfl (pc' := 14) rfl ?_
  refine k_bipush X0 hx (hb hby at_14) (pc' := 16) rfl (z := (15 : Int32)) rfl ?_
  refine k_iand X0 hx (hb hby at_16) (pc' := 17) rfl (fun v1113 hv1113 => ?_)
  refine k_istore X0 hx (hb hby at_17) (Ls' := #[iv i0, iv i1, iv i2, iv i3, iv v1, iv (1 : Int32), iv v1113, .unset, .unset, .unset, .unset, .unset, .unset, .unset]) rfl (pc' := 19) rfl ?_
  refine k_iloadN X0 hx (hb hby at_19) rfl (pc' := 20) rfl ?_
  refine k_iconst X0 hx (hb hby at_20) (pc' := 21) rfl (z := (4 : Int32)) rfl ?_
  refine k_iushr X0 hx (hb hby at_21) (pc' := 22) rfl (fun v1114 hv1114 => ?_)
  refine k_iconst X0 hx (hb hby at_22) (pc' := 23) rfl (z := (3 : Int32)) rfl ?_
  refine k_iand X0 hx (hb hby at_23) (pc' := 24) rfl (fun v1115 hv1115 => ?_)
  have hs1116 : v1115 = (0 : Int32) ∨ v1115 = (1 : Int32) ∨ v1115 = (2 : Int32) ∨ v1115 = (3 : Int32) := by
   have B1121 : (-2147483648 : Int) ≤ i1.toInt ∧ i1.toInt ≤ 2147483647 := ⟨(rng32 i1).1, Int.le_of_lt_add_one (rng32 i1).2⟩
   have q1120 : v1114.toInt = (i1.toInt % 4294967296) / 16 := (by rw [hv1114]; exact c_iushr _ _ 4 (by decide) (by decide))
   have B1119 : (0 : Int) ≤ v1114.toInt ∧ v1114.toInt ≤ 268435455 := (by rw [q1120]; exact k_divmodB (by decide) (by decide) (by decide))
   have q1118 : v1115.toInt = v1114.toInt % 4 := (by rw [hv1115]; exact c_mask _ _ 2 (by decide) (by decide))
   have B1117 : (0 : Int) ≤ v1115.toInt ∧ v1115.toInt ≤ 3 := (by rw [q1118]; exact k_modB (by decide))
   rcases (by omega : v1115.toInt = 0 ∨ v1115.toInt = 1 ∨ v1115.toInt = 2 ∨ v1115.toInt = 3) with hq | hq | hq | hq
   · exact Or.inl (Int32.toInt_inj.mp hq)
   · exact Or.inr (Or.inl (Int32.toInt_inj.mp hq))
   · exact Or.inr (Or.inr (Or.inl (Int32.toInt_inj.mp hq)))
   · exact Or.inr (Or.inr (Or.inr ((Int32.toInt_inj.mp hq))))
  rcases hs1116 with rfl | rfl | rfl | rfl
  ·
   show KEnds p e below s _ _ _ s₁ (mkF m 24 #[iv i0, iv i1, iv i2, iv i3, iv v1, iv (1 : Int32), iv v1113, .unset, .unset, .unset, .unset, .unset, .unset, .unset] [(.int (0 : Int32))])
   refine k_istore X0 hx (hb hby at_24) (Ls' := #[iv i0, iv i1, iv i2, iv i3, iv v1, iv (1 : Int32), iv v1113, iv (0 : Int32), .unset, .unset, .unset, .unset, .unset, .unset]) rfl (pc' := 26) rfl ?_
   refine k_iloadN X0 hx (hb hby at_26) rfl (pc' := 27) rfl ?_
   refine k_bipush X0 hx (hb hby at_27) (pc' := 29) rfl (z := (31 : Int32)) rfl ?_
   refine k_iand X0 hx (hb hby at_29) (pc' := 30) rfl (fun v1123 hv1123 => ?_)
   refine k_istore X0 hx (hb hby at_30) (Ls' := #[iv i0, iv i1, iv i2, iv i3, iv v1, iv (1 : Int32), iv v1113, iv (0 : Int32), iv v1123, .unset, .unset, .unset, .unset, .unset]) rfl (pc' := 32) rfl ?_
   refine k_iloadN X0 hx (hb hby at_32) rfl (pc' := 33) rfl ?_
   refine k_ldc X0 hx hZ hown (hw _ (List.mem_of_getElem? (i := 0) rfl)) (hb hby at_33) (pc' := 35) rfl ?_
   refine k_iand X0 hx (hb hby at_35) (pc' := 36) rfl (fun v1124 hv1124 => ?_)
   refine k_istore X0 hx (hb hby at_36) (Ls' := #[iv i0, iv i1, iv i2, iv i3, iv v1, iv (1 : Int32), iv v1113, iv (0 : Int32), iv v1123, iv v1124, .unset, .unset, .unset, .unset]) rfl (pc' := 38) rfl ?_
   refine k_newO X0 hx hZ hown (hw _ (List.mem_of_getElem? (i := 1) rfl)) (hw _ (List.mem_of_getElem? (i := 2) rfl)) (hw _ (List.mem_of_getElem? (i := 3) rfl)) e0 (hb hby at_38) (by decide) (by decide) (pc' := 41) rfl (fun T1125 h1125 b1125 g1125 X1125 e1125 E1125 A1125 D1125 => ?_)
   have g_b1125 : n0 ≤ b1125 := Nat.le_trans Z0 (Nat.le_of_eq g1125.symm)
   have Z1125 : n0 ≤ h1125.size := Nat.le_trans Z0 E1125.1
   have F1126 : Fld Z h1125 b1125 "com/example/dendrotick/dendrotick/VectorClock" "entries" "[I" .null := D1125 (Or.inl (hw _ (List.mem_of_getElem? (i := 12) rfl))) (ty := (.array .int)) (by decide)
   have F1127 : Fld Z h1125 b1125 "com/example/dendrotick/dendrotick/VectorClock" "work" "Lcom/example/dendrotick/dendrotick/ClockWork;" .null := D1125 (Or.inr (hw _ (List.mem_of_getElem? (i := 14) rfl))) (ty := (.object "com/example/dendrotick/dendrotick/ClockWork")) (by decide)
   have F1128 : Fld Z h1125 b1125 "com/example/dendrotick/dendrotick/VectorClock" "size" "I" (.int (0 : Int32)) := D1125 (Or.inl (hw _ (List.mem_of_getElem? (i := 21) rfl))) (ty := .int) (by decide)
   refine k_dup X1125 hx (hb hby at_41) rfl (pc' := 42) rfl ?_
   refine k_anull X1125 hx (hb hby at_42) (pc' := 43) rfl ?_
   refine k_callI X1125 hx hZ hown (a := b1125) rfl (hw _ (List.mem_of_getElem? (i := 4) rfl)) (hw _ (List.mem_of_getElem? (i := 5) rfl)) (hw _ (List.mem_of_getElem? (i := 3) rfl)) (hw _ (List.mem_of_getElem? (i := 6) rfl)) rfl (by decide) (rm1_27 l Z a0 hw [] b1125 h1125 n0 Z1125 A1125 F1126 F1127 F1128 g_b1125) (by decide) (by decide) e1125 (by rw [hml]; rfl) (argsL := [.null]) (rest := [(.ref b1125)]) (lenOf pd_0 rfl) rfl (W := 1) (Nat.le_refl _) rfl (hb hby at_43) (by decide) (by decide) (pc' := 46) rfl (fun T1129 L1129 r1129 X1129 q1129 => ?_)
   obtain ⟨N1129, q1129⟩ := q1129
   have N1129' := Fr.app N0 N1129
   obtain ⟨b1130, k1131, rfl, F1132, F1133, F1134, F1135, F1136, g_b1130, lt1137, Z1138⟩ := q1129
   show KEnds p e below s _ _ _ T1129 (mkF m 46 #[iv i0, iv i1, iv i2, iv i3, iv v1, iv (1 : Int32), iv v1113, iv (0 : Int32), iv v1123, iv v1124, .unset, .unset, .unset, .unset] [(.ref b1125)])
   refine k_astore X1129 hx (hb hby at_46) rfl (Ls' := #[iv i0, iv i1, iv i2, iv i3, iv v1, iv (1 : Int32), iv v1113, iv (0 : Int32), iv v1123, iv v1124, rv b1125, .unset, .unset, .unset]) rfl (pc' := 48) rfl ?_
   refine k_iload X1129 hx (hb hby at_48) rfl (pc' := 50) rfl ?_
   refine k_iconst X1129 hx (hb hby at_50) (pc' := 51) rfl (z := (1 : Int32)) rfl ?_
   refine k_icmp_lt X1129 hx (hb hby at_51) (pn := 54) rfl (py := 61) (by decide) (fun hc => absurd hc (by decide)) (fun _ => ?_)
   refine k_aload X1129 hx (hb hby at_54) rfl rfl (pc' := 56) rfl ?_
   refine k_iload X1129 hx (hb hby at_56) rfl (pc' := 58) rfl ?_
   have hT1140 : ¬ v1 < (0 : Int32) := (by intro hq1141; have B1144 : (-2147483648 : Int) ≤ i0.toInt ∧ i0.toInt ≤ 2147483647 := ⟨(rng32 i0).1, Int.le_of_lt_add_one (rng32 i0).2⟩; have q1143 : v1.toInt = i0.toInt % 16 := (by rw [hv1]; exact c_mask _ _ 4 (by decide) (by decide)); have B1142 : (0 : Int) ≤ v1.toInt ∧ v1.toInt ≤ 15 := (by rw [q1143]; exact k_modB (by decide)); have B1145 : (0 : Int) ≤ v1.toInt ∧ v1.toInt ≤ -1 := ⟨B1142.1, k_lt hq1141 (by decide)⟩; omega)
   have hT1146 : ¬ (15 : Int32) < v1 := (by intro hq1147; have B1150 : (-2147483648 : Int) ≤ i0.toInt ∧ i0.toInt ≤ 2147483647 := ⟨(rng32 i0).1, Int.le_of_lt_add_one (rng32 i0).2⟩; have q1149 : v1.toInt = i0.toInt % 16 := (by rw [hv1]; exact c_mask _ _ 4 (by decide) (by decide)); have B1148 : (0 : Int) ≤ v1.toInt ∧ v1.toInt ≤ 15 := (by rw [q1149]; exact k_modB (by decide)); have B1151 : (16 : Int) ≤ v1.toInt ∧ v1.toInt ≤ 15 := ⟨k_gt hq1147 (by decide), B1148.2⟩; omega)
   refine k_callV X1129 hx hZ hown (a := b1125) (hw _ (List.mem_of_getElem? (i := 26) rfl)) (hw _ (List.mem_of_getElem? (i := 27) rfl)) (hw _ (List.mem_of_getElem? (i := 29) rfl)) (hw _ (List.mem_of_getElem? (i := 28) rfl)) (hw _ (List.mem_of_getElem? (i := 3) rfl)) (hw _ (List.mem_of_getElem? (i := 30) rfl)) (by decide) F1132 (rm5_169 l Z a0 hw [] b1125 b1130 k1131 (0 : Int32) (0 : Int32) v1 (fun _ => 0) T1129.heap n0 Z1138 F1132 F1133 F1134 F1135 F1136 g_b1125 g_b1130 lt1137 (by decide) (by decide) (by decide) (by decide) (fun _ _ => rfl) hT1140 hT1146) (by decide) (by decide) rfl (by rw [hml]; rfl) (argsL := [(.int v1)]) (rest := []) (lenOf pd_5 rfl) rfl (W := 0) (Nat.le_refl _) rfl (hb hby at_58) (by decide) (by decide) (pc' := 61) rfl (fun T1139 L1139 r1139 X1139 q1139 => ?_)
   obtain ⟨N1139, b1139, k1139, v1152, v1153, rfl, F1154, F1155, F1156, F1157, F1158, g_b1139, lt1165, Z1166, hI1159, hI1160, hI1161, hI1162, HZ1163⟩ := q1139
   have N1139' := Fr.app N1129' N1139
   show KEnds p e below s _ _ _ T1139 (mkF m 61 #[iv i0, iv i1, iv i2, iv i3, iv v1, iv (1 : Int32), iv v1113, iv (0 : Int32), iv v1123, iv v1124, rv b1125, .unset, .unset, .unset] [])
   refine k_iload X1139 hx (hb hby at_61) rfl (pc' := 63) rfl ?_
   refine k_iconst X1139 hx (hb hby at_63) (pc' := 64) rfl (z := (2 : Int32)) rfl ?_
   refine k_icmp_lt X1139 hx (hb hby at_64) (pn := 67) rfl (py := 74) (by decide) (fun _ => ?_) (fun hc => absurd (by decide) hc)
   refine k_iload X1139 hx (hb hby at_74) rfl (pc' := 76) rfl ?_
   refine k_iconst X1139 hx (hb hby at_76) (pc' := 77) rfl (z := (3 : Int32)) rfl ?_
   refine k_icmp_lt X1139 hx (hb hby at_77) (pn := 80) rfl (py := 87) (by decide) (fun _ => ?_) (fun hc => absurd (by decide) hc)
   refine k_iload X1139 hx (hb hby at_87) rfl (pc' := 89) rfl ?_
   refine k_iconst X1139 hx (hb hby at_89) (pc' := 90) rfl (z := (1 : Int32)) rfl ?_
   refine k_icmp_lt X1139 hx (hb hby at_90) (pn := 93) rfl (py := 100) (by decide) (fun _ => ?_) (fun hc => absurd (by decide) hc)
   refine k_iload X1139 hx (hb hby at_100) rfl (pc' := 102) rfl ?_
   refine k_iconst X1139 hx (hb hby at_102) (pc' := 103) rfl (z := (2 : Int32)) rfl ?_
   refine k_icmp_lt X1139 hx (hb hby at_103) (pn := 106) rfl (py := 113) (by decide) (fun _ => ?_) (fun hc => absurd (by decide) hc)
   refine k_iload X1139 hx (hb hby at_113) rfl (pc' := 115) rfl ?_
   refine k_iconst X1139 hx (hb hby at_115) (pc' := 116) rfl (z := (3 : Int32)) rfl ?_
   refine k_icmp_lt X1139 hx (hb hby at_116) (pn := 119) rfl (py := 126) (by decide) (fun _ => ?_) (fun hc => absurd (by decide) hc)
   refine k_aload X1139 hx (hb hby at_126) rfl rfl (pc' := 128) rfl ?_
   refine k_iload X1139 hx (hb hby at_128) rfl (pc' := 130) rfl ?_
   have hp1167 : ¬ v1123 < (0 : Int32) := by
    intro hq1168
    have B1171 : (-2147483648 : Int) ≤ i0.toInt ∧ i0.toInt ≤ 2147483647 := ⟨(rng32 i0).1, Int.le_of_lt_add_one (rng32 i0).2⟩
    have q1170 : v1.toInt = i0.toInt % 16 := (by rw [hv1]; exact c_mask _ _ 4 (by decide) (by decide))
    have B1169 : (0 : Int) ≤ v1.toInt ∧ v1.toInt ≤ 15 := (by rw [q1170]; exact k_modB (by decide))
    have B1172 : (0 : Int) ≤ v1152.toInt ∧ v1152.toInt ≤ 30 := ⟨k_ge hI1159 (by decide), k_le hI1160 (by decide)⟩
    have B1173 : (0 : Int) ≤ v1153.toInt ∧ v1153.toInt ≤ 2147483647 := ⟨k_ge hI1161 (by decide), Int.le_of_lt_add_one (rng32 v1153).2⟩
    have q1174 := hI1162; rw [Int32.lt_iff_toInt_lt] at q1174
    have B1177 : (-2147483648 : Int) ≤ i2.toInt ∧ i2.toInt ≤ 2147483647 := ⟨(rng32 i2).1, Int.le_of_lt_add_one (rng32 i2).2⟩
    have q1176 : v1123.toInt = i2.toInt % 32 := (by rw [hv1123]; exact c_mask _ _ 5 (by decide) (by decide))
    have B1175 : (0 : Int) ≤ v1123.toInt ∧ v1123.toInt ≤ 31 := (by rw [q1176]; exact k_modB (by decide))
    have B1178 : (0 : Int) ≤ v1123.toInt ∧ v1123.toInt ≤ -1 := ⟨B1175.1, k_lt hq1168 (by decide)⟩
    omega
   refine k_callV X1139 hx hZ hown (a := b1125) (hw _ (List.mem_of_getElem? (i := 15) rfl)) (hw _ (List.mem_of_getElem? (i := 16) rfl)) (hw _ (List.mem_of_getElem? (i := 18) rfl)) (hw _ (List.mem_of_getElem? (i := 17) rfl)) (hw _ (List.mem_of_getElem? (i := 3) rfl)) (hw _ (List.mem_of_getElem? (i := 19) rfl)) (by decide) F1154 (rm3_631 l Z a0 hw [] b1125 v1123 b1139 v1153 k1139 v1152 (updF (fun _ => 0) v1.toNatClampNeg ((fun _ => 0) v1.toNatClampNeg + 1)) T1139.heap n0 Z1166 F1154 F1155 F1156 F1157 F1158 lt1165 hp1167 hI1162 HZ1163) (by decide) (by decide) rfl (by rw [hml]; rfl) (argsL := [(.int v1123)]) (rest := []) (lenOf pd_1 rfl) rfl (W := 0) (Nat.le_refl _) rfl (hb hby at_130) (by decide) (by decide) (pc' := 133) rfl (fun T1179 L1179 r1179 X1179 q1179 => ?_)
   obtain ⟨N1179, e1179, v1180, rfl, hS1181⟩ := q1179
   have N1179' := Fr.app N1139' N1179
   show KEnds p e below s _ _ _ T1179 (mkF m 133 #[iv i0, iv i1, iv i2, iv i3, iv v1, iv (1 : Int32), iv v1113, iv (0 : Int32), iv v1123, iv v1124, rv b1125, .unset, .unset, .unset] [(.int v1180)])
   refine k_iload X1179 hx (hb hby at_133) rfl (pc' := 135) rfl ?_
   refine k_iload X1179 hx (hb hby at_135) rfl (pc' := 137) rfl ?_
   refine k_iload X1179 hx (hb hby at_137) rfl (pc' := 139) rfl ?_
   refine k_iload X1179 hx (hb hby at_139) rfl (pc' := 141) rfl ?_
   refine k_iload X1179 hx (hb hby at_141) rfl (pc' := 143) rfl ?_
   refine k_callS X1179 hx hZ hown (hw _ (List.mem_of_getElem? (i := 22) rfl)) (hw _ (List.mem_of_getElem? (i := 23) rfl)) (hw _ (List.mem_of_getElem? (i := 24) rfl)) (hw _ (List.mem_of_getElem? (i := 25) rfl)) (by decide) (rm4_1182 l Z a0 hw [] v1123 v1 v1113 T1139.heap n0 Z1166 ) (by decide) (by decide) e1179 (by rw [hml]; rfl) (argsL := [(.int v1123), (.int v1), (.int (1 : Int32)), (.int v1113), (.int (0 : Int32))]) (rest := [(.int v1180)]) (lenOf pd_2 rfl) rfl (W := 1) (Nat.le_refl _) rfl (hb hby at_143) (by decide) (by decide) (pc' := 146) rfl (fun T1186 L1186 r1186 X1186 q1186 => ?_)
   obtain ⟨N1186, e1186, rfl⟩ := q1186
   have N1186' := Fr.app N1179' N1186
   show KEnds p e below s _ _ _ T1186 (mkF m 146 #[iv i0, iv i1, iv i2, iv i3, iv v1, iv (1 : Int32), iv v1113, iv (0 : Int32), iv v1123, iv v1124, rv b1125, .unset, .unset, .unset] ((.int (f4_1182 v1123 v1 v1113)) :: (.int v1180) :: []))
   obtain ⟨v1187, hv1187⟩ : ∃ z, z = f4_1182 v1123 v1 v1113 := ⟨_, rfl⟩
   rw [← hv1187]
   refine k_icmp_ne X1186 hx (hb hby at_146) (pn := 149) rfl (py := 153) (by decide) (fun hc => absurd (by rw [hS1181, hv1187]; exact own_fin_12 v1123 v1 v1113 hp1167 hT1140 (by intro hq1188; have B1191 : (-2147483648 : Int) ≤ i0.toInt ∧ i0.toInt ≤ 2147483647 := ⟨(rng32 i0).1, Int.le_of_lt_add_one (rng32 i0).2⟩; have q1190 : v1.toInt = i0.toInt % 16 := (by rw [hv1]; exact c_mask _ _ 4 (by decide) (by decide)); have B1189 : (0 : Int) ≤ v1.toInt ∧ v1.toInt ≤ 15 := (by rw [q1190]; exact k_modB (by decide)); have B1192 : (0 : Int) ≤ v1152.toInt ∧ v1152.toInt ≤ 30 := ⟨k_ge hI1159 (by decide), k_le hI1160 (by decide)⟩; have B1193 : (0 : Int) ≤ v1153.toInt ∧ v1153.toInt ≤ 2147483647 := ⟨k_ge hI1161 (by decide), Int.le_of_lt_add_one (rng32 v1153).2⟩; have q1194 := hI1162; rw [Int32.lt_iff_toInt_lt] at q1194; have B1197 : (-2147483648 : Int) ≤ i2.toInt ∧ i2.toInt ≤ 2147483647 := ⟨(rng32 i2).1, Int.le_of_lt_add_one (rng32 i2).2⟩; have q1196 : v1123.toInt = i2.toInt % 32 := (by rw [hv1123]; exact c_mask _ _ 5 (by decide) (by decide)); have B1195 : (0 : Int) ≤ v1123.toInt ∧ v1123.toInt ≤ 31 := (by rw [q1196]; exact k_modB (by decide)); have B1200 : (-2147483648 : Int) ≤ i1.toInt ∧ i1.toInt ≤ 2147483647 := ⟨(rng32 i1).1, Int.le_of_lt_add_one (rng32 i1).2⟩; have q1199 : v1113.toInt = i1.toInt % 16 := (by rw [hv1113]; exact c_mask _ _ 4 (by decide) (by decide)); have B1198 : (0 : Int) ≤ v1113.toInt ∧ v1113.toInt ≤ 15 := (by rw [q1199]; exact k_modB (by decide)); have B1201 : (0 : Int) ≤ v1113.toInt ∧ v1113.toInt ≤ -1 := ⟨B1198.1, k_lt hq1188 (by decide)⟩; omega)) hc) (fun _ => ?_)
   refine k_iconst X1186 hx (hb hby at_149) (pc' := 150) rfl (z := (1 : Int32)) rfl ?_
   refine k_goto X1186 hx (hb hby at_150) (pc' := 154) (by decide) ?_
   refine k_istore X1186 hx (hb hby at_154) (Ls' := #[iv i0, iv i1, iv i2, iv i3, iv v1, iv (1 : Int32), iv v1113, iv (0 : Int32), iv v1123, iv v1124, rv b1125, iv (1 : Int32), .unset, .unset]) rfl (pc' := 156) rfl ?_
   refine k_aload X1186 hx (hb hby at_156) rfl rfl (pc' := 158) rfl ?_
   refine k_iload X1186 hx (hb hby at_158) rfl (pc' := 160) rfl ?_
   have hp1202 : ¬ v1124 < (0 : Int32) := by
    intro hq1203
    have B1206 : (-2147483648 : Int) ≤ i0.toInt ∧ i0.toInt ≤ 2147483647 := ⟨(rng32 i0).1, Int.le_of_lt_add_one (rng32 i0).2⟩
    have q1205 : v1.toInt = i0.toInt % 16 := (by rw [hv1]; exact c_mask _ _ 4 (by decide) (by decide))
    have B1204 : (0 : Int) ≤ v1.toInt ∧ v1.toInt ≤ 15 := (by rw [q1205]; exact k_modB (by decide))
    have B1207 : (0 : Int) ≤ v1152.toInt ∧ v1152.toInt ≤ 30 := ⟨k_ge hI1159 (by decide), k_le hI1160 (by decide)⟩
    have B1208 : (0 : Int) ≤ v1153.toInt ∧ v1153.toInt ≤ 2147483647 := ⟨k_ge hI1161 (by decide), Int.le_of_lt_add_one (rng32 v1153).2⟩
    have q1209 := hI1162; rw [Int32.lt_iff_toInt_lt] at q1209
    have B1212 : (-2147483648 : Int) ≤ i2.toInt ∧ i2.toInt ≤ 2147483647 := ⟨(rng32 i2).1, Int.le_of_lt_add_one (rng32 i2).2⟩
    have q1211 : v1123.toInt = i2.toInt % 32 := (by rw [hv1123]; exact c_mask _ _ 5 (by decide) (by decide))
    have B1210 : (0 : Int) ≤ v1123.toInt ∧ v1123.toInt ≤ 31 := (by rw [q1211]; exact k_modB (by decide))
    have B1215 : (-2147483648 : Int) ≤ i3.toInt ∧ i3.toInt ≤ 2147483647 := ⟨(rng32 i3).1, Int.le_of_lt_add_one (rng32 i3).2⟩
    have q1214 : v1124.toInt = i3.toInt % 2147483648 := (by rw [hv1124]; exact c_mask _ _ 31 (by decide) (by decide))
    have B1213 : (0 : Int) ≤ v1124.toInt ∧ v1124.toInt ≤ 2147483647 := (by rw [q1214]; exact k_modB (by decide))
    have B1216 : (0 : Int) ≤ v1124.toInt ∧ v1124.toInt ≤ -1 := ⟨B1213.1, k_lt hq1203 (by decide)⟩
    omega
   refine k_callV X1186 hx hZ hown (a := b1125) (hw _ (List.mem_of_getElem? (i := 15) rfl)) (hw _ (List.mem_of_getElem? (i := 16) rfl)) (hw _ (List.mem_of_getElem? (i := 18) rfl)) (hw _ (List.mem_of_getElem? (i := 17) rfl)) (hw _ (List.mem_of_getElem? (i := 3) rfl)) (hw _ (List.mem_of_getElem? (i := 19) rfl)) (by decide) F1154 (rm3_631 l Z a0 hw [] b1125 v1124 b1139 v1153 k1139 v1152 (updF (fun _ => 0) v1.toNatClampNeg ((fun _ => 0) v1.toNatClampNeg + 1)) T1139.heap n0 Z1166 F1154 F1155 F1156 F1157 F1158 lt1165 hp1202 hI1162 HZ1163) (by decide) (by decide) e1186 (by rw [hml]; rfl) (argsL := [(.int v1124)]) (rest := []) (lenOf pd_1 rfl) rfl (W := 0) (Nat.le_refl _) rfl (hb hby at_160) (by decide) (by decide) (pc' := 163) rfl (fun T1217 L1217 r1217 X1217 q1217 => ?_)
   obtain ⟨N1217, e1217, v1218, rfl, hS1219⟩ := q1217
   have N1217' := Fr.app N1186' N1217
   show KEnds p e below s _ _ _ T1217 (mkF m 163 #[iv i0, iv i1, iv i2, iv i3, iv v1, iv (1 : Int32), iv v1113, iv (0 : Int32), iv v1123, iv v1124, rv b1125, iv (1 : Int32), .unset, .unset] [(.int v1218)])
   refine k_iload X1217 hx (hb hby at_163) rfl (pc' := 165) rfl ?_
   refine k_iload X1217 hx (hb hby at_165) rfl (pc' := 167) rfl ?_
   refine k_iload X1217 hx (hb hby at_167) rfl (pc' := 169) rfl ?_
   refine k_iload X1217 hx (hb hby at_169) rfl (pc' := 171) rfl ?_
   refine k_iload X1217 hx (hb hby at_171) rfl (pc' := 173) rfl ?_
   refine k_callS X1217 hx hZ hown (hw _ (List.mem_of_getElem? (i := 22) rfl)) (hw _ (List.mem_of_getElem? (i := 23) rfl)) (hw _ (List.mem_of_getElem? (i := 24) rfl)) (hw _ (List.mem_of_getElem? (i := 25) rfl)) (by decide) (rm4_1182 l Z a0 hw [] v1124 v1 v1113 T1139.heap n0 Z1166 ) (by decide) (by decide) e1217 (by rw [hml]; rfl) (argsL := [(.int v1124), (.int v1), (.int (1 : Int32)), (.int v1113), (.int (0 : Int32))]) (rest := [(.int v1218)]) (lenOf pd_2 rfl) rfl (W := 1) (Nat.le_refl _) rfl (hb hby at_173) (by decide) (by decide) (pc' := 176) rfl (fun T1220 L1220 r1220 X1220 q1220 => ?_)
   obtain ⟨N1220, e1220, rfl⟩ := q1220
   have N1220' := Fr.app N1217' N1220
   show KEnds p e below s _ _ _ T1220 (mkF m 176 #[iv i0, iv i1, iv i2, iv i3, iv v1, iv (1 : Int32), iv v1113, iv (0 : Int32), iv v1123, iv v1124, rv b1125, iv (1 : Int32), .unset, .unset] ((.int (f4_1182 v1124 v1 v1113)) :: (.int v1218) :: []))
   obtain ⟨v1221, hv1221⟩ : ∃ z, z = f4_1182 v1124 v1 v1113 := ⟨_, rfl⟩
   rw [← hv1221]
   refine k_icmp_ne X1220 hx (hb hby at_176) (pn := 179) rfl (py := 183) (by decide) (fun hc => absurd (by rw [hS1219, hv1221]; exact own_fin_13 v1124 v1 v1113 hp1202 hT1140 (by intro hq1222; have B1225 : (-2147483648 : Int) ≤ i0.toInt ∧ i0.toInt ≤ 2147483647 := ⟨(rng32 i0).1, Int.le_of_lt_add_one (rng32 i0).2⟩; have q1224 : v1.toInt = i0.toInt % 16 := (by rw [hv1]; exact c_mask _ _ 4 (by decide) (by decide)); have B1223 : (0 : Int) ≤ v1.toInt ∧ v1.toInt ≤ 15 := (by rw [q1224]; exact k_modB (by decide)); have B1226 : (0 : Int) ≤ v1152.toInt ∧ v1152.toInt ≤ 30 := ⟨k_ge hI1159 (by decide), k_le hI1160 (by decide)⟩; have B1227 : (0 : Int) ≤ v1153.toInt ∧ v1153.toInt ≤ 2147483647 := ⟨k_ge hI1161 (by decide), Int.le_of_lt_add_one (rng32 v1153).2⟩; have q1228 := hI1162; rw [Int32.lt_iff_toInt_lt] at q1228; have B1231 : (-2147483648 : Int) ≤ i2.toInt ∧ i2.toInt ≤ 2147483647 := ⟨(rng32 i2).1, Int.le_of_lt_add_one (rng32 i2).2⟩; have q1230 : v1123.toInt = i2.toInt % 32 := (by rw [hv1123]; exact c_mask _ _ 5 (by decide) (by decide)); have B1229 : (0 : Int) ≤ v1123.toInt ∧ v1123.toInt ≤ 31 := (by rw [q1230]; exact k_modB (by decide)); have B1234 : (-2147483648 : Int) ≤ i3.toInt ∧ i3.toInt ≤ 2147483647 := ⟨(rng32 i3).1, Int.le_of_lt_add_one (rng32 i3).2⟩; have q1233 : v1124.toInt = i3.toInt % 2147483648 := (by rw [hv1124]; exact c_mask _ _ 31 (by decide) (by decide)); have B1232 : (0 : Int) ≤ v1124.toInt ∧ v1124.toInt ≤ 2147483647 := (by rw [q1233]; exact k_modB (by decide)); have B1237 : (-2147483648 : Int) ≤ i1.toInt ∧ i1.toInt ≤ 2147483647 := ⟨(rng32 i1).1, Int.le_of_lt_add_one (rng32 i1).2⟩; have q1236 : v1113.toInt = i1.toInt % 16 := (by rw [hv1113]; exact c_mask _ _ 4 (by decide) (by decide)); have B1235 : (0 : Int) ≤ v1113.toInt ∧ v1113.toInt ≤ 15 := (by rw [q1236]; exact k_modB (by decide)); have B1238 : (0 : Int) ≤ v1113.toInt ∧ v1113.toInt ≤ -1 := ⟨B1235.1, k_lt hq1222 (by decide)⟩; omega)) hc) (fun _ => ?_)
   refine k_iconst X1220 hx (hb hby at_179) (pc' := 180) rfl (z := (1 : Int32)) rfl ?_
   refine k_goto X1220 hx (hb hby at_180) (pc' := 184) (by decide) ?_
   refine k_istore X1220 hx (hb hby at_184) (Ls' := #[iv i0, iv i1, iv i2, iv i3, iv v1, iv (1 : Int32), iv v1113, iv (0 : Int32), iv v1123, iv v1124, rv b1125, iv (1 : Int32), iv (1 : Int32), .unset]) rfl (pc' := 186) rfl ?_
   refine k_aload X1220 hx (hb hby at_186) rfl rfl (pc' := 188) rfl ?_
   refine k_iload X1220 hx (hb hby at_188) rfl (pc' := 190) rfl ?_
   refine k_callV X1220 hx hZ hown (a := b1125) (hw _ (List.mem_of_getElem? (i := 15) rfl)) (hw _ (List.mem_of_getElem? (i := 16) rfl)) (hw _ (List.mem_of_getElem? (i := 18) rfl)) (hw _ (List.mem_of_getElem? (i := 17) rfl)) (hw _ (List.mem_of_getElem? (i := 3) rfl)) (hw _ (List.mem_of_getElem? (i := 19) rfl)) (by decide) F1154 (rm3_631 l Z a0 hw [] b1125 v1 b1139 v1153 k1139 v1152 (updF (fun _ => 0) v1.toNatClampNeg ((fun _ => 0) v1.toNatClampNeg + 1)) T1139.heap n0 Z1166 F1154 F1155 F1156 F1157 F1158 lt1165 hT1140 hI1162 HZ1163) (by decide) (by decide) e1220 (by rw [hml]; rfl) (argsL := [(.int v1)]) (rest := []) (lenOf pd_1 rfl) rfl (W := 0) (Nat.le_refl _) rfl (hb hby at_190) (by decide) (by decide) (pc' := 193) rfl (fun T1239 L1239 r1239 X1239 q1239 => ?_)
   obtain ⟨N1239, e1239, v1240, rfl, hS1241⟩ := q1239
   have N1239' := Fr.app N1220' N1239
   show KEnds p e below s _ _ _ T1239 (mkF m 193 #[iv i0, iv i1, iv i2, iv i3, iv v1, iv (1 : Int32), iv v1113, iv (0 : Int32), iv v1123, iv v1124, rv b1125, iv (1 : Int32), iv (1 : Int32), .unset] [(.int v1240)])
   refine k_iload X1239 hx (hb hby at_193) rfl (pc' := 195) rfl ?_
   refine k_iload X1239 hx (hb hby at_195) rfl (pc' := 197) rfl ?_
   refine k_iload X1239 hx (hb hby at_197) rfl (pc' := 199) rfl ?_
   refine k_iload X1239 hx (hb hby at_199) rfl (pc' := 201) rfl ?_
   refine k_iload X1239 hx (hb hby at_201) rfl (pc' := 203) rfl ?_
   refine k_callS X1239 hx hZ hown (hw _ (List.mem_of_getElem? (i := 22) rfl)) (hw _ (List.mem_of_getElem? (i := 23) rfl)) (hw _ (List.mem_of_getElem? (i := 24) rfl)) (hw _ (List.mem_of_getElem? (i := 25) rfl)) (by decide) (rm4_1242 l Z a0 hw [] v1 v1113 T1139.heap n0 Z1166 ) (by decide) (by decide) e1239 (by rw [hml]; rfl) (argsL := [(.int v1), (.int v1), (.int (1 : Int32)), (.int v1113), (.int (0 : Int32))]) (rest := [(.int v1240)]) (lenOf pd_2 rfl) rfl (W := 1) (Nat.le_refl _) rfl (hb hby at_203) (by decide) (by decide) (pc' := 206) rfl (fun T1244 L1244 r1244 X1244 q1244 => ?_)
   obtain ⟨N1244, e1244, rfl⟩ := q1244
   have N1244' := Fr.app N1239' N1244
   show KEnds p e below s _ _ _ T1244 (mkF m 206 #[iv i0, iv i1, iv i2, iv i3, iv v1, iv (1 : Int32), iv v1113, iv (0 : Int32), iv v1123, iv v1124, rv b1125, iv (1 : Int32), iv (1 : Int32), .unset] ((.int (f4_1242 v1 v1113)) :: (.int v1240) :: []))
   obtain ⟨v1245, hv1245⟩ : ∃ z, z = f4_1242 v1 v1113 := ⟨_, rfl⟩
   rw [← hv1245]
   refine k_icmp_ne X1244 hx (hb hby at_206) (pn := 209) rfl (py := 213) (by decide) (fun hc => absurd (by rw [hS1241, hv1245]; exact own_fin_14 v1 v1113 hT1140 hT1140 (by intro hq1246; have B1249 : (-2147483648 : Int) ≤ i0.toInt ∧ i0.toInt ≤ 2147483647 := ⟨(rng32 i0).1, Int.le_of_lt_add_one (rng32 i0).2⟩; have q1248 : v1.toInt = i0.toInt % 16 := (by rw [hv1]; exact c_mask _ _ 4 (by decide) (by decide)); have B1247 : (0 : Int) ≤ v1.toInt ∧ v1.toInt ≤ 15 := (by rw [q1248]; exact k_modB (by decide)); have B1250 : (0 : Int) ≤ v1152.toInt ∧ v1152.toInt ≤ 30 := ⟨k_ge hI1159 (by decide), k_le hI1160 (by decide)⟩; have B1251 : (0 : Int) ≤ v1153.toInt ∧ v1153.toInt ≤ 2147483647 := ⟨k_ge hI1161 (by decide), Int.le_of_lt_add_one (rng32 v1153).2⟩; have q1252 := hI1162; rw [Int32.lt_iff_toInt_lt] at q1252; have B1255 : (-2147483648 : Int) ≤ i2.toInt ∧ i2.toInt ≤ 2147483647 := ⟨(rng32 i2).1, Int.le_of_lt_add_one (rng32 i2).2⟩; have q1254 : v1123.toInt = i2.toInt % 32 := (by rw [hv1123]; exact c_mask _ _ 5 (by decide) (by decide)); have B1253 : (0 : Int) ≤ v1123.toInt ∧ v1123.toInt ≤ 31 := (by rw [q1254]; exact k_modB (by decide)); have B1258 : (-2147483648 : Int) ≤ i3.toInt ∧ i3.toInt ≤ 2147483647 := ⟨(rng32 i3).1, Int.le_of_lt_add_one (rng32 i3).2⟩; have q1257 : v1124.toInt = i3.toInt % 2147483648 := (by rw [hv1124]; exact c_mask _ _ 31 (by decide) (by decide)); have B1256 : (0 : Int) ≤ v1124.toInt ∧ v1124.toInt ≤ 2147483647 := (by rw [q1257]; exact k_modB (by decide)); have B1261 : (-2147483648 : Int) ≤ i1.toInt ∧ i1.toInt ≤ 2147483647 := ⟨(rng32 i1).1, Int.le_of_lt_add_one (rng32 i1).2⟩; have q1260 : v1113.toInt = i1.toInt % 16 := (by rw [hv1113]; exact c_mask _ _ 4 (by decide) (by decide)); have B1259 : (0 : Int) ≤ v1113.toInt ∧ v1113.toInt ≤ 15 := (by rw [q1260]; exact k_modB (by decide)); have B1262 : (0 : Int) ≤ v1113.toInt ∧ v1113.toInt ≤ -1 := ⟨B1259.1, k_lt hq1246 (by decide)⟩; omega)) hc) (fun _ => ?_)
   refine k_iconst X1244 hx (hb hby at_209) (pc' := 210) rfl (z := (1 : Int32)) rfl ?_
   refine k_goto X1244 hx (hb hby at_210) (pc' := 214) (by decide) ?_
   refine k_istore X1244 hx (hb hby at_214) (Ls' := #[iv i0, iv i1, iv i2, iv i3, iv v1, iv (1 : Int32), iv v1113, iv (0 : Int32), iv v1123, iv v1124, rv b1125, iv (1 : Int32), iv (1 : Int32), iv (1 : Int32)]) rfl (pc' := 216) rfl ?_
   refine k_iload X1244 hx (hb hby at_216) rfl (pc' := 218) rfl ?_
   refine k_if_eq X1244 hx (hb hby at_218) (pn := 221) rfl (py := 235) (by decide) (fun hc => absurd hc (by decide)) (fun _ => ?_)
   refine k_iload X1244 hx (hb hby at_221) rfl (pc' := 223) rfl ?_
   refine k_if_eq X1244 hx (hb hby at_223) (pn := 226) rfl (py := 235) (by decide) (fun hc => absurd hc (by decide)) (fun _ => ?_)
   refine k_iload X1244 hx (hb hby at_226) rfl (pc' := 228) rfl ?_
   refine k_if_eq X1244 hx (hb hby at_228) (pn := 231) rfl (py := 235) (by decide) (fun hc => absurd hc (by decide)) (fun _ => ?_)
   refine k_iconst X1244 hx (hb hby at_231) (pc' := 232) rfl (z := (1 : Int32)) rfl ?_
   refine k_goto X1244 hx (hb hby at_232) (pc' := 236) (by decide) ?_
   exact k_retN X1244 hx (t := .boolean) Bd.returns (by simp) (hb hby at_236) hlk (by decide) (by decide) (z' := (1 : Int32)) rfl ⟨rfl, N1244'⟩
  ·
   show KEnds p e below s _ _ _ s₁ (mkF m 24 #[iv i0, iv i1, iv i2, iv i3, iv v1, iv (1 : Int32), iv v1113, .unset, .unset, .unset, .unset, .unset, .unset, .unset] [(.int (1 : Int32))])
   refine k_istore X0 hx (hb hby at_24) (Ls' := #[iv i0, iv i1, iv i2, iv i3, iv v1, iv (1 : Int32), iv v1113, iv (1 : Int32), .unset, .unset, .unset, .unset, .unset, .unset]) rfl (pc' := 26) rfl ?_
   refine k_iloadN X0 hx (hb hby at_26) rfl (pc' := 27) rfl ?_
   refine k_bipush X0 hx (hb hby at_27) (pc' := 29) rfl (z := (31 : Int32)) rfl ?_
   refine k_iand X0 hx (hb hby at_29) (pc' := 30) rfl (fun v1264 hv1264 => ?_)
   refine k_istore X0 hx (hb hby at_30) (Ls' := #[iv i0, iv i1, iv i2, iv i3, iv v1, iv (1 : Int32), iv v1113, iv (1 : Int32), iv v1264, .unset, .unset, .unset, .unset, .unset]) rfl (pc' := 32) rfl ?_
   refine k_iloadN X0 hx (hb hby at_32) rfl (pc' := 33) rfl ?_
   refine k_ldc X0 hx hZ hown (hw _ (List.mem_of_getElem? (i := 0) rfl)) (hb hby at_33) (pc' := 35) rfl ?_
   refine k_iand X0 hx (hb hby at_35) (pc' := 36) rfl (fun v1265 hv1265 => ?_)
   refine k_istore X0 hx (hb hby at_36) (Ls' := #[iv i0, iv i1, iv i2, iv i3, iv v1, iv (1 : Int32), iv v1113, iv (1 : Int32), iv v1264, iv v1265, .unset, .unset, .unset, .unset]) rfl (pc' := 38) rfl ?_
   refine k_newO X0 hx hZ hown (hw _ (List.mem_of_getElem? (i := 1) rfl)) (hw _ (List.mem_of_getElem? (i := 2) rfl)) (hw _ (List.mem_of_getElem? (i := 3) rfl)) e0 (hb hby at_38) (by decide) (by decide) (pc' := 41) rfl (fun T1266 h1266 b1266 g1266 X1266 e1266 E1266 A1266 D1266 => ?_)
   have g_b1266 : n0 ≤ b1266 := Nat.le_trans Z0 (Nat.le_of_eq g1266.symm)
   have Z1266 : n0 ≤ h1266.size := Nat.le_trans Z0 E1266.1
   have F1267 : Fld Z h1266 b1266 "com/example/dendrotick/dendrotick/VectorClock" "entries" "[I" .null := D1266 (Or.inl (hw _ (List.mem_of_getElem? (i := 12) rfl))) (ty := (.array .int)) (by decide)
   have F1268 : Fld Z h1266 b1266 "com/example/dendrotick/dendrotick/VectorClock" "work" "Lcom/example/dendrotick/dendrotick/ClockWork;" .null := D1266 (Or.inr (hw _ (List.mem_of_getElem? (i := 14) rfl))) (ty := (.object "com/example/dendrotick/dendrotick/ClockWork")) (by decide)
   have F1269 : Fld Z h1266 b1266 "com/example/dendrotick/dendrotick/VectorClock" "size" "I" (.int (0 : Int32)) := D1266 (Or.inl (hw _ (List.mem_of_getElem? (i := 21) rfl))) (ty := .int) (by decide)
   refine k_dup X1266 hx (hb hby at_41) rfl (pc' := 42) rfl ?_
   refine k_anull X1266 hx (hb hby at_42) (pc' := 43) rfl ?_
   refine k_callI X1266 hx hZ hown (a := b1266) rfl (hw _ (List.mem_of_getElem? (i := 4) rfl)) (hw _ (List.mem_of_getElem? (i := 5) rfl)) (hw _ (List.mem_of_getElem? (i := 3) rfl)) (hw _ (List.mem_of_getElem? (i := 6) rfl)) rfl (by decide) (rm1_27 l Z a0 hw [] b1266 h1266 n0 Z1266 A1266 F1267 F1268 F1269 g_b1266) (by decide) (by decide) e1266 (by rw [hml]; rfl) (argsL := [.null]) (rest := [(.ref b1266)]) (lenOf pd_0 rfl) rfl (W := 1) (Nat.le_refl _) rfl (hb hby at_43) (by decide) (by decide) (pc' := 46) rfl (fun T1270 L1270 r1270 X1270 q1270 => ?_)
   obtain ⟨N1270, q1270⟩ := q1270
   have N1270' := Fr.app N0 N1270
   obtain ⟨b1271, k1272, rfl, F1273, F1274, F1275, F1276, F1277, g_b1271, lt1278, Z1279⟩ := q1270
   show KEnds p e below s _ _ _ T1270 (mkF m 46 #[iv i0, iv i1, iv i2, iv i3, iv v1, iv (1 : Int32), iv v1113, iv (1 : Int32), iv v1264, iv v1265, .unset, .unset, .unset, .unset] [(.ref b1266)])
   refine k_astore X1270 hx (hb hby at_46) rfl (Ls' := #[iv i0, iv i1, iv i2, iv i3, iv v1, iv (1 : Int32), iv v1113, iv (1 : Int32), iv v1264, iv v1265, rv b1266, .unset, .unset, .unset]) rfl (pc' := 48) rfl ?_
   refine k_iload X1270 hx (hb hby at_48) rfl (pc' := 50) rfl ?_
   refine k_iconst X1270 hx (hb hby at_50) (pc' := 51) rfl (z := (1 : Int32)) rfl ?_
   refine k_icmp_lt X1270 hx (hb hby at_51) (pn := 54) rfl (py := 61) (by decide) (fun hc => absurd hc (by decide)) (fun _ => ?_)
   refine k_aload X1270 hx (hb hby at_54) rfl rfl (pc' := 56) rfl ?_
   refine k_iload X1270 hx (hb hby at_56) rfl (pc' := 58) rfl ?_
   have hT1281 : ¬ v1 < (0 : Int32) := (by intro hq1282; have B1285 : (-2147483648 : Int) ≤ i0.toInt ∧ i0.toInt ≤ 2147483647 := ⟨(rng32 i0).1, Int.le_of_lt_add_one (rng32 i0).2⟩; have q1284 : v1.toInt = i0.toInt % 16 := (by rw [hv1]; exact c_mask _ _ 4 (by decide) (by decide)); have B1283 : (0 : Int) ≤ v1.toInt ∧ v1.toInt ≤ 15 := (by rw [q1284]; exact k_modB (by decide)); have B1286 : (0 : Int) ≤ v1.toInt ∧ v1.toInt ≤ -1 := ⟨B1283.1, k_lt hq1282 (by decide)⟩; omega)
   have hT1287 : ¬ (15 : Int32) < v1 := (by intro hq1288; have B1291 : (-2147483648 : Int) ≤ i0.toInt ∧ i0.toInt ≤ 2147483647 := ⟨(rng32 i0).1, Int.le_of_lt_add_one (rng32 i0).2⟩; have q1290 : v1.toInt = i0.toInt % 16 := (by rw [hv1]; exact c_mask _ _ 4 (by decide) (by decide)); have B1289 : (0 : Int) ≤ v1.toInt ∧ v1.toInt ≤ 15 := (by rw [q1290]; exact k_modB (by decide)); have B1292 : (16 : Int) ≤ v1.toInt ∧ v1.toInt ≤ 15 := ⟨k_gt hq1288 (by decide), B1289.2⟩; omega)
   refine k_callV X1270 hx hZ hown (a := b1266) (hw _ (List.mem_of_getElem? (i := 26) rfl)) (hw _ (List.mem_of_getElem? (i := 27) rfl)) (hw _ (List.mem_of_getElem? (i := 29) rfl)) (hw _ (List.mem_of_getElem? (i := 28) rfl)) (hw _ (List.mem_of_getElem? (i := 3) rfl)) (hw _ (List.mem_of_getElem? (i := 30) rfl)) (by decide) F1273 (rm5_169 l Z a0 hw [] b1266 b1271 k1272 (0 : Int32) (0 : Int32) v1 (fun _ => 0) T1270.heap n0 Z1279 F1273 F1274 F1275 F1276 F1277 g_b1266 g_b1271 lt1278 (by decide) (by decide) (by decide) (by decide) (fun _ _ => rfl) hT1281 hT1287) (by decide) (by decide) rfl (by rw [hml]; rfl) (argsL := [(.int v1)]) (rest := []) (lenOf pd_5 rfl) rfl (W := 0) (Nat.le_refl _) rfl (hb hby at_58) (by decide) (by decide) (pc' := 61) rfl (fun T1280 L1280 r1280 X1280 q1280 => ?_)
   obtain ⟨N1280, b1280, k1280, v1293, v1294, rfl, F1295, F1296, F1297, F1298, F1299, g_b1280, lt1306, Z1307, hI1300, hI1301, hI1302, hI1303, HZ1304⟩ := q1280
   have N1280' := Fr.app N1270' N1280
   show KEnds p e below s _ _ _ T1280 (mkF m 61 #[iv i0, iv i1, iv i2, iv i3, iv v1, iv (1 : Int32), iv v1113, iv (1 : Int32), iv v1264, iv v1265, rv b1266, .unset, .unset, .unset] [])
   refine k_iload X1280 hx (hb hby at_61) rfl (pc' := 63) rfl ?_
   refine k_iconst X1280 hx (hb hby at_63) (pc' := 64) rfl (z := (2 : Int32)) rfl ?_
   refine k_icmp_lt X1280 hx (hb hby at_64) (pn := 67) rfl (py := 74) (by decide) (fun _ => ?_) (fun hc => absurd (by decide) hc)
   refine k_iload X1280 hx (hb hby at_74) rfl (pc' := 76) rfl ?_
   refine k_iconst X1280 hx (hb hby at_76) (pc' := 77) rfl (z := (3 : Int32)) rfl ?_
   refine k_icmp_lt X1280 hx (hb hby at_77) (pn := 80) rfl (py := 87) (by decide) (fun _ => ?_) (fun hc => absurd (by decide) hc)
   refine k_iload X1280 hx (hb hby at_87) rfl (pc' := 89) rfl ?_
   refine k_iconst X1280 hx (hb hby at_89) (pc' := 90) rfl (z := (1 : Int32)) rfl ?_
   refine k_icmp_lt X1280 hx (hb hby at_90) (pn := 93) rfl (py := 100) (by decide) (fun hc => absurd hc (by decide)) (fun _ => ?_)
   refine k_aload X1280 hx (hb hby at_93) rfl rfl (pc' := 95) rfl ?_
   refine k_iload X1280 hx (hb hby at_95) rfl (pc' := 97) rfl ?_
   have hT1309 : ¬ v1113 < (0 : Int32) := (by intro hq1310; have B1313 : (-2147483648 : Int) ≤ i0.toInt ∧ i0.toInt ≤ 2147483647 := ⟨(rng32 i0).1, Int.le_of_lt_add_one (rng32 i0).2⟩; have q1312 : v1.toInt = i0.toInt % 16 := (by rw [hv1]; exact c_mask _ _ 4 (by decide) (by decide)); have B1311 : (0 : Int) ≤ v1.toInt ∧ v1.toInt ≤ 15 := (by rw [q1312]; exact k_modB (by decide)); have B1314 : (0 : Int) ≤ v1293.toInt ∧ v1293.toInt ≤ 30 := ⟨k_ge hI1300 (by decide), k_le hI1301 (by decide)⟩; have B1315 : (0 : Int) ≤ v1294.toInt ∧ v1294.toInt ≤ 2147483647 := ⟨k_ge hI1302 (by decide), Int.le_of_lt_add_one (rng32 v1294).2⟩; have q1316 := hI1303; rw [Int32.lt_iff_toInt_lt] at q1316; have B1319 : (-2147483648 : Int) ≤ i1.toInt ∧ i1.toInt ≤ 2147483647 := ⟨(rng32 i1).1, Int.le_of_lt_add_one (rng32 i1).2⟩; have q1318 : v1113.toInt = i1.toInt % 16 := (by rw [hv1113]; exact c_mask _ _ 4 (by decide) (by decide)); have B1317 : (0 : Int) ≤ v1113.toInt ∧ v1113.toInt ≤ 15 := (by rw [q1318]; exact k_modB (by decide)); have B1320 : (0 : Int) ≤ v1113.toInt ∧ v1113.toInt ≤ -1 := ⟨B1317.1, k_lt hq1310 (by decide)⟩; omega)
   have hT1321 : ¬ (15 : Int32) < v1113 := (by intro hq1322; have B1325 : (-2147483648 : Int) ≤ i0.toInt ∧ i0.toInt ≤ 2147483647 := ⟨(rng32 i0).1, Int.le_of_lt_add_one (rng32 i0).2⟩; have q1324 : v1.toInt = i0.toInt % 16 := (by rw [hv1]; exact c_mask _ _ 4 (by decide) (by decide)); have B1323 : (0 : Int) ≤ v1.toInt ∧ v1.toInt ≤ 15 := (by rw [q1324]; exact k_modB (by decide)); have B1326 : (0 : Int) ≤ v1293.toInt ∧ v1293.toInt ≤ 30 := ⟨k_ge hI1300 (by decide), k_le hI1301 (by decide)⟩; have B1327 : (0 : Int) ≤ v1294.toInt ∧ v1294.toInt ≤ 2147483647 := ⟨k_ge hI1302 (by decide), Int.le_of_lt_add_one (rng32 v1294).2⟩; have q1328 := hI1303; rw [Int32.lt_iff_toInt_lt] at q1328; have B1331 : (-2147483648 : Int) ≤ i1.toInt ∧ i1.toInt ≤ 2147483647 := ⟨(rng32 i1).1, Int.le_of_lt_add_one (rng32 i1).2⟩; have q1330 : v1113.toInt = i1.toInt % 16 := (by rw [hv1113]; exact c_mask _ _ 4 (by decide) (by decide)); have B1329 : (0 : Int) ≤ v1113.toInt ∧ v1113.toInt ≤ 15 := (by rw [q1330]; exact k_modB (by decide)); have B1332 : (16 : Int) ≤ v1113.toInt ∧ v1113.toInt ≤ 15 := ⟨k_gt hq1322 (by decide), B1329.2⟩; omega)
   refine k_callV X1280 hx hZ hown (a := b1266) (hw _ (List.mem_of_getElem? (i := 26) rfl)) (hw _ (List.mem_of_getElem? (i := 27) rfl)) (hw _ (List.mem_of_getElem? (i := 29) rfl)) (hw _ (List.mem_of_getElem? (i := 28) rfl)) (hw _ (List.mem_of_getElem? (i := 3) rfl)) (hw _ (List.mem_of_getElem? (i := 30) rfl)) (by decide) F1295 (rm5_169 l Z a0 hw [] b1266 b1280 k1280 v1293 v1294 v1113 (updF (fun _ => 0) v1.toNatClampNeg ((fun _ => 0) v1.toNatClampNeg + 1)) T1280.heap n0 Z1307 F1295 F1296 F1297 F1298 F1299 g_b1266 g_b1280 lt1306 hI1300 hI1301 hI1302 hI1303 HZ1304 hT1309 hT1321) (by decide) (by decide) rfl (by rw [hml]; rfl) (argsL := [(.int v1113)]) (rest := []) (lenOf pd_5 rfl) rfl (W := 0) (Nat.le_refl _) rfl (hb hby at_97) (by decide) (by decide) (pc' := 100) rfl (fun T1308 L1308 r1308 X1308 q1308 => ?_)
   obtain ⟨N1308, b1308, k1308, v1333, v1334, rfl, F1335, F1336, F1337, F1338, F1339, g_b1308, lt1346, Z1347, hI1340, hI1341, hI1342, hI1343, HZ1344⟩ := q1308
   have N1308' := Fr.app N1280' N1308
   show KEnds p e below s _ _ _ T1308 (mkF m 100 #[iv i0, iv i1, iv i2, iv i3, iv v1, iv (1 : Int32), iv v1113, iv (1 : Int32), iv v1264, iv v1265, rv b1266, .unset, .unset, .unset] [])
   refine k_iload X1308 hx (hb hby at_100) rfl (pc' := 102) rfl ?_
   refine k_iconst X1308 hx (hb hby at_102) (pc' := 103) rfl (z := (2 : Int32)) rfl ?_
   refine k_icmp_lt X1308 hx (hb hby at_103) (pn := 106) rfl (py := 113) (by decide) (fun _ => ?_) (fun hc => absurd (by decide) hc)
   refine k_iload X1308 hx (hb hby at_113) rfl (pc' := 115) rfl ?_
   refine k_iconst X1308 hx (hb hby at_115) (pc' := 116) rfl (z := (3 : Int32)) rfl ?_
   refine k_icmp_lt X1308 hx (hb hby at_116) (pn := 119) rfl (py := 126) (by decide) (fun _ => ?_) (fun hc => absurd (by decide) hc)
   refine k_aload X1308 hx (hb hby at_126) rfl rfl (pc' := 128) rfl ?_
   refine k_iload X1308 hx (hb hby at_128) rfl (pc' := 130) rfl ?_
   have hp1348 : ¬ v1264 < (0 : Int32) := by
    intro hq1349
    have B1352 : (-2147483648 : Int) ≤ i0.toInt ∧ i0.toInt ≤ 2147483647 := ⟨(rng32 i0).1, Int.le_of_lt_add_one (rng32 i0).2⟩
    have q1351 : v1.toInt = i0.toInt % 16 := (by rw [hv1]; exact c_mask _ _ 4 (by decide) (by decide))
    have B1350 : (0 : Int) ≤ v1.toInt ∧ v1.toInt ≤ 15 := (by rw [q1351]; exact k_modB (by decide))
    have B1353 : (0 : Int) ≤ v1293.toInt ∧ v1293.toInt ≤ 30 := ⟨k_ge hI1300 (by decide), k_le hI1301 (by decide)⟩
    have B1354 : (0 : Int) ≤ v1294.toInt ∧ v1294.toInt ≤ 2147483647 := ⟨k_ge hI1302 (by decide), Int.le_of_lt_add_one (rng32 v1294).2⟩
    have q1355 := hI1303; rw [Int32.lt_iff_toInt_lt] at q1355
    have B1358 : (-2147483648 : Int) ≤ i1.toInt ∧ i1.toInt ≤ 2147483647 := ⟨(rng32 i1).1, Int.le_of_lt_add_one (rng32 i1).2⟩
    have q1357 : v1113.toInt = i1.toInt % 16 := (by rw [hv1113]; exact c_mask _ _ 4 (by decide) (by decide))
    have B1356 : (0 : Int) ≤ v1113.toInt ∧ v1113.toInt ≤ 15 := (by rw [q1357]; exact k_modB (by decide))
    have B1359 : (0 : Int) ≤ v1333.toInt ∧ v1333.toInt ≤ 30 := ⟨k_ge hI1340 (by decide), k_le hI1341 (by decide)⟩
    have B1360 : (0 : Int) ≤ v1334.toInt ∧ v1334.toInt ≤ 2147483647 := ⟨k_ge hI1342 (by decide), Int.le_of_lt_add_one (rng32 v1334).2⟩
    have q1361 := hI1343; rw [Int32.lt_iff_toInt_lt] at q1361
    have B1364 : (-2147483648 : Int) ≤ i2.toInt ∧ i2.toInt ≤ 2147483647 := ⟨(rng32 i2).1, Int.le_of_lt_add_one (rng32 i2).2⟩
    have q1363 : v1264.toInt = i2.toInt % 32 := (by rw [hv1264]; exact c_mask _ _ 5 (by decide) (by decide))
    have B1362 : (0 : Int) ≤ v1264.toInt ∧ v1264.toInt ≤ 31 := (by rw [q1363]; exact k_modB (by decide))
    have B1365 : (0 : Int) ≤ v1264.toInt ∧ v1264.toInt ≤ -1 := ⟨B1362.1, k_lt hq1349 (by decide)⟩
    omega
   refine k_callV X1308 hx hZ hown (a := b1266) (hw _ (List.mem_of_getElem? (i := 15) rfl)) (hw _ (List.mem_of_getElem? (i := 16) rfl)) (hw _ (List.mem_of_getElem? (i := 18) rfl)) (hw _ (List.mem_of_getElem? (i := 17) rfl)) (hw _ (List.mem_of_getElem? (i := 3) rfl)) (hw _ (List.mem_of_getElem? (i := 19) rfl)) (by decide) F1335 (rm3_631 l Z a0 hw [] b1266 v1264 b1308 v1334 k1308 v1333 (updF (updF (fun _ => 0) v1.toNatClampNeg ((fun _ => 0) v1.toNatClampNeg + 1)) v1113.toNatClampNeg ((updF (fun _ => 0) v1.toNatClampNeg ((fun _ => 0) v1.toNatClampNeg + 1)) v1113.toNatClampNeg + 1)) T1308.heap n0 Z1347 F1335 F1336 F1337 F1338 F1339 lt1346 hp1348 hI1343 HZ1344) (by decide) (by decide) rfl (by rw [hml]; rfl) (argsL := [(.int v1264)]) (rest := []) (lenOf pd_1 rfl) rfl (W := 0) (Nat.le_refl _) rfl (hb hby at_130) (by decide) (by decide) (pc' := 133) rfl (fun T1366 L1366 r1366 X1366 q1366 => ?_)
   obtain ⟨N1366, e1366, v1367, rfl, hS1368⟩ := q1366
   have N1366' := Fr.app N1308' N1366
   show KEnds p e below s _ _ _ T1366 (mkF m 133 #[iv i0, iv i1, iv i2, iv i3, iv v1, iv (1 : Int32), iv v1113, iv (1 : Int32), iv v1264, iv v1265, rv b1266, .unset, .unset, .unset] [(.int v1367)])
   refine k_iload X1366 hx (hb hby at_133) rfl (pc' := 135) rfl ?_
   refine k_iload X1366 hx (hb hby at_135) rfl (pc' := 137) rfl ?_
   refine k_iload X1366 hx (hb hby at_137) rfl (pc' := 139) rfl ?_
   refine k_iload X1366 hx (hb hby at_139) rfl (pc' := 141) rfl ?_
   refine k_iload X1366 hx (hb hby at_141) rfl (pc' := 143) rfl ?_
   refine k_callS X1366 hx hZ hown (hw _ (List.mem_of_getElem? (i := 22) rfl)) (hw _ (List.mem_of_getElem? (i := 23) rfl)) (hw _ (List.mem_of_getElem? (i := 24) rfl)) (hw _ (List.mem_of_getElem? (i := 25) rfl)) (by decide) (rm4_1369 l Z a0 hw [] v1264 v1 v1113 T1308.heap n0 Z1347 ) (by decide) (by decide) e1366 (by rw [hml]; rfl) (argsL := [(.int v1264), (.int v1), (.int (1 : Int32)), (.int v1113), (.int (1 : Int32))]) (rest := [(.int v1367)]) (lenOf pd_2 rfl) rfl (W := 1) (Nat.le_refl _) rfl (hb hby at_143) (by decide) (by decide) (pc' := 146) rfl (fun T1373 L1373 r1373 X1373 q1373 => ?_)
   obtain ⟨N1373, e1373, rfl⟩ := q1373
   have N1373' := Fr.app N1366' N1373
   show KEnds p e below s _ _ _ T1373 (mkF m 146 #[iv i0, iv i1, iv i2, iv i3, iv v1, iv (1 : Int32), iv v1113, iv (1 : Int32), iv v1264, iv v1265, rv b1266, .unset, .unset, .unset] ((.int (f4_1369 v1264 v1 v1113)) :: (.int v1367) :: []))
   obtain ⟨v1374, hv1374⟩ : ∃ z, z = f4_1369 v1264 v1 v1113 := ⟨_, rfl⟩
   rw [← hv1374]
   refine k_icmp_ne X1373 hx (hb hby at_146) (pn := 149) rfl (py := 153) (by decide) (fun hc => absurd (by rw [hS1368, hv1374]; exact own_fin_15 v1264 v1 v1113 hp1348 hT1281 hT1309) hc) (fun _ => ?_)
   refine k_iconst X1373 hx (hb hby at_149) (pc' := 150) rfl (z := (1 : Int32)) rfl ?_
   refine k_goto X1373 hx (hb hby at_150) (pc' := 154) (by decide) ?_
   refine k_istore X1373 hx (hb hby at_154) (Ls' := #[iv i0, iv i1, iv i2, iv i3, iv v1, iv (1 : Int32), iv v1113, iv (1 : Int32), iv v1264, iv v1265, rv b1266, iv (1 : Int32), .unset, .unset]) rfl (pc' := 156) rfl ?_
   refine k_aload X1373 hx (hb hby at_156) rfl rfl (pc' := 158) rfl ?_
   refine k_iload X1373 hx (hb hby at_158) rfl (pc' := 160) rfl ?_
   have hp1375 : ¬ v1265 < (0 : Int32) := by
    intro hq1376
    have B1379 : (-2147483648 : Int) ≤ i0.toInt ∧ i0.toInt ≤ 2147483647 := ⟨(rng32 i0).1, Int.le_of_lt_add_one (rng32 i0).2⟩
    have q1378 : v1.toInt = i0.toInt % 16 := (by rw [hv1]; exact c_mask _ _ 4 (by decide) (by decide))
    have B1377 : (0 : Int) ≤ v1.toInt ∧ v1.toInt ≤ 15 := (by rw [q1378]; exact k_modB (by decide))
    have B1380 : (0 : Int) ≤ v1293.toInt ∧ v1293.toInt ≤ 30 := ⟨k_ge hI1300 (by decide), k_le hI1301 (by decide)⟩
    have B1381 : (0 : Int) ≤ v1294.toInt ∧ v1294.toInt ≤ 2147483647 := ⟨k_ge hI1302 (by decide), Int.le_of_lt_add_one (rng32 v1294).2⟩
    have q1382 := hI1303; rw [Int32.lt_iff_toInt_lt] at q1382
    have B1385 : (-2147483648 : Int) ≤ i1.toInt ∧ i1.toInt ≤ 2147483647 := ⟨(rng32 i1).1, Int.le_of_lt_add_one (rng32 i1).2⟩
    have q1384 : v1113.toInt = i1.toInt % 16 := (by rw [hv1113]; exact c_mask _ _ 4 (by decide) (by decide))
    have B1383 : (0 : Int) ≤ v1113.toInt ∧ v1113.toInt ≤ 15 := (by rw [q1384]; exact k_modB (by decide))
    have B1386 : (0 : Int) ≤ v1333.toInt ∧ v1333.toInt ≤ 30 := ⟨k_ge hI1340 (by decide), k_le hI1341 (by decide)⟩
    have B1387 : (0 : Int) ≤ v1334.toInt ∧ v1334.toInt ≤ 2147483647 := ⟨k_ge hI1342 (by decide), Int.le_of_lt_add_one (rng32 v1334).2⟩
    have q1388 := hI1343; rw [Int32.lt_iff_toInt_lt] at q1388
    have B1391 : (-2147483648 : Int) ≤ i2.toInt ∧ i2.toInt ≤ 2147483647 := ⟨(rng32 i2).1, Int.le_of_lt_add_one (rng32 i2).2⟩
    have q1390 : v1264.toInt = i2.toInt % 32 := (by rw [hv1264]; exact c_mask _ _ 5 (by decide) (by decide))
    have B1389 : (0 : Int) ≤ v1264.toInt ∧ v1264.toInt ≤ 31 := (by rw [q1390]; exact k_modB (by decide))
    have B1394 : (-2147483648 : Int) ≤ i3.toInt ∧ i3.toInt ≤ 2147483647 := ⟨(rng32 i3).1, Int.le_of_lt_add_one (rng32 i3).2⟩
    have q1393 : v1265.toInt = i3.toInt % 2147483648 := (by rw [hv1265]; exact c_mask _ _ 31 (by decide) (by decide))
    have B1392 : (0 : Int) ≤ v1265.toInt ∧ v1265.toInt ≤ 2147483647 := (by rw [q1393]; exact k_modB (by decide))
    have B1395 : (0 : Int) ≤ v1265.toInt ∧ v1265.toInt ≤ -1 := ⟨B1392.1, k_lt hq1376 (by decide)⟩
    omega
   refine k_callV X1373 hx hZ hown (a := b1266) (hw _ (List.mem_of_getElem? (i := 15) rfl)) (hw _ (List.mem_of_getElem? (i := 16) rfl)) (hw _ (List.mem_of_getElem? (i := 18) rfl)) (hw _ (List.mem_of_getElem? (i := 17) rfl)) (hw _ (List.mem_of_getElem? (i := 3) rfl)) (hw _ (List.mem_of_getElem? (i := 19) rfl)) (by decide) F1335 (rm3_631 l Z a0 hw [] b1266 v1265 b1308 v1334 k1308 v1333 (updF (updF (fun _ => 0) v1.toNatClampNeg ((fun _ => 0) v1.toNatClampNeg + 1)) v1113.toNatClampNeg ((updF (fun _ => 0) v1.toNatClampNeg ((fun _ => 0) v1.toNatClampNeg + 1)) v1113.toNatClampNeg + 1)) T1308.heap n0 Z1347 F1335 F1336 F1337 F1338 F1339 lt1346 hp1375 hI1343 HZ1344) (by decide) (by decide) e1373 (by rw [hml]; rfl) (argsL := [(.int v1265)]) (rest := []) (lenOf pd_1 rfl) rfl (W := 0) (Nat.le_refl _) rfl (hb hby at_160) (by decide) (by decide) (pc' := 163) rfl (fun T1396 L1396 r1396 X1396 q1396 => ?_)
   obtain ⟨N1396, e1396, v1397, rfl, hS1398⟩ := q1396
   have N1396' := Fr.app N1373' N1396
   show KEnds p e below s _ _ _ T1396 (mkF m 163 #[iv i0, iv i1, iv i2, iv i3, iv v1, iv (1 : Int32), iv v1113, iv (1 : Int32), iv v1264, iv v1265, rv b1266, iv (1 : Int32), .unset, .unset] [(.int v1397)])
   refine k_iload X1396 hx (hb hby at_163) rfl (pc' := 165) rfl ?_
   refine k_iload X1396 hx (hb hby at_165) rfl (pc' := 167) rfl ?_
   refine k_iload X1396 hx (hb hby at_167) rfl (pc' := 169) rfl ?_
   refine k_iload X1396 hx (hb hby at_169) rfl (pc' := 171) rfl ?_
   refine k_iload X1396 hx (hb hby at_171) rfl (pc' := 173) rfl ?_
   refine k_callS X1396 hx hZ hown (hw _ (List.mem_of_getElem? (i := 22) rfl)) (hw _ (List.mem_of_getElem? (i := 23) rfl)) (hw _ (List.mem_of_getElem? (i := 24) rfl)) (hw _ (List.mem_of_getElem? (i := 25) rfl)) (by decide) (rm4_1369 l Z a0 hw [] v1265 v1 v1113 T1308.heap n0 Z1347 ) (by decide) (by decide) e1396 (by rw [hml]; rfl) (argsL := [(.int v1265), (.int v1), (.int (1 : Int32)), (.int v1113), (.int (1 : Int32))]) (rest := [(.int v1397)]) (lenOf pd_2 rfl) rfl (W := 1) (Nat.le_refl _) rfl (hb hby at_173) (by decide) (by decide) (pc' := 176) rfl (fun T1399 L1399 r1399 X1399 q1399 => ?_)
   obtain ⟨N1399, e1399, rfl⟩ := q1399
   have N1399' := Fr.app N1396' N1399
   show KEnds p e below s _ _ _ T1399 (mkF m 176 #[iv i0, iv i1, iv i2, iv i3, iv v1, iv (1 : Int32), iv v1113, iv (1 : Int32), iv v1264, iv v1265, rv b1266, iv (1 : Int32), .unset, .unset] ((.int (f4_1369 v1265 v1 v1113)) :: (.int v1397) :: []))
   obtain ⟨v1400, hv1400⟩ : ∃ z, z = f4_1369 v1265 v1 v1113 := ⟨_, rfl⟩
   rw [← hv1400]
   refine k_icmp_ne X1399 hx (hb hby at_176) (pn := 179) rfl (py := 183) (by decide) (fun hc => absurd (by rw [hS1398, hv1400]; exact own_fin_16 v1265 v1 v1113 hp1375 hT1281 hT1309) hc) (fun _ => ?_)
   refine k_iconst X1399 hx (hb hby at_179) (pc' := 180) rfl (z := (1 : Int32)) rfl ?_
   refine k_goto X1399 hx (hb hby at_180) (pc' := 184) (by decide) ?_
   refine k_istore X1399 hx (hb hby at_184) (Ls' := #[iv i0, iv i1, iv i2, iv i3, iv v1, iv (1 : Int32), iv v1113, iv (1 : Int32), iv v1264, iv v1265, rv b1266, iv (1 : Int32), iv (1 : Int32), .unset]) rfl (pc' := 186) rfl ?_
   refine k_aload X1399 hx (hb hby at_186) rfl rfl (pc' := 188) rfl ?_
   refine k_iload X1399 hx (hb hby at_188) rfl (pc' := 190) rfl ?_
   refine k_callV X1399 hx hZ hown (a := b1266) (hw _ (List.mem_of_getElem? (i := 15) rfl)) (hw _ (List.mem_of_getElem? (i := 16) rfl)) (hw _ (List.mem_of_getElem? (i := 18) rfl)) (hw _ (List.mem_of_getElem? (i := 17) rfl)) (hw _ (List.mem_of_getElem? (i := 3) rfl)) (hw _ (List.mem_of_getElem? (i := 19) rfl)) (by decide) F1335 (rm3_631 l Z a0 hw [] b1266 v1 b1308 v1334 k1308 v1333 (updF (updF (fun _ => 0) v1.toNatClampNeg ((fun _ => 0) v1.toNatClampNeg + 1)) v1113.toNatClampNeg ((updF (fun _ => 0) v1.toNatClampNeg ((fun _ => 0) v1.toNatClampNeg + 1)) v1113.toNatClampNeg + 1)) T1308.heap n0 Z1347 F1335 F1336 F1337 F1338 F1339 lt1346 hT1281 hI1343 HZ1344) (by decide) (by decide) e1399 (by rw [hml]; rfl) (argsL := [(.int v1)]) (rest := []) (lenOf pd_1 rfl) rfl (W := 0) (Nat.le_refl _) rfl (hb hby at_190) (by decide) (by decide) (pc' := 193) rfl (fun T1401 L1401 r1401 X1401 q1401 => ?_)
   obtain ⟨N1401, e1401, v1402, rfl, hS1403⟩ := q1401
   have N1401' := Fr.app N1399' N1401
   show KEnds p e below s _ _ _ T1401 (mkF m 193 #[iv i0, iv i1, iv i2, iv i3, iv v1, iv (1 : Int32), iv v1113, iv (1 : Int32), iv v1264, iv v1265, rv b1266, iv (1 : Int32), iv (1 : Int32), .unset] [(.int v1402)])
   refine k_iload X1401 hx (hb hby at_193) rfl (pc' := 195) rfl ?_
   refine k_iload X1401 hx (hb hby at_195) rfl (pc' := 197) rfl ?_
   refine k_iload X1401 hx (hb hby at_197) rfl (pc' := 199) rfl ?_
   refine k_iload X1401 hx (hb hby at_199) rfl (pc' := 201) rfl ?_
   refine k_iload X1401 hx (hb hby at_201) rfl (pc' := 203) rfl ?_
   refine k_callS X1401 hx hZ hown (hw _ (List.mem_of_getElem? (i := 22) rfl)) (hw _ (List.mem_of_getElem? (i := 23) rfl)) (hw _ (List.mem_of_getElem? (i := 24) rfl)) (hw _ (List.mem_of_getElem? (i := 25) rfl)) (by decide) (rm4_1404 l Z a0 hw [] v1 v1113 T1308.heap n0 Z1347 ) (by decide) (by decide) e1401 (by rw [hml]; rfl) (argsL := [(.int v1), (.int v1), (.int (1 : Int32)), (.int v1113), (.int (1 : Int32))]) (rest := [(.int v1402)]) (lenOf pd_2 rfl) rfl (W := 1) (Nat.le_refl _) rfl (hb hby at_203) (by decide) (by decide) (pc' := 206) rfl (fun T1406 L1406 r1406 X1406 q1406 => ?_)
   obtain ⟨N1406, e1406, rfl⟩ := q1406
   have N1406' := Fr.app N1401' N1406
   show KEnds p e below s _ _ _ T1406 (mkF m 206 #[iv i0, iv i1, iv i2, iv i3, iv v1, iv (1 : Int32), iv v1113, iv (1 : Int32), iv v1264, iv v1265, rv b1266, iv (1 : Int32), iv (1 : Int32), .unset] ((.int (f4_1404 v1 v1113)) :: (.int v1402) :: []))
   obtain ⟨v1407, hv1407⟩ : ∃ z, z = f4_1404 v1 v1113 := ⟨_, rfl⟩
   rw [← hv1407]
   refine k_icmp_ne X1406 hx (hb hby at_206) (pn := 209) rfl (py := 213) (by decide) (fun hc => absurd (by rw [hS1403, hv1407]; exact own_fin_17 v1 v1113 hT1281 hT1281 hT1309) hc) (fun _ => ?_)
   refine k_iconst X1406 hx (hb hby at_209) (pc' := 210) rfl (z := (1 : Int32)) rfl ?_
   refine k_goto X1406 hx (hb hby at_210) (pc' := 214) (by decide) ?_
   refine k_istore X1406 hx (hb hby at_214) (Ls' := #[iv i0, iv i1, iv i2, iv i3, iv v1, iv (1 : Int32), iv v1113, iv (1 : Int32), iv v1264, iv v1265, rv b1266, iv (1 : Int32), iv (1 : Int32), iv (1 : Int32)]) rfl (pc' := 216) rfl ?_
   refine k_iload X1406 hx (hb hby at_216) rfl (pc' := 218) rfl ?_
   refine k_if_eq X1406 hx (hb hby at_218) (pn := 221) rfl (py := 235) (by decide) (fun hc => absurd hc (by decide)) (fun _ => ?_)
   refine k_iload X1406 hx (hb hby at_221) rfl (pc' := 223) rfl ?_
   refine k_if_eq X1406 hx (hb hby at_223) (pn := 226) rfl (py := 235) (by decide) (fun hc => absurd hc (by decide)) (fun _ => ?_)
   refine k_iload X1406 hx (hb hby at_226) rfl (pc' := 228) rfl ?_
   refine k_if_eq X1406 hx (hb hby at_228) (pn := 231) rfl (py := 235) (by decide) (fun hc => absurd hc (by decide)) (fun _ => ?_)
   refine k_iconst X1406 hx (hb hby at_231) (pc' := 232) rfl (z := (1 : Int32)) rfl ?_
   refine k_goto X1406 hx (hb hby at_232) (pc' := 236) (by decide) ?_
   exact k_retN X1406 hx (t := .boolean) Bd.returns (by simp) (hb hby at_236) hlk (by decide) (by decide) (z' := (1 : Int32)) rfl ⟨rfl, N1406'⟩
  ·
   show KEnds p e below s _ _ _ s₁ (mkF m 24 #[iv i0, iv i1, iv i2, iv i3, iv v1, iv (1 : Int32), iv v1113, .unset, .unset, .unset, .unset, .unset, .unset, .unset] [(.int (2 : Int32))])
   refine k_istore X0 hx (hb hby at_24) (Ls' := #[iv i0, iv i1, iv i2, iv i3, iv v1, iv (1 : Int32), iv v1113, iv (2 : Int32), .unset, .unset, .unset, .unset, .unset, .unset]) rfl (pc' := 26) rfl ?_
   refine k_iloadN X0 hx (hb hby at_26) rfl (pc' := 27) rfl ?_
   refine k_bipush X0 hx (hb hby at_27) (pc' := 29) rfl (z := (31 : Int32)) rfl ?_
   refine k_iand X0 hx (hb hby at_29) (pc' := 30) rfl (fun v1409 hv1409 => ?_)
   refine k_istore X0 hx (hb hby at_30) (Ls' := #[iv i0, iv i1, iv i2, iv i3, iv v1, iv (1 : Int32), iv v1113, iv (2 : Int32), iv v1409, .unset, .unset, .unset, .unset, .unset]) rfl (pc' := 32) rfl ?_
   refine k_iloadN X0 hx (hb hby at_32) rfl (pc' := 33) rfl ?_
   refine k_ldc X0 hx hZ hown (hw _ (List.mem_of_getElem? (i := 0) rfl)) (hb hby at_33) (pc' := 35) rfl ?_
   refine k_iand X0 hx (hb hby at_35) (pc' := 36) rfl (fun v1410 hv1410 => ?_)
   refine k_istore X0 hx (hb hby at_36) (Ls' := #[iv i0, iv i1, iv i2, iv i3, iv v1, iv (1 : Int32), iv v1113, iv (2 : Int32), iv v1409, iv v1410, .unset, .unset, .unset, .unset]) rfl (pc' := 38) rfl ?_
   refine k_newO X0 hx hZ hown (hw _ (List.mem_of_getElem? (i := 1) rfl)) (hw _ (List.mem_of_getElem? (i := 2) rfl)) (hw _ (List.mem_of_getElem? (i := 3) rfl)) e0 (hb hby at_38) (by decide) (by decide) (pc' := 41) rfl (fun T1411 h1411 b1411 g1411 X1411 e1411 E1411 A1411 D1411 => ?_)
   have g_b1411 : n0 ≤ b1411 := Nat.le_trans Z0 (Nat.le_of_eq g1411.symm)
   have Z1411 : n0 ≤ h1411.size := Nat.le_trans Z0 E1411.1
   have F1412 : Fld Z h1411 b1411 "com/example/dendrotick/dendrotick/VectorClock" "entries" "[I" .null := D1411 (Or.inl (hw _ (List.mem_of_getElem? (i := 12) rfl))) (ty := (.array .int)) (by decide)
   have F1413 : Fld Z h1411 b1411 "com/example/dendrotick/dendrotick/VectorClock" "work" "Lcom/example/dendrotick/dendrotick/ClockWork;" .null := D1411 (Or.inr (hw _ (List.mem_of_getElem? (i := 14) rfl))) (ty := (.object "com/example/dendrotick/dendrotick/ClockWork")) (by decide)
   have F1414 : Fld Z h1411 b1411 "com/example/dendrotick/dendrotick/VectorClock" "size" "I" (.int (0 : Int32)) := D1411 (Or.inl (hw _ (List.mem_of_getElem? (i := 21) rfl))) (ty := .int) (by decide)
   refine k_dup X1411 hx (hb hby at_41) rfl (pc' := 42) rfl ?_
   refine k_anull X1411 hx (hb hby at_42) (pc' := 43) rfl ?_
   refine k_callI X1411 hx hZ hown (a := b1411) rfl (hw _ (List.mem_of_getElem? (i := 4) rfl)) (hw _ (List.mem_of_getElem? (i := 5) rfl)) (hw _ (List.mem_of_getElem? (i := 3) rfl)) (hw _ (List.mem_of_getElem? (i := 6) rfl)) rfl (by decide) (rm1_27 l Z a0 hw [] b1411 h1411 n0 Z1411 A1411 F1412 F1413 F1414 g_b1411) (by decide) (by decide) e1411 (by rw [hml]; rfl) (argsL := [.null]) (rest := [(.ref b1411)]) (lenOf pd_0 rfl) rfl (W := 1) (Nat.le_refl _) rfl (hb hby at_43) (by decide) (by decide) (pc' := 46) rfl (fun T1415 L1415 r1415 X1415 q1415 => ?_)
   obtain ⟨N1415, q1415⟩ := q1415
   have N1415' := Fr.app N0 N1415
   obtain ⟨b1416, k1417, rfl, F1418, F1419, F1420, F1421, F1422, g_b1416, lt1423, Z1424⟩ := q1415
   show KEnds p e below s _ _ _ T1415 (mkF m 46 #[iv i0, iv i1, iv i2, iv i3, iv v1, iv (1 : Int32), iv v1113, iv (2 : Int32), iv v1409, iv v1410, .unset, .unset, .unset, .unset] [(.ref b1411)])
   refine k_astore X1415 hx (hb hby at_46) rfl (Ls' := #[iv i0, iv i1, iv i2, iv i3, iv v1, iv (1 : Int32), iv v1113, iv (2 : Int32), iv v1409, iv v1410, rv b1411, .unset, .unset, .unset]) rfl (pc' := 48) rfl ?_
   refine k_iload X1415 hx (hb hby at_48) rfl (pc' := 50) rfl ?_
   refine k_iconst X1415 hx (hb hby at_50) (pc' := 51) rfl (z := (1 : Int32)) rfl ?_
   refine k_icmp_lt X1415 hx (hb hby at_51) (pn := 54) rfl (py := 61) (by decide) (fun hc => absurd hc (by decide)) (fun _ => ?_)
   refine k_aload X1415 hx (hb hby at_54) rfl rfl (pc' := 56) rfl ?_
   refine k_iload X1415 hx (hb hby at_56) rfl (pc' := 58) rfl ?_
   have hT1426 : ¬ v1 < (0 : Int32) := (by intro hq1427; have B1430 : (-2147483648 : Int) ≤ i0.toInt ∧ i0.toInt ≤ 2147483647 := ⟨(rng32 i0).1, Int.le_of_lt_add_one (rng32 i0).2⟩; have q1429 : v1.toInt = i0.toInt % 16 := (by rw [hv1]; exact c_mask _ _ 4 (by decide) (by decide)); have B1428 : (0 : Int) ≤ v1.toInt ∧ v1.toInt ≤ 15 := (by rw [q1429]; exact k_modB (by decide)); have B1431 : (0 : Int) ≤ v1.toInt ∧ v1.toInt ≤ -1 := ⟨B1428.1, k_lt hq1427 (by decide)⟩; omega)
   have hT1432 : ¬ (15 : Int32) < v1 := (by intro hq1433; have B1436 : (-2147483648 : Int) ≤ i0.toInt ∧ i0.toInt ≤ 2147483647 := ⟨(rng32 i0).1, Int.le_of_lt_add_one (rng32 i0).2⟩; have q1435 : v1.toInt = i0.toInt % 16 := (by rw [hv1]; exact c_mask _ _ 4 (by decide) (by decide)); have B1434 : (0 : Int) ≤ v1.toInt ∧ v1.toInt ≤ 15 := (by rw [q1435]; exact k_modB (by decide)); have B1437 : (16 : Int) ≤ v1.toInt ∧ v1.toInt ≤ 15 := ⟨k_gt hq1433 (by decide), B1434.2⟩; omega)
   refine k_callV X1415 hx hZ hown (a := b1411) (hw _ (List.mem_of_getElem? (i := 26) rfl)) (hw _ (List.mem_of_getElem? (i := 27) rfl)) (hw _ (List.mem_of_getElem? (i := 29) rfl)) (hw _ (List.mem_of_getElem? (i := 28) rfl)) (hw _ (List.mem_of_getElem? (i := 3) rfl)) (hw _ (List.mem_of_getElem? (i := 30) rfl)) (by decide) F1418 (rm5_169 l Z a0 hw [] b1411 b1416 k1417 (0 : Int32) (0 : Int32) v1 (fun _ => 0) T1415.heap n0 Z1424 F1418 F1419 F1420 F1421 F1422 g_b1411 g_b1416 lt1423 (by decide) (by decide) (by decide) (by decide) (fun _ _ => rfl) hT1426 hT1432) (by decide) (by decide) rfl (by rw [hml]; rfl) (argsL := [(.int v1)]) (rest := []) (lenOf pd_5 rfl) rfl (W := 0) (Nat.le_refl _) rfl (hb hby at_58) (by decide) (by decide) (pc' := 61) rfl (fun T1425 L1425 r1425 X1425 q1425 => ?_)
   obtain ⟨N1425, b1425, k1425, v1438, v1439, rfl, F1440, F1441, F1442, F1443, F1444, g_b1425, lt1451, Z1452, hI1445, hI1446, hI1447, hI1448, HZ1449⟩ := q1425
   have N1425' := Fr.app N1415' N1425
   show KEnds p e below s _ _ _ T1425 (mkF m 61 #[iv i0, iv i1, iv i2, iv i3, iv v1, iv (1 : Int32), iv v1113, iv (2 : Int32), iv v1409, iv v1410, rv b1411, .unset, .unset, .unset] [])
   refine k_iload X1425 hx (hb hby at_61) rfl (pc' := 63) rfl ?_
   refine k_iconst X1425 hx (hb hby at_63) (pc' := 64) rfl (z := (2 : Int32)) rfl ?_
   refine k_icmp_lt X1425 hx (hb hby at_64) (pn := 67) rfl (py := 74) (by decide) (fun _ => ?_) (fun hc => absurd (by decide) hc)
   refine k_iload X1425 hx (hb hby at_74) rfl (pc' := 76) rfl ?_
   refine k_iconst X1425 hx (hb hby at_76) (pc' := 77) rfl (z := (3 : Int32)) rfl ?_
   refine k_icmp_lt X1425 hx (hb hby at_77) (pn := 80) rfl (py := 87) (by decide) (fun _ => ?_) (fun hc => absurd (by decide) hc)
   refine k_iload X1425 hx (hb hby at_87) rfl (pc' := 89) rfl ?_
   refine k_iconst X1425 hx (hb hby at_89) (pc' := 90) rfl (z := (1 : Int32)) rfl ?_
   refine k_icmp_lt X1425 hx (hb hby at_90) (pn := 93) rfl (py := 100) (by decide) (fun hc => absurd hc (by decide)) (fun _ => ?_)
   refine k_aload X1425 hx (hb hby at_93) rfl rfl (pc' := 95) rfl ?_
   refine k_iload X1425 hx (hb hby at_95) rfl (pc' := 97) rfl ?_
   have hT1454 : ¬ v1113 < (0 : Int32) := (by intro hq1455; have B1458 : (-2147483648 : Int) ≤ i0.toInt ∧ i0.toInt ≤ 2147483647 := ⟨(rng32 i0).1, Int.le_of_lt_add_one (rng32 i0).2⟩; have q1457 : v1.toInt = i0.toInt % 16 := (by rw [hv1]; exact c_mask _ _ 4 (by decide) (by decide)); have B1456 : (0 : Int) ≤ v1.toInt ∧ v1.toInt ≤ 15 := (by rw [q1457]; exact k_modB (by decide)); have B1459 : (0 : Int) ≤ v1438.toInt ∧ v1438.toInt ≤ 30 := ⟨k_ge hI1445 (by decide), k_le hI1446 (by decide)⟩; have B1460 : (0 : Int) ≤ v1439.toInt ∧ v1439.toInt ≤ 2147483647 := ⟨k_ge hI1447 (by decide), Int.le_of_lt_add_one (rng32 v1439).2⟩; have q1461 := hI1448; rw [Int32.lt_iff_toInt_lt] at q1461; have B1464 : (-2147483648 : Int) ≤ i1.toInt ∧ i1.toInt ≤ 2147483647 := ⟨(rng32 i1).1, Int.le_of_lt_add_one (rng32 i1).2⟩; have q1463 : v1113.toInt = i1.toInt % 16 := (by rw [hv1113]; exact c_mask _ _ 4 (by decide) (by decide)); have B1462 : (0 : Int) ≤ v1113.toInt ∧ v1113.toInt ≤ 15 := (by rw [q1463]; exact k_modB (by decide)); have B1465 : (0 : Int) ≤ v1113.toInt ∧ v1113.toInt ≤ -1 := ⟨B1462.1, k_lt hq1455 (by decide)⟩; omega)
   have hT1466 : ¬ (15 : Int32) < v1113 := (by intro hq1467; have B1470 : (-2147483648 : Int) ≤ i0.toInt ∧ i0.toInt ≤ 2147483647 := ⟨(rng32 i0).1, Int.le_of_lt_add_one (rng32 i0).2⟩; have q1469 : v1.toInt = i0.toInt % 16 := (by rw [hv1]; exact c_mask _ _ 4 (by decide) (by decide)); have B1468 : (0 : Int) ≤ v1.toInt ∧ v1.toInt ≤ 15 := (by rw [q1469]; exact k_modB (by decide)); have B1471 : (0 : Int) ≤ v1438.toInt ∧ v1438.toInt ≤ 30 := ⟨k_ge hI1445 (by decide), k_le hI1446 (by decide)⟩; have B1472 : (0 : Int) ≤ v1439.toInt ∧ v1439.toInt ≤ 2147483647 := ⟨k_ge hI1447 (by decide), Int.le_of_lt_add_one (rng32 v1439).2⟩; have q1473 := hI1448; rw [Int32.lt_iff_toInt_lt] at q1473; have B1476 : (-2147483648 : Int) ≤ i1.toInt ∧ i1.toInt ≤ 2147483647 := ⟨(rng32 i1).1, Int.le_of_lt_add_one (rng32 i1).2⟩; have q1475 : v1113.toInt = i1.toInt % 16 := (by rw [hv1113]; exact c_mask _ _ 4 (by decide) (by decide)); have B1474 : (0 : Int) ≤ v1113.toInt ∧ v1113.toInt ≤ 15 := (by rw [q1475]; exact k_modB (by decide)); have B1477 : (16 : Int) ≤ v1113.toInt ∧ v1113.toInt ≤ 15 := ⟨k_gt hq1467 (by decide), B1474.2⟩; omega)
   refine k_callV X1425 hx hZ hown (a := b1411) (hw _ (List.mem_of_getElem? (i := 26) rfl)) (hw _ (List.mem_of_getElem? (i := 27) rfl)) (hw _ (List.mem_of_getElem? (i := 29) rfl)) (hw _ (List.mem_of_getElem? (i := 28) rfl)) (hw _ (List.mem_of_getElem? (i := 3) rfl)) (hw _ (List.mem_of_getElem? (i := 30) rfl)) (by decide) F1440 (rm5_169 l Z a0 hw [] b1411 b1425 k1425 v1438 v1439 v1113 (updF (fun _ => 0) v1.toNatClampNeg ((fun _ => 0) v1.toNatClampNeg + 1)) T1425.heap n0 Z1452 F1440 F1441 F1442 F1443 F1444 g_b1411 g_b1425 lt1451 hI1445 hI1446 hI1447 hI1448 HZ1449 hT1454 hT1466) (by decide) (by decide) rfl (by rw [hml]; rfl) (argsL := [(.int v1113)]) (rest := []) (lenOf pd_5 rfl) rfl (W := 0) (Nat.le_refl _) rfl (hb hby at_97) (by decide) (by decide) (pc' := 100) rfl (fun T1453 L1453 r1453 X1453 q1453 => ?_)
   obtain ⟨N1453, b1453, k1453, v1478, v1479, rfl, F1480, F1481, F1482, F1483, F1484, g_b1453, lt1491, Z1492, hI1485, hI1486, hI1487, hI1488, HZ1489⟩ := q1453
   have N1453' := Fr.app N1425' N1453
   show KEnds p e below s _ _ _ T1453 (mkF m 100 #[iv i0, iv i1, iv i2, iv i3, iv v1, iv (1 : Int32), iv v1113, iv (2 : Int32), iv v1409, iv v1410, rv b1411, .unset, .unset, .unset] [])
   refine k_iload X1453 hx (hb hby at_100) rfl (pc' := 102) rfl ?_
   refine k_iconst X1453 hx (hb hby at_102) (pc' := 103) rfl (z := (2 : Int32)) rfl ?_
   refine k_icmp_lt X1453 hx (hb hby at_103) (pn := 106) rfl (py := 113) (by decide) (fun hc => absurd hc (by decide)) (fun _ => ?_)
   refine k_aload X1453 hx (hb hby at_106) rfl rfl (pc' := 108) rfl ?_
   refine k_iload X1453 hx (hb hby at_108) rfl (pc' := 110) rfl ?_
   refine k_callV X1453 hx hZ hown (a := b1411) (hw _ (List.mem_of_getElem? (i := 26) rfl)) (hw _ (List.mem_of_getElem? (i := 27) rfl)) (hw _ (List.mem_of_getElem? (i := 29) rfl)) (hw _ (List.mem_of_getElem? (i := 28) rfl)) (hw _ (List.mem_of_getElem? (i := 3) rfl)) (hw _ (List.mem_of_getElem? (i := 30) rfl)) (by decide) F1480 (rm5_169 l Z a0 hw [] b1411 b1453 k1453 v1478 v1479 v1113 (updF (updF (fun _ => 0) v1.toNatClampNeg ((fun _ => 0) v1.toNatClampNeg + 1)) v1113.toNatClampNeg ((updF (fun _ => 0) v1.toNatClampNeg ((fun _ => 0) v1.toNatClampNeg + 1)) v1113.toNatClampNeg + 1)) T1453.heap n0 Z1492 F1480 F1481 F1482 F1483 F1484 g_b1411 g_b1453 lt1491 hI1485 hI1486 hI1487 hI1488 HZ1489 hT1454 hT1466) (by decide) (by decide) rfl (by rw [hml]; rfl) (argsL := [(.int v1113)]) (rest := []) (lenOf pd_5 rfl) rfl (W := 0) (Nat.le_refl _) rfl (hb hby at_110) (by decide) (by decide) (pc' := 113) rfl (fun T1493 L1493 r1493 X1493 q1493 => ?_)
   obtain ⟨N1493, b1493, k1493, v1494, v1495, rfl, F1496, F1497, F1498, F1499, F1500, g_b1493, lt1507, Z1508, hI1501, hI1502, hI1503, hI1504, HZ1505⟩ := q1493
   have N1493' := Fr.app N1453' N1493
   show KEnds p e below s _ _ _ T1493 (mkF m 113 #[iv i0, iv i1, iv i2, iv i3, iv v1, iv (1 : Int32), iv v1113, iv (2 : Int32), iv v1409, iv v1410, rv b1411, .unset, .unset, .unset] [])
   refine k_iload X1493 hx (hb hby at_113) rfl (pc' := 115) rfl ?_
   refine k_iconst X1493 hx (hb hby at_115) (pc' := 116) rfl (z := (3 : Int32)) rfl ?_
   refine k_icmp_lt X1493 hx (hb hby at_116) (pn := 119) rfl (py := 126) (by decide) (fun _ => ?_) (fun hc => absurd (by decide) hc)
   refine k_aload X1493 hx (hb hby at_126) rfl rfl (pc' := 128) rfl ?_
   refine k_iload X1493 hx (hb hby at_128) rfl (pc' := 130) rfl ?_
   have hp1509 : ¬ v1409 < (0 : Int32) := by
    intro hq1510
    have B1513 : (-2147483648 : Int) ≤ i0.toInt ∧ i0.toInt ≤ 2147483647 := ⟨(rng32 i0).1, Int.le_of_lt_add_one (rng32 i0).2⟩
    have q1512 : v1.toInt = i0.toInt % 16 := (by rw [hv1]; exact c_mask _ _ 4 (by decide) (by decide))
    have B1511 : (0 : Int) ≤ v1.toInt ∧ v1.toInt ≤ 15 := (by rw [q1512]; exact k_modB (by decide))
    have B1514 : (0 : Int) ≤ v1438.toInt ∧ v1438.toInt ≤ 30 := ⟨k_ge hI1445 (by decide), k_le hI1446 (by decide)⟩
    have B1515 : (0 : Int) ≤ v1439.toInt ∧ v1439.toInt ≤ 2147483647 := ⟨k_ge hI1447 (by decide), Int.le_of_lt_add_one (rng32 v1439).2⟩
    have q1516 := hI1448; rw [Int32.lt_iff_toInt_lt] at q1516
    have B1519 : (-2147483648 : Int) ≤ i1.toInt ∧ i1.toInt ≤ 2147483647 := ⟨(rng32 i1).1, Int.le_of_lt_add_one (rng32 i1).2⟩
    have q1518 : v1113.toInt = i1.toInt % 16 := (by rw [hv1113]; exact c_mask _ _ 4 (by decide) (by decide))
    have B1517 : (0 : Int) ≤ v1113.toInt ∧ v1113.toInt ≤ 15 := (by rw [q1518]; exact k_modB (by decide))
    have B1520 : (0 : Int) ≤ v1478.toInt ∧ v1478.toInt ≤ 30 := ⟨k_ge hI1485 (by decide), k_le hI1486 (by decide)⟩
    have B1521 : (0 : Int) ≤ v1479.toInt ∧ v1479.toInt ≤ 2147483647 := ⟨k_ge hI1487 (by decide), Int.le_of_lt_add_one (rng32 v1479).2⟩
    have q1522 := hI1488; rw [Int32.lt_iff_toInt_lt] at q1522
    have B1523 : (0 : Int) ≤ v1494.toInt ∧ v1494.toInt ≤ 30 := ⟨k_ge hI1501 (by decide), k_le hI1502 (by decide)⟩
    have B1524 : (0 : Int) ≤ v1495.toInt ∧ v1495.toInt ≤ 2147483647 := ⟨k_ge hI1503 (by decide), Int.le_of_lt_add_one (rng32 v1495).2⟩
    have q1525 := hI1504; rw [Int32.lt_iff_toInt_lt] at q1525
    have B1528 : (-2147483648 : Int) ≤ i2.toInt ∧ i2.toInt ≤ 2147483647 := ⟨(rng32 i2).1, Int.le_of_lt_add_one (rng32 i2).2⟩
    have q1527 : v1409.toInt = i2.toInt % 32 := (by rw [hv1409]; exact c_mask _ _ 5 (by decide) (by decide))
    have B1526 : (0 : Int) ≤ v1409.toInt ∧ v1409.toInt ≤ 31 := (by rw [q1527]; exact k_modB (by decide))
    have B1529 : (0 : Int) ≤ v1409.toInt ∧ v1409.toInt ≤ -1 := ⟨B1526.1, k_lt hq1510 (by decide)⟩
    omega
   refine k_callV X1493 hx hZ hown (a := b1411) (hw _ (List.mem_of_getElem? (i := 15) rfl)) (hw _ (List.mem_of_getElem? (i := 16) rfl)) (hw _ (List.mem_of_getElem? (i := 18) rfl)) (hw _ (List.mem_of_getElem? (i := 17) rfl)) (hw _ (List.mem_of_getElem? (i := 3) rfl)) (hw _ (List.mem_of_getElem? (i := 19) rfl)) (by decide) F1496 (rm3_631 l Z a0 hw [] b1411 v1409 b1493 v1495 k1493 v1494 (updF (updF (updF (fun _ => 0) v1.toNatClampNeg ((fun _ => 0) v1.toNatClampNeg + 1)) v1113.toNatClampNeg ((updF (fun _ => 0) v1.toNatClampNeg ((fun _ => 0) v1.toNatClampNeg + 1)) v1113.toNatClampNeg + 1)) v1113.toNatClampNeg ((updF (updF (fun _ => 0) v1.toNatClampNeg ((fun _ => 0) v1.toNatClampNeg + 1)) v1113.toNatClampNeg ((updF (fun _ => 0) v1.toNatClampNeg ((fun _ => 0) v1.toNatClampNeg + 1)) v1113.toNatClampNeg + 1)) v1113.toNatClampNeg + 1)) T1493.heap n0 Z1508 F1496 F1497 F1498 F1499 F1500 lt1507 hp1509 hI1504 HZ1505) (by decide) (by decide) rfl (by rw [hml]; rfl) (argsL := [(.int v1409)]) (rest := []) (lenOf pd_1 rfl) rfl (W := 0) (Nat.le_refl _) rfl (hb hby at_130) (by decide) (by decide) (pc' := 133) rfl (fun T1530 L1530 r1530 X1530 q1530 => ?_)
   obtain ⟨N1530, e1530, v1531, rfl, hS1532⟩ := q1530
   have N1530' := Fr.app N1493' N1530
   show KEnds p e below s _ _ _ T1530 (mkF m 133 #[iv i0, iv i1, iv i2, iv i3, iv v1, iv (1 : Int32), iv v1113, iv (2 : Int32), iv v1409, iv v1410, rv b1411, .unset, .unset, .unset] [(.int v1531)])
   refine k_iload X1530 hx (hb hby at_133) rfl (pc' := 135) rfl ?_
   refine k_iload X1530 hx (hb hby at_135) rfl (pc' := 137) rfl ?_
   refine k_iload X1530 hx (hb hby at_137) rfl (pc' := 139) rfl ?_
   refine k_iload X1530 hx (hb hby at_139) rfl (pc' := 141) rfl ?_
   refine k_iload X1530 hx (hb hby at_141) rfl (pc' := 143) rfl ?_
   refine k_callS X1530 hx hZ hown (hw _ (List.mem_of_getElem? (i := 22) rfl)) (hw _ (List.mem_of_getElem? (i := 23) rfl)) (hw _ (List.mem_of_getElem? (i := 24) rfl)) (hw _ (List.mem_of_getElem? (i := 25) rfl)) (by decide) (rm4_1533 l Z a0 hw [] v1409 v1 v1113 T1493.heap n0 Z1508 ) (by decide) (by decide) e1530 (by rw [hml]; rfl) (argsL := [(.int v1409), (.int v1), (.int (1 : Int32)), (.int v1113), (.int (2 : Int32))]) (rest := [(.int v1531)]) (lenOf pd_2 rfl) rfl (W := 1) (Nat.le_refl _) rfl (hb hby at_143) (by decide) (by decide) (pc' := 146) rfl (fun T1537 L1537 r1537 X1537 q1537 => ?_)
   obtain ⟨N1537, e1537, rfl⟩ := q1537
   have N1537' := Fr.app N1530' N1537
   show KEnds p e below s _ _ _ T1537 (mkF m 146 #[iv i0, iv i1, iv i2, iv i3, iv v1, iv (1 : Int32), iv v1113, iv (2 : Int32), iv v1409, iv v1410, rv b1411, .unset, .unset, .unset] ((.int (f4_1533 v1409 v1 v1113)) :: (.int v1531) :: []))
   obtain ⟨v1538, hv1538⟩ : ∃ z, z = f4_1533 v1409 v1 v1113 := ⟨_, rfl⟩
   rw [← hv1538]
   refine k_icmp_ne X1537 hx (hb hby at_146) (pn := 149) rfl (py := 153) (by decide) (fun hc => absurd (by rw [hS1532, hv1538]; exact own_fin_18 v1409 v1 v1113 hp1509 hT1426 hT1454) hc) (fun _ => ?_)
   refine k_iconst X1537 hx (hb hby at_149) (pc' := 150) rfl (z := (1 : Int32)) rfl ?_
   refine k_goto X1537 hx (hb hby at_150) (pc' := 154) (by decide) ?_
   refine k_istore X1537 hx (hb hby at_154) (Ls' := #[iv i0, iv i1, iv i2, iv i3, iv v1, iv (1 : Int32), iv v1113, iv (2 : Int32), iv v1409, iv v1410, rv b1411, iv (1 : Int32), .unset, .unset]) rfl (pc' := 156) rfl ?_
   refine k_aload X1537 hx (hb hby at_156) rfl rfl (pc' := 158) rfl ?_
   refine k_iload X1537 hx (hb hby at_158) rfl (pc' := 160) rfl ?_
   have hp1539 : ¬ v1410 < (0 : Int32) := by
    intro hq1540
    have B1543 : (-2147483648 : Int) ≤ i0.toInt ∧ i0.toInt ≤ 2147483647 := ⟨(rng32 i0).1, Int.le_of_lt_add_one (rng32 i0).2⟩
    have q1542 : v1.toInt = i0.toInt % 16 := (by rw [hv1]; exact c_mask _ _ 4 (by decide) (by decide))
    have B1541 : (0 : Int) ≤ v1.toInt ∧ v1.toInt ≤ 15 := (by rw [q1542]; exact k_modB (by decide))
    have B1544 : (0 : Int) ≤ v1438.toInt ∧ v1438.toInt ≤ 30 := ⟨k_ge hI1445 (by decide), k_le hI1446 (by decide)⟩
    have B1545 : (0 : Int) ≤ v1439.toInt ∧ v1439.toInt ≤ 2147483647 := ⟨k_ge hI1447 (by decide), Int.le_of_lt_add_one (rng32 v1439).2⟩
    have q1546 := hI1448; rw [Int32.lt_iff_toInt_lt] at q1546
    have B1549 : (-2147483648 : Int) ≤ i1.toInt ∧ i1.toInt ≤ 2147483647 := ⟨(rng32 i1).1, Int.le_of_lt_add_one (rng32 i1).2⟩
    have q1548 : v1113.toInt = i1.toInt % 16 := (by rw [hv1113]; exact c_mask _ _ 4 (by decide) (by decide))
    have B1547 : (0 : Int) ≤ v1113.toInt ∧ v1113.toInt ≤ 15 := (by rw [q1548]; exact k_modB (by decide))
    have B1550 : (0 : Int) ≤ v1478.toInt ∧ v1478.toInt ≤ 30 := ⟨k_ge hI1485 (by decide), k_le hI1486 (by decide)⟩
    have B1551 : (0 : Int) ≤ v1479.toInt ∧ v1479.toInt ≤ 2147483647 := ⟨k_ge hI1487 (by decide), Int.le_of_lt_add_one (rng32 v1479).2⟩
    have q1552 := hI1488; rw [Int32.lt_iff_toInt_lt] at q1552
    have B1553 : (0 : Int) ≤ v1494.toInt ∧ v1494.toInt ≤ 30 := ⟨k_ge hI1501 (by decide), k_le hI1502 (by decide)⟩
    have B1554 : (0 : Int) ≤ v1495.toInt ∧ v1495.toInt ≤ 2147483647 := ⟨k_ge hI1503 (by decide), Int.le_of_lt_add_one (rng32 v1495).2⟩
    have q1555 := hI1504; rw [Int32.lt_iff_toInt_lt] at q1555
    have B1558 : (-2147483648 : Int) ≤ i2.toInt ∧ i2.toInt ≤ 2147483647 := ⟨(rng32 i2).1, Int.le_of_lt_add_one (rng32 i2).2⟩
    have q1557 : v1409.toInt = i2.toInt % 32 := (by rw [hv1409]; exact c_mask _ _ 5 (by decide) (by decide))
    have B1556 : (0 : Int) ≤ v1409.toInt ∧ v1409.toInt ≤ 31 := (by rw [q1557]; exact k_modB (by decide))
    have B1561 : (-2147483648 : Int) ≤ i3.toInt ∧ i3.toInt ≤ 2147483647 := ⟨(rng32 i3).1, Int.le_of_lt_add_one (rng32 i3).2⟩
    have q1560 : v1410.toInt = i3.toInt % 2147483648 := (by rw [hv1410]; exact c_mask _ _ 31 (by decide) (by decide))
    have B1559 : (0 : Int) ≤ v1410.toInt ∧ v1410.toInt ≤ 2147483647 := (by rw [q1560]; exact k_modB (by decide))
    have B1562 : (0 : Int) ≤ v1410.toInt ∧ v1410.toInt ≤ -1 := ⟨B1559.1, k_lt hq1540 (by decide)⟩
    omega
   refine k_callV X1537 hx hZ hown (a := b1411) (hw _ (List.mem_of_getElem? (i := 15) rfl)) (hw _ (List.mem_of_getElem? (i := 16) rfl)) (hw _ (List.mem_of_getElem? (i := 18) rfl)) (hw _ (List.mem_of_getElem? (i := 17) rfl)) (hw _ (List.mem_of_getElem? (i := 3) rfl)) (hw _ (List.mem_of_getElem? (i := 19) rfl)) (by decide) F1496 (rm3_631 l Z a0 hw [] b1411 v1410 b1493 v1495 k1493 v1494 (updF (updF (updF (fun _ => 0) v1.toNatClampNeg ((fun _ => 0) v1.toNatClampNeg + 1)) v1113.toNatClampNeg ((updF (fun _ => 0) v1.toNatClampNeg ((fun _ => 0) v1.toNatClampNeg + 1)) v1113.toNatClampNeg + 1)) v1113.toNatClampNeg ((updF (updF (fun _ => 0) v1.toNatClampNeg ((fun _ => 0) v1.toNatClampNeg + 1)) v1113.toNatClampNeg ((updF (fun _ => 0) v1.toNatClampNeg ((fun _ => 0) v1.toNatClampNeg + 1)) v1113.toNatClampNeg + 1)) v1113.toNatClampNeg + 1)) T1493.heap n0 Z1508 F1496 F1497 F1498 F1499 F1500 lt1507 hp1539 hI1504 HZ1505) (by decide) (by decide) e1537 (by rw [hml]; rfl) (argsL := [(.int v1410)]) (rest := []) (lenOf pd_1 rfl) rfl (W := 0) (Nat.le_refl _) rfl (hb hby at_160) (by decide) (by decide) (pc' := 163) rfl (fun T1563 L1563 r1563 X1563 q1563 => ?_)
   obtain ⟨N1563, e1563, v1564, rfl, hS1565⟩ := q1563
   have N1563' := Fr.app N1537' N1563
   show KEnds p e below s _ _ _ T1563 (mkF m 163 #[iv i0, iv i1, iv i2, iv i3, iv v1, iv (1 : Int32), iv v1113, iv (2 : Int32), iv v1409, iv v1410, rv b1411, iv (1 : Int32), .unset, .unset] [(.int v1564)])
   refine k_iload X1563 hx (hb hby at_163) rfl (pc' := 165) rfl ?_
   refine k_iload X1563 hx (hb hby at_165) rfl (pc' := 167) rfl ?_
   refine k_iload X1563 hx (hb hby at_167) rfl (pc' := 169) rfl ?_
   refine k_iload X1563 hx (hb hby at_169) rfl (pc' := 171) rfl ?_
   refine k_iload X1563 hx (hb hby at_171) rfl (pc' := 173) rfl ?_
   refine k_callS X1563 hx hZ hown (hw _ (List.mem_of_getElem? (i := 22) rfl)) (hw _ (List.mem_of_getElem? (i := 23) rfl)) (hw _ (List.mem_of_getElem? (i := 24) rfl)) (hw _ (List.mem_of_getElem? (i := 25) rfl)) (by decide) (rm4_1533 l Z a0 hw [] v1410 v1 v1113 T1493.heap n0 Z1508 ) (by decide) (by decide) e1563 (by rw [hml]; rfl) (argsL := [(.int v1410), (.int v1), (.int (1 : Int32)), (.int v1113), (.int (2 : Int32))]) (rest := [(.int v1564)]) (lenOf pd_2 rfl) rfl (W := 1) (Nat.le_refl _) rfl (hb hby at_173) (by decide) (by decide) (pc' := 176) rfl (fun T1566 L1566 r1566 X1566 q1566 => ?_)
   obtain ⟨N1566, e1566, rfl⟩ := q1566
   have N1566' := Fr.app N1563' N1566
   show KEnds p e below s _ _ _ T1566 (mkF m 176 #[iv i0, iv i1, iv i2, iv i3, iv v1, iv (1 : Int32), iv v1113, iv (2 : Int32), iv v1409, iv v1410, rv b1411, iv (1 : Int32), .unset, .unset] ((.int (f4_1533 v1410 v1 v1113)) :: (.int v1564) :: []))
   obtain ⟨v1567, hv1567⟩ : ∃ z, z = f4_1533 v1410 v1 v1113 := ⟨_, rfl⟩
   rw [← hv1567]
   refine k_icmp_ne X1566 hx (hb hby at_176) (pn := 179) rfl (py := 183) (by decide) (fun hc => absurd (by rw [hS1565, hv1567]; exact own_fin_19 v1410 v1 v1113 hp1539 hT1426 hT1454) hc) (fun _ => ?_)
   refine k_iconst X1566 hx (hb hby at_179) (pc' := 180) rfl (z := (1 : Int32)) rfl ?_
   refine k_goto X1566 hx (hb hby at_180) (pc' := 184) (by decide) ?_
   refine k_istore X1566 hx (hb hby at_184) (Ls' := #[iv i0, iv i1, iv i2, iv i3, iv v1, iv (1 : Int32), iv v1113, iv (2 : Int32), iv v1409, iv v1410, rv b1411, iv (1 : Int32), iv (1 : Int32), .unset]) rfl (pc' := 186) rfl ?_
   refine k_aload X1566 hx (hb hby at_186) rfl rfl (pc' := 188) rfl ?_
   refine k_iload X1566 hx (hb hby at_188) rfl (pc' := 190) rfl ?_
   refine k_callV X1566 hx hZ hown (a := b1411) (hw _ (List.mem_of_getElem? (i := 15) rfl)) (hw _ (List.mem_of_getElem? (i := 16) rfl)) (hw _ (List.mem_of_getElem? (i := 18) rfl)) (hw _ (List.mem_of_getElem? (i := 17) rfl)) (hw _ (List.mem_of_getElem? (i := 3) rfl)) (hw _ (List.mem_of_getElem? (i := 19) rfl)) (by decide) F1496 (rm3_631 l Z a0 hw [] b1411 v1 b1493 v1495 k1493 v1494 (updF (updF (updF (fun _ => 0) v1.toNatClampNeg ((fun _ => 0) v1.toNatClampNeg + 1)) v1113.toNatClampNeg ((updF (fun _ => 0) v1.toNatClampNeg ((fun _ => 0) v1.toNatClampNeg + 1)) v1113.toNatClampNeg + 1)) v1113.toNatClampNeg ((updF (updF (fun _ => 0) v1.toNatClampNeg ((fun _ => 0) v1.toNatClampNeg + 1)) v1113.toNatClampNeg ((updF (fun _ => 0) v1.toNatClampNeg ((fun _ => 0) v1.toNatClampNeg + 1)) v1113.toNatClampNeg + 1)) v1113.toNatClampNeg + 1)) T1493.heap n0 Z1508 F1496 F1497 F1498 F1499 F1500 lt1507 hT1426 hI1504 HZ1505) (by decide) (by decide) e1566 (by rw [hml]; rfl) (argsL := [(.int v1)]) (rest := []) (lenOf pd_1 rfl) rfl (W := 0) (Nat.le_refl _) rfl (hb hby at_190) (by decide) (by decide) (pc' := 193) rfl (fun T1568 L1568 r1568 X1568 q1568 => ?_)
   obtain ⟨N1568, e1568, v1569, rfl, hS1570⟩ := q1568
   have N1568' := Fr.app N1566' N1568
   show KEnds p e below s _ _ _ T1568 (mkF m 193 #[iv i0, iv i1, iv i2, iv i3, iv v1, iv (1 : Int32), iv v1113, iv (2 : Int32), iv v1409, iv v1410, rv b1411, iv (1 : Int32), iv (1 : Int32), .unset] [(.int v1569)])
   refine k_iload X1568 hx (hb hby at_193) rfl (pc' := 195) rfl ?_
   refine k_iload X1568 hx (hb hby at_195) rfl (pc' := 197) rfl ?_
   refine k_iload X1568 hx (hb hby at_197) rfl (pc' := 199) rfl ?_
   refine k_iload X1568 hx (hb hby at_199) rfl (pc' := 201) rfl ?_
   refine k_iload X1568 hx (hb hby at_201) rfl (pc' := 203) rfl ?_
   refine k_callS X1568 hx hZ hown (hw _ (List.mem_of_getElem? (i := 22) rfl)) (hw _ (List.mem_of_getElem? (i := 23) rfl)) (hw _ (List.mem_of_getElem? (i := 24) rfl)) (hw _ (List.mem_of_getElem? (i := 25) rfl)) (by decide) (rm4_1571 l Z a0 hw [] v1 v1113 T1493.heap n0 Z1508 ) (by decide) (by decide) e1568 (by rw [hml]; rfl) (argsL := [(.int v1), (.int v1), (.int (1 : Int32)), (.int v1113), (.int (2 : Int32))]) (rest := [(.int v1569)]) (lenOf pd_2 rfl) rfl (W := 1) (Nat.le_refl _) rfl (hb hby at_203) (by decide) (by decide) (pc' := 206) rfl (fun T1573 L1573 r1573 X1573 q1573 => ?_)
   obtain ⟨N1573, e1573, rfl⟩ := q1573
   have N1573' := Fr.app N1568' N1573
   show KEnds p e below s _ _ _ T1573 (mkF m 206 #[iv i0, iv i1, iv i2, iv i3, iv v1, iv (1 : Int32), iv v1113, iv (2 : Int32), iv v1409, iv v1410, rv b1411, iv (1 : Int32), iv (1 : Int32), .unset] ((.int (f4_1571 v1 v1113)) :: (.int v1569) :: []))
   obtain ⟨v1574, hv1574⟩ : ∃ z, z = f4_1571 v1 v1113 := ⟨_, rfl⟩
   rw [← hv1574]
   refine k_icmp_ne X1573 hx (hb hby at_206) (pn := 209) rfl (py := 213) (by decide) (fun hc => absurd (by rw [hS1570, hv1574]; exact own_fin_20 v1 v1113 hT1426 hT1426 hT1454) hc) (fun _ => ?_)
   refine k_iconst X1573 hx (hb hby at_209) (pc' := 210) rfl (z := (1 : Int32)) rfl ?_
   refine k_goto X1573 hx (hb hby at_210) (pc' := 214) (by decide) ?_
   refine k_istore X1573 hx (hb hby at_214) (Ls' := #[iv i0, iv i1, iv i2, iv i3, iv v1, iv (1 : Int32), iv v1113, iv (2 : Int32), iv v1409, iv v1410, rv b1411, iv (1 : Int32), iv (1 : Int32), iv (1 : Int32)]) rfl (pc' := 216) rfl ?_
   refine k_iload X1573 hx (hb hby at_216) rfl (pc' := 218) rfl ?_
   refine k_if_eq X1573 hx (hb hby at_218) (pn := 221) rfl (py := 235) (by decide) (fun hc => absurd hc (by decide)) (fun _ => ?_)
   refine k_iload X1573 hx (hb hby at_221) rfl (pc' := 223) rfl ?_
   refine k_if_eq X1573 hx (hb hby at_223) (pn := 226) rfl (py := 235) (by decide) (fun hc => absurd hc (by decide)) (fun _ => ?_)
   refine k_iload X1573 hx (hb hby at_226) rfl (pc' := 228) rfl ?_
   refine k_if_eq X1573 hx (hb hby at_228) (pn := 231) rfl (py := 235) (by decide) (fun hc => absurd hc (by decide)) (fun _ => ?_)
   refine k_iconst X1573 hx (hb hby at_231) (pc' := 232) rfl (z := (1 : Int32)) rfl ?_
   refine k_goto X1573 hx (hb hby at_232) (pc' := 236) (by decide) ?_
   exact k_retN X1573 hx (t := .boolean) Bd.returns (by simp) (hb hby at_236) hlk (by decide) (by decide) (z' := (1 : Int32)) rfl ⟨rfl, N1573'⟩
  ·
   show KEnds p e below s _ _ _ s₁ (mkF m 24 #[iv i0, iv i1, iv i2, iv i3, iv v1, iv (1 : Int32), iv v1113, .unset, .unset, .unset, .unset, .unset, .unset, .unset] [(.int (3 : Int32))])
   refine k_istore X0 hx (hb hby at_24) (Ls' := #[iv i0, iv i1, iv i2, iv i3, iv v1, iv (1 : Int32), iv v1113, iv (3 : Int32), .unset, .unset, .unset, .unset, .unset, .unset]) rfl (pc' := 26) rfl ?_
   refine k_iloadN X0 hx (hb hby at_26) rfl (pc' := 27) rfl ?_
   refine k_bipush X0 hx (hb hby at_27) (pc' := 29) rfl (z := (31 : Int32)) rfl ?_
   refine k_iand X0 hx (hb hby at_29) (pc' := 30) rfl (fun v1576 hv1576 => ?_)
   refine k_istore X0 hx (hb hby at_30) (Ls' := #[iv i0, iv i1, iv i2, iv i3, iv v1, iv (1 : Int32), iv v1113, iv (3 : Int32), iv v1576, .unset, .unset, .unset, .unset, .unset]) rfl (pc' := 32) rfl ?_
   refine k_iloadN X0 hx (hb hby at_32) rfl (pc' := 33) rfl ?_
   refine k_ldc X0 hx hZ hown (hw _ (List.mem_of_getElem? (i := 0) rfl)) (hb hby at_33) (pc' := 35) rfl ?_
   refine k_iand X0 hx (hb hby at_35) (pc' := 36) rfl (fun v1577 hv1577 => ?_)
   refine k_istore X0 hx (hb hby at_36) (Ls' := #[iv i0, iv i1, iv i2, iv i3, iv v1, iv (1 : Int32), iv v1113, iv (3 : Int32), iv v1576, iv v1577, .unset, .unset, .unset, .unset]) rfl (pc' := 38) rfl ?_
   refine k_newO X0 hx hZ hown (hw _ (List.mem_of_getElem? (i := 1) rfl)) (hw _ (List.mem_of_getElem? (i := 2) rfl)) (hw _ (List.mem_of_getElem? (i := 3) rfl)) e0 (hb hby at_38) (by decide) (by decide) (pc' := 41) rfl (fun T1578 h1578 b1578 g1578 X1578 e1578 E1578 A1578 D1578 => ?_)
   have g_b1578 : n0 ≤ b1578 := Nat.le_trans Z0 (Nat.le_of_eq g1578.symm)
   have Z1578 : n0 ≤ h1578.size := Nat.le_trans Z0 E1578.1
   have F1579 : Fld Z h1578 b1578 "com/example/dendrotick/dendrotick/VectorClock" "entries" "[I" .null := D1578 (Or.inl (hw _ (List.mem_of_getElem? (i := 12) rfl))) (ty := (.array .int)) (by decide)
   have F1580 : Fld Z h1578 b1578 "com/example/dendrotick/dendrotick/VectorClock" "work" "Lcom/example/dendrotick/dendrotick/ClockWork;" .null := D1578 (Or.inr (hw _ (List.mem_of_getElem? (i := 14) rfl))) (ty := (.object "com/example/dendrotick/dendrotick/ClockWork")) (by decide)
   have F1581 : Fld Z h1578 b1578 "com/example/dendrotick/dendrotick/VectorClock" "size" "I" (.int (0 : Int32)) := D1578 (Or.inl (hw _ (List.mem_of_getElem? (i := 21) rfl))) (ty := .int) (by decide)
   refine k_dup X1578 hx (hb hby at_41) rfl (pc' := 42) rfl ?_
   refine k_anull X1578 hx (hb hby at_42) (pc' := 43) rfl ?_
   refine k_callI X1578 hx hZ hown (a := b1578) rfl (hw _ (List.mem_of_getElem? (i := 4) rfl)) (hw _ (List.mem_of_getElem? (i := 5) rfl)) (hw _ (List.mem_of_getElem? (i := 3) rfl)) (hw _ (List.mem_of_getElem? (i := 6) rfl)) rfl (by decide) (rm1_27 l Z a0 hw [] b1578 h1578 n0 Z1578 A1578 F1579 F1580 F1581 g_b1578) (by decide) (by decide) e1578 (by rw [hml]; rfl) (argsL := [.null]) (rest := [(.ref b1578)]) (lenOf pd_0 rfl) rfl (W := 1) (Nat.le_refl _) rfl (hb hby at_43) (by decide) (by decide) (pc' := 46) rfl (fun T1582 L1582 r1582 X1582 q1582 => ?_)
   obtain ⟨N1582, q1582⟩ := q1582
   have N1582' := Fr.app N0 N1582
   obtain ⟨b1583, k1584, rfl, F1585, F1586, F1587, F1588, F1589, g_b1583, lt1590, Z1591⟩ := q1582
   show KEnds p e below s _ _ _ T1582 (mkF m 46 #[iv i0, iv i1, iv i2, iv i3, iv v1, iv (1 : Int32), iv v1113, iv (3 : Int32), iv v1576, iv v1577, .unset, .unset, .unset, .unset] [(.ref b1578)])
   refine k_astore X1582 hx (hb hby at_46) rfl (Ls' := #[iv i0, iv i1, iv i2, iv i3, iv v1, iv (1 : Int32), iv v1113, iv (3 : Int32), iv v1576, iv v1577, rv b1578, .unset, .unset, .unset]) rfl (pc' := 48) rfl ?_
   refine k_iload X1582 hx (hb hby at_48) rfl (pc' := 50) rfl ?_
   refine k_iconst X1582 hx (hb hby at_50) (pc' := 51) rfl (z := (1 : Int32)) rfl ?_
   refine k_icmp_lt X1582 hx (hb hby at_51) (pn := 54) rfl (py := 61) (by decide) (fun hc => absurd hc (by decide)) (fun _ => ?_)
   refine k_aload X1582 hx (hb hby at_54) rfl rfl (pc' := 56) rfl ?_
   refine k_iload X1582 hx (hb hby at_56) rfl (pc' := 58) rfl ?_
   have hT1593 : ¬ v1 < (0 : Int32) := (by intro hq1594; have B1597 : (-2147483648 : Int) ≤ i0.toInt ∧ i0.toInt ≤ 2147483647 := ⟨(rng32 i0).1, Int.le_of_lt_add_one (rng32 i0).2⟩; have q1596 : v1.toInt = i0.toInt % 16 := (by rw [hv1]; exact c_mask _ _ 4 (by decide) (by decide)); have B1595 : (0 : Int) ≤ v1.toInt ∧ v1.toInt ≤ 15 := (by rw [q1596]; exact k_modB (by decide)); have B1598 : (0 : Int) ≤ v1.toInt ∧ v1.toInt ≤ -1 := ⟨B1595.1, k_lt hq1594 (by decide)⟩; omega)
   have hT1599 : ¬ (15 : Int32) < v1 := (by intro hq1600; have B1603 : (-2147483648 : Int) ≤ i0.toInt ∧ i0.toInt ≤ 2147483647 := ⟨(rng32 i0).1, Int.le_of_lt_add_one (rng32 i0).2⟩; have q1602 : v1.toInt = i0.toInt % 16 := (by rw [hv1]; exact c_mask _ _ 4 (by decide) (by decide)); have B1601 : (0 : Int) ≤ v1.toInt ∧ v1.toInt ≤ 15 := (by rw [q1602]; exact k_modB (by decide)); have B1604 : (16 : Int) ≤ v1.toInt ∧ v1.toInt ≤ 15 := ⟨k_gt hq1600 (by decide), B1601.2⟩; omega)
   refine k_callV X1582 hx hZ hown (a := b1578) (hw _ (List.mem_of_getElem? (i := 26) rfl)) (hw _ (List.mem_of_getElem? (i := 27) rfl)) (hw _ (List.mem_of_getElem? (i := 29) rfl)) (hw _ (List.mem_of_getElem? (i := 28) rfl)) (hw _ (List.mem_of_getElem? (i := 3) rfl)) (hw _ (List.mem_of_getElem? (i := 30) rfl)) (by decide) F1585 (rm5_169 l Z a0 hw [] b1578 b1583 k1584 (0 : Int32) (0 : Int32) v1 (fun _ => 0) T1582.heap n0 Z1591 F1585 F1586 F1587 F1588 F1589 g_b1578 g_b1583 lt1590 (by decide) (by decide) (by decide) (by decide) (fun _ _ => rfl) hT1593 hT1599) (by decide) (by decide) rfl (by rw [hml]; rfl) (argsL := [(.int v1)]) (rest := []) (lenOf pd_5 rfl) rfl (W := 0) (Nat.le_refl _) rfl (hb hby at_58) (by decide) (by decide) (pc' := 61) rfl (fun T1592 L1592 r1592 X1592 q1592 => ?_)
   obtain ⟨N1592, b1592, k1592, v1605, v1606, rfl, F1607, F1608, F1609, F1610, F1611, g_b1592, lt1618, Z1619, hI1612, hI1613, hI1614, hI1615, HZ1616⟩ := q1592
   have N1592' := Fr.app N1582' N1592
   show KEnds p e below s _ _ _ T1592 (mkF m 61 #[iv i0, iv i1, iv i2, iv i3, iv v1, iv (1 : Int32), iv v1113, iv (3 : Int32), iv v1576, iv v1577, rv b1578, .unset, .unset, .unset] [])
   refine k_iload X1592 hx (hb hby at_61) rfl (pc' := 63) rfl ?_
   refine k_iconst X1592 hx (hb hby at_63) (pc' := 64) rfl (z := (2 : Int32)) rfl ?_
   refine k_icmp_lt X1592 hx (hb hby at_64) (pn := 67) rfl (py := 74) (by decide) (fun _ => ?_) (fun hc => absurd (by decide) hc)
   refine k_iload X1592 hx (hb hby at_74) rfl (pc' := 76) rfl ?_
   refine k_iconst X1592 hx (hb hby at_76) (pc' := 77) rfl (z := (3 : Int32)) rfl ?_
   refine k_icmp_lt X1592 hx (hb hby at_77) (pn := 80) rfl (py := 87) (by decide) (fun _ => ?_) (fun hc => absurd (by decide) hc)
   refine k_iload X1592 hx (hb hby at_87) rfl (pc' := 89) rfl ?_
   refine k_iconst X1592 hx (hb hby at_89) (pc' := 90) rfl (z := (1 : Int32)) rfl ?_
   refine k_icmp_lt X1592 hx (hb hby at_90) (pn := 93) rfl (py := 100) (by decide) (fun hc => absurd hc (by decide)) (fun _ => ?_)
   refine k_aload X1592 hx (hb hby at_93) rfl rfl (pc' := 95) rfl ?_
   refine k_iload X1592 hx (hb hby at_95) rfl (pc' := 97) rfl ?_
   have hT1621 : ¬ v1113 < (0 : Int32) := (by intro hq1622; have B1625 : (-2147483648 : Int) ≤ i0.toInt ∧ i0.toInt ≤ 2147483647 := ⟨(rng32 i0).1, Int.le_of_lt_add_one (rng32 i0).2⟩; have q1624 : v1.toInt = i0.toInt % 16 := (by rw [hv1]; exact c_mask _ _ 4 (by decide) (by decide)); have B1623 : (0 : Int) ≤ v1.toInt ∧ v1.toInt ≤ 15 := (by rw [q1624]; exact k_modB (by decide)); have B1626 : (0 : Int) ≤ v1605.toInt ∧ v1605.toInt ≤ 30 := ⟨k_ge hI1612 (by decide), k_le hI1613 (by decide)⟩; have B1627 : (0 : Int) ≤ v1606.toInt ∧ v1606.toInt ≤ 2147483647 := ⟨k_ge hI1614 (by decide), Int.le_of_lt_add_one (rng32 v1606).2⟩; have q1628 := hI1615; rw [Int32.lt_iff_toInt_lt] at q1628; have B1631 : (-2147483648 : Int) ≤ i1.toInt ∧ i1.toInt ≤ 2147483647 := ⟨(rng32 i1).1, Int.le_of_lt_add_one (rng32 i1).2⟩; have q1630 : v1113.toInt = i1.toInt % 16 := (by rw [hv1113]; exact c_mask _ _ 4 (by decide) (by decide)); have B1629 : (0 : Int) ≤ v1113.toInt ∧ v1113.toInt ≤ 15 := (by rw [q1630]; exact k_modB (by decide)); have B1632 : (0 : Int) ≤ v1113.toInt ∧ v1113.toInt ≤ -1 := ⟨B1629.1, k_lt hq1622 (by decide)⟩; omega)
   have hT1633 : ¬ (15 : Int32) < v1113 := (by intro hq1634; have B1637 : (-2147483648 : Int) ≤ i0.toInt ∧ i0.toInt ≤ 2147483647 := ⟨(rng32 i0).1, Int.le_of_lt_add_one (rng32 i0).2⟩; have q1636 : v1.toInt = i0.toInt % 16 := (by rw [hv1]; exact c_mask _ _ 4 (by decide) (by decide)); have B1635 : (0 : Int) ≤ v1.toInt ∧ v1.toInt ≤ 15 := (by rw [q1636]; exact k_modB (by decide)); have B1638 : (0 : Int) ≤ v1605.toInt ∧ v1605.toInt ≤ 30 := ⟨k_ge hI1612 (by decide), k_le hI1613 (by decide)⟩; have B1639 : (0 : Int) ≤ v1606.toInt ∧ v1606.toInt ≤ 2147483647 := ⟨k_ge hI1614 (by decide), Int.le_of_lt_add_one (rng32 v1606).2⟩; have q1640 := hI1615; rw [Int32.lt_iff_toInt_lt] at q1640; have B1643 : (-2147483648 : Int) ≤ i1.toInt ∧ i1.toInt ≤ 2147483647 := ⟨(rng32 i1).1, Int.le_of_lt_add_one (rng32 i1).2⟩; have q1642 : v1113.toInt = i1.toInt % 16 := (by rw [hv1113]; exact c_mask _ _ 4 (by decide) (by decide)); have B1641 : (0 : Int) ≤ v1113.toInt ∧ v1113.toInt ≤ 15 := (by rw [q1642]; exact k_modB (by decide)); have B1644 : (16 : Int) ≤ v1113.toInt ∧ v1113.toInt ≤ 15 := ⟨k_gt hq1634 (by decide), B1641.2⟩; omega)
   refine k_callV X1592 hx hZ hown (a := b1578) (hw _ (List.mem_of_getElem? (i := 26) rfl)) (hw _ (List.mem_of_getElem? (i := 27) rfl)) (hw _ (List.mem_of_getElem? (i := 29) rfl)) (hw _ (List.mem_of_getElem? (i := 28) rfl)) (hw _ (List.mem_of_getElem? (i := 3) rfl)) (hw _ (List.mem_of_getElem? (i := 30) rfl)) (by decide) F1607 (rm5_169 l Z a0 hw [] b1578 b1592 k1592 v1605 v1606 v1113 (updF (fun _ => 0) v1.toNatClampNeg ((fun _ => 0) v1.toNatClampNeg + 1)) T1592.heap n0 Z1619 F1607 F1608 F1609 F1610 F1611 g_b1578 g_b1592 lt1618 hI1612 hI1613 hI1614 hI1615 HZ1616 hT1621 hT1633) (by decide) (by decide) rfl (by rw [hml]; rfl) (argsL := [(.int v1113)]) (rest := []) (lenOf pd_5 rfl) rfl (W := 0) (Nat.le_refl _) rfl (hb hby at_97) (by decide) (by decide) (pc' := 100) rfl (fun T1620 L1620 r1620 X1620 q1620 => ?_)
   obtain ⟨N1620, b1620, k1620, v1645, v1646, rfl, F1647, F1648, F1649, F1650, F1651, g_b1620, lt1658, Z1659, hI1652, hI1653, hI1654, hI1655, HZ1656⟩ := q1620
   have N1620' := Fr.app N1592' N1620
   show KEnds p e below s _ _ _ T1620 (mkF m 100 #[iv i0, iv i1, iv i2, iv i3, iv v1, iv (1 : Int32), iv v1113, iv (3 : Int32), iv v1576, iv v1577, rv b1578, .unset, .unset, .unset] [])
   refine k_iload X1620 hx (hb hby at_100) rfl (pc' := 102) rfl ?_
   refine k_iconst X1620 hx (hb hby at_102) (pc' := 103) rfl (z := (2 : Int32)) rfl ?_
   refine k_icmp_lt X1620 hx (hb hby at_103) (pn := 106) rfl (py := 113) (by decide) (fun hc => absurd hc (by decide)) (fun _ => ?_)
   refine k_aload X1620 hx (hb hby at_106) rfl rfl (pc' := 108) rfl ?_
   refine k_iload X1620 hx (hb hby at_108) rfl (pc' := 110) rfl ?_
   refine k_callV X1620 hx hZ hown (a := b1578) (hw _ (List.mem_of_getElem? (i := 26) rfl)) (hw _ (List.mem_of_getElem? (i := 27) rfl)) (hw _ (List.mem_of_getElem? (i := 29) rfl)) (hw _ (List.mem_of_getElem? (i := 28) rfl)) (hw _ (List.mem_of_getElem? (i := 3) rfl)) (hw _ (List.mem_of_getElem? (i := 30) rfl)) (by decide) F1647 (rm5_169 l Z a0 hw [] b1578 b1620 k1620 v1645 v1646 v1113 (updF (updF (fun _ => 0) v1.toNatClampNeg ((fun _ => 0) v1.toNatClampNeg + 1)) v1113.toNatClampNeg ((updF (fun _ => 0) v1.toNatClampNeg ((fun _ => 0) v1.toNatClampNeg + 1)) v1113.toNatClampNeg + 1)) T1620.heap n0 Z1659 F1647 F1648 F1649 F1650 F1651 g_b1578 g_b1620 lt1658 hI1652 hI1653 hI1654 hI1655 HZ1656 hT1621 hT1633) (by decide) (by decide) rfl (by rw [hml]; rfl) (argsL := [(.int v1113)]) (rest := []) (lenOf pd_5 rfl) rfl (W := 0) (Nat.le_refl _) rfl (hb hby at_110) (by decide) (by decide) (pc' := 113) rfl (fun T1660 L1660 r1660 X1660 q1660 => ?_)
   obtain ⟨N1660, b1660, k1660, v1661, v1662, rfl, F1663, F1664, F1665, F1666, F1667, g_b1660, lt1674, Z1675, hI1668, hI1669, hI1670, hI1671, HZ1672⟩ := q1660
   have N1660' := Fr.app N1620' N1660
   show KEnds p e below s _ _ _ T1660 (mkF m 113 #[iv i0, iv i1, iv i2, iv i3, iv v1, iv (1 : Int32), iv v1113, iv (3 : Int32), iv v1576, iv v1577, rv b1578, .unset, .unset, .unset] [])
   refine k_iload X1660 hx (hb hby at_113) rfl (pc' := 115) rfl ?_
   refine k_iconst X1660 hx (hb hby at_115) (pc' := 116) rfl (z := (3 : Int32)) rfl ?_
   refine k_icmp_lt X1660 hx (hb hby at_116) (pn := 119) rfl (py := 126) (by decide) (fun hc => absurd hc (by decide)) (fun _ => ?_)
   refine k_aload X1660 hx (hb hby at_119) rfl rfl (pc' := 121) rfl ?_
   refine k_iload X1660 hx (hb hby at_121) rfl (pc' := 123) rfl ?_
   refine k_callV X1660 hx hZ hown (a := b1578) (hw _ (List.mem_of_getElem? (i := 26) rfl)) (hw _ (List.mem_of_getElem? (i := 27) rfl)) (hw _ (List.mem_of_getElem? (i := 29) rfl)) (hw _ (List.mem_of_getElem? (i := 28) rfl)) (hw _ (List.mem_of_getElem? (i := 3) rfl)) (hw _ (List.mem_of_getElem? (i := 30) rfl)) (by decide) F1663 (rm5_169 l Z a0 hw [] b1578 b1660 k1660 v1661 v1662 v1113 (updF (updF (updF (fun _ => 0) v1.toNatClampNeg ((fun _ => 0) v1.toNatClampNeg + 1)) v1113.toNatClampNeg ((updF (fun _ => 0) v1.toNatClampNeg ((fun _ => 0) v1.toNatClampNeg + 1)) v1113.toNatClampNeg + 1)) v1113.toNatClampNeg ((updF (updF (fun _ => 0) v1.toNatClampNeg ((fun _ => 0) v1.toNatClampNeg + 1)) v1113.toNatClampNeg ((updF (fun _ => 0) v1.toNatClampNeg ((fun _ => 0) v1.toNatClampNeg + 1)) v1113.toNatClampNeg + 1)) v1113.toNatClampNeg + 1)) T1660.heap n0 Z1675 F1663 F1664 F1665 F1666 F1667 g_b1578 g_b1660 lt1674 hI1668 hI1669 hI1670 hI1671 HZ1672 hT1621 hT1633) (by decide) (by decide) rfl (by rw [hml]; rfl) (argsL := [(.int v1113)]) (rest := []) (lenOf pd_5 rfl) rfl (W := 0) (Nat.le_refl _) rfl (hb hby at_123) (by decide) (by decide) (pc' := 126) rfl (fun T1676 L1676 r1676 X1676 q1676 => ?_)
   obtain ⟨N1676, b1676, k1676, v1677, v1678, rfl, F1679, F1680, F1681, F1682, F1683, g_b1676, lt1690, Z1691, hI1684, hI1685, hI1686, hI1687, HZ1688⟩ := q1676
   have N1676' := Fr.app N1660' N1676
   show KEnds p e below s _ _ _ T1676 (mkF m 126 #[iv i0, iv i1, iv i2, iv i3, iv v1, iv (1 : Int32), iv v1113, iv (3 : Int32), iv v1576, iv v1577, rv b1578, .unset, .unset, .unset] [])
   refine k_aload X1676 hx (hb hby at_126) rfl rfl (pc' := 128) rfl ?_
   refine k_iload X1676 hx (hb hby at_128) rfl (pc' := 130) rfl ?_
   have hp1692 : ¬ v1576 < (0 : Int32) := by
    intro hq1693
    have B1696 : (-2147483648 : Int) ≤ i0.toInt ∧ i0.toInt ≤ 2147483647 := ⟨(rng32 i0).1, Int.le_of_lt_add_one (rng32 i0).2⟩
    have q1695 : v1.toInt = i0.toInt % 16 := (by rw [hv1]; exact c_mask _ _ 4 (by decide) (by decide))
    have B1694 : (0 : Int) ≤ v1.toInt ∧ v1.toInt ≤ 15 := (by rw [q1695]; exact k_modB (by decide))
    have B1697 : (0 : Int) ≤ v1605.toInt ∧ v1605.toInt ≤ 30 := ⟨k_ge hI1612 (by decide), k_le hI1613 (by decide)⟩
    have B1698 : (0 : Int) ≤ v1606.toInt ∧ v1606.toInt ≤ 2147483647 := ⟨k_ge hI1614 (by decide), Int.le_of_lt_add_one (rng32 v1606).2⟩
    have q1699 := hI1615; rw [Int32.lt_iff_toInt_lt] at q1699
    have B1702 : (-2147483648 : Int) ≤ i1.toInt ∧ i1.toInt ≤ 2147483647 := ⟨(rng32 i1).1, Int.le_of_lt_add_one (rng32 i1).2⟩
    have q1701 : v1113.toInt = i1.toInt % 16 := (by rw [hv1113]; exact c_mask _ _ 4 (by decide) (by decide))
    have B1700 : (0 : Int) ≤ v1113.toInt ∧ v1113.toInt ≤ 15 := (by rw [q1701]; exact k_modB (by decide))
    have B1703 : (0 : Int) ≤ v1645.toInt ∧ v1645.toInt ≤ 30 := ⟨k_ge hI1652 (by decide), k_le hI1653 (by decide)⟩
    have B1704 : (0 : Int) ≤ v1646.toInt ∧ v1646.toInt ≤ 2147483647 := ⟨k_ge hI1654 (by decide), Int.le_of_lt_add_one (rng32 v1646).2⟩
    have q1705 := hI1655; rw [Int32.lt_iff_toInt_lt] at q1705
    have B1706 : (0 : Int) ≤ v1661.toInt ∧ v1661.toInt ≤ 30 := ⟨k_ge hI1668 (by decide), k_le hI1669 (by decide)⟩
    have B1707 : (0 : Int) ≤ v1662.toInt ∧ v1662.toInt ≤ 2147483647 := ⟨k_ge hI1670 (by decide), Int.le_of_lt_add_one (rng32 v1662).2⟩
    have q1708 := hI1671; rw [Int32.lt_iff_toInt_lt] at q1708
    have B1709 : (0 : Int) ≤ v1677.toInt ∧ v1677.toInt ≤ 30 := ⟨k_ge hI1684 (by decide), k_le hI1685 (by decide)⟩
    have B1710 : (0 : Int) ≤ v1678.toInt ∧ v1678.toInt ≤ 2147483647 := ⟨k_ge hI1686 (by decide), Int.le_of_lt_add_one (rng32 v1678).2⟩
    have q1711 := hI1687; rw [Int32.lt_iff_toInt_lt] at q1711
    have B1714 : (-2147483648 : Int) ≤ i2.toInt ∧ i2.toInt ≤ 2147483647 := ⟨(rng32 i2).1, Int.le_of_lt_add_one (rng32 i2).2⟩
    have q1713 : v1576.toInt = i2.toInt % 32 := (by rw [hv1576]; exact c_mask _ _ 5 (by decide) (by decide))
    have B1712 : (0 : Int) ≤ v1576.toInt ∧ v1576.toInt ≤ 31 := (by rw [q1713]; exact k_modB (by decide))
    have B1715 : (0 : Int) ≤ v1576.toInt ∧ v1576.toInt ≤ -1 := ⟨B1712.1, k_lt hq1693 (by decide)⟩
    omega
   refine k_callV X1676 hx hZ hown (a := b1578) (hw _ (List.mem_of_getElem? (i := 15) rfl)) (hw _ (List.mem_of_getElem? (i := 16) rfl)) (hw _ (List.mem_of_getElem? (i := 18) rfl)) (hw _ (List.mem_of_getElem? (i := 17) rfl)) (hw _ (List.mem_of_getElem? (i := 3) rfl)) (hw _ (List.mem_of_getElem? (i := 19) rfl)) (by decide) F1679 (rm3_631 l Z a0 hw [] b1578 v1576 b1676 v1678 k1676 v1677 (updF (updF (updF (updF (fun _ => 0) v1.toNatClampNeg ((fun _ => 0) v1.toNatClampNeg + 1)) v1113.toNatClampNeg ((updF (fun _ => 0) v1.toNatClampNeg ((fun _ => 0) v1.toNatClampNeg + 1)) v1113.toNatClampNeg + 1)) v1113.toNatClampNeg ((updF (updF (fun _ => 0) v1.toNatClampNeg ((fun _ => 0) v1.toNatClampNeg + 1)) v1113.toNatClampNeg ((updF (fun _ => 0) v1.toNatClampNeg ((fun _ => 0) v1.toNatClampNeg + 1)) v1113.toNatClampNeg + 1)) v1113.toNatClampNeg + 1)) v1113.toNatClampNeg ((updF (updF (updF (fun _ => 0) v1.toNatClampNeg ((fun _ => 0) v1.toNatClampNeg + 1)) v1113.toNatClampNeg ((updF (fun _ => 0) v1.toNatClampNeg ((fun _ => 0) v1.toNatClampNeg + 1)) v1113.toNatClampNeg + 1)) v1113.toNatClampNeg ((updF (updF (fun _ => 0) v1.toNatClampNeg ((fun _ => 0) v1.toNatClampNeg + 1)) v1113.toNatClampNeg ((updF (fun _ => 0) v1.toNatClampNeg ((fun _ => 0) v1.toNatClampNeg + 1)) v1113.toNatClampNeg + 1)) v1113.toNatClampNeg + 1)) v1113.toNatClampNeg + 1)) T1676.heap n0 Z1691 F1679 F1680 F1681 F1682 F1683 lt1690 hp1692 hI1687 HZ1688) (by decide) (by decide) rfl (by rw [hml]; rfl) (argsL := [(.int v1576)]) (rest := []) (lenOf pd_1 rfl) rfl (W := 0) (Nat.le_refl _) rfl (hb hby at_130) (by decide) (by decide) (pc' := 133) rfl (fun T1716 L1716 r1716 X1716 q1716 => ?_)
   obtain ⟨N1716, e1716, v1717, rfl, hS1718⟩ := q1716
   have N1716' := Fr.app N1676' N1716
   show KEnds p e below s _ _ _ T1716 (mkF m 133 #[iv i0, iv i1, iv i2, iv i3, iv v1, iv (1 : Int32), iv v1113, iv (3 : Int32), iv v1576, iv v1577, rv b1578, .unset, .unset, .unset] [(.int v1717)])
   refine k_iload X1716 hx (hb hby at_133) rfl (pc' := 135) rfl ?_
   refine k_iload X1716 hx (hb hby at_135) rfl (pc' := 137) rfl ?_
   refine k_iload X1716 hx (hb hby at_137) rfl (pc' := 139) rfl ?_
   refine k_iload X1716 hx (hb hby at_139) rfl (pc' := 141) rfl ?_
   refine k_iload X1716 hx (hb hby at_141) rfl (pc' := 143) rfl ?_
   refine k_callS X1716 hx hZ hown (hw _ (List.mem_of_getElem? (i := 22) rfl)) (hw _ (List.mem_of_getElem? (i := 23) rfl)) (hw _ (List.mem_of_getElem? (i := 24) rfl)) (hw _ (List.mem_of_getElem? (i := 25) rfl)) (by decide) (rm4_1719 l Z a0 hw [] v1576 v1 v1113 T1676.heap n0 Z1691 ) (by decide) (by decide) e1716 (by rw [hml]; rfl) (argsL := [(.int v1576), (.int v1), (.int (1 : Int32)), (.int v1113), (.int (3 : Int32))]) (rest := [(.int v1717)]) (lenOf pd_2 rfl) rfl (W := 1) (Nat.le_refl _) rfl (hb hby at_143) (by decide) (by decide) (pc' := 146) rfl (fun T1723 L1723 r1723 X1723 q1723 => ?_)
   obtain ⟨N1723, e1723, rfl⟩ := q1723
   have N1723' := Fr.app N1716' N1723
   show KEnds p e below s _ _ _ T1723 (mkF m 146 #[iv i0, iv i1, iv i2, iv i3, iv v1, iv (1 : Int32), iv v1113, iv (3 : Int32), iv v1576, iv v1577, rv b1578, .unset, .unset, .unset] ((.int (f4_1719 v1576 v1 v1113)) :: (.int v1717) :: []))
   obtain ⟨v1724, hv1724⟩ : ∃ z, z = f4_1719 v1576 v1 v1113 := ⟨_, rfl⟩
   rw [← hv1724]
   refine k_icmp_ne X1723 hx (hb hby at_146) (pn := 149) rfl (py := 153) (by decide) (fun hc => absurd (by rw [hS1718, hv1724]; exact own_fin_21 v1576 v1 v1113 hp1692 hT1593 hT1621) hc) (fun _ => ?_)
   refine k_iconst X1723 hx (hb hby at_149) (pc' := 150) rfl (z := (1 : Int32)) rfl ?_
   refine k_goto X1723 hx (hb hby at_150) (pc' := 154) (by decide) ?_
   refine k_istore X1723 hx (hb hby at_154) (Ls' := #[iv i0, iv i1, iv i2, iv i3, iv v1, iv (1 : Int32), iv v1113, iv (3 : Int32), iv v1576, iv v1577, rv b1578, iv (1 : Int32), .unset, .unset]) rfl (pc' := 156) rfl ?_
   refine k_aload X1723 hx (hb hby at_156) rfl rfl (pc' := 158) rfl ?_
   refine k_iload X1723 hx (hb hby at_158) rfl (pc' := 160) rfl ?_
   have hp1725 : ¬ v1577 < (0 : Int32) := by
    intro hq1726
    have B1729 : (-2147483648 : Int) ≤ i0.toInt ∧ i0.toInt ≤ 2147483647 := ⟨(rng32 i0).1, Int.le_of_lt_add_one (rng32 i0).2⟩
    have q1728 : v1.toInt = i0.toInt % 16 := (by rw [hv1]; exact c_mask _ _ 4 (by decide) (by decide))
    have B1727 : (0 : Int) ≤ v1.toInt ∧ v1.toInt ≤ 15 := (by rw [q1728]; exact k_modB (by decide))
    have B1730 : (0 : Int) ≤ v1605.toInt ∧ v1605.toInt ≤ 30 := ⟨k_ge hI1612 (by decide), k_le hI1613 (by decide)⟩
    have B1731 : (0 : Int) ≤ v1606.toInt ∧ v1606.toInt ≤ 2147483647 := ⟨k_ge hI1614 (by decide), Int.le_of_lt_add_one (rng32 v1606).2⟩
    have q1732 := hI1615; rw [Int32.lt_iff_toInt_lt] at q1732
    have B1735 : (-2147483648 : Int) ≤ i1.toInt ∧ i1.toInt ≤ 2147483647 := ⟨(rng32 i1).1, Int.le_of_lt_add_one (rng32 i1).2⟩
    have q1734 : v1113.toInt = i1.toInt % 16 := (by rw [hv1113]; exact c_mask _ _ 4 (by decide) (by decide))
    have B1733 : (0 : Int) ≤ v1113.toInt ∧ v1113.toInt ≤ 15 := (by rw [q1734]; exact k_modB (by decide))
    have B1736 : (0 : Int) ≤ v1645.toInt ∧ v1645.toInt ≤ 30 := ⟨k_ge hI1652 (by decide), k_le hI1653 (by decide)⟩
    have B1737 : (0 : Int) ≤ v1646.toInt ∧ v1646.toInt ≤ 2147483647 := ⟨k_ge hI1654 (by decide), Int.le_of_lt_add_one (rng32 v1646).2⟩
    have q1738 := hI1655; rw [Int32.lt_iff_toInt_lt] at q1738
    have B1739 : (0 : Int) ≤ v1661.toInt ∧ v1661.toInt ≤ 30 := ⟨k_ge hI1668 (by decide), k_le hI1669 (by decide)⟩
    have B1740 : (0 : Int) ≤ v1662.toInt ∧ v1662.toInt ≤ 2147483647 := ⟨k_ge hI1670 (by decide), Int.le_of_lt_add_one (rng32 v1662).2⟩
    have q1741 := hI1671; rw [Int32.lt_iff_toInt_lt] at q1741
    have B1742 : (0 : Int) ≤ v1677.toInt ∧ v1677.toInt ≤ 30 := ⟨k_ge hI1684 (by decide), k_le hI1685 (by decide)⟩
    have B1743 : (0 : Int) ≤ v1678.toInt ∧ v1678.toInt ≤ 2147483647 := ⟨k_ge hI1686 (by decide), Int.le_of_lt_add_one (rng32 v1678).2⟩
    have q1744 := hI1687; rw [Int32.lt_iff_toInt_lt] at q1744
    have B1747 : (-2147483648 : Int) ≤ i2.toInt ∧ i2.toInt ≤ 2147483647 := ⟨(rng32 i2).1, Int.le_of_lt_add_one (rng32 i2).2⟩
    have q1746 : v1576.toInt = i2.toInt % 32 := (by rw [hv1576]; exact c_mask _ _ 5 (by decide) (by decide))
    have B1745 : (0 : Int) ≤ v1576.toInt ∧ v1576.toInt ≤ 31 := (by rw [q1746]; exact k_modB (by decide))
    have B1750 : (-2147483648 : Int) ≤ i3.toInt ∧ i3.toInt ≤ 2147483647 := ⟨(rng32 i3).1, Int.le_of_lt_add_one (rng32 i3).2⟩
    have q1749 : v1577.toInt = i3.toInt % 2147483648 := (by rw [hv1577]; exact c_mask _ _ 31 (by decide) (by decide))
    have B1748 : (0 : Int) ≤ v1577.toInt ∧ v1577.toInt ≤ 2147483647 := (by rw [q1749]; exact k_modB (by decide))
    have B1751 : (0 : Int) ≤ v1577.toInt ∧ v1577.toInt ≤ -1 := ⟨B1748.1, k_lt hq1726 (by decide)⟩
    omega
   refine k_callV X1723 hx hZ hown (a := b1578) (hw _ (List.mem_of_getElem? (i := 15) rfl)) (hw _ (List.mem_of_getElem? (i := 16) rfl)) (hw _ (List.mem_of_getElem? (i := 18) rfl)) (hw _ (List.mem_of_getElem? (i := 17) rfl)) (hw _ (List.mem_of_getElem? (i := 3) rfl)) (hw _ (List.mem_of_getElem? (i := 19) rfl)) (by decide) F1679 (rm3_631 l Z a0 hw [] b1578 v1577 b1676 v1678 k1676 v1677 (updF (updF (updF (updF (fun _ => 0) v1.toNatClampNeg ((fun _ => 0) v1.toNatClampNeg + 1)) v1113.toNatClampNeg ((updF (fun _ => 0) v1.toNatClampNeg ((fun _ => 0) v1.toNatClampNeg + 1)) v1113.toNatClampNeg + 1)) v1113.toNatClampNeg ((updF (updF (fun _ => 0) v1.toNatClampNeg ((fun _ => 0) v1.toNatClampNeg + 1)) v1113.toNatClampNeg ((updF (fun _ => 0) v1.toNatClampNeg ((fun _ => 0) v1.toNatClampNeg + 1)) v1113.toNatClampNeg + 1)) v1113.toNatClampNeg + 1)) v1113.toNatClampNeg ((updF (updF (updF (fun _ => 0) v1.toNatClampNeg ((fun _ => 0) v1.toNatClampNeg + 1)) v1113.toNatClampNeg ((updF (fun _ => 0) v1.toNatClampNeg ((fun _ => 0) v1.toNatClampNeg + 1)) v1113.toNatClampNeg + 1)) v1113.toNatClampNeg ((updF (updF (fun _ => 0) v1.toNatClampNeg ((fun _ => 0) v1.toNatClampNeg + 1)) v1113.toNatClampNeg ((updF (fun _ => 0) v1.toNatClampNeg ((fun _ => 0) v1.toNatClampNeg + 1)) v1113.toNatClampNeg + 1)) v1113.toNatClampNeg + 1)) v1113.toNatClampNeg + 1)) T1676.heap n0 Z1691 F1679 F1680 F1681 F1682 F1683 lt1690 hp1725 hI1687 HZ1688) (by decide) (by decide) e1723 (by rw [hml]; rfl) (argsL := [(.int v1577)]) (rest := []) (lenOf pd_1 rfl) rfl (W := 0) (Nat.le_refl _) rfl (hb hby at_160) (by decide) (by decide) (pc' := 163) rfl (fun T1752 L1752 r1752 X1752 q1752 => ?_)
   obtain ⟨N1752, e1752, v1753, rfl, hS1754⟩ := q1752
   have N1752' := Fr.app N1723' N1752
   show KEnds p e below s _ _ _ T1752 (mkF m 163 #[iv i0, iv i1, iv i2, iv i3, iv v1, iv (1 : Int32), iv v1113, iv (3 : Int32), iv v1576, iv v1577, rv b1578, iv (1 : Int32), .unset, .unset] [(.int v1753)])
   refine k_iload X1752 hx (hb hby at_163) rfl (pc' := 165) rfl ?_
   refine k_iload X1752 hx (hb hby at_165) rfl (pc' := 167) rfl ?_
   refine k_iload X1752 hx (hb hby at_167) rfl (pc' := 169) rfl ?_
   refine k_iload X1752 hx (hb hby at_169) rfl (pc' := 171) rfl ?_
   refine k_iload X1752 hx (hb hby at_171) rfl (pc' := 173) rfl ?_
   refine k_callS X1752 hx hZ hown (hw _ (List.mem_of_getElem? (i := 22) rfl)) (hw _ (List.mem_of_getElem? (i := 23) rfl)) (hw _ (List.mem_of_getElem? (i := 24) rfl)) (hw _ (List.mem_of_getElem? (i := 25) rfl)) (by decide) (rm4_1719 l Z a0 hw [] v1577 v1 v1113 T1676.heap n0 Z1691 ) (by decide) (by decide) e1752 (by rw [hml]; rfl) (argsL := [(.int v1577), (.int v1), (.int (1 : Int32)), (.int v1113), (.int (3 : Int32))]) (rest := [(.int v1753)]) (lenOf pd_2 rfl) rfl (W := 1) (Nat.le_refl _) rfl (hb hby at_173) (by decide) (by decide) (pc' := 176) rfl (fun T1755 L1755 r1755 X1755 q1755 => ?_)
   obtain ⟨N1755, e1755, rfl⟩ := q1755
   have N1755' := Fr.app N1752' N1755
   show KEnds p e below s _ _ _ T1755 (mkF m 176 #[iv i0, iv i1, iv i2, iv i3, iv v1, iv (1 : Int32), iv v1113, iv (3 : Int32), iv v1576, iv v1577, rv b1578, iv (1 : Int32), .unset, .unset] ((.int (f4_1719 v1577 v1 v1113)) :: (.int v1753) :: []))
   obtain ⟨v1756, hv1756⟩ : ∃ z, z = f4_1719 v1577 v1 v1113 := ⟨_, rfl⟩
   rw [← hv1756]
   refine k_icmp_ne X1755 hx (hb hby at_176) (pn := 179) rfl (py := 183) (by decide) (fun hc => absurd (by rw [hS1754, hv1756]; exact own_fin_22 v1577 v1 v1113 hp1725 hT1593 hT1621) hc) (fun _ => ?_)
   refine k_iconst X1755 hx (hb hby at_179) (pc' := 180) rfl (z := (1 : Int32)) rfl ?_
   refine k_goto X1755 hx (hb hby at_180) (pc' := 184) (by decide) ?_
   refine k_istore X1755 hx (hb hby at_184) (Ls' := #[iv i0, iv i1, iv i2, iv i3, iv v1, iv (1 : Int32), iv v1113, iv (3 : Int32), iv v1576, iv v1577, rv b1578, iv (1 : Int32), iv (1 : Int32), .unset]) rfl (pc' := 186) rfl ?_
   refine k_aload X1755 hx (hb hby at_186) rfl rfl (pc' := 188) rfl ?_
   refine k_iload X1755 hx (hb hby at_188) rfl (pc' := 190) rfl ?_
   refine k_callV X1755 hx hZ hown (a := b1578) (hw _ (List.mem_of_getElem? (i := 15) rfl)) (hw _ (List.mem_of_getElem? (i := 16) rfl)) (hw _ (List.mem_of_getElem? (i := 18) rfl)) (hw _ (List.mem_of_getElem? (i := 17) rfl)) (hw _ (List.mem_of_getElem? (i := 3) rfl)) (hw _ (List.mem_of_getElem? (i := 19) rfl)) (by decide) F1679 (rm3_631 l Z a0 hw [] b1578 v1 b1676 v1678 k1676 v1677 (updF (updF (updF (updF (fun _ => 0) v1.toNatClampNeg ((fun _ => 0) v1.toNatClampNeg + 1)) v1113.toNatClampNeg ((updF (fun _ => 0) v1.toNatClampNeg ((fun _ => 0) v1.toNatClampNeg + 1)) v1113.toNatClampNeg + 1)) v1113.toNatClampNeg ((updF (updF (fun _ => 0) v1.toNatClampNeg ((fun _ => 0) v1.toNatClampNeg + 1)) v1113.toNatClampNeg ((updF (fun _ => 0) v1.toNatClampNeg ((fun _ => 0) v1.toNatClampNeg + 1)) v1113.toNatClampNeg + 1)) v1113.toNatClampNeg + 1)) v1113.toNatClampNeg ((updF (updF (updF (fun _ => 0) v1.toNatClampNeg ((fun _ => 0) v1.toNatClampNeg + 1)) v1113.toNatClampNeg ((updF (fun _ => 0) v1.toNatClampNeg ((fun _ => 0) v1.toNatClampNeg + 1)) v1113.toNatClampNeg + 1)) v1113.toNatClampNeg ((updF (updF (fun _ => 0) v1.toNatClampNeg ((fun _ => 0) v1.toNatClampNeg + 1)) v1113.toNatClampNeg ((updF (fun _ => 0) v1.toNatClampNeg ((fun _ => 0) v1.toNatClampNeg + 1)) v1113.toNatClampNeg + 1)) v1113.toNatClampNeg + 1)) v1113.toNatClampNeg + 1)) T1676.heap n0 Z1691 F1679 F1680 F1681 F1682 F1683 lt1690 hT1593 hI1687 HZ1688) (by decide) (by decide) e1755 (by rw [hml]; rfl) (argsL := [(.int v1)]) (rest := []) (lenOf pd_1 rfl) rfl (W := 0) (Nat.le_refl _) rfl (hb hby at_190) (by decide) (by decide) (pc' := 193) rfl (fun T1757 L1757 r1757 X1757 q1757 => ?_)
   obtain ⟨N1757, e1757, v1758, rfl, hS1759⟩ := q1757
   have N1757' := Fr.app N1755' N1757
   show KEnds p e below s _ _ _ T1757 (mkF m 193 #[iv i0, iv i1, iv i2, iv i3, iv v1, iv (1 : Int32), iv v1113, iv (3 : Int32), iv v1576, iv v1577, rv b1578, iv (1 : Int32), iv (1 : Int32), .unset] [(.int v1758)])
   refine k_iload X1757 hx (hb hby at_193) rfl (pc' := 195) rfl ?_
   refine k_iload X1757 hx (hb hby at_195) rfl (pc' := 197) rfl ?_
   refine k_iload X1757 hx (hb hby at_197) rfl (pc' := 199) rfl ?_
   refine k_iload X1757 hx (hb hby at_199) rfl (pc' := 201) rfl ?_
   refine k_iload X1757 hx (hb hby at_201) rfl (pc' := 203) rfl ?_
   refine k_callS X1757 hx hZ hown (hw _ (List.mem_of_getElem? (i := 22) rfl)) (hw _ (List.mem_of_getElem? (i := 23) rfl)) (hw _ (List.mem_of_getElem? (i := 24) rfl)) (hw _ (List.mem_of_getElem? (i := 25) rfl)) (by decide) (rm4_1760 l Z a0 hw [] v1 v1113 T1676.heap n0 Z1691 ) (by decide) (by decide) e1757 (by rw [hml]; rfl) (argsL := [(.int v1), (.int v1), (.int (1 : Int32)), (.int v1113), (.int (3 : Int32))]) (rest := [(.int v1758)]) (lenOf pd_2 rfl) rfl (W := 1) (Nat.le_refl _) rfl (hb hby at_203) (by decide) (by decide) (pc' := 206) rfl (fun T1762 L1762 r1762 X1762 q1762 => ?_)
   obtain ⟨N1762, e1762, rfl⟩ := q1762
   have N1762' := Fr.app N1757' N1762
   show KEnds p e below s _ _ _ T1762 (mkF m 206 #[iv i0, iv i1, iv i2, iv i3, iv v1, iv (1 : Int32), iv v1113, iv (3 : Int32), iv v1576, iv v1577, rv b1578, iv (1 : Int32), iv (1 : Int32), .unset] ((.int (f4_1760 v1 v1113)) :: (.int v1758) :: []))
   obtain ⟨v1763, hv1763⟩ : ∃ z, z = f4_1760 v1 v1113 := ⟨_, rfl⟩
   rw [← hv1763]
   refine k_icmp_ne X1762 hx (hb hby at_206) (pn := 209) rfl (py := 213) (by decide) (fun hc => absurd (by rw [hS1759, hv1763]; exact own_fin_23 v1 v1113 hT1593 hT1593 hT1621) hc) (fun _ => ?_)
   refine k_iconst X1762 hx (hb hby at_209) (pc' := 210) rfl (z := (1 : Int32)) rfl ?_
   refine k_goto X1762 hx (hb hby at_210) (pc' := 214) (by decide) ?_
   refine k_istore X1762 hx (hb hby at_214) (Ls' := #[iv i0, iv i1, iv i2, iv i3, iv v1, iv (1 : Int32), iv v1113, iv (3 : Int32), iv v1576, iv v1577, rv b1578, iv (1 : Int32), iv (1 : Int32), iv (1 : Int32)]) rfl (pc' := 216) rfl ?_
   refine k_iload X1762 hx (hb hby at_216) rfl (pc' := 218) rfl ?_
   refine k_if_eq X1762 hx (hb hby at_218) (pn := 221) rfl (py := 235) (by decide) (fun hc => absurd hc (by decide)) (fun _ => ?_)
   refine k_iload X1762 hx (hb hby at_221) rfl (pc' := 223) rfl ?_
   refine k_if_eq X1762 hx (hb hby at_223) (pn := 226) rfl (py := 235) (by decide) (fun hc => absurd hc (by decide)) (fun _ => ?_)
   refine k_iload X1762 hx (hb hby at_226) rfl (pc' := 228) rfl ?_
   refine k_if_eq X1762 hx (hb hby at_228) (pn := 231) rfl (py := 235) (by decide) (fun hc => absurd hc (by decide)) (fun _ => ?_)
   refine k_iconst X1762 hx (hb hby at_231) (pc' := 232) rfl (z := (1 : Int32)) rfl ?_
   refine k_goto X1762 hx (hb hby at_232) (pc' := 236) (by decide) ?_
   exact k_retN X1762 hx (t := .boolean) Bd.returns (by simp) (hb hby at_236) hlk (by decide) (by decide) (z' := (1 : Int32)) rfl ⟨rfl, N1762'⟩
 ·
  show KEnds p e below s _ _ _ s₁ (mkF m 11 #[iv i0, iv i1, iv i2, iv i3, iv v1, .unset, .unset, .unset, .unset, .unset, .unset, .unset, .unset, .unset] [(.int (2 : Int32))])
  refine k_istore X0 hx (hb hby at_11) (Ls' := #[iv i0, iv i1, iv i2, iv i3, iv v1, iv (2 : Int32), .unset, .unset, .unset, .unset, .unset, .unset, .unset, .unset]) rfl (pc' := 13) rfl ?_
  refine k_iloadN X0 hx (hb hby at_13) rfl (pc' := 14) rfl ?_
  refine k_bipush X0 hx (hb hby at_14) (pc' := 16) rfl (z := (15 : Int32)) rfl ?_
  refine k_iand X0 hx (hb hby at_16) (pc' := 17) rfl (fun v1765 hv1765 => ?_)
  refine k_istore X0 hx (hb hby at_17) (Ls' := #[iv i0, iv i1, iv i2, iv i3, iv v1, iv (2 : Int32), iv v1765, .unset, .unset, .unset, .unset, .unset, .unset, .unset]) rfl (pc' := 19) rfl ?_
  refine k_iloadN X0 hx (hb hby at_19) rfl (pc' := 20) rfl ?_
  refine k_iconst X0 hx (hb hby at_20) (pc' := 21) rfl (z := (4 : Int32)) rfl ?_
  refine k_iushr X0 hx (hb hby at_21) (pc' := 22) rfl (fun v1766 hv1766 => ?_)
  refine k_iconst X0 hx (hb hby at_22) (pc' := 23) rfl (z := (3 : Int32)) rfl ?_
  refine k_iand X0 hx (hb hby at_23) (pc' := 24) rfl (fun v1767 hv1767 => ?_)
  have hs1768 : v1767 = (0 : Int32) ∨ v1767 = (1 : Int32) ∨ v1767 = (2 : Int32) ∨ v1767 = (3 : Int32) := by
   have B1773 : (-2147483648 : Int) ≤ i1.toInt ∧ i1.toInt ≤ 2147483647 := ⟨(rng32 i1).1, Int.le_of_lt_add_one (rng32 i1).2⟩
   have q1772 : v1766.toInt = (i1.toInt % 4294967296) / 16 := (by rw [hv1766]; exact c_iushr _ _ 4 (by decide) (by decide))
   have B1771 : (0 : Int) ≤ v1766.toInt ∧ v1766.toInt ≤ 268435455 := (by rw [q1772]; exact k_divmodB (by decide) (by decide) (by decide))
   have q1770 : v1767.toInt = v1766.toInt % 4 := (by rw [hv1767]; exact c_mask _ _ 2 (by decide) (by decide))
   have B1769 : (0 : Int) ≤ v1767.toInt ∧ v1767.toInt ≤ 3 := (by rw [q1770]; exact k_modB (by decide))
   rcases (by omega : v1767.toInt = 0 ∨ v1767.toInt = 1 ∨ v1767.toInt = 2 ∨ v1767.toInt = 3) with hq | hq | hq | hq
   · exact Or.inl (Int32.toInt_inj.mp hq)
   · exact Or.inr (Or.inl (Int32.toInt_inj.mp hq))
   · exact Or.inr (Or.inr (Or.inl (Int32.toInt_inj.mp hq)))
   · exact Or.inr (Or.inr (Or.inr ((Int32.toInt_inj.mp hq))))
  rcases hs1768 with rfl | rfl | rfl | rfl
  ·
   show KEnds p e below s _ _ _ s₁ (mkF m 24 #[iv i0, iv i1, iv i2, iv i3, iv v1, iv (2 : Int32), iv v1765, .unset, .unset, .unset, .unset, .unset, .unset, .unset] [(.int (0 : Int32))])
   refine k_istore X0 hx (hb hby at_24) (Ls' := #[iv i0, iv i1, iv i2, iv i3, iv v1, iv (2 : Int32), iv v1765, iv (0 : Int32), .unset, .unset, .unset, .unset, .unset, .unset]) rfl (pc' := 26) rfl ?_
   refine k_iloadN X0 hx (hb hby at_26) rfl (pc' := 27) rfl ?_
   refine k_bipush X0 hx (hb hby at_27) (pc' := 29) rfl (z := (31 : Int32)) rfl ?_
   refine k_iand X0 hx (hb hby at_29) (pc' := 30) rfl (fun v1775 hv1775 => ?_)
   refine k_istore X0 hx (hb hby at_30) (Ls' := #[iv i0, iv i1, iv i2, iv i3, iv v1, iv (2 : Int32), iv v1765, iv (0 : Int32), iv v1775, .unset, .unset, .unset, .unset, .unset]) rfl (pc' := 32) rfl ?_
   refine k_iloadN X0 hx (hb hby at_32) rfl (pc' := 33) rfl ?_
   refine k_ldc X0 hx hZ hown (hw _ (List.mem_of_getElem? (i := 0) rfl)) (hb hby at_33) (pc' := 35) rfl ?_
   refine k_iand X0 hx (hb hby at_35) (pc' := 36) rfl (fun v1776 hv1776 => ?_)
   refine k_istore X0 hx (hb hby at_36) (Ls' := #[iv i0, iv i1, iv i2, iv i3, iv v1, iv (2 : Int32), iv v1765, iv (0 : Int32), iv v1775, iv v1776, .unset, .unset, .unset, .unset]) rfl (pc' := 38) rfl ?_
   refine k_newO X0 hx hZ hown (hw _ (List.mem_of_getElem? (i := 1) rfl)) (hw _ (List.mem_of_getElem? (i := 2) rfl)) (hw _ (List.mem_of_getElem? (i := 3) rfl)) e0 (hb hby at_38) (by decide) (by decide) (pc' := 41) rfl (fun T1777 h1777 b1777 g1777 X1777 e1777 E1777 A1777 D1777 => ?_)
   have g_b1777 : n0 ≤ b1777 := Nat.le_trans Z0 (Nat.le_of_eq g1777.symm)
   have Z1777 : n0 ≤ h1777.size := Nat.le_trans Z0 E1777.1
   have F1778 : Fld Z h1777 b1777 "com/example/dendrotick/dendrotick/VectorClock" "entries" "[I" .null := D1777 (Or.inl (hw _ (List.mem_of_getElem? (i := 12) rfl))) (ty := (.array .int)) (by decide)
   have F1779 : Fld Z h1777 b1777 "com/example/dendrotick/dendrotick/VectorClock" "work" "Lcom/example/dendrotick/dendrotick/ClockWork;" .null := D1777 (Or.inr (hw _ (List.mem_of_getElem? (i := 14) rfl))) (ty := (.object "com/example/dendrotick/dendrotick/ClockWork")) (by decide)
   have F1780 : Fld Z h1777 b1777 "com/example/dendrotick/dendrotick/VectorClock" "size" "I" (.int (0 : Int32)) := D1777 (Or.inl (hw _ (List.mem_of_getElem? (i := 21) rfl))) (ty := .int) (by decide)
   refine k_dup X1777 hx (hb hby at_41) rfl (pc' := 42) rfl ?_
   refine k_anull X1777 hx (hb hby at_42) (pc' := 43) rfl ?_
   refine k_callI X1777 hx hZ hown (a := b1777) rfl (hw _ (List.mem_of_getElem? (i := 4) rfl)) (hw _ (List.mem_of_getElem? (i := 5) rfl)) (hw _ (List.mem_of_getElem? (i := 3) rfl)) (hw _ (List.mem_of_getElem? (i := 6) rfl)) rfl (by decide) (rm1_27 l Z a0 hw [] b1777 h1777 n0 Z1777 A1777 F1778 F1779 F1780 g_b1777) (by decide) (by decide) e1777 (by rw [hml]; rfl) (argsL := [.null]) (rest := [(.ref b1777)]) (lenOf pd_0 rfl) rfl (W := 1) (Nat.le_refl _) rfl (hb hby at_43) (by decide) (by decide) (pc' := 46) rfl (fun T1781 L1781 r1781 X1781 q1781 => ?_)
   obtain ⟨N1781, q1781⟩ := q1781
   have N1781' := Fr.app N0 N1781
   obtain ⟨b1782, k1783, rfl, F1784, F1785, F1786, F1787, F1788, g_b1782, lt1789, Z1790⟩ := q1781
   show KEnds p e below s _ _ _ T1781 (mkF m 46 #[iv i0, iv i1, iv i2, iv i3, iv v1, iv (2 : Int32), iv v1765, iv (0 : Int32), iv v1775, iv v1776, .unset, .unset, .unset, .unset] [(.ref b1777)])
   refine k_astore X1781 hx (hb hby at_46) rfl (Ls' := #[iv i0, iv i1, iv i2, iv i3, iv v1, iv (2 : Int32), iv v1765, iv (0 : Int32), iv v1775, iv v1776, rv b1777, .unset, .unset, .unset]) rfl (pc' := 48) rfl ?_
   refine k_iload X1781 hx (hb hby at_48) rfl (pc' := 50) rfl ?_
   refine k_iconst X1781 hx (hb hby at_50) (pc' := 51) rfl (z := (1 : Int32)) rfl ?_
   refine k_icmp_lt X1781 hx (hb hby at_51) (pn := 54) rfl (py := 61) (by decide) (fun hc => absurd hc (by decide)) (fun _ => ?_)
   refine k_aload X1781 hx (hb hby at_54) rfl rfl (pc' := 56) rfl ?_
   refine k_iload X1781 hx (hb hby at_56) rfl (pc' := 58) rfl ?_
   have hT1792 : ¬ v1 < (0 : Int32) := (by intro hq1793; have B1796 : (-2147483648 : Int) ≤ i0.toInt ∧ i0.toInt ≤ 2147483647 := ⟨(rng32 i0).1, Int.le_of_lt_add_one (rng32 i0).2⟩; have q1795 : v1.toInt = i0.toInt % 16 := (by rw [hv1]; exact c_mask _ _ 4 (by decide) (by decide)); have B1794 : (0 : Int) ≤ v1.toInt ∧ v1.toInt ≤ 15 := (by rw [q1795]; exact k_modB (by decide)); have B1797 : (0 : Int) ≤ v1.toInt ∧ v1.toInt ≤ -1 := ⟨B1794.1, k_lt hq1793 (by decide)⟩; omega)
   have hT1798 : ¬ (15 : Int32) < v1 := (by intro hq1799; have B1802 : (-2147483648 : Int) ≤ i0.toInt ∧ i0.toInt ≤ 2147483647 := ⟨(rng32 i0).1, Int.le_of_lt_add_one (rng32 i0).2⟩; have q1801 : v1.toInt = i0.toInt % 16 := (by rw [hv1]; exact c_mask _ _ 4 (by decide) (by decide)); have B1800 : (0 : Int) ≤ v1.toInt ∧ v1.toInt ≤ 15 := (by rw [q1801]; exact k_modB (by decide)); have B1803 : (16 : Int) ≤ v1.toInt ∧ v1.toInt ≤ 15 := ⟨k_gt hq1799 (by decide), B1800.2⟩; omega)
   refine k_callV X1781 hx hZ hown (a := b1777) (hw _ (List.mem_of_getElem? (i := 26) rfl)) (hw _ (List.mem_of_getElem? (i := 27) rfl)) (hw _ (List.mem_of_getElem? (i := 29) rfl)) (hw _ (List.mem_of_getElem? (i := 28) rfl)) (hw _ (List.mem_of_getElem? (i := 3) rfl)) (hw _ (List.mem_of_getElem? (i := 30) rfl)) (by decide) F1784 (rm5_169 l Z a0 hw [] b1777 b1782 k1783 (0 : Int32) (0 : Int32) v1 (fun _ => 0) T1781.heap n0 Z1790 F1784 F1785 F1786 F1787 F1788 g_b1777 g_b1782 lt1789 (by decide) (by decide) (by decide) (by decide) (fun _ _ => rfl) hT1792 hT1798) (by decide) (by decide) rfl (by rw [hml]; rfl) (argsL := [(.int v1)]) (rest := []) (lenOf pd_5 rfl) rfl (W := 0) (Nat.le_refl _) rfl (hb hby at_58) (by decide) (by decide) (pc' := 61) rfl (fun T1791 L1791 r1791 X1791 q1791 => ?_)
   obtain ⟨N1791, b1791, k1791, v1804, v1805, rfl, F1806, F1807, F1808, F1809, F1810, g_b1791, lt1817, Z1818, hI1811, hI1812, hI1813, hI1814, HZ1815⟩ := q1791
   have N1791' := Fr.app N1781' N1791
   show KEnds p e below s _ _ _ T1791 (mkF m 61 #[iv i0, iv i1, iv i2, iv i3, iv v1, iv (2 : Int32), iv v1765, iv (0 : Int32), iv v1775, iv v1776, rv b1777, .unset, .unset, .unset] [])
   refine k_iload X1791 hx (hb hby at_61) rfl (pc' := 63) rfl ?_
   refine k_iconst X1791 hx (hb hby at_63) (pc' := 64) rfl (z := (2 : Int32)) rfl ?_
   refine k_icmp_lt X1791 hx (hb hby at_64) (pn := 67) rfl (py := 74) (by decide) (fun hc => absurd hc (by decide)) (fun _ => ?_)
   refine k_aload X1791 hx (hb hby at_67) rfl rfl (pc' := 69) rfl ?_
   refine k_iload X1791 hx (hb hby at_69) rfl (pc' := 71) rfl ?_
   refine k_callV X1791 hx hZ hown (a := b1777) (hw _ (List.mem_of_getElem? (i := 26) rfl)) (hw _ (List.mem_of_getElem? (i := 27) rfl)) (hw _ (List.mem_of_getElem? (i := 29) rfl)) (hw _ (List.mem_of_getElem? (i := 28) rfl)) (hw _ (List.mem_of_getElem? (i := 3) rfl)) (hw _ (List.mem_of_getElem? (i := 30) rfl)) (by decide) F1806 (rm5_169 l Z a0 hw [] b1777 b1791 k1791 v1804 v1805 v1 (updF (fun _ => 0) v1.toNatClampNeg ((fun _ => 0) v1.toNatClampNeg + 1)) T1791.heap n0 Z1818 F1806 F1807 F1808 F1809 F1810 g_b1777 g_b1791 lt1817 hI1811 hI1812 hI1813 hI1814 HZ1815 hT1792 hT1798) (by decide) (by decide) rfl (by rw [hml]; rfl) (argsL := [(.int v1)]) (rest := []) (lenOf pd_5 rfl) rfl (W := 0) (Nat.le_refl _) rfl (hb hby at_71) (by decide) (by decide) (pc' := 74) rfl (fun T1819 L1819 r1819 X1819 q1819 => ?_)
   obtain ⟨N1819, b1819, k1819, v1820, v1821, rfl, F1822, F1823, F1824, F1825, F1826, g_b1819, lt1833, Z1834, hI1827, hI1828, hI1829, hI1830, HZ1831⟩ := q1819
   have N1819' := Fr.app N1791' N1819
   show KEnds p e below s _ _ _ T1819 (mkF m 74 #[iv i0, iv i1, iv i2, iv i3, iv v1, iv (2 : Int32), iv v1765, iv (0 : Int32), iv v1775, iv v1776, rv b1777, .unset, .unset, .unset] [])
   refine k_iload X1819 hx (hb hby at_74) rfl (pc' := 76) rfl ?_
   refine k_iconst X1819 hx (hb hby at_76) (pc' := 77) rfl (z := (3 : Int32)) rfl ?_
   refine k_icmp_lt X1819 hx (hb hby at_77) (pn := 80) rfl (py := 87) (by decide) (fun _ => ?_) (fun hc => absurd (by decide) hc)
   refine k_iload X1819 hx (hb hby at_87) rfl (pc' := 89) rfl ?_
   refine k_iconst X1819 hx (hb hby at_89) (pc' := 90) rfl (z := (1 : Int32)) rfl ?_
   refine k_icmp_lt X1819 hx (hb hby at_90) (pn := 93) rfl (py := 100) (by decide) (fun _ => ?_) (fun hc => absurd (by decide) hc)
   refine k_iload X1819 hx (hb hby at_100) rfl (pc' := 102) rfl ?_
   refine k_iconst X1819 hx (hb hby at_102) (pc' := 103) rfl (z := (2 : Int32)) rfl ?_
   refine k_icmp_lt X1819 hx (hb hby at_103) (pn := 106) rfl (py := 113) (by decide) (fun _ => ?_) (fun hc => absurd (by decide) hc)
   refine k_iload X1819 hx (hb hby at_113) rfl (pc' := 115) rfl ?_
   refine k_iconst X1819 hx (hb hby at_115) (pc' := 116) rfl (z := (3 : Int32)) rfl ?_
   refine k_icmp_lt X1819 hx (hb hby at_116) (pn := 119) rfl (py := 126) (by decide) (fun _ => ?_) (fun hc => absurd (by decide) hc)
   refine k_aload X1819 hx (hb hby at_126) rfl rfl (pc' := 128) rfl ?_
   refine k_iload X1819 hx (hb hby at_128) rfl (pc' := 130) rfl ?_
   have hp1835 : ¬ v1775 < (0 : Int32) := by
    intro hq1836
    have B1839 : (-2147483648 : Int) ≤ i0.toInt ∧ i0.toInt ≤ 2147483647 := ⟨(rng32 i0).1, Int.le_of_lt_add_one (rng32 i0).2⟩
    have q1838 : v1.toInt = i0.toInt % 16 := (by rw [hv1]; exact c_mask _ _ 4 (by decide) (by decide))
    have B1837 : (0 : Int) ≤ v1.toInt ∧ v1.toInt ≤ 15 := (by rw [q1838]; exact k_modB (by decide))
    have B1840 : (0 : Int) ≤ v1804.toInt ∧ v1804.toInt ≤ 30 := ⟨k_ge hI1811 (by decide), k_le hI1812 (by decide)⟩
    have B1841 : (0 : Int) ≤ v1805.toInt ∧ v1805.toInt ≤ 2147483647 := ⟨k_ge hI1813 (by decide), Int.le_of_lt_add_one (rng32 v1805).2⟩
    have q1842 := hI1814; rw [Int32.lt_iff_toInt_lt] at q1842
    have B1843 : (0 : Int) ≤ v1820.toInt ∧ v1820.toInt ≤ 30 := ⟨k_ge hI1827 (by decide), k_le hI1828 (by decide)⟩
    have B1844 : (0 : Int) ≤ v1821.toInt ∧ v1821.toInt ≤ 2147483647 := ⟨k_ge hI1829 (by decide), Int.le_of_lt_add_one (rng32 v1821).2⟩
    have q1845 := hI1830; rw [Int32.lt_iff_toInt_lt] at q1845
    have B1848 : (-2147483648 : Int) ≤ i2.toInt ∧ i2.toInt ≤ 2147483647 := ⟨(rng32 i2).1, Int.le_of_lt_add_one (rng32 i2).2⟩
    have q1847 : v1775.toInt = i2.toInt % 32 := (by rw [hv1775]; exact c_mask _ _ 5 (by decide) (by decide))
    have B1846 : (0 : Int) ≤ v1775.toInt ∧ v1775.toInt ≤ 31 := (by rw [q1847]; exact k_modB (by decide))
    have B1849 : (0 : Int) ≤ v1775.toInt ∧ v1775.toInt ≤ -1 := ⟨B1846.1, k_lt hq1836 (by decide)⟩
    omega
   refine k_callV X1819 hx hZ hown (a := b1777) (hw _ (List.mem_of_getElem? (i := 15) rfl)) (hw _ (List.mem_of_getElem? (i := 16) rfl)) (hw _ (List.mem_of_getElem? (i := 18) rfl)) (hw _ (List.mem_of_getElem? (i := 17) rfl)) (hw _ (List.mem_of_getElem? (i := 3) rfl)) (hw _ (List.mem_of_getElem? (i := 19) rfl)) (by decide) F1822 (rm3_631 l Z a0 hw [] b1777 v1775 b1819 v1821 k1819 v1820 (updF (updF (fun _ => 0) v1.toNatClampNeg ((fun _ => 0) v1.toNatClampNeg + 1)) v1.toNatClampNeg ((updF (fun _ => 0) v1.toNatClampNeg ((fun _ => 0) v1.toNatClampNeg + 1)) v1.toNatClampNeg + 1)) T1819.heap n0 Z1834 F1822 F1823 F1824 F1825 F1826 lt1833 hp1835 hI1830 HZ1831) (by decide) (by decide) rfl (by rw [hml]; rfl) (argsL := [(.int v1775)]) (rest := []) (lenOf pd_1 rfl) rfl (W := 0) (Nat.le_refl _) rfl (hb hby at_130) (by decide) (by decide) (pc' := 133) rfl (fun T1850 L1850 r1850 X1850 q1850 => ?_)
   obtain ⟨N1850, e1850, v1851, rfl, hS1852⟩ := q1850
   have N1850' := Fr.app N1819' N1850
   show KEnds p e below s _ _ _ T1850 (mkF m 133 #[iv i0, iv i1, iv i2, iv i3, iv v1, iv (2 : Int32), iv v1765, iv (0 : Int32), iv v1775, iv v1776, rv b1777, .unset, .unset, .unset] [(.int v1851)])
   refine k_iload X1850 hx (hb hby at_133) rfl (pc' := 135) rfl ?_
   refine k_iload X1850 hx (hb hby at_135) rfl (pc' := 137) rfl ?_
   refine k_iload X1850 hx (hb hby at_137) rfl (pc' := 139) rfl ?_
   refine k_iload X1850 hx (hb hby at_139) rfl (pc' := 141) rfl ?_
   refine k_iload X1850 hx (hb hby at_141) rfl (pc' := 143) rfl ?_
   refine k_callS X1850 hx hZ hown (hw _ (List.mem_of_getElem? (i := 22) rfl)) (hw _ (List.mem_of_getElem? (i := 23) rfl)) (hw _ (List.mem_of_getElem? (i := 24) rfl)) (hw _ (List.mem_of_getElem? (i := 25) rfl)) (by decide) (rm4_1853 l Z a0 hw [] v1775 v1 v1765 T1819.heap n0 Z1834 ) (by decide) (by decide) e1850 (by rw [hml]; rfl) (argsL := [(.int v1775), (.int v1), (.int (2 : Int32)), (.int v1765), (.int (0 : Int32))]) (rest := [(.int v1851)]) (lenOf pd_2 rfl) rfl (W := 1) (Nat.le_refl _) rfl (hb hby at_143) (by decide) (by decide) (pc' := 146) rfl (fun T1857 L1857 r1857 X1857 q1857 => ?_)
   obtain ⟨N1857, e1857, rfl⟩ := q1857
   have N1857' := Fr.app N1850' N1857
   show KEnds p e below s _ _ _ T1857 (mkF m 146 #[iv i0, iv i1, iv i2, iv i3, iv v1, iv (2 : Int32), iv v1765, iv (0 : Int32), iv v1775, iv v1776, rv b1777, .unset, .unset, .unset] ((.int (f4_1853 v1775 v1 v1765)) :: (.int v1851) :: []))
   obtain ⟨v1858, hv1858⟩ : ∃ z, z = f4_1853 v1775 v1 v1765 := ⟨_, rfl⟩
   rw [← hv1858]
   refine k_icmp_ne X1857 hx (hb hby at_146) (pn := 149) rfl (py := 153) (by decide) (fun hc => absurd (by rw [hS1852, hv1858]; exact own_fin_24 v1775 v1 v1765 hp1835 hT1792 (by intro hq1859; have B1862 : (-2147483648 : Int) ≤ i0.toInt ∧ i0.toInt ≤ 2147483647 := ⟨(rng32 i0).1, Int.le_of_lt_add_one (rng32 i0).2⟩; have q1861 : v1.toInt = i0.toInt % 16 := (by rw [hv1]; exact c_mask _ _ 4 (by decide) (by decide)); have B1860 : (0 : Int) ≤ v1.toInt ∧ v1.toInt ≤ 15 := (by rw [q1861]; exact k_modB (by decide)); have B1863 : (0 : Int) ≤ v1804.toInt ∧ v1804.toInt ≤ 30 := ⟨k_ge hI1811 (by decide), k_le hI1812 (by decide)⟩; have B1864 : (0 : Int) ≤ v1805.toInt ∧ v1805.toInt ≤ 2147483647 := ⟨k_ge hI1813 (by decide), Int.le_of_lt_add_one (rng32 v1805).2⟩; have q1865 := hI1814; rw [Int32.lt_iff_toInt_lt] at q1865; have B1866 : (0 : Int) ≤ v1820.toInt ∧ v1820.toInt ≤ 30 := ⟨k_ge hI1827 (by decide), k_le hI1828 (by decide)⟩; have B1867 : (0 : Int) ≤ v1821.toInt ∧ v1821.toInt ≤ 2147483647 := ⟨k_ge hI1829 (by decide), Int.le_of_lt_add_one (rng32 v1821).2⟩; have q1868 := hI1830; rw [Int32.lt_iff_toInt_lt] at q1868; have B1871 : (-2147483648 : Int) ≤ i2.toInt ∧ i2.toInt ≤ 2147483647 := ⟨(rng32 i2).1, Int.le_of_lt_add_one (rng32 i2).2⟩; have q1870 : v1775.toInt = i2.toInt % 32 := (by rw [hv1775]; exact c_mask _ _ 5 (by decide) (by decide)); have B1869 : (0 : Int) ≤ v1775.toInt ∧ v1775.toInt ≤ 31 := (by rw [q1870]; exact k_modB (by decide)); have B1874 : (-2147483648 : Int) ≤ i1.toInt ∧ i1.toInt ≤ 2147483647 := ⟨(rng32 i1).1, Int.le_of_lt_add_one (rng32 i1).2⟩; have q1873 : v1765.toInt = i1.toInt % 16 := (by rw [hv1765]; exact c_mask _ _ 4 (by decide) (by decide)); have B1872 : (0 : Int) ≤ v1765.toInt ∧ v1765.toInt ≤ 15 := (by rw [q1873]; exact k_modB (by decide)); have B1875 : (0 : Int) ≤ v1765.toInt ∧ v1765.toInt ≤ -1 := ⟨B1872.1, k_lt hq1859 (by decide)⟩; omega)) hc) (fun _ => ?_)
   refine k_iconst X1857 hx (hb hby at_149) (pc' := 150) rfl (z := (1 : Int32)) rfl ?_
   refine k_goto X1857 hx (hb hby at_150) (pc' := 154) (by decide) ?_
   refine k_istore X1857 hx (hb hby at_154) (Ls' := #[iv i0, iv i1, iv i2, iv i3, iv v1, iv (2 : Int32), iv v1765, iv (0 : Int32), iv v1775, iv v1776, rv b1777, iv (1 : Int32), .unset, .unset]) rfl (pc' := 156) rfl ?_
   refine k_aload X1857 hx (hb hby at_156) rfl rfl (pc' := 158) rfl ?_
   refine k_iload X1857 hx (hb hby at_158) rfl (pc' := 160) rfl ?_
   have hp1876 : ¬ v1776 < (0 : Int32) := by
    intro hq1877
    have B1880 : (-2147483648 : Int) ≤ i0.toInt ∧ i0.toInt ≤ 2147483647 := ⟨(rng32 i0).1, Int.le_of_lt_add_one (rng32 i0).2⟩
    have q1879 : v1.toInt = i0.toInt % 16 := (by rw [hv1]; exact c_mask _ _ 4 (by decide) (by decide))
    have B1878 : (0 : Int) ≤ v1.toInt ∧ v1.toInt ≤ 15 := (by rw [q1879]; exact k_modB (by decide))
    have B1881 : (0 : Int) ≤ v1804.toInt ∧ v1804.toInt ≤ 30 := ⟨k_ge hI1811 (by decide), k_le hI1812 (by decide)⟩
    have B1882 : (0 : Int) ≤ v1805.toInt ∧ v1805.toInt ≤ 2147483647 := ⟨k_ge hI1813 (by decide), Int.le_of_lt_add_one (rng32 v1805).2⟩
    have q1883 := hI1814; rw [Int32.lt_iff_toInt_lt] at q1883
    have B1884 : (0 : Int) ≤ v1820.toInt ∧ v1820.toInt ≤ 30 := ⟨k_ge hI1827 (by decide), k_le hI1828 (by decide)⟩
    have B1885 : (0 : Int) ≤ v1821.toInt ∧ v1821.toInt ≤ 2147483647 := ⟨k_ge hI1829 (by decide), Int.le_of_lt_add_one (rng32 v1821).2⟩
    have q1886 := hI1830; rw [Int32.lt_iff_toInt_lt] at q1886
    have B1889 : (-2147483648 : Int) ≤ i2.toInt ∧ i2.toInt ≤ 2147483647 := ⟨(rng32 i2).1, Int.le_of_lt_add_one (rng32 i2).2⟩
    have q1888 : v1775.toInt = i2.toInt % 32 := (by rw [hv1775]; exact c_mask _ _ 5 (by decide) (by decide))
    have B1887 : (0 : Int) ≤ v1775.toInt ∧ v1775.toInt ≤ 31 := (by rw [q1888]; exact k_modB (by decide))
    have B1892 : (-2147483648 : Int) ≤ i3.toInt ∧ i3.toInt ≤ 2147483647 := ⟨(rng32 i3).1, Int.le_of_lt_add_one (rng32 i3).2⟩
    have q1891 : v1776.toInt = i3.toInt % 2147483648 := (by rw [hv1776]; exact c_mask _ _ 31 (by decide) (by decide))
    have B1890 : (0 : Int) ≤ v1776.toInt ∧ v1776.toInt ≤ 2147483647 := (by rw [q1891]; exact k_modB (by decide))
    have B1893 : (0 : Int) ≤ v1776.toInt ∧ v1776.toInt ≤ -1 := ⟨B1890.1, k_lt hq1877 (by decide)⟩
    omega
   refine k_callV X1857 hx hZ hown (a := b1777) (hw _ (List.mem_of_getElem? (i := 15) rfl)) (hw _ (List.mem_of_getElem? (i := 16) rfl)) (hw _ (List.mem_of_getElem? (i := 18) rfl)) (hw _ (List.mem_of_getElem? (i := 17) rfl)) (hw _ (List.mem_of_getElem? (i := 3) rfl)) (hw _ (List.mem_of_getElem? (i := 19) rfl)) (by decide) F1822 (rm3_631 l Z a0 hw [] b1777 v1776 b1819 v1821 k1819 v1820 (updF (updF (fun _ => 0) v1.toNatClampNeg ((fun _ => 0) v1.toNatClampNeg + 1)) v1.toNatClampNeg ((updF (fun _ => 0) v1.toNatClampNeg ((fun _ => 0) v1.toNatClampNeg + 1)) v1.toNatClampNeg + 1)) T1819.heap n0 Z1834 F1822 F1823 F1824 F1825 F1826 lt1833 hp1876 hI1830 HZ1831) (by decide) (by decide) e1857 (by rw [hml]; rfl) (argsL := [(.int v1776)]) (rest := []) (lenOf pd_1 rfl) rfl (W := 0) (Nat.le_refl _) rfl (hb hby at_160) (by decide) (by decide) (pc' := 163) rfl (fun T1894 L1894 r1894 X1894 q1894 => ?_)
   obtain ⟨N1894, e1894, v1895, rfl, hS1896⟩ := q1894
   have N1894' := Fr.app N1857' N1894
   show KEnds p e below s _ _ _ T1894 (mkF m 163 #[iv i0, iv i1, iv i2, iv i3, iv v1, iv (2 : Int32), iv v1765, iv (0 : Int32), iv v1775, iv v1776, rv b1777, iv (1 : Int32), .unset, .unset] [(.int v1895)])
   refine k_iload X1894 hx (hb hby at_163) rfl (pc' := 165) rfl ?_
   refine k_iload X1894 hx (hb hby at_165) rfl (pc' := 167) rfl ?_
   refine k_iload X1894 hx (hb hby at_167) rfl (pc' := 169) rfl ?_
   refine k_iload X1894 hx (hb hby at_169) rfl (pc' := 171) rfl ?_
   refine k_iload X1894 hx (hb hby at_171) rfl (pc' := 173) rfl ?_
   refine k_callS X1894 hx hZ hown (hw _ (List.mem_of_getElem? (i := 22) rfl)) (hw _ (List.mem_of_getElem? (i := 23) rfl)) (hw _ (List.mem_of_getElem? (i := 24) rfl)) (hw _ (List.mem_of_getElem? (i := 25) rfl)) (by decide) (rm4_1853 l Z a0 hw [] v1776 v1 v1765 T1819.heap n0 Z1834 ) (by decide) (by decide) e1894 (by rw [hml]; rfl) (argsL := [(.int v1776), (.int v1), (.int (2 : Int32)), (.int v1765), (.int (0 : Int32))]) (rest := [(.int v1895)]) (lenOf pd_2 rfl) rfl (W := 1) (Nat.le_refl _) rfl (hb hby at_173) (by decide) (by decide) (pc' := 176) rfl (fun T1897 L1897 r1897 X1897 q1897 => ?_)
   obtain ⟨N1897, e1897, rfl⟩ := q1897
   have N1897' := Fr.app N1894' N1897
   show KEnds p e below s _ _ _ T1897 (mkF m 176 #[iv i0, iv i1, iv i2, iv i3, iv v1, iv (2 : Int32), iv v1765, iv (0 : Int32), iv v1775, iv v1776, rv b1777, iv (1 : Int32), .unset, .unset] ((.int (f4_1853 v1776 v1 v1765)) :: (.int v1895) :: []))
   obtain ⟨v1898, hv1898⟩ : ∃ z, z = f4_1853 v1776 v1 v1765 := ⟨_, rfl⟩
   rw [← hv1898]
   refine k_icmp_ne X1897 hx (hb hby at_176) (pn := 179) rfl (py := 183) (by decide) (fun hc => absurd (by rw [hS1896, hv1898]; exact own_fin_25 v1776 v1 v1765 hp1876 hT1792 (by intro hq1899; have B1902 : (-2147483648 : Int) ≤ i0.toInt ∧ i0.toInt ≤ 2147483647 := ⟨(rng32 i0).1, Int.le_of_lt_add_one (rng32 i0).2⟩; have q1901 : v1.toInt = i0.toInt % 16 := (by rw [hv1]; exact c_mask _ _ 4 (by decide) (by decide)); have B1900 : (0 : Int) ≤ v1.toInt ∧ v1.toInt ≤ 15 := (by rw [q1901]; exact k_modB (by decide)); have B1903 : (0 : Int) ≤ v1804.toInt ∧ v1804.toInt ≤ 30 := ⟨k_ge hI1811 (by decide), k_le hI1812 (by decide)⟩; have B1904 : (0 : Int) ≤ v1805.toInt ∧ v1805.toInt ≤ 2147483647 := ⟨k_ge hI1813 (by decide), Int.le_of_lt_add_one (rng32 v1805).2⟩; have q1905 := hI1814; rw [Int32.lt_iff_toInt_lt] at q1905; have B1906 : (0 : Int) ≤ v1820.toInt ∧ v1820.toInt ≤ 30 := ⟨k_ge hI1827 (by decide), k_le hI1828 (by decide)⟩; have B1907 : (0 : Int) ≤ v1821.toInt ∧ v1821.toInt ≤ 2147483647 := ⟨k_ge hI1829 (by decide), Int.le_of_lt_add_one (rng32 v1821).2⟩; have q1908 := hI1830; rw [Int32.lt_iff_toInt_lt] at q1908; have B1911 : (-2147483648 : Int) ≤ i2.toInt ∧ i2.toInt ≤ 2147483647 := ⟨(rng32 i2).1, Int.le_of_lt_add_one (rng32 i2).2⟩; have q1910 : v1775.toInt = i2.toInt % 32 := (by rw [hv1775]; exact c_mask _ _ 5 (by decide) (by decide)); have B1909 : (0 : Int) ≤ v1775.toInt ∧ v1775.toInt ≤ 31 := (by rw [q1910]; exact k_modB (by decide)); have B1914 : (-2147483648 : Int) ≤ i3.toInt ∧ i3.toInt ≤ 2147483647 := ⟨(rng32 i3).1, Int.le_of_lt_add_one (rng32 i3).2⟩; have q1913 : v1776.toInt = i3.toInt % 2147483648 := (by rw [hv1776]; exact c_mask _ _ 31 (by decide) (by decide)); have B1912 : (0 : Int) ≤ v1776.toInt ∧ v1776.toInt ≤ 2147483647 := (by rw [q1913]; exact k_modB (by decide)); have B1917 : (-2147483648 : Int) ≤ i1.toInt ∧ i1.toInt ≤ 2147483647 := ⟨(rng32 i1).1, Int.le_of_lt_add_one (rng32 i1).2⟩; have q1916 : v1765.toInt = i1.toInt % 16 := (by rw [hv1765]; exact c_mask _ _ 4 (by decide) (by decide)); have B1915 : (0 : Int) ≤ v1765.toInt ∧ v1765.toInt ≤ 15 := (by rw [q1916]; exact k_modB (by decide)); have B1918 : (0 : Int) ≤ v1765.toInt ∧ v1765.toInt ≤ -1 := ⟨B1915.1, k_lt hq1899 (by decide)⟩; omega)) hc) (fun _ => ?_)
   refine k_iconst X1897 hx (hb hby at_179) (pc' := 180) rfl (z := (1 : Int32)) rfl ?_
   refine k_goto X1897 hx (hb hby at_180) (pc' := 184) (by decide) ?_
   refine k_istore X1897 hx (hb hby at_184) (Ls' := #[iv i0, iv i1, iv i2, iv i3, iv v1, iv (2 : Int32), iv v1765, iv (0 : Int32), iv v1775, iv v1776, rv b1777, iv (1 : Int32), iv (1 : Int32), .unset]) rfl (pc' := 186) rfl ?_
   refine k_aload X1897 hx (hb hby at_186) rfl rfl (pc' := 188) rfl ?_
   refine k_iload X1897 hx (hb hby at_188) rfl (pc' := 190) rfl ?_
   refine k_callV X1897 hx hZ hown (a := b1777) (hw _ (List.mem_of_getElem? (i := 15) rfl)) (hw _ (List.mem_of_getElem? (i := 16) rfl)) (hw _ (List.mem_of_getElem? (i := 18) rfl)) (hw _ (List.mem_of_getElem? (i := 17) rfl)) (hw _ (List.mem_of_getElem? (i := 3) rfl)) (hw _ (List.mem_of_getElem? (i := 19) rfl)) (by decide) F1822 (rm3_631 l Z a0 hw [] b1777 v1 b1819 v1821 k1819 v1820 (updF (updF (fun _ => 0) v1.toNatClampNeg ((fun _ => 0) v1.toNatClampNeg + 1)) v1.toNatClampNeg ((updF (fun _ => 0) v1.toNatClampNeg ((fun _ => 0) v1.toNatClampNeg + 1)) v1.toNatClampNeg + 1)) T1819.heap n0 Z1834 F1822 F1823 F1824 F1825 F1826 lt1833 hT1792 hI1830 HZ1831) (by decide) (by decide) e1897 (by rw [hml]; rfl) (argsL := [(.int v1)]) (rest := []) (lenOf pd_1 rfl) rfl (W := 0) (Nat.le_refl _) rfl (hb hby at_190) (by decide) (by decide) (pc' := 193) rfl (fun T1919 L1919 r1919 X1919 q1919 => ?_)
   obtain ⟨N1919, e1919, v1920, rfl, hS1921⟩ := q1919
   have N1919' := Fr.app N1897' N1919
   show KEnds p e below s _ _ _ T1919 (mkF m 193 #[iv i0, iv i1, iv i2, iv i3, iv v1, iv (2 : Int32), iv v1765, iv (0 : Int32), iv v1775, iv v1776, rv b1777, iv (1 : Int32), iv (1 : Int32), .unset] [(.int v1920)])
   refine k_iload X1919 hx (hb hby at_193) rfl (pc' := 195) rfl ?_
   refine k_iload X1919 hx (hb hby at_195) rfl (pc' := 197) rfl ?_
   refine k_iload X1919 hx (hb hby at_197) rfl (pc' := 199) rfl ?_
   refine k_iload X1919 hx (hb hby at_199) rfl (pc' := 201) rfl ?_
   refine k_iload X1919 hx (hb hby at_201) rfl (pc' := 203) rfl ?_
   refine k_callS X1919 hx hZ hown (hw _ (List.mem_of_getElem? (i := 22) rfl)) (hw _ (List.mem_of_getElem? (i := 23) rfl)) (hw _ (List.mem_of_getElem? (i := 24) rfl)) (hw _ (List.mem_of_getElem? (i := 25) rfl)) (by decide) (rm4_1922 l Z a0 hw [] v1 v1765 T1819.heap n0 Z1834 ) (by decide) (by decide) e1919 (by rw [hml]; rfl) (argsL := [(.int v1), (.int v1), (.int (2 : Int32)), (.int v1765), (.int (0 : Int32))]) (rest := [(.int v1920)]) (lenOf pd_2 rfl) rfl (W := 1) (Nat.le_refl _) rfl (hb hby at_203) (by decide) (by decide) (pc' := 206) rfl (fun T1924 L1924 r1924 X1924 q1924 => ?_)
   obtain ⟨N1924, e1924, rfl⟩ := q1924
   have N1924' := Fr.app N1919' N1924
   show KEnds p e below s _ _ _ T1924 (mkF m 206 #[iv i0, iv i1, iv i2, iv i3, iv v1, iv (2 : Int32), iv v1765, iv (0 : Int32), iv v1775, iv v1776, rv b1777, iv (1 : Int32), iv (1 : Int32), .unset] ((.int (f4_1922 v1 v1765)) :: (.int v1920) :: []))
   obtain ⟨v1925, hv1925⟩ : ∃ z, z = f4_1922 v1 v1765 := ⟨_, rfl⟩
   rw [← hv1925]
   refine k_icmp_ne X1924 hx (hb hby at_206) (pn := 209) rfl (py := 213) (by decide) (fun hc => absurd (by rw [hS1921, hv1925]; exact own_fin_26 v1 v1765 hT1792 hT1792 (by intro hq1926; have B1929 : (-2147483648 : Int) ≤ i0.toInt ∧ i0.toInt ≤ 2147483647 := ⟨(rng32 i0).1, Int.le_of_lt_add_one (rng32 i0).2⟩; have q1928 : v1.toInt = i0.toInt % 16 := (by rw [hv1]; exact c_mask _ _ 4 (by decide) (by decide)); have B1927 : (0 : Int) ≤ v1.toInt ∧ v1.toInt ≤ 15 := (by rw [q1928]; exact k_modB (by decide)); have B1930 : (0 : Int) ≤ v1804.toInt ∧ v1804.toInt ≤ 30 := ⟨k_ge hI1811 (by decide), k_le hI1812 (by decide)⟩; have B1931 : (0 : Int) ≤ v1805.toInt ∧ v1805.toInt ≤ 2147483647 := ⟨k_ge hI1813 (by decide), Int.le_of_lt_add_one (rng32 v1805).2⟩; have q1932 := hI1814; rw [Int32.lt_iff_toInt_lt] at q1932; have B1933 : (0 : Int) ≤ v1820.toInt ∧ v1820.toInt ≤ 30 := ⟨k_ge hI1827 (by decide), k_le hI1828 (by decide)⟩; have B1934 : (0 : Int) ≤ v1821.toInt ∧ v1821.toInt ≤ 2147483647 := ⟨k_ge hI1829 (by decide), Int.le_of_lt_add_one (rng32 v1821).2⟩; have q1935 := hI1830; rw [Int32.lt_iff_toInt_lt] at q1935; have B1938 : (-2147483648 : Int) ≤ i2.toInt ∧ i2.toInt ≤ 2147483647 := ⟨(rng32 i2).1, Int.le_of_lt_add_one (rng32 i2).2⟩; have q1937 : v1775.toInt = i2.toInt % 32 := (by rw [hv1775]; exact c_mask _ _ 5 (by decide) (by decide)); have B1936 : (0 : Int) ≤ v1775.toInt ∧ v1775.toInt ≤ 31 := (by rw [q1937]; exact k_modB (by decide)); have B1941 : (-2147483648 : Int) ≤ i3.toInt ∧ i3.toInt ≤ 2147483647 := ⟨(rng32 i3).1, Int.le_of_lt_add_one (rng32 i3).2⟩; have q1940 : v1776.toInt = i3.toInt % 2147483648 := (by rw [hv1776]; exact c_mask _ _ 31 (by decide) (by decide)); have B1939 : (0 : Int) ≤ v1776.toInt ∧ v1776.toInt ≤ 2147483647 := (by rw [q1940]; exact k_modB (by decide)); have B1944 : (-2147483648 : Int) ≤ i1.toInt ∧ i1.toInt ≤ 2147483647 := ⟨(rng32 i1).1, Int.le_of_lt_add_one (rng32 i1).2⟩; have q1943 : v1765.toInt = i1.toInt % 16 := (by rw [hv1765]; exact c_mask _ _ 4 (by decide) (by decide)); have B1942 : (0 : Int) ≤ v1765.toInt ∧ v1765.toInt ≤ 15 := (by rw [q1943]; exact k_modB (by decide)); have B1945 : (0 : Int) ≤ v1765.toInt ∧ v1765.toInt ≤ -1 := ⟨B1942.1, k_lt hq1926 (by decide)⟩; omega)) hc) (fun _ => ?_)
   refine k_iconst X1924 hx (hb hby at_209) (pc' := 210) rfl (z := (1 : Int32)) rfl ?_
   refine k_goto X1924 hx (hb hby at_210) (pc' := 214) (by decide) ?_
   refine k_istore X1924 hx (hb hby at_214) (Ls' := #[iv i0, iv i1, iv i2, iv i3, iv v1, iv (2 : Int32), iv v1765, iv (0 : Int32), iv v1775, iv v1776, rv b1777, iv (1 : Int32), iv (1 : Int32), iv (1 : Int32)]) rfl (pc' := 216) rfl ?_
   refine k_iload X1924 hx (hb hby at_216) rfl (pc' := 218) rfl ?_
   refine k_if_eq X1924 hx (hb hby at_218) (pn := 221) rfl (py := 235) (by decide) (fun hc => absurd hc (by decide)) (fun _ => ?_)
   refine k_iload X1924 hx (hb hby at_221) rfl (pc' := 223) rfl ?_
   refine k_if_eq X1924 hx (hb hby at_223) (pn := 226) rfl (py := 235) (by decide) (fun hc => absurd hc (by decide)) (fun _ => ?_)
   refine k_iload X1924 hx (hb hby at_226) rfl (pc' := 228) rfl ?_
   refine k_if_eq X1924 hx (hb hby at_228) (pn := 231) rfl (py := 235) (by decide) (fun hc => absurd hc (by decide)) (fun _ => ?_)
   refine k_iconst X1924 hx (hb hby at_231) (pc' := 232) rfl (z := (1 : Int32)) rfl ?_
   refine k_goto X1924 hx (hb hby at_232) (pc' := 236) (by decide) ?_
   exact k_retN X1924 hx (t := .boolean) Bd.returns (by simp) (hb hby at_236) hlk (by decide) (by decide) (z' := (1 : Int32)) rfl ⟨rfl, N1924'⟩
  ·
   show KEnds p e below s _ _ _ s₁ (mkF m 24 #[iv i0, iv i1, iv i2, iv i3, iv v1, iv (2 : Int32), iv v1765, .unset, .unset, .unset, .unset, .unset, .unset, .unset] [(.int (1 : Int32))])
   refine k_istore X0 hx (hb hby at_24) (Ls' := #[iv i0, iv i1, iv i2, iv i3, iv v1, iv (2 : Int32), iv v1765, iv (1 : Int32), .unset, .unset, .unset, .unset, .unset, .unset]) rfl (pc' := 26) rfl ?_
   refine k_iloadN X0 hx (hb hby at_26) rfl (pc' := 27) rfl ?_
   refine k_bipush X0 hx (hb hby at_27) (pc' := 29) rfl (z := (31 : Int32)) rfl ?_
   refine k_iand X0 hx (hb hby at_29) (pc' := 30) rfl (fun v1947 hv1947 => ?_)
   refine k_istore X0 hx (hb hby at_30) (Ls' := #[iv i0, iv i1, iv i2, iv i3, iv v1, iv (2 : Int32), iv v1765, iv (1 : Int32), iv v1947, .unset, .unset, .unset, .unset, .unset]) rfl (pc' := 32) rfl ?_
   refine k_iloadN X0 hx (hb hby at_32) rfl (pc' := 33) rfl ?_
   refine k_ldc X0 hx hZ hown (hw _ (List.mem_of_getElem? (i := 0) rfl)) (hb hby at_33) (pc' := 35) rfl ?_
   refine k_iand X0 hx (hb hby at_35) (pc' := 36) rfl (fun v1948 hv1948 => ?_)
   refine k_istore X0 hx (hb hby at_36) (Ls' := #[iv i0, iv i1, iv i2, iv i3, iv v1, iv (2 : Int32), iv v1765, iv (1 : Int32), iv v1947, iv v1948, .unset, .unset, .unset, .unset]) rfl (pc' := 38) rfl ?_
   refine k_newO X0 hx hZ hown (hw _ (List.mem_of_getElem? (i := 1) rfl)) (hw _ (List.mem_of_getElem? (i := 2) rfl)) (hw _ (List.mem_of_getElem? (i := 3) rfl)) e0 (hb hby at_38) (by decide) (by decide) (pc' := 41) rfl (fun T1949 h1949 b1949 g1949 X1949 e1949 E1949 A1949 D1949 => ?_)
   have g_b1949 : n0 ≤ b1949 := Nat.le_trans Z0 (Nat.le_of_eq g1949.symm)
   have Z1949 : n0 ≤ h1949.size := Nat.le_trans Z0 E1949.1
   have F1950 : Fld Z h1949 b1949 "com/example/dendrotick/dendrotick/VectorClock" "entries" "[I" .null := D1949 (Or.inl (hw _ (List.mem_of_getElem? (i := 12) rfl))) (ty := (.array .int)) (by decide)
   have F1951 : Fld Z h1949 b1949 "com/example/dendrotick/dendrotick/VectorClock" "work" "Lcom/example/dendrotick/dendrotick/ClockWork;" .null := D1949 (Or.inr (hw _ (List.mem_of_getElem? (i := 14) rfl))) (ty := (.object "com/example/dendrotick/dendrotick/ClockWork")) (by decide)
   have F1952 : Fld Z h1949 b1949 "com/example/dendrotick/dendrotick/VectorClock" "size" "I" (.int (0 : Int32)) := D1949 (Or.inl (hw _ (List.mem_of_getElem? (i := 21) rfl))) (ty := .int) (by decide)
   refine k_dup X1949 hx (hb hby at_41) rfl (pc' := 42) rfl ?_
   refine k_anull X1949 hx (hb hby at_42) (pc' := 43) rfl ?_
   refine k_callI X1949 hx hZ hown (a := b1949) rfl (hw _ (List.mem_of_getElem? (i := 4) rfl)) (hw _ (List.mem_of_getElem? (i := 5) rfl)) (hw _ (List.mem_of_getElem? (i := 3) rfl)) (hw _ (List.mem_of_getElem? (i := 6) rfl)) rfl (by decide) (rm1_27 l Z a0 hw [] b1949 h1949 n0 Z1949 A1949 F1950 F1951 F1952 g_b1949) (by decide) (by decide) e1949 (by rw [hml]; rfl) (argsL := [.null]) (rest := [(.ref b1949)]) (lenOf pd_0 rfl) rfl (W := 1) (Nat.le_refl _) rfl (hb hby at_43) (by decide) (by decide) (pc' := 46) rfl (fun T1953 L1953 r1953 X1953 q1953 => ?_)
   obtain ⟨N1953, q1953⟩ := q1953
   have N1953' := Fr.app N0 N1953
   obtain ⟨b1954, k1955, rfl, F1956, F1957, F1958, F1959, F1960, g_b1954, lt1961, Z1962⟩ := q1953
   show KEnds p e below s _ _ _ T1953 (mkF m 46 #[iv i0, iv i1, iv i2, iv i3, iv v1, iv (2 : Int32), iv v1765, iv (1 : Int32), iv v1947, iv v1948, .unset, .unset, .unset, .unset] [(.ref b1949)])
   refine k_astore X1953 hx (hb hby at_46) rfl (Ls' := #[iv i0, iv i1, iv i2, iv i3, iv v1, iv (2 : Int32), iv v1765, iv (1 : Int32), iv v1947, iv v1948, rv b1949, .unset, .unset, .unset]) rfl (pc' := 48) rfl ?_
   refine k_iload X1953 hx (hb hby at_48) rfl (pc' := 50) rfl ?_
   refine k_iconst X1953 hx (hb hby at_50) (pc' := 51) rfl (z := (1 : Int32)) rfl ?_
   refine k_icmp_lt X1953 hx (hb hby at_51) (pn := 54) rfl (py := 61) (by decide) (fun hc => absurd hc (by decide)) (fun _ => ?_)
   refine k_aload X1953 hx (hb hby at_54) rfl rfl (pc' := 56) rfl ?_
   refine k_iload X1953 hx (hb hby at_56) rfl (pc' := 58) rfl ?_
   have hT1964 : ¬ v1 < (0 : Int32) := (by intro hq1965; have B1968 : (-2147483648 : Int) ≤ i0.toInt ∧ i0.toInt ≤ 2147483647 := ⟨(rng32 i0).1, Int.le_of_lt_add_one (rng32 i0).2⟩; have q1967 : v1.toInt = i0.toInt % 16 := (by rw [hv1]; exact c_mask _ _ 4 (by decide) (by decide)); have B1966 : (0 : Int) ≤ v1.toInt ∧ v1.toInt ≤ 15 := (by rw [q1967]; exact k_modB (by decide)); have B1969 : (0 : Int) ≤ v1.toInt ∧ v1.toInt ≤ -1 := ⟨B1966.1, k_lt hq1965 (by decide)⟩; omega)
   have hT1970 : ¬ (15 : Int32) < v1 := (by intro hq1971; have B1974 : (-2147483648 : Int) ≤ i0.toInt ∧ i0.toInt ≤ 2147483647 := ⟨(rng32 i0).1, Int.le_of_lt_add_one (rng32 i0).2⟩; have q1973 : v1.toInt = i0.toInt % 16 := (by rw [hv1]; exact c_mask _ _ 4 (by decide) (by decide)); have B1972 : (0 : Int) ≤ v1.toInt ∧ v1.toInt ≤ 15 := (by rw [q1973]; exact k_modB (by decide)); have B1975 : (16 : Int) ≤ v1.toInt ∧ v1.toInt ≤ 15 := ⟨k_gt hq1971 (by decide), B1972.2⟩; omega)
   refine k_callV X1953 hx hZ hown (a := b1949) (hw _ (List.mem_of_getElem? (i := 26) rfl)) (hw _ (List.mem_of_getElem? (i := 27) rfl)) (hw _ (List.mem_of_getElem? (i := 29) rfl)) (hw _ (List.mem_of_getElem? (i := 28) rfl)) (hw _ (List.mem_of_getElem? (i := 3) rfl)) (hw _ (List.mem_of_getElem? (i := 30) rfl)) (by decide) F1956 (rm5_169 l Z a0 hw [] b1949 b1954 k1955 (0 : Int32) (0 : Int32) v1 (fun _ => 0) T1953.heap n0 Z1962 F1956 F1957 F1958 F1959 F1960 g_b1949 g_b1954 lt1961 (by decide) (by decide) (by decide) (by decide) (fun _ _ => rfl) hT1964 hT1970) (by decide) (by decide) rfl (by rw [hml]; rfl) (argsL := [(.int v1)]) (rest := []) (lenOf pd_5 rfl) rfl (W := 0) (Nat.le_refl _) rfl (hb hby at_58) (by decide) (by decide) (pc' := 61) rfl (fun T1963 L1963 r1963 X1963 q1963 => ?_)
   obtain ⟨N1963, b1963, k1963, v1976, v1977, rfl, F1978, F1979, F1980, F1981, F1982, g_b1963, lt1989, Z1990, hI1983, hI1984, hI1985, hI1986, HZ1987⟩ := q1963
   have N1963' := Fr.app N1953' N1963
   show KEnds p e below s _ _ _ T1963 (mkF m 61 #[iv i0, iv i1, iv i2, iv i3, iv v1, iv (2 : Int32), iv v1765, iv (1 : Int32), iv v1947, iv v1948, rv b1949, .unset, .unset, .unset] [])
   refine k_iload X1963 hx (hb hby at_61) rfl (pc' := 63) rfl ?_
   refine k_iconst X1963 hx (hb hby at_63) (pc' := 64) rfl (z := (2 : Int32)) rfl ?_
   refine k_icmp_lt X1963 hx (hb hby at_64) (pn := 67) rfl (py := 74) (by decide) (fun hc => absurd hc (by decide)) (fun _ => ?_)
   refine k_aload X1963 hx (hb hby at_67) rfl rfl (pc' := 69) rfl ?_
   refine k_iload X1963 hx (hb hby at_69) rfl (pc' := 71) rfl ?_
   refine k_callV X1963 hx hZ hown (a := b1949) (hw _ (List.mem_of_getElem? (i := 26) rfl)) (hw _ (List.mem_of_getElem? (i := 27) rfl)) (hw _ (List.mem_of_getElem? (i := 29) rfl)) (hw _ (List.mem_of_getElem? (i := 28) rfl)) (hw _ (List.mem_of_getElem? (i := 3) rfl)) (hw _ (List.mem_of_getElem? (i := 30) rfl)) (by decide) F1978 (rm5_169 l Z a0 hw [] b1949 b1963 k1963 v1976 v1977 v1 (updF (fun _ => 0) v1.toNatClampNeg ((fun _ => 0) v1.toNatClampNeg + 1)) T1963.heap n0 Z1990 F1978 F1979 F1980 F1981 F1982 g_b1949 g_b1963 lt1989 hI1983 hI1984 hI1985 hI1986 HZ1987 hT1964 hT1970) (by decide) (by decide) rfl (by rw [hml]; rfl) (argsL := [(.int v1)]) (rest := []) (lenOf pd_5 rfl) rfl (W := 0) (Nat.le_refl _) rfl (hb hby at_71) (by decide) (by decide) (pc' := 74) rfl (fun T1991 L1991 r1991 X1991 q1991 => ?_)
   obtain ⟨N1991, b1991, k1991, v1992, v1993, rfl, F1994, F1995, F1996, F1997, F1998, g_b1991, lt2005, Z2006, hI1999, hI2000, hI2001, hI2002, HZ2003⟩ := q1991
   have N1991' := Fr.app N1963' N1991
   show KEnds p e below s _ _ _ T1991 (mkF m 74 #[iv i0, iv i1, iv i2, iv i3, iv v1, iv (2 : Int32), iv v1765, iv (1 : Int32), iv v1947, iv v1948, rv b1949, .unset, .unset, .unset] [])
   refine k_iload X1991 hx (hb hby at_74) rfl (pc' := 76) rfl ?_
   refine k_iconst X1991 hx (hb hby at_76) (pc' := 77) rfl (z := (3 : Int32)) rfl ?_
   refine k_icmp_lt X1991 hx (hb hby at_77) (pn := 80) rfl (py := 87) (by decide) (fun _ => ?_) (fun hc => absurd (by decide) hc)
   refine k_iload X1991 hx (hb hby at_87) rfl (pc' := 89) rfl ?_
   refine k_iconst X1991 hx (hb hby at_89) (pc' := 90) rfl (z := (1 : Int32)) rfl ?_
   refine k_icmp_lt X1991 hx (hb hby at_90) (pn := 93) rfl (py := 100) (by decide) (fun hc => absurd hc (by decide)) (fun _ => ?_)
   refine k_aload X1991 hx (hb hby at_93) rfl rfl (pc' := 95) rfl ?_
   refine k_iload X1991 hx (hb hby at_95) rfl (pc' := 97) rfl ?_
   have hT2008 : ¬ v1765 < (0 : Int32) := (by intro hq2009; have B2012 : (-2147483648 : Int) ≤ i0.toInt ∧ i0.toInt ≤ 2147483647 := ⟨(rng32 i0).1, Int.le_of_lt_add_one (rng32 i0).2⟩; have q2011 : v1.toInt = i0.toInt % 16 := (by rw [hv1]; exact c_mask _ _ 4 (by decide) (by decide)); have B2010 : (0 : Int) ≤ v1.toInt ∧ v1.toInt ≤ 15 := (by rw [q2011]; exact k_modB (by decide)); have B2013 : (0 : Int) ≤ v1976.toInt ∧ v1976.toInt ≤ 30 := ⟨k_ge hI1983 (by decide), k_le hI1984 (by decide)⟩; have B2014 : (0 : Int) ≤ v1977.toInt ∧ v1977.toInt ≤ 2147483647 := ⟨k_ge hI1985 (by decide), Int.le_of_lt_add_one (rng32 v1977).2⟩; have q2015 := hI1986; rw [Int32.lt_iff_toInt_lt] at q2015; have B2016 : (0 : Int) ≤ v1992.toInt ∧ v1992.toInt ≤ 30 := ⟨k_ge hI1999 (by decide), k_le hI2000 (by decide)⟩; have B2017 : (0 : Int) ≤ v1993.toInt ∧ v1993.toInt ≤ 2147483647 := ⟨k_ge hI2001 (by decide), Int.le_of_lt_add_one (rng32 v1993).2⟩; have q2018 := hI2002; rw [Int32.lt_iff_toInt_lt] at q2018; have B2021 : (-2147483648 : Int) ≤ i1.toInt ∧ i1.toInt ≤ 2147483647 := ⟨(rng32 i1).1, Int.le_of_lt_add_one (rng32 i1).2⟩; have q2020 : v1765.toInt = i1.toInt % 16 := (by rw [hv1765]; exact c_mask _ _ 4 (by decide) (by decide)); have B2019 : (0 : Int) ≤ v1765.toInt ∧ v1765.toInt ≤ 15 := (by rw [q2020]; exact k_modB (by decide)); have B2022 : (0 : Int) ≤ v1765.toInt ∧ v1765.toInt ≤ -1 := ⟨B2019.1, k_lt hq2009 (by decide)⟩; omega)
   have hT2023 : ¬ (15 : Int32) < v1765 := (by intro hq2024; have B2027 : (-2147483648 : Int) ≤ i0.toInt ∧ i0.toInt ≤ 2147483647 := ⟨(rng32 i0).1, Int.le_of_lt_add_one (rng32 i0).2⟩; have q2026 : v1.toInt = i0.toInt % 16 := (by rw [hv1]; exact c_mask _ _ 4 (by decide) (by decide)); have B2025 : (0 : Int) ≤ v1.toInt ∧ v1.toInt ≤ 15 := (by rw [q2026]; exact k_modB (by decide)); have B2028 : (0 : Int) ≤ v1976.toInt ∧ v1976.toInt ≤ 30 := ⟨k_ge hI1983 (by decide), k_le hI1984 (by decide)⟩; have B2029 : (0 : Int) ≤ v1977.toInt ∧ v1977.toInt ≤ 2147483647 := ⟨k_ge hI1985 (by decide), Int.le_of_lt_add_one (rng32 v1977).2⟩; have q2030 := hI1986; rw [Int32.lt_iff_toInt_lt] at q2030; have B2031 : (0 : Int) ≤ v1992.toInt ∧ v1992.toInt ≤ 30 := ⟨k_ge hI1999 (by decide), k_le hI2000 (by decide)⟩; have B2032 : (0 : Int) ≤ v1993.toInt ∧ v1993.toInt ≤ 2147483647 := ⟨k_ge hI2001 (by decide), Int.le_of_lt_add_one (rng32 v1993).2⟩; have q2033 := hI2002; rw [Int32.lt_iff_toInt_lt] at q2033; have B2036 : (-2147483648 : Int) ≤ i1.toInt ∧ i1.toInt ≤ 2147483647 := ⟨(rng32 i1).1, Int.le_of_lt_add_one (rng32 i1).2⟩; have q2035 : v1765.toInt = i1.toInt % 16 := (by rw [hv1765]; exact c_mask _ _ 4 (by decide) (by decide)); have B2034 : (0 : Int) ≤ v1765.toInt ∧ v1765.toInt ≤ 15 := (by rw [q2035]; exact k_modB (by decide)); have B2037 : (16 : Int) ≤ v1765.toInt ∧ v1765.toInt ≤ 15 := ⟨k_gt hq2024 (by decide), B2034.2⟩; omega)
   refine k_callV X1991 hx hZ hown (a := b1949) (hw _ (List.mem_of_getElem? (i := 26) rfl)) (hw _ (List.mem_of_getElem? (i := 27) rfl)) (hw _ (List.mem_of_getElem? (i := 29) rfl)) (hw _ (List.mem_of_getElem? (i := 28) rfl)) (hw _ (List.mem_of_getElem? (i := 3) rfl)) (hw _ (List.mem_of_getElem? (i := 30) rfl)) (by decide) F1994 (rm5_169 l Z a0 hw [] b1949 b1991 k1991 v1992 v1993 v1765 (updF (updF (fun _ => 0) v1.toNatClampNeg ((fun _ => 0) v1.toNatClampNeg + 1)) v1.toNatClampNeg ((updF (fun _ => 0) v1.toNatClampNeg ((fun _ => 0) v1.toNatClampNeg + 1)) v1.toNatClampNeg + 1)) T1991.heap n0 Z2006 F1994 F1995 F1996 F1997 F1998 g_b1949 g_b1991 lt2005 hI1999 hI2000 hI2001 hI2002 HZ2003 hT2008 hT2023) (by decide) (by decide) rfl (by rw [hml]; rfl) (argsL := [(.int v1765)]) (rest := []) (lenOf pd_5 rfl) rfl (W := 0) (Nat.le_refl _) rfl (hb hby at_97) (by decide) (by decide) (pc' := 100) rfl (fun T2007 L2007 r2007 X2007 q2007 => ?_)
   obtain ⟨N2007, b2007, k2007, v2038, v2039, rfl, F2040, F2041, F2042, F2043, F2044, g_b2007, lt2051, Z2052, hI2045, hI2046, hI2047, hI2048, HZ2049⟩ := q2007
   have N2007' := Fr.app N1991' N2007
   show KEnds p e below s _ _ _ T2007 (mkF m 100 #[iv i0, iv i1, iv i2, iv i3, iv v1, iv (2 : Int32), iv v1765, iv (1 : Int32), iv v1947, iv v1948, rv b1949, .unset, .unset, .unset] [])
   refine k_iload X2007 hx (hb hby at_100) rfl (pc' := 102) rfl ?_
   refine k_iconst X2007 hx (hb hby at_102) (pc' := 103) rfl (z := (2 : Int32)) rfl ?_
   refine k_icmp_lt X2007 hx (hb hby at_103) (pn := 106) rfl (py := 113) (by decide) (fun _ => ?_) (fun hc => absurd (by decide) hc)
   refine k_iload X2007 hx (hb hby at_113) rfl (pc' := 115) rfl ?_
   refine k_iconst X2007 hx (hb hby at_115) (pc' := 116) rfl (z := (3 : Int32)) rfl ?_
   refine k_icmp_lt X2007 hx (hb hby at_116) (pn := 119) rfl (py := 126) (by decide) (fun _ => ?_) (fun hc => absurd (by decide) hc)
   refine k_aload X2007 hx (hb hby at_126) rfl rfl (pc' := 128) rfl ?_
   refine k_iload X2007 hx (hb hby at_128) rfl (pc' := 130) rfl ?_
   have hp2053 : ¬ v1947 < (0 : Int32) := by
    intro hq2054
    have B2057 : (-2147483648 : Int) ≤ i0.toInt ∧ i0.toInt ≤ 2147483647 := ⟨(rng32 i0).1, Int.le_of_lt_add_one (rng32 i0).2⟩
    have q2056 : v1.toInt = i0.toInt % 16 := (by rw [hv1]; exact c_mask _ _ 4 (by decide) (by decide))
    have B2055 : (0 : Int) ≤ v1.toInt ∧ v1.toInt ≤ 15 := (by rw [q2056]; exact k_modB (by decide))
    have B2058 : (0 : Int) ≤ v1976.toInt ∧ v1976.toInt ≤ 30 := ⟨k_ge hI1983 (by decide), k_le hI1984 (by decide)⟩
    have B2059 : (0 : Int) ≤ v1977.toInt ∧ v1977.toInt ≤ 2147483647 := ⟨k_ge hI1985 (by decide), Int.le_of_lt_add_one (rng32 v1977).2⟩
    have q2060 := hI1986; rw [Int32.lt_iff_toInt_lt] at q2060
    have B2061 : (0 : Int) ≤ v1992.toInt ∧ v1992.toInt ≤ 30 := ⟨k_ge hI1999 (by decide), k_le hI2000 (by decide)⟩
    have B2062 : (0 : Int) ≤ v1993.toInt ∧ v1993.toInt ≤ 2147483647 := ⟨k_ge hI2001 (by decide), Int.le_of_lt_add_one (rng32 v1993).2⟩
    have q2063 := hI2002; rw [Int32.lt_iff_toInt_lt] at q2063
    have B2066 : (-2147483648 : Int) ≤ i1.toInt ∧ i1.toInt ≤ 2147483647 := ⟨(rng32 i1).1, Int.le_of_lt_add_one (rng32 i1).2⟩
    have q2065 : v1765.toInt = i1.toInt % 16 := (by rw [hv1765]; exact c_mask _ _ 4 (by decide) (by decide))
    have B2064 : (0 : Int) ≤ v1765.toInt ∧ v1765.toInt ≤ 15 := (by rw [q2065]; exact k_modB (by decide))
    have B2067 : (0 : Int) ≤ v2038.toInt ∧ v2038.toInt ≤ 30 := ⟨k_ge hI2045 (by decide), k_le hI2046 (by decide)⟩
    have B2068 : (0 : Int) ≤ v2039.toInt ∧ v2039.toInt ≤ 2147483647 := ⟨k_ge hI2047 (by decide), Int.le_of_lt_add_one (rng32 v2039).2⟩
    have q2069 := hI2048; rw [Int32.lt_iff_toInt_lt] at q2069
    have B2072 : (-2147483648 : Int) ≤ i2.toInt ∧ i2.toInt ≤ 2147483647 := ⟨(rng32 i2).1, Int.le_of_lt_add_one (rng32 i2).2⟩
    have q2071 : v1947.toInt = i2.toInt % 32 := (by rw [hv1947]; exact c_mask _ _ 5 (by decide) (by decide))
    have B2070 : (0 : Int) ≤ v1947.toInt ∧ v1947.toInt ≤ 31 := (by rw [q2071]; exact k_modB (by decide))
    have B2073 : (0 : Int) ≤ v1947.toInt ∧ v1947.toInt ≤ -1 := ⟨B2070.1, k_lt hq2054 (by decide)⟩
    omega
   refine k_callV X2007 hx hZ hown (a := b1949) (hw _ (List.mem_of_getElem? (i := 15) rfl)) (hw _ (List.mem_of_getElem? (i := 16) rfl)) (hw _ (List.mem_of_getElem? (i := 18) rfl)) (hw _ (List.mem_of_getElem? (i := 17) rfl)) (hw _ (List.mem_of_getElem? (i := 3) rfl)) (hw _ (List.mem_of_getElem? (i := 19) rfl)) (by decide) F2040 (rm3_631 l Z a0 hw [] b1949 v1947 b2007 v2039 k2007 v2038 (updF (updF (updF (fun _ => 0) v1.toNatClampNeg ((fun _ => 0) v1.toNatClampNeg + 1)) v1.toNatClampNeg ((updF (fun _ => 0) v1.toNatClampNeg ((fun _ => 0) v1.toNatClampNeg + 1)) v1.toNatClampNeg + 1)) v1765.toNatClampNeg ((updF (updF (fun _ => 0) v1.toNatClampNeg ((fun _ => 0) v1.toNatClampNeg + 1)) v1.toNatClampNeg ((updF (fun _ => 0) v1.toNatClampNeg ((fun _ => 0) v1.toNatClampNeg + 1)) v1.toNatClampNeg + 1)) v1765.toNatClampNeg + 1)) T2007.heap n0 Z2052 F2040 F2041 F2042 F2043 F2044 lt2051 hp2053 hI2048 HZ2049) (by decide) (by decide) rfl (by rw [hml]; rfl) (argsL := [(.int v1947)]) (rest := []) (lenOf pd_1 rfl) rfl (W := 0) (Nat.le_refl _) rfl (hb hby at_130) (by decide) (by decide) (pc' := 133) rfl (fun T2074 L2074 r2074 X2074 q2074 => ?_)
   obtain ⟨N2074, e2074, v2075, rfl, hS2076⟩ := q2074
   have N2074' := Fr.app N2007' N2074
   show KEnds p e below s _ _ _ T2074 (mkF m 133 #[iv i0, iv i1, iv i2, iv i3, iv v1, iv (2 : Int32), iv v1765, iv (1 : Int32), iv v1947, iv v1948, rv b1949, .unset, .unset, .unset] [(.int v2075)])
   refine k_iload X2074 hx (hb hby at_133) rfl (pc' := 135) rfl ?_
   refine k_iload X2074 hx (hb hby at_135) rfl (pc' := 137) rfl ?_
   refine k_iload X2074 hx (hb hby at_137) rfl (pc' := 139) rfl ?_
   refine k_iload X2074 hx (hb hby at_139) rfl (pc' := 141) rfl ?_
   refine k_iload X2074 hx (hb hby at_141) rfl (pc' := 143) rfl ?_
   refine k_callS X2074 hx hZ hown (hw _ (List.mem_of_getElem? (i := 22) rfl)) (hw _ (List.mem_of_getElem? (i := 23) rfl)) (hw _ (List.mem_of_getElem? (i := 24) rfl)) (hw _ (List.mem_of_getElem? (i := 25) rfl)) (by decide) (rm4_2077 l Z a0 hw [] v1947 v1 v1765 T2007.heap n0 Z2052 ) (by decide) (by decide) e2074 (by rw [hml]; rfl) (argsL := [(.int v1947), (.int v1), (.int (2 : Int32)), (.int v1765), (.int (1 : Int32))]) (rest := [(.int v2075)]) (lenOf pd_2 rfl) rfl (W := 1) (Nat.le_refl _) rfl (hb hby at_143) (by decide) (by decide) (pc' := 146) rfl (fun T2081 L2081 r2081 X2081 q2081 => ?_)
   obtain ⟨N2081, e2081, rfl⟩ := q2081
   have N2081' := Fr.app N2074' N2081
   show KEnds p e below s _ _ _ T2081 (mkF m 146 #[iv i0, iv i1, iv i2, iv i3, iv v1, iv (2 : Int32), iv v1765, iv (1 : Int32), iv v1947, iv v1948, rv b1949, .unset, .unset, .unset] ((.int (f4_2077 v1947 v1 v1765)) :: (.int v2075) :: []))
   obtain ⟨v2082, hv2082⟩ : ∃ z, z = f4_2077 v1947 v1 v1765 := ⟨_, rfl⟩
   rw [← hv2082]
   refine k_icmp_ne X2081 hx (hb hby at_146) (pn := 149) rfl (py := 153) (by decide) (fun hc => absurd (by rw [hS2076, hv2082]; exact own_fin_27 v1947 v1 v1765 hp2053 hT1964 hT2008) hc) (fun _ => ?_)
   refine k_iconst X2081 hx (hb hby at_149) (pc' := 150) rfl (z := (1 : Int32)) rfl ?_
   refine k_goto X2081 hx (hb hby at_150) (pc' := 154) (by decide) ?_
   refine k_istore X2081 hx (hb hby at_154) (Ls' := #[iv i0, iv i1, iv i2, iv i3, iv v1, iv (2 : Int32), iv v1765, iv (1 : Int32), iv v1947, iv v1948, rv b1949, iv (1 : Int32), .unset, .unset]) rfl (pc' := 156) rfl ?_
   refine k_aload X2081 hx (hb hby at_156) rfl rfl (pc' := 158) rfl ?_
   refine k_iload X2081 hx (hb hby at_158) rfl (pc' := 160) rfl ?_
   have hp2083 : ¬ v1948 < (0 : Int32) := by
    intro hq2084
    have B2087 : (-2147483648 : Int) ≤ i0.toInt ∧ i0.toInt ≤ 2147483647 := ⟨(rng32 i0).1, Int.le_of_lt_add_one (rng32 i0).2⟩
    have q2086 : v1.toInt = i0.toInt % 16 := (by rw [hv1]; exact c_mask _ _ 4 (by decide) (by decide))
    have B2085 : (0 : Int) ≤ v1.toInt ∧ v1.toInt ≤ 15 := (by rw [q2086]; exact k_modB (by decide))
    have B2088 : (0 : Int) ≤ v1976.toInt ∧ v1976.toInt ≤ 30 := ⟨k_ge hI1983 (by decide), k_le hI1984 (by decide)⟩
    have B2089 : (0 : Int) ≤ v1977.toInt ∧ v1977.toInt ≤ 2147483647 := ⟨k_ge hI1985 (by decide), Int.le_of_lt_add_one (rng32 v1977).2⟩
    have q2090 := hI1986; rw [Int32.lt_iff_toInt_lt] at q2090
    have B2091 : (0 : Int) ≤ v1992.toInt ∧ v1992.toInt ≤ 30 := ⟨k_ge hI1999 (by decide), k_le hI2000 (by decide)⟩
    have B2092 : (0 : Int) ≤ v1993.toInt ∧ v1993.toInt ≤ 2147483647 := ⟨k_ge hI2001 (by decide), Int.le_of_lt_add_one (rng32 v1993).2⟩
    have q2093 := hI2002; rw [Int32.lt_iff_toInt_lt] at q2093
    have B2096 : (-2147483648 : Int) ≤ i1.toInt ∧ i1.toInt ≤ 2147483647 := ⟨(rng32 i1).1, Int.le_of_lt_add_one (rng32 i1).2⟩
    have q2095 : v1765.toInt = i1.toInt % 16 := (by rw [hv1765]; exact c_mask _ _ 4 (by decide) (by decide))
    have B2094 : (0 : Int) ≤ v1765.toInt ∧ v1765.toInt ≤ 15 := (by rw [q2095]; exact k_modB (by decide))
    have B2097 : (0 : Int) ≤ v2038.toInt ∧ v2038.toInt ≤ 30 := ⟨k_ge hI2045 (by decide), k_le hI2046 (by decide)⟩
    have B2098 : (0 : Int) ≤ v2039.toInt ∧ v2039.toInt ≤ 2147483647 := ⟨k_ge hI2047 (by decide), Int.le_of_lt_add_one (rng32 v2039).2⟩
    have q2099 := hI2048; rw [Int32.lt_iff_toInt_lt] at q2099
    have B2102 : (-2147483648 : Int) ≤ i2.toInt ∧ i2.toInt ≤ 2147483647 := ⟨(rng32 i2).1, Int.le_of_lt_add_one (rng32 i2).2⟩
    have q2101 : v1947.toInt = i2.toInt % 32 := (by rw [hv1947]; exact c_mask _ _ 5 (by decide) (by decide))
    have B2100 : (0 : Int) ≤ v1947.toInt ∧ v1947.toInt ≤ 31 := (by rw [q2101]; exact k_modB (by decide))
    have B2105 : (-2147483648 : Int) ≤ i3.toInt ∧ i3.toInt ≤ 2147483647 := ⟨(rng32 i3).1, Int.le_of_lt_add_one (rng32 i3).2⟩
    have q2104 : v1948.toInt = i3.toInt % 2147483648 := (by rw [hv1948]; exact c_mask _ _ 31 (by decide) (by decide))
    have B2103 : (0 : Int) ≤ v1948.toInt ∧ v1948.toInt ≤ 2147483647 := (by rw [q2104]; exact k_modB (by decide))
    have B2106 : (0 : Int) ≤ v1948.toInt ∧ v1948.toInt ≤ -1 := ⟨B2103.1, k_lt hq2084 (by decide)⟩
    omega
   refine k_callV X2081 hx hZ hown (a := b1949) (hw _ (List.mem_of_getElem? (i := 15) rfl)) (hw _ (List.mem_of_getElem? (i := 16) rfl)) (hw _ (List.mem_of_getElem? (i := 18) rfl)) (hw _ (List.mem_of_getElem? (i := 17) rfl)) (hw _ (List.mem_of_getElem? (i := 3) rfl)) (hw _ (List.mem_of_getElem? (i := 19) rfl)) (by decide) F2040 (rm3_631 l Z a0 hw [] b1949 v1948 b2007 v2039 k2007 v2038 (updF (updF (updF (fun _ => 0) v1.toNatClampNeg ((fun _ => 0) v1.toNatClampNeg + 1)) v1.toNatClampNeg ((updF (fun _ => 0) v1.toNatClampNeg ((fun _ => 0) v1.toNatClampNeg + 1)) v1.toNatClampNeg + 1)) v1765.toNatClampNeg ((updF (updF (fun _ => 0) v1.toNatClampNeg ((fun _ => 0) v1.toNatClampNeg + 1)) v1.toNatClampNeg ((updF (fun _ => 0) v1.toNatClampNeg ((fun _ => 0) v1.toNatClampNeg + 1)) v1.toNatClampNeg + 1)) v1765.toNatClampNeg + 1)) T2007.heap n0 Z2052 F2040 F2041 F2042 F2043 F2044 lt2051 hp2083 hI2048 HZ2049) (by decide) (by decide) e2081 (by rw [hml]; rfl) (argsL := [(.int v1948)]) (rest := []) (lenOf pd_1 rfl) rfl (W := 0) (Nat.le_refl _) rfl (hb hby at_160) (by decide) (by decide) (pc' := 163) rfl (fun T2107 L2107 r2107 X2107 q2107 => ?_)
   obtain ⟨N2107, e2107, v2108, rfl, hS2109⟩ := q2107
   have N2107' := Fr.app N2081' N2107
   show KEnds p e below s _ _ _ T2107 (mkF m 163 #[iv i0, iv i1, iv i2, iv i3, iv v1, iv (2 : Int32), iv v1765, iv (1 : Int32), iv v1947, iv v1948, rv b1949, iv (1 : Int32), .unset, .unset] [(.int v2108)])
   refine k_iload X2107 hx (hb hby at_163) rfl (pc' := 165) rfl ?_
   refine k_iload X2107 hx (hb hby at_165) rfl (pc' := 167) rfl ?_
   refine k_iload X2107 hx (hb hby at_167) rfl (pc' := 169) rfl ?_
   refine k_iload X2107 hx (hb hby at_169) rfl (pc' := 171) rfl ?_
   refine k_iload X2107 hx (hb hby at_171) rfl (pc' := 173) rfl ?_
   refine k_callS X2107 hx hZ hown (hw _ (List.mem_of_getElem? (i := 22) rfl)) (hw _ (List.mem_of_getElem? (i := 23) rfl)) (hw _ (List.mem_of_getElem? (i := 24) rfl)) (hw _ (List.mem_of_getElem? (i := 25) rfl)) (by decide) (rm4_2077 l Z a0 hw [] v1948 v1 v1765 T2007.heap n0 Z2052 ) (by decide) (by decide) e2107 (by rw [hml]; rfl) (argsL := [(.int v1948), (.int v1), (.int (2 : Int32)), (.int v1765), (.int (1 : Int32))]) (rest := [(.int v2108)]) (lenOf pd_2 rfl) rfl (W := 1) (Nat.le_refl _) rfl (hb hby at_173) (by decide) (by decide) (pc' := 176) rfl (fun T2110 L2110 r2110 X2110 q2110 => ?_)
   obtain ⟨N2110, e2110, rfl⟩ := q2110
   have N2110' := Fr.app N2107' N2110
   show KEnds p e below s _ _ _ T2110 (mkF m 176 #[iv i0, iv i1, iv i2, iv i3, iv v1, iv (2 : Int32), iv v1765, iv (1 : Int32), iv v1947, iv v1948, rv b1949, iv (1 : Int32), .unset, .unset] ((.int (f4_2077 v1948 v1 v1765)) :: (.int v2108) :: []))
   obtain ⟨v2111, hv2111⟩ : ∃ z, z = f4_2077 v1948 v1 v1765 := ⟨_, rfl⟩
   rw [← hv2111]
   refine k_icmp_ne X2110 hx (hb hby at_176) (pn := 179) rfl (py := 183) (by decide) (fun hc => absurd (by rw [hS2109, hv2111]; exact own_fin_28 v1948 v1 v1765 hp2083 hT1964 hT2008) hc) (fun _ => ?_)
   refine k_iconst X2110 hx (hb hby at_179) (pc' := 180) rfl (z := (1 : Int32)) rfl ?_
   refine k_goto X2110 hx (hb hby at_180) (pc' := 184) (by decide) ?_
   refine k_istore X2110 hx (hb hby at_184) (Ls' := #[iv i0, iv i1, iv i2, iv i3, iv v1, iv (2 : Int32), iv v1765, iv (1 : Int32), iv v1947, iv v1948, rv b1949, iv (1 : Int32), iv (1 : Int32), .unset]) rfl (pc' := 186) rfl ?_
   refine k_aload X2110 hx (hb hby at_186) rfl rfl (pc' := 188) rfl ?_
   refine k_iload X2110 hx (hb hby at_188) rfl (pc' := 190) rfl ?_
   refine k_callV X2110 hx hZ hown (a := b1949) (hw _ (List.mem_of_getElem? (i := 15) rfl)) (hw _ (List.mem_of_getElem? (i := 16) rfl)) (hw _ (List.mem_of_getElem? (i := 18) rfl)) (hw _ (List.mem_of_getElem? (i := 17) rfl)) (hw _ (List.mem_of_getElem? (i := 3) rfl)) (hw _ (List.mem_of_getElem? (i := 19) rfl)) (by decide) F2040 (rm3_631 l Z a0 hw [] b1949 v1 b2007 v2039 k2007 v2038 (updF (updF (updF (fun _ => 0) v1.toNatClampNeg ((fun _ => 0) v1.toNatClampNeg + 1)) v1.toNatClampNeg ((updF (fun _ => 0) v1.toNatClampNeg ((fun _ => 0) v1.toNatClampNeg + 1)) v1.toNatClampNeg + 1)) v1765.toNatClampNeg ((updF (updF (fun _ => 0) v1.toNatClampNeg ((fun _ => 0) v1.toNatClampNeg + 1)) v1.toNatClampNeg ((updF (fun _ => 0) v1.toNatClampNeg ((fun _ => 0) v1.toNatClampNeg + 1)) v1.toNatClampNeg + 1)) v1765.toNatClampNeg + 1)) T2007.heap n0 Z2052 F2040 F2041 F2042 F2043 F2044 lt2051 hT1964 hI2048 HZ2049) (by decide) (by decide) e2110 (by rw [hml]; rfl) (argsL := [(.int v1)]) (rest := []) (lenOf pd_1 rfl) rfl (W := 0) (Nat.le_refl _) rfl (hb hby at_190) (by decide) (by decide) (pc' := 193) rfl (fun T2112 L2112 r2112 X2112 q2112 => ?_)
   obtain ⟨N2112, e2112, v2113, rfl, hS2114⟩ := q2112
   have N2112' := Fr.app N2110' N2112
   show KEnds p e below s _ _ _ T2112 (mkF m 193 #[iv i0, iv i1, iv i2, iv i3, iv v1, iv (2 : Int32), iv v1765, iv (1 : Int32), iv v1947, iv v1948, rv b1949, iv (1 : Int32), iv (1 : Int32), .unset] [(.int v2113)])
   refine k_iload X2112 hx (hb hby at_193) rfl (pc' := 195) rfl ?_
   refine k_iload X2112 hx (hb hby at_195) rfl (pc' := 197) rfl ?_
   refine k_iload X2112 hx (hb hby at_197) rfl (pc' := 199) rfl ?_
   refine k_iload X2112 hx (hb hby at_199) rfl (pc' := 201) rfl ?_
   refine k_iload X2112 hx (hb hby at_201) rfl (pc' := 203) rfl ?_
   refine k_callS X2112 hx hZ hown (hw _ (List.mem_of_getElem? (i := 22) rfl)) (hw _ (List.mem_of_getElem? (i := 23) rfl)) (hw _ (List.mem_of_getElem? (i := 24) rfl)) (hw _ (List.mem_of_getElem? (i := 25) rfl)) (by decide) (rm4_2115 l Z a0 hw [] v1 v1765 T2007.heap n0 Z2052 ) (by decide) (by decide) e2112 (by rw [hml]; rfl) (argsL := [(.int v1), (.int v1), (.int (2 : Int32)), (.int v1765), (.int (1 : Int32))]) (rest := [(.int v2113)]) (lenOf pd_2 rfl) rfl (W := 1) (Nat.le_refl _) rfl (hb hby at_203) (by decide) (by decide) (pc' := 206) rfl (fun T2117 L2117 r2117 X2117 q2117 => ?_)
   obtain ⟨N2117, e2117, rfl⟩ := q2117
   have N2117' := Fr.app N2112' N2117
   show KEnds p e below s _ _ _ T2117 (mkF m 206 #[iv i0, iv i1, iv i2, iv i3, iv v1, iv (2 : Int32), iv v1765, iv (1 : Int32), iv v1947, iv v1948, rv b1949, iv (1 : Int32), iv (1 : Int32), .unset] ((.int (f4_2115 v1 v1765)) :: (.int v2113) :: []))
   obtain ⟨v2118, hv2118⟩ : ∃ z, z = f4_2115 v1 v1765 := ⟨_, rfl⟩
   rw [← hv2118]
   refine k_icmp_ne X2117 hx (hb hby at_206) (pn := 209) rfl (py := 213) (by decide) (fun hc => absurd (by rw [hS2114, hv2118]; exact own_fin_29 v1 v1765 hT1964 hT1964 hT2008) hc) (fun _ => ?_)
   refine k_iconst X2117 hx (hb hby at_209) (pc' := 210) rfl (z := (1 : Int32)) rfl ?_
   refine k_goto X2117 hx (hb hby at_210) (pc' := 214) (by decide) ?_
   refine k_istore X2117 hx (hb hby at_214) (Ls' := #[iv i0, iv i1, iv i2, iv i3, iv v1, iv (2 : Int32), iv v1765, iv (1 : Int32), iv v1947, iv v1948, rv b1949, iv (1 : Int32), iv (1 : Int32), iv (1 : Int32)]) rfl (pc' := 216) rfl ?_
   refine k_iload X2117 hx (hb hby at_216) rfl (pc' := 218) rfl ?_
   refine k_if_eq X2117 hx (hb hby at_218) (pn := 221) rfl (py := 235) (by decide) (fun hc => absurd hc (by decide)) (fun _ => ?_)
   refine k_iload X2117 hx (hb hby at_221) rfl (pc' := 223) rfl ?_
   refine k_if_eq X2117 hx (hb hby at_223) (pn := 226) rfl (py := 235) (by decide) (fun hc => absurd hc (by decide)) (fun _ => ?_)
   refine k_iload X2117 hx (hb hby at_226) rfl (pc' := 228) rfl ?_
   refine k_if_eq X2117 hx (hb hby at_228) (pn := 231) rfl (py := 235) (by decide) (fun hc => absurd hc (by decide)) (fun _ => ?_)
   refine k_iconst X2117 hx (hb hby at_231) (pc' := 232) rfl (z := (1 : Int32)) rfl ?_
   refine k_goto X2117 hx (hb hby at_232) (pc' := 236) (by decide) ?_
   exact k_retN X2117 hx (t := .boolean) Bd.returns (by simp) (hb hby at_236) hlk (by decide) (by decide) (z' := (1 : Int32)) rfl ⟨rfl, N2117'⟩
  ·
   show KEnds p e below s _ _ _ s₁ (mkF m 24 #[iv i0, iv i1, iv i2, iv i3, iv v1, iv (2 : Int32), iv v1765, .unset, .unset, .unset, .unset, .unset, .unset, .unset] [(.int (2 : Int32))])
   refine k_istore X0 hx (hb hby at_24) (Ls' := #[iv i0, iv i1, iv i2, iv i3, iv v1, iv (2 : Int32), iv v1765, iv (2 : Int32), .unset, .unset, .unset, .unset, .unset, .unset]) rfl (pc' := 26) rfl ?_
   refine k_iloadN X0 hx (hb hby at_26) rfl (pc' := 27) rfl ?_
   refine k_bipush X0 hx (hb hby at_27) (pc' := 29) rfl (z := (31 : Int32)) rfl ?_
   refine k_iand X0 hx (hb hby at_29) (pc' := 30) rfl (fun v2120 hv2120 => ?_)
   refine k_istore X0 hx (hb hby at_30) (Ls' := #[iv i0, iv i1, iv i2, iv i3, iv v1, iv (2 : Int32), iv v1765, iv (2 : Int32), iv v2120, .unset, .unset, .unset, .unset, .unset]) rfl (pc' := 32) rfl ?_
   refine k_iloadN X0 hx (hb hby at_32) rfl (pc' := 33) rfl ?_
   refine k_ldc X0 hx hZ hown (hw _ (List.mem_of_getElem? (i := 0) rfl)) (hb hby at_33) (pc' := 35) rfl ?_
   refine k_iand X0 hx (hb hby at_35) (pc' := 36) rfl (fun v2121 hv2121 => ?_)
   refine k_istore X0 hx (hb hby at_36) (Ls' := #[iv i0, iv i1, iv i2, iv i3, iv v1, iv (2 : Int32), iv v1765, iv (2 : Int32), iv v2120, iv v2121, .unset, .unset, .unset, .unset]) rfl (pc' := 38) rfl ?_
   refine k_newO X0 hx hZ hown (hw _ (List.mem_of_getElem? (i := 1) rfl)) (hw _ (List.mem_of_getElem? (i := 2) rfl)) (hw _ (List.mem_of_getElem? (i := 3) rfl)) e0 (hb hby at_38) (by decide) (by decide) (pc' := 41) rfl (fun T2122 h2122 b2122 g2122 X2122 e2122 E2122 A2122 D2122 => ?_)
   have g_b2122 : n0 ≤ b2122 := Nat.le_trans Z0 (Nat.le_of_eq g2122.symm)
   have Z2122 : n0 ≤ h2122.size := Nat.le_trans Z0 E2122.1
   have F2123 : Fld Z h2122 b2122 "com/example/dendrotick/dendrotick/VectorClock" "entries" "[I" .null := D2122 (Or.inl (hw _ (List.mem_of_getElem? (i := 12) rfl))) (ty := (.array .int)) (by decide)
   have F2124 : Fld Z h2122 b2122 "com/example/dendrotick/dendrotick/VectorClock" "work" "Lcom/example/dendrotick/dendrotick/ClockWork;" .null := D2122 (Or.inr (hw _ (List.mem_of_getElem? (i := 14) rfl))) (ty := (.object "com/example/dendrotick/dendrotick/ClockWork")) (by decide)
   have F2125 : Fld Z h2122 b2122 "com/example/dendrotick/dendrotick/VectorClock" "size" "I" (.int (0 : Int32)) := D2122 (Or.inl (hw _ (List.mem_of_getElem? (i := 21) rfl))) (ty := .int) (by decide)
   refine k_dup X2122 hx (hb hby at_41) rfl (pc' := 42) rfl ?_
   refine k_anull X2122 hx (hb hby at_42) (pc' := 43) rfl ?_
   refine k_callI X2122 hx hZ hown (a := b2122) rfl (hw _ (List.mem_of_getElem? (i := 4) rfl)) (hw _ (List.mem_of_getElem? (i := 5) rfl)) (hw _ (List.mem_of_getElem? (i := 3) rfl)) (hw _ (List.mem_of_getElem? (i := 6) rfl)) rfl (by decide) (rm1_27 l Z a0 hw [] b2122 h2122 n0 Z2122 A2122 F2123 F2124 F2125 g_b2122) (by decide) (by decide) e2122 (by rw [hml]; rfl) (argsL := [.null]) (rest := [(.ref b2122)]) (lenOf pd_0 rfl) rfl (W := 1) (Nat.le_refl _) rfl (hb hby at_43) (by decide) (by decide) (pc' := 46) rfl (fun T2126 L2126 r2126 X2126 q2126 => ?_)
   obtain ⟨N2126, q2126⟩ := q2126
   have N2126' := Fr.app N0 N2126
   obtain ⟨b2127, k2128, rfl, F2129, F2130, F2131, F2132, F2133, g_b2127, lt2134, Z2135⟩ := q2126
   show KEnds p e below s _ _ _ T2126 (mkF m 46 #[iv i0, iv i1, iv i2, iv i3, iv v1, iv (2 : Int32), iv v1765, iv (2 : Int32), iv v2120, iv v2121, .unset, .unset, .unset, .unset] [(.ref b2122)])
   refine k_astore X2126 hx (hb hby at_46) rfl (Ls' := #[iv i0, iv i1, iv i2, iv i3, iv v1, iv (2 : Int32), iv v1765, iv (2 : Int32), iv v2120, iv v2121, rv b2122, .unset, .unset, .unset]) rfl (pc' := 48) rfl ?_
   refine k_iload X2126 hx (hb hby at_48) rfl (pc' := 50) rfl ?_
   refine k_iconst X2126 hx (hb hby at_50) (pc' := 51) rfl (z := (1 : Int32)) rfl ?_
   refine k_icmp_lt X2126 hx (hb hby at_51) (pn := 54) rfl (py := 61) (by decide) (fun hc => absurd hc (by decide)) (fun _ => ?_)
   refine k_aload X2126 hx (hb hby at_54) rfl rfl (pc' := 56) rfl ?_
   refine k_iload X2126 hx (hb hby at_56) rfl (pc' := 58) rfl ?_
   have hT2137 : ¬ v1 < (0 : Int32) := (by intro hq2138; have B2141 : (-2147483648 : Int) ≤ i0.toInt ∧ i0.toInt ≤ 2147483647 := ⟨(rng32 i0).1, Int.le_of_lt_add_one (rng32 i0).2⟩; have q2140 : v1.toInt = i0.toInt % 16 := (by rw [hv1]; exact c_mask _ _ 4 (by decide) (by decide)); have B2139 : (0 : Int) ≤ v1.toInt ∧ v1.toInt ≤ 15 := (by rw [q2140]; exact k_modB (by decide)); have B2142 : (0 : Int) ≤ v1.toInt ∧ v1.toInt ≤ -1 := ⟨B2139.1, k_lt hq2138 (by decide)⟩; omega)
   have hT2143 : ¬ (15 : Int32) < v1 := (by intro hq2144; have B2147 : (-2147483648 : Int) ≤ i0.toInt ∧ i0.toInt ≤ 2147483647 := ⟨(rng32 i0).1, Int.le_of_lt_add_one (rng32 i0).2⟩; have q2146 : v1.toInt = i0.toInt % 16 := (by rw [hv1]; exact c_mask _ _ 4 (by decide) (by decide)); have B2145 : (0 : Int) ≤ v1.toInt ∧ v1.toInt ≤ 15 := (by rw [q2146]; exact k_modB (by decide)); have B2148 : (16 : Int) ≤ v1.toInt ∧ v1.toInt ≤ 15 := ⟨k_gt hq2144 (by decide), B2145.2⟩; omega)
   refine k_callV X2126 hx hZ hown (a := b2122) (hw _ (List.mem_of_getElem? (i := 26) rfl)) (hw _ (List.mem_of_getElem? (i := 27) rfl)) (hw _ (List.mem_of_getElem? (i := 29) rfl)) (hw _ (List.mem_of_getElem? (i := 28) rfl)) (hw _ (List.mem_of_getElem? (i := 3) rfl)) (hw _ (List.mem_of_getElem? (i := 30) rfl)) (by decide) F2129 (rm5_169 l Z a0 hw [] b2122 b2127 k2128 (0 : Int32) (0 : Int32) v1 (fun _ => 0) T2126.heap n0 Z2135 F2129 F2130 F2131 F2132 F2133 g_b2122 g_b2127 lt2134 (by decide) (by decide) (by decide) (by decide) (fun _ _ => rfl) hT2137 hT2143) (by decide) (by decide) rfl (by rw [hml]; rfl) (argsL := [(.int v1)]) (rest := []) (lenOf pd_5 rfl) rfl (W := 0) (Nat.le_refl _) rfl (hb hby at_58) (by decide) (by decide) (pc' := 61) rfl (fun T2136 L2136 r2136 X2136 q2136 => ?_)
   obtain ⟨N2136, b2136, k2136, v2149, v2150, rfl, F2151, F2152, F2153, F2154, F2155, g_b2136, lt2162, Z2163, hI2156, hI2157, hI2158, hI2159, HZ2160⟩ := q2136
   have N2136' := Fr.app N2126' N2136
   show KEnds p e below s _ _ _ T2136 (mkF m 61 #[iv i0, iv i1, iv i2, iv i3, iv v1, iv (2 : Int32), iv v1765, iv (2 : Int32), iv v2120, iv v2121, rv b2122, .unset, .unset, .unset] [])
   refine k_iload X2136 hx (hb hby at_61) rfl (pc' := 63) rfl ?_
   refine k_iconst X2136 hx (hb hby at_63) (pc' := 64) rfl (z := (2 : Int32)) rfl ?_
   refine k_icmp_lt X2136 hx (hb hby at_64) (pn := 67) rfl (py := 74) (by decide) (fun hc => absurd hc (by decide)) (fun _ => ?_)
   refine k_aload X2136 hx (hb hby at_67) rfl rfl (pc' := 69) rfl ?_
   refine k_iload X2136 hx (hb hby at_69) rfl (pc' := 71) rfl ?_
   refine k_callV X2136 hx hZ hown (a := b2122) (hw _ (List.mem_of_getElem? (i := 26) rfl)) (hw _ (List.mem_of_getElem? (i := 27) rfl)) (hw _ (List.mem_of_getElem? (i := 29) rfl)) (hw _ (List.mem_of_getElem? (i := 28) rfl)) (hw _ (List.mem_of_getElem? (i := 3) rfl)) (hw _ (List.mem_of_getElem? (i := 30) rfl)) (by decide) F2151 (rm5_169 l Z a0 hw [] b2122 b2136 k2136 v2149 v2150 v1 (updF (fun _ => 0) v1.toNatClampNeg ((fun _ => 0) v1.toNatClampNeg + 1)) T2136.heap n0 Z2163 F2151 F2152 F2153 F2154 F2155 g_b2122 g_b2136 lt2162 hI2156 hI2157 hI2158 hI2159 HZ2160 hT2137 hT2143) (by decide) (by decide) rfl (by rw [hml]; rfl) (argsL := [(.int v1)]) (rest := []) (lenOf pd_5 rfl) rfl (W := 0) (Nat.le_refl _) rfl (hb hby at_71) (by decide) (by decide) (pc' := 74) rfl (fun T2164 L2164 r2164 X2164 q2164 => ?_)
   obtain ⟨N2164, b2164, k2164, v2165, v2166, rfl, F2167, F2168, F2169, F2170, F2171, g_b2164, lt2178, Z2179, hI2172, hI2173, hI2174, hI2175, HZ2176⟩ := q2164
   have N2164' := Fr.app N2136' N2164
   show KEnds p e below s _ _ _ T2164 (mkF m 74 #[iv i0, iv i1, iv i2, iv i3, iv v1, iv (2 : Int32), iv v1765, iv (2 : Int32), iv v2120, iv v2121, rv b2122, .unset, .unset, .unset] [])
   refine k_iload X2164 hx (hb hby at_74) rfl (pc' := 76) rfl ?_
   refine k_iconst X2164 hx (hb hby at_76) (pc' := 77) rfl (z := (3 : Int32)) rfl ?_
   refine k_icmp_lt X2164 hx (hb hby at_77) (pn := 80) rfl (py := 87) (by decide) (fun _ => ?_) (fun hc => absurd (by decide) hc)
   refine k_iload X2164 hx (hb hby at_87) rfl (pc' := 89) rfl ?_
   refine k_iconst X2164 hx (hb hby at_89) (pc' := 90) rfl (z := (1 : Int32)) rfl ?_
   refine k_icmp_lt X2164 hx (hb hby at_90) (pn := 93) rfl (py := 100) (by decide) (fun hc => absurd hc (by decide)) (fun _ => ?_)
   refine k_aload X2164 hx (hb hby at_93) rfl rfl (pc' := 95) rfl ?_
   refine k_iload X2164 hx (hb hby at_95) rfl (pc' := 97) rfl ?_
   have hT2181 : ¬ v1765 < (0 : Int32) := (by intro hq2182; have B2185 : (-2147483648 : Int) ≤ i0.toInt ∧ i0.toInt ≤ 2147483647 := ⟨(rng32 i0).1, Int.le_of_lt_add_one (rng32 i0).2⟩; have q2184 : v1.toInt = i0.toInt % 16 := (by rw [hv1]; exact c_mask _ _ 4 (by decide) (by decide)); have B2183 : (0 : Int) ≤ v1.toInt ∧ v1.toInt ≤ 15 := (by rw [q2184]; exact k_modB (by decide)); have B2186 : (0 : Int) ≤ v2149.toInt ∧ v2149.toInt ≤ 30 := ⟨k_ge hI2156 (by decide), k_le hI2157 (by decide)⟩; have B2187 : (0 : Int) ≤ v2150.toInt ∧ v2150.toInt ≤ 2147483647 := ⟨k_ge hI2158 (by decide), Int.le_of_lt_add_one (rng32 v2150).2⟩; have q2188 := hI2159; rw [Int32.lt_iff_toInt_lt] at q2188; have B2189 : (0 : Int) ≤ v2165.toInt ∧ v2165.toInt ≤ 30 := ⟨k_ge hI2172 (by decide), k_le hI2173 (by decide)⟩; have B2190 : (0 : Int) ≤ v2166.toInt ∧ v2166.toInt ≤ 2147483647 := ⟨k_ge hI2174 (by decide), Int.le_of_lt_add_one (rng32 v2166).2⟩; have q2191 := hI2175; rw [Int32.lt_iff_toInt_lt] at q2191; have B2194 : (-2147483648 : Int) ≤ i1.toInt ∧ i1.toInt ≤ 2147483647 := ⟨(rng32 i1).1, Int.le_of_lt_add_one (rng32 i1).2⟩; have q2193 : v1765.toInt = i1.toInt % 16 := (by rw [hv1765]; exact c_mask _ _ 4 (by decide) (by decide)); have B2192 : (0 : Int) ≤ v1765.toInt ∧ v1765.toInt ≤ 15 := (by rw [q2193]; exact k_modB (by decide)); have B2195 : (0 : Int) ≤ v1765.toInt ∧ v1765.toInt ≤ -1 := ⟨B2192.1, k_lt hq2182 (by decide)⟩; omega)
   have hT2196 : ¬ (15 : Int32) < v1765 := (by intro hq2197; have B2200 : (-2147483648 : Int) ≤ i0.toInt ∧ i0.toInt ≤ 2147483647 := ⟨(rng32 i0).1, Int.le_of_lt_add_one (rng32 i0).2⟩; have q2199 : v1.toInt = i0.toInt % 16 := (by rw [hv1]; exact c_mask _ _ 4 (by decide) (by decide)); have B2198 : (0 : Int) ≤ v1.toInt ∧ v1.toInt ≤ 15 := (by rw [q2199]; exact k_modB (by decide)); have B2201 : (0 : Int) ≤ v2149.toInt ∧ v2149.toInt ≤ 30 := ⟨k_ge hI2156 (by decide), k_le hI2157 (by decide)⟩; have B2202 : (0 : Int) ≤ v2150.toInt ∧ v2150.toInt ≤ 2147483647 := ⟨k_ge hI2158 (by decide), Int.le_of_lt_add_one (rng32 v2150).2⟩; have q2203 := hI2159; rw [Int32.lt_iff_toInt_lt] at q2203; have B2204 : (0 : Int) ≤ v2165.toInt ∧ v2165.toInt ≤ 30 := ⟨k_ge hI2172 (by decide), k_le hI2173 (by decide)⟩; have B2205 : (0 : Int) ≤ v2166.toInt ∧ v2166.toInt ≤ 2147483647 := ⟨k_ge hI2174 (by decide), Int.le_of_lt_add_one (rng32 v2166).2⟩; have q2206 := hI2175; rw [Int32.lt_iff_toInt_lt] at q2206; have B2209 : (-2147483648 : Int) ≤ i1.toInt ∧ i1.toInt ≤ 2147483647 := ⟨(rng32 i1).1, Int.le_of_lt_add_one (rng32 i1).2⟩; have q2208 : v1765.toInt = i1.toInt % 16 := (by rw [hv1765]; exact c_mask _ _ 4 (by decide) (by decide)); have B2207 : (0 : Int) ≤ v1765.toInt ∧ v1765.toInt ≤ 15 := (by rw [q2208]; exact k_modB (by decide)); have B2210 : (16 : Int) ≤ v1765.toInt ∧ v1765.toInt ≤ 15 := ⟨k_gt hq2197 (by decide), B2207.2⟩; omega)
   refine k_callV X2164 hx hZ hown (a := b2122) (hw _ (List.mem_of_getElem? (i := 26) rfl)) (hw _ (List.mem_of_getElem? (i := 27) rfl)) (hw _ (List.mem_of_getElem? (i := 29) rfl)) (hw _ (List.mem_of_getElem? (i := 28) rfl)) (hw _ (List.mem_of_getElem? (i := 3) rfl)) (hw _ (List.mem_of_getElem? (i := 30) rfl)) (by decide) F2167 (rm5_169 l Z a0 hw [] b2122 b2164 k2164 v2165 v2166 v1765 (updF (updF (fun _ => 0) v1.toNatClampNeg ((fun _ => 0) v1.toNatClampNeg + 1)) v1.toNatClampNeg ((updF (fun _ => 0) v1.toNatClampNeg ((fun _ => 0) v1.toNatClampNeg + 1)) v1.toNatClampNeg + 1)) T2164.heap n0 Z2179 F2167 F2168 F2169 F2170 F2171 g_b2122 g_b2164 lt2178 hI2172 hI2173 hI2174 hI2175 HZ2176 hT2181 hT2196) (by decide) (by decide) rfl (by rw [hml]; rfl) (argsL := [(.int v1765)]) (rest := []) (lenOf pd_5 rfl) rfl (W := 0) (Nat.le_refl _) rfl (hb hby at_97) (by decide) (by decide) (pc' := 100) rfl (fun T2180 L2180 r2180 X2180 q2180 => ?_)
   obtain ⟨N2180, b2180, k2180, v2211, v2212, rfl, F2213, F2214, F2215, F2216, F2217, g_b2180, lt2224, Z2225, hI2218, hI2219, hI2220, hI2221, HZ2222⟩ := q2180
   have N2180' := Fr.app N2164' N2180
   show KEnds p e below s _ _ _ T2180 (mkF m 100 #[iv i0, iv i1, iv i2, iv i3, iv v1, iv (2 : Int32), iv v1765, iv (2 : Int32), iv v2120, iv v2121, rv b2122, .unset, .unset, .unset] [])
   refine k_iload X2180 hx (hb hby at_100) rfl (pc' := 102) rfl ?_
   refine k_iconst X2180 hx (hb hby at_102) (pc' := 103) rfl (z := (2 : Int32)) rfl ?_
   refine k_icmp_lt X2180 hx (hb hby at_103) (pn := 106) rfl (py := 113) (by decide) (fun hc => absurd hc (by decide)) (fun _ => ?_)
   refine k_aload X2180 hx (hb hby at_106) rfl rfl (pc' := 108) rfl ?_
   refine k_iload X2180 hx (hb hby at_108) rfl (pc' := 110) rfl ?_
   refine k_callV X2180 hx hZ hown (a := b2122) (hw _ (List.mem_of_getElem? (i := 26) rfl)) (hw _ (List.mem_of_getElem? (i := 27) rfl)) (hw _ (List.mem_of_getElem? (i := 29) rfl)) (hw _ (List.mem_of_getElem? (i := 28) rfl)) (hw _ (List.mem_of_getElem? (i := 3) rfl)) (hw _ (List.mem_of_getElem? (i := 30) rfl)) (by decide) F2213 (rm5_169 l Z a0 hw [] b2122 b2180 k2180 v2211 v2212 v1765 (updF (updF (updF (fun _ => 0) v1.toNatClampNeg ((fun _ => 0) v1.toNatClampNeg + 1)) v1.toNatClampNeg ((updF (fun _ => 0) v1.toNatClampNeg ((fun _ => 0) v1.toNatClampNeg + 1)) v1.toNatClampNeg + 1)) v1765.toNatClampNeg ((updF (updF (fun _ => 0) v1.toNatClampNeg ((fun _ => 0) v1.toNatClampNeg + 1)) v1.toNatClampNeg ((updF (fun _ => 0) v1.toNatClampNeg ((fun _ => 0) v1.toNatClampNeg + 1)) v1.toNatClampNeg + 1)) v1765.toNatClampNeg + 1)) T2180.heap n0 Z2225 F2213 F2214 F2215 F2216 F2217 g_b2122 g_b2180 lt2224 hI2218 hI2219 hI2220 hI2221 HZ2222 hT2181 hT2196) (by decide) (by decide) rfl (by rw [hml]; rfl) (argsL := [(.int v1765)]) (rest := []) (lenOf pd_5 rfl) rfl (W := 0) (Nat.le_refl _) rfl (hb hby at_110) (by decide) (by decide) (pc' := 113) rfl (fun T2226 L2226 r2226 X2226 q2226 => ?_)
   obtain ⟨N2226, b2226, k2226, v2227, v2228, rfl, F2229, F2230, F2231, F2232, F2233, g_b2226, lt2240, Z2241, hI2234, hI2235, hI2236, hI2237, HZ2238⟩ := q2226
   have N2226' := Fr.app N2180' N2226
   show KEnds p e below s _ _ _ T2226 (mkF m 113 #[iv i0, iv i1, iv i2, iv i3, iv v1, iv (2 : Int32), iv v1765, iv (2 : Int32), iv v2120, iv v2121, rv b2122, .unset, .unset, .unset] [])
   refine k_iload X2226 hx (hb hby at_113) rfl (pc' := 115) rfl ?_
   refine k_iconst X2226 hx (hb hby at_115) (pc' := 116) rfl (z := (3 : Int32)) rfl ?_
   refine k_icmp_lt X2226 hx (hb hby at_116) (pn := 119) rfl (py := 126) (by decide) (fun _ => ?_) (fun hc => absurd (by decide) hc)
   refine k_aload X2226 hx (hb hby at_126) rfl rfl (pc' := 128) rfl ?_
   refine k_iload X2226 hx (hb hby at_128) rfl (pc' := 130) rfl ?_
   have hp2242 : ¬ v2120 < (0 : Int32) := by
    intro hq2243
    have B2246 : (-2147483648 : Int) ≤ i0.toInt ∧ i0.toInt ≤ 2147483647 := ⟨(rng32 i0).1, Int.le_of_lt_add_one (rng32 i0).2⟩
    have q2245 : v1.toInt = i0.toInt % 16 := (by rw [hv1]; exact c_mask _ _ 4 (by decide) (by decide))
    have B2244 : (0 : Int) ≤ v1.toInt ∧ v1.toInt ≤ 15 := (by rw [q2245]; exact k_modB (by decide))
    have B2247 : (0 : Int) ≤ v2149.toInt ∧ v2149.toInt ≤ 30 := ⟨k_ge hI2156 (by decide), k_le hI2157 (by decide)⟩
    have B2248 : (0 : Int) ≤ v2150.toInt ∧ v2150.toInt ≤ 2147483647 := ⟨k_ge hI2158 (by decide), Int.le_of_lt_add_one (rng32 v2150).2⟩
    have q2249 := hI2159; rw [Int32.lt_iff_toInt_lt] at q2249
    have B2250 : (0 : Int) ≤ v2165.toInt ∧ v2165.toInt ≤ 30 := ⟨k_ge hI2172 (by decide), k_le hI2173 (by decide)⟩
    have B2251 : (0 : Int) ≤ v2166.toInt ∧ v2166.toInt ≤ 2147483647 := ⟨k_ge hI2174 (by decide), Int.le_of_lt_add_one (rng32 v2166).2⟩
    have q2252 := hI2175; rw [Int32.lt_iff_toInt_lt] at q2252
    have B2255 : (-2147483648 : Int) ≤ i1.toInt ∧ i1.toInt ≤ 2147483647 := ⟨(rng32 i1).1, Int.le_of_lt_add_one (rng32 i1).2⟩
    have q2254 : v1765.toInt = i1.toInt % 16 := (by rw [hv1765]; exact c_mask _ _ 4 (by decide) (by decide))
    have B2253 : (0 : Int) ≤ v1765.toInt ∧ v1765.toInt ≤ 15 := (by rw [q2254]; exact k_modB (by decide))
    have B2256 : (0 : Int) ≤ v2211.toInt ∧ v2211.toInt ≤ 30 := ⟨k_ge hI2218 (by decide), k_le hI2219 (by decide)⟩
    have B2257 : (0 : Int) ≤ v2212.toInt ∧ v2212.toInt ≤ 2147483647 := ⟨k_ge hI2220 (by decide), Int.le_of_lt_add_one (rng32 v2212).2⟩
    have q2258 := hI2221; rw [Int32.lt_iff_toInt_lt] at q2258
    have B2259 : (0 : Int) ≤ v2227.toInt ∧ v2227.toInt ≤ 30 := ⟨k_ge hI2234 (by decide), k_le hI2235 (by decide)⟩
    have B2260 : (0 : Int) ≤ v2228.toInt ∧ v2228.toInt ≤ 2147483647 := ⟨k_ge hI2236 (by decide), Int.le_of_lt_add_one (rng32 v2228).2⟩
    have q2261 := hI2237; rw [Int32.lt_iff_toInt_lt] at q2261
    have B2264 : (-2147483648 : Int) ≤ i2.toInt ∧ i2.toInt ≤ 2147483647 := ⟨(rng32 i2).1, Int.le_of_lt_add_one (rng32 i2).2⟩
    have q2263 : v2120.toInt = i2.toInt % 32 := (by rw [hv2120]; exact c_mask _ _ 5 (by decide) (by decide))
    have B2262 : (0 : Int) ≤ v2120.toInt ∧ v2120.toInt ≤ 31 := (by rw [q2263]; exact k_modB (by decide))
    have B2265 : (0 : Int) ≤ v2120.toInt ∧ v2120.toInt ≤ -1 := ⟨B2262.1, k_lt hq2243 (by decide)⟩
    omega
   refine k_callV X2226 hx hZ hown (a := b2122) (hw _ (List.mem_of_getElem? (i := 15) rfl)) (hw _ (List.mem_of_getElem? (i := 16) rfl)) (hw _ (List.mem_of_getElem? (i := 18) rfl)) (hw _ (List.mem_of_getElem? (i := 17) rfl)) (hw _ (List.mem_of_getElem? (i := 3) rfl)) (hw _ (List.mem_of_getElem? (i := 19) rfl)) (by decide) F2229 (rm3_631 l Z a0 hw [] b2122 v2120 b2226 v2228 k2226 v2227 (updF (updF (updF (updF (fun _ => 0) v1.toNatClampNeg ((fun _ => 0) v1.toNatClampNeg + 1)) v1.toNatClampNeg ((updF (fun _ => 0) v1.toNatClampNeg ((fun _ => 0) v1.toNatClampNeg + 1)) v1.toNatClampNeg + 1)) v1765.toNatClampNeg ((updF (updF (fun _ => 0) v1.toNatClampNeg ((fun _ => 0) v1.toNatClampNeg + 1)) v1.toNatClampNeg ((updF (fun _ => 0) v1.toNatClampNeg ((fun _ => 0) v1.toNatClampNeg + 1)) v1.toNatClampNeg + 1)) v1765.toNatClampNeg + 1)) v1765.toNatClampNeg ((updF (updF (updF (fun _ => 0) v1.toNatClampNeg ((fun _ => 0) v1.toNatClampNeg + 1)) v1.toNatClampNeg ((updF (fun _ => 0) v1.toNatClampNeg ((fun _ => 0) v1.toNatClampNeg + 1)) v1.toNatClampNeg + 1)) v1765.toNatClampNeg ((updF (updF (fun _ => 0) v1.toNatClampNeg ((fun _ => 0) v1.toNatClampNeg + 1)) v1.toNatClampNeg ((updF (fun _ => 0) v1.toNatClampNeg ((fun _ => 0) v1.toNatClampNeg + 1)) v1.toNatClampNeg + 1)) v1765.toNatClampNeg + 1)) v1765.toNatClampNeg + 1)) T2226.heap n0 Z2241 F2229 F2230 F2231 F2232 F2233 lt2240 hp2242 hI2237 HZ2238) (by decide) (by decide) rfl (by rw [hml]; rfl) (argsL := [(.int v2120)]) (rest := []) (lenOf pd_1 rfl) rfl (W := 0) (Nat.le_refl _) rfl (hb hby at_130) (by decide) (by decide) (pc' := 133) rfl (fun T2266 L2266 r2266 X2266 q2266 => ?_)
   obtain ⟨N2266, e2266, v2267, rfl, hS2268⟩ := q2266
   have N2266' := Fr.app N2226' N2266
   show KEnds p e below s _ _ _ T2266 (mkF m 133 #[iv i0, iv i1, iv i2, iv i3, iv v1, iv (2 : Int32), iv v1765, iv (2 : Int32), iv v2120, iv v2121, rv b2122, .unset, .unset, .unset] [(.int v2267)])
   refine k_iload X2266 hx (hb hby at_133) rfl (pc' := 135) rfl ?_
   refine k_iload X2266 hx (hb hby at_135) rfl (pc' := 137) rfl ?_
   refine k_iload X2266 hx (hb hby at_137) rfl (pc' := 139) rfl ?_
   refine k_iload X2266 hx (hb hby at_139) rfl (pc' := 141) rfl ?_
   refine k_iload X2266 hx (hb hby at_141) rfl (pc' := 143) rfl ?_
   refine k_callS X2266 hx hZ hown (hw _ (List.mem_of_getElem? (i := 22) rfl)) (hw _ (List.mem_of_getElem? (i := 23) rfl)) (hw _ (List.mem_of_getElem? (i := 24) rfl)) (hw _ (List.mem_of_getElem? (i := 25) rfl)) (by decide) (rm4_2269 l Z a0 hw [] v2120 v1 v1765 T2226.heap n0 Z2241 ) (by decide) (by decide) e2266 (by rw [hml]; rfl) (argsL := [(.int v2120), (.int v1), (.int (2 : Int32)), (.int v1765), (.int (2 : Int32))]) (rest := [(.int v2267)]) (lenOf pd_2 rfl) rfl (W := 1) (Nat.le_refl _) rfl (hb hby at_143) (by decide) (by decide) (pc' := 146) rfl (fun T2273 L2273 r2273 X2273 q2273 => ?_)
   obtain ⟨N2273, e2273, rfl⟩ := q2273
   have N2273' := Fr.app N2266' N2273
   show KEnds p e below s _ _ _ T2273 (mkF m 146 #[iv i0, iv i1, iv i2, iv i3, iv v1, iv (2 : Int32), iv v1765, iv (2 : Int32), iv v2120, iv v2121, rv b2122, .unset, .unset, .unset] ((.int (f4_2269 v2120 v1 v1765)) :: (.int v2267) :: []))
   obtain ⟨v2274, hv2274⟩ : ∃ z, z = f4_2269 v2120 v1 v1765 := ⟨_, rfl⟩
   rw [← hv2274]
   refine k_icmp_ne X2273 hx (hb hby at_146) (pn := 149) rfl (py := 153) (by decide) (fun hc => absurd (by rw [hS2268, hv2274]; exact own_fin_30 v2120 v1 v1765 hp2242 hT2137 hT2181) hc) (fun _ => ?_)
   refine k_iconst X2273 hx (hb hby at_149) (pc' := 150) rfl (z := (1 : Int32)) rfl ?_
   refine k_goto X2273 hx (hb hby at_150) (pc' := 154) (by decide) ?_
   refine k_istore X2273 hx (hb hby at_154) (Ls' := #[iv i0, iv i1, iv i2, iv i3, iv v1, iv (2 : Int32), iv v1765, iv (2 : Int32), iv v2120, iv v2121, rv b2122, iv (1 : Int32), .unset, .unset]) rfl (pc' := 156) rfl ?_
   refine k_aload X2273 hx (hb hby at_156) rfl rfl (pc' := 158) rfl ?_
   refine k_iload X2273 hx (hb hby at_158) rfl (pc' := 160) rfl ?_
   have hp2275 : ¬ v2121 < (0 : Int32) := by
    intro hq2276
    have B2279 : (-2147483648 : Int) ≤ i0.toInt ∧ i0.toInt ≤ 2147483647 := ⟨(rng32 i0).1, Int.le_of_lt_add_one (rng32 i0).2⟩
    have q2278 : v1.toInt = i0.toInt % 16 := (by rw [hv1]; exact c_mask _ _ 4 (by decide) (by decide))
    have B2277 : (0 : Int) ≤ v1.toInt ∧ v1.toInt ≤ 15 := (by rw [q2278]; exact k_modB (by decide))
    have B2280 : (0 : Int) ≤ v2149.toInt ∧ v2149.toInt ≤ 30 := ⟨k_ge hI2156 (by decide), k_le hI2157 (by decide)⟩
    have B2281 : (0 : Int) ≤ v2150.toInt ∧ v2150.toInt ≤ 2147483647 := ⟨k_ge hI2158 (by decide), Int.le_of_lt_add_one (rng32 v2150).2⟩
    have q2282 := hI2159; rw [Int32.lt_iff_toInt_lt] at q2282
    have B2283 : (0 : Int) ≤ v2165.toInt ∧ v2165.toInt ≤ 30 := ⟨k_ge hI2172 (by decide), k_le hI2173 (by decide)⟩
    have B2284 : (0 : Int) ≤ v2166.toInt ∧ v2166.toInt ≤ 2147483647 := ⟨k_ge hI2174 (by decide), Int.le_of_lt_add_one (rng32 v2166).2⟩
    have q2285 := hI2175; rw [Int32.lt_iff_toInt_lt] at q2285
    have B2288 : (-2147483648 : Int) ≤ i1.toInt ∧ i1.toInt ≤ 2147483647 := ⟨(rng32 i1).1, Int.le_of_lt_add_one (rng32 i1).2⟩
    have q2287 : v1765.toInt = i1.toInt % 16 := (by rw [hv1765]; exact c_mask _ _ 4 (by decide) (by decide))
    have B2286 : (0 : Int) ≤ v1765.toInt ∧ v1765.toInt ≤ 15 := (by rw [q2287]; exact k_modB (by decide))
    have B2289 : (0 : Int) ≤ v2211.toInt ∧ v2211.toInt ≤ 30 := ⟨k_ge hI2218 (by decide), k_le hI2219 (by decide)⟩
    have B2290 : (0 : Int) ≤ v2212.toInt ∧ v2212.toInt ≤ 2147483647 := ⟨k_ge hI2220 (by decide), Int.le_of_lt_add_one (rng32 v2212).2⟩
    have q2291 := hI2221; rw [Int32.lt_iff_toInt_lt] at q2291
    have B2292 : (0 : Int) ≤ v2227.toInt ∧ v2227.toInt ≤ 30 := ⟨k_ge hI2234 (by decide), k_le hI2235 (by decide)⟩
    have B2293 : (0 : Int) ≤ v2228.toInt ∧ v2228.toInt ≤ 2147483647 := ⟨k_ge hI2236 (by decide), Int.le_of_lt_add_one (rng32 v2228).2⟩
    have q2294 := hI2237; rw [Int32.lt_iff_toInt_lt] at q2294
    have B2297 : (-2147483648 : Int) ≤ i2.toInt ∧ i2.toInt ≤ 2147483647 := ⟨(rng32 i2).1, Int.le_of_lt_add_one (rng32 i2).2⟩
    have q2296 : v2120.toInt = i2.toInt % 32 := (by rw [hv2120]; exact c_mask _ _ 5 (by decide) (by decide))
    have B2295 : (0 : Int) ≤ v2120.toInt ∧ v2120.toInt ≤ 31 := (by rw [q2296]; exact k_modB (by decide))
    have B2300 : (-2147483648 : Int) ≤ i3.toInt ∧ i3.toInt ≤ 2147483647 := ⟨(rng32 i3).1, Int.le_of_lt_add_one (rng32 i3).2⟩
    have q2299 : v2121.toInt = i3.toInt % 2147483648 := (by rw [hv2121]; exact c_mask _ _ 31 (by decide) (by decide))
    have B2298 : (0 : Int) ≤ v2121.toInt ∧ v2121.toInt ≤ 2147483647 := (by rw [q2299]; exact k_modB (by decide))
    have B2301 : (0 : Int) ≤ v2121.toInt ∧ v2121.toInt ≤ -1 := ⟨B2298.1, k_lt hq2276 (by decide)⟩
    omega
   refine k_callV X2273 hx hZ hown (a := b2122) (hw _ (List.mem_of_getElem? (i := 15) rfl)) (hw _ (List.mem_of_getElem? (i := 16) rfl)) (hw _ (List.mem_of_getElem? (i := 18) rfl)) (hw _ (List.mem_of_getElem? (i := 17) rfl)) (hw _ (List.mem_of_getElem? (i := 3) rfl)) (hw _ (List.mem_of_getElem? (i := 19) rfl)) (by decide) F2229 (rm3_631 l Z a0 hw [] b2122 v2121 b2226 v2228 k2226 v2227 (updF (updF (updF (updF (fun _ => 0) v1.toNatClampNeg ((fun _ => 0) v1.toNatClampNeg + 1)) v1.toNatClampNeg ((updF (fun _ => 0) v1.toNatClampNeg ((fun _ => 0) v1.toNatClampNeg + 1)) v1.toNatClampNeg + 1)) v1765.toNatClampNeg ((updF (updF (fun _ => 0) v1.toNatClampNeg ((fun _ => 0) v1.toNatClampNeg + 1)) v1.toNatClampNeg ((updF (fun _ => 0) v1.toNatClampNeg ((fun _ => 0) v1.toNatClampNeg + 1)) v1.toNatClampNeg + 1)) v1765.toNatClampNeg + 1)) v1765.toNatClampNeg ((updF (updF (updF (fun _ => 0) v1.toNatClampNeg ((fun _ => 0) v1.toNatClampNeg + 1)) v1.toNatClampNeg ((updF (fun _ => 0) v1.toNatClampNeg ((fun _ => 0) v1.toNatClampNeg + 1)) v1.toNatClampNeg + 1)) v1765.toNatClampNeg ((updF (updF (fun _ => 0) v1.toNatClampNeg ((fun _ => 0) v1.toNatClampNeg + 1)) v1.toNatClampNeg ((updF (fun _ => 0) v1.toNatClampNeg ((fun _ => 0) v1.toNatClampNeg + 1)) v1.toNatClampNeg + 1)) v1765.toNatClampNeg + 1)) v1765.toNatClampNeg + 1)) T2226.heap n0 Z2241 F2229 F2230 F2231 F2232 F2233 lt2240 hp2275 hI2237 HZ2238) (by decide) (by decide) e2273 (by rw [hml]; rfl) (argsL := [(.int v2121)]) (rest := []) (lenOf pd_1 rfl) rfl (W := 0) (Nat.le_refl _) rfl (hb hby at_160) (by decide) (by decide) (pc' := 163) rfl (fun T2302 L2302 r2302 X2302 q2302 => ?_)
   obtain ⟨N2302, e2302, v2303, rfl, hS2304⟩ := q2302
   have N2302' := Fr.app N2273' N2302
   show KEnds p e below s _ _ _ T2302 (mkF m 163 #[iv i0, iv i1, iv i2, iv i3, iv v1, iv (2 : Int32), iv v1765, iv (2 : Int32), iv v2120, iv v2121, rv b2122, iv (1 : Int32), .unset, .unset] [(.int v2303)])
   refine k_iload X2302 hx (hb hby at_163) rfl (pc' := 165) rfl ?_
   refine k_iload X2302 hx (hb hby at_165) rfl (pc' := 167) rfl ?_
   refine k_iload X2302 hx (hb hby at_167) rfl (pc' := 169) rfl ?_
   refine k_iload X2302 hx (hb hby at_169) rfl (pc' := 171) rfl ?_
   refine k_iload X2302 hx (hb hby at_171) rfl (pc' := 173) rfl ?_
   refine k_callS X2302 hx hZ hown (hw _ (List.mem_of_getElem? (i := 22) rfl)) (hw _ (List.mem_of_getElem? (i := 23) rfl)) (hw _ (List.mem_of_getElem? (i := 24) rfl)) (hw _ (List.mem_of_getElem? (i := 25) rfl)) (by decide) (rm4_2269 l Z a0 hw [] v2121 v1 v1765 T2226.heap n0 Z2241 ) (by decide) (by decide) e2302 (by rw [hml]; rfl) (argsL := [(.int v2121), (.int v1), (.int (2 : Int32)), (.int v1765), (.int (2 : Int32))]) (rest := [(.int v2303)]) (lenOf pd_2 rfl) rfl (W := 1) (Nat.le_refl _) rfl (hb hby at_173) (by decide) (by decide) (pc' := 176) rfl (fun T2305 L2305 r2305 X2305 q2305 => ?_)
   obtain ⟨N2305, e2305, rfl⟩ := q2305
   have N2305' := Fr.app N2302' N2305
   show KEnds p e below s _ _ _ T2305 (mkF m 176 #[iv i0, iv i1, iv i2, iv i3, iv v1, iv (2 : Int32), iv v1765, iv (2 : Int32), iv v2120, iv v2121, rv b2122, iv (1 : Int32), .unset, .unset] ((.int (f4_2269 v2121 v1 v1765)) :: (.int v2303) :: []))
   obtain ⟨v2306, hv2306⟩ : ∃ z, z = f4_2269 v2121 v1 v1765 := ⟨_, rfl⟩
   rw [← hv2306]
   refine k_icmp_ne X2305 hx (hb hby at_176) (pn := 179) rfl (py := 183) (by decide) (fun hc => absurd (by rw [hS2304, hv2306]; exact own_fin_31 v2121 v1 v1765 hp2275 hT2137 hT2181) hc) (fun _ => ?_)
   refine k_iconst X2305 hx (hb hby at_179) (pc' := 180) rfl (z := (1 : Int32)) rfl ?_
   refine k_goto X2305 hx (hb hby at_180) (pc' := 184) (by decide) ?_
   refine k_istore X2305 hx (hb hby at_184) (Ls' := #[iv i0, iv i1, iv i2, iv i3, iv v1, iv (2 : Int32), iv v1765, iv (2 : Int32), iv v2120, iv v2121, rv b2122, iv (1 : Int32), iv (1 : Int32), .unset]) rfl (pc' := 186) rfl ?_
   refine k_aload X2305 hx (hb hby at_186) rfl rfl (pc' := 188) rfl ?_
   refine k_iload X2305 hx (hb hby at_188) rfl (pc' := 190) rfl ?_
   refine k_callV X2305 hx hZ hown (a := b2122) (hw _ (List.mem_of_getElem? (i := 15) rfl)) (hw _ (List.mem_of_getElem? (i := 16) rfl)) (hw _ (List.mem_of_getElem? (i := 18) rfl)) (hw _ (List.mem_of_getElem? (i := 17) rfl)) (hw _ (List.mem_of_getElem? (i := 3) rfl)) (hw _ (List.mem_of_getElem? (i := 19) rfl)) (by decide) F2229 (rm3_631 l Z a0 hw [] b2122 v1 b2226 v2228 k2226 v2227 (updF (updF (updF (updF (fun _ => 0) v1.toNatClampNeg ((fun _ => 0) v1.toNatClampNeg + 1)) v1.toNatClampNeg ((updF (fun _ => 0) v1.toNatClampNeg ((fun _ => 0) v1.toNatClampNeg + 1)) v1.toNatClampNeg + 1)) v1765.toNatClampNeg ((updF (updF (fun _ => 0) v1.toNatClampNeg ((fun _ => 0) v1.toNatClampNeg + 1)) v1.toNatClampNeg ((updF (fun _ => 0) v1.toNatClampNeg ((fun _ => 0) v1.toNatClampNeg + 1)) v1.toNatClampNeg + 1)) v1765.toNatClampNeg + 1)) v1765.toNatClampNeg ((updF (updF (updF (fun _ => 0) v1.toNatClampNeg ((fun _ => 0) v1.toNatClampNeg + 1)) v1.toNatClampNeg ((updF (fun _ => 0) v1.toNatClampNeg ((fun _ => 0) v1.toNatClampNeg + 1)) v1.toNatClampNeg + 1)) v1765.toNatClampNeg ((updF (updF (fun _ => 0) v1.toNatClampNeg ((fun _ => 0) v1.toNatClampNeg + 1)) v1.toNatClampNeg ((updF (fun _ => 0) v1.toNatClampNeg ((fun _ => 0) v1.toNatClampNeg + 1)) v1.toNatClampNeg + 1)) v1765.toNatClampNeg + 1)) v1765.toNatClampNeg + 1)) T2226.heap n0 Z2241 F2229 F2230 F2231 F2232 F2233 lt2240 hT2137 hI2237 HZ2238) (by decide) (by decide) e2305 (by rw [hml]; rfl) (argsL := [(.int v1)]) (rest := []) (lenOf pd_1 rfl) rfl (W := 0) (Nat.le_refl _) rfl (hb hby at_190) (by decide) (by decide) (pc' := 193) rfl (fun T2307 L2307 r2307 X2307 q2307 => ?_)
   obtain ⟨N2307, e2307, v2308, rfl, hS2309⟩ := q2307
   have N2307' := Fr.app N2305' N2307
   show KEnds p e below s _ _ _ T2307 (mkF m 193 #[iv i0, iv i1, iv i2, iv i3, iv v1, iv (2 : Int32), iv v1765, iv (2 : Int32), iv v2120, iv v2121, rv b2122, iv (1 : Int32), iv (1 : Int32), .unset] [(.int v2308)])
   refine k_iload X2307 hx (hb hby at_193) rfl (pc' := 195) rfl ?_
   refine k_iload X2307 hx (hb hby at_195) rfl (pc' := 197) rfl ?_
   refine k_iload X2307 hx (hb hby at_197) rfl (pc' := 199) rfl ?_
   refine k_iload X2307 hx (hb hby at_199) rfl (pc' := 201) rfl ?_
   refine k_iload X2307 hx (hb hby at_201) rfl (pc' := 203) rfl ?_
   refine k_callS X2307 hx hZ hown (hw _ (List.mem_of_getElem? (i := 22) rfl)) (hw _ (List.mem_of_getElem? (i := 23) rfl)) (hw _ (List.mem_of_getElem? (i := 24) rfl)) (hw _ (List.mem_of_getElem? (i := 25) rfl)) (by decide) (rm4_2310 l Z a0 hw [] v1 v1765 T2226.heap n0 Z2241 ) (by decide) (by decide) e2307 (by rw [hml]; rfl) (argsL := [(.int v1), (.int v1), (.int (2 : Int32)), (.int v1765), (.int (2 : Int32))]) (rest := [(.int v2308)]) (lenOf pd_2 rfl) rfl (W := 1) (Nat.le_refl _) rfl (hb hby at_203) (by decide) (by decide) (pc' := 206) rfl (fun T2312 L2312 r2312 X2312 q2312 => ?_)
   obtain ⟨N2312, e2312, rfl⟩ := q2312
   have N2312' := Fr.app N2307' N2312
   show KEnds p e below s _ _ _ T2312 (mkF m 206 #[iv i0, iv i1, iv i2, iv i3, iv v1, iv (2 : Int32), iv v1765, iv (2 : Int32), iv v2120, iv v2121, rv b2122, iv (1 : Int32), iv (1 : Int32), .unset] ((.int (f4_2310 v1 v1765)) :: (.int v2308) :: []))
   obtain ⟨v2313, hv2313⟩ : ∃ z, z = f4_2310 v1 v1765 := ⟨_, rfl⟩
   rw [← hv2313]
   refine k_icmp_ne X2312 hx (hb hby at_206) (pn := 209) rfl (py := 213) (by decide) (fun hc => absurd (by rw [hS2309, hv2313]; exact own_fin_32 v1 v1765 hT2137 hT2137 hT2181) hc) (fun _ => ?_)
   refine k_iconst X2312 hx (hb hby at_209) (pc' := 210) rfl (z := (1 : Int32)) rfl ?_
   refine k_goto X2312 hx (hb hby at_210) (pc' := 214) (by decide) ?_
   refine k_istore X2312 hx (hb hby at_214) (Ls' := #[iv i0, iv i1, iv i2, iv i3, iv v1, iv (2 : Int32), iv v1765, iv (2 : Int32), iv v2120, iv v2121, rv b2122, iv (1 : Int32), iv (1 : Int32), iv (1 : Int32)]) rfl (pc' := 216) rfl ?_
   refine k_iload X2312 hx (hb hby at_216) rfl (pc' := 218) rfl ?_
   refine k_if_eq X2312 hx (hb hby at_218) (pn := 221) rfl (py := 235) (by decide) (fun hc => absurd hc (by decide)) (fun _ => ?_)
   refine k_iload X2312 hx (hb hby at_221) rfl (pc' := 223) rfl ?_
   refine k_if_eq X2312 hx (hb hby at_223) (pn := 226) rfl (py := 235) (by decide) (fun hc => absurd hc (by decide)) (fun _ => ?_)
   refine k_iload X2312 hx (hb hby at_226) rfl (pc' := 228) rfl ?_
   refine k_if_eq X2312 hx (hb hby at_228) (pn := 231) rfl (py := 235) (by decide) (fun hc => absurd hc (by decide)) (fun _ => ?_)
   refine k_iconst X2312 hx (hb hby at_231) (pc' := 232) rfl (z := (1 : Int32)) rfl ?_
   refine k_goto X2312 hx (hb hby at_232) (pc' := 236) (by decide) ?_
   exact k_retN X2312 hx (t := .boolean) Bd.returns (by simp) (hb hby at_236) hlk (by decide) (by decide) (z' := (1 : Int32)) rfl ⟨rfl, N2312'⟩
  ·
   show KEnds p e below s _ _ _ s₁ (mkF m 24 #[iv i0, iv i1, iv i2, iv i3, iv v1, iv (2 : Int32), iv v1765, .unset, .unset, .unset, .unset, .unset, .unset, .unset] [(.int (3 : Int32))])
   refine k_istore X0 hx (hb hby at_24) (Ls' := #[iv i0, iv i1, iv i2, iv i3, iv v1, iv (2 : Int32), iv v1765, iv (3 : Int32), .unset, .unset, .unset, .unset, .unset, .unset]) rfl (pc' := 26) rfl ?_
   refine k_iloadN X0 hx (hb hby at_26) rfl (pc' := 27) rfl ?_
   refine k_bipush X0 hx (hb hby at_27) (pc' := 29) rfl (z := (31 : Int32)) rfl ?_
   refine k_iand X0 hx (hb hby at_29) (pc' := 30) rfl (fun v2315 hv2315 => ?_)
   refine k_istore X0 hx (hb hby at_30) (Ls' := #[iv i0, iv i1, iv i2, iv i3, iv v1, iv (2 : Int32), iv v1765, iv (3 : Int32), iv v2315, .unset, .unset, .unset, .unset, .unset]) rfl (pc' := 32) rfl ?_
   refine k_iloadN X0 hx (hb hby at_32) rfl (pc' := 33) rfl ?_
   refine k_ldc X0 hx hZ hown (hw _ (List.mem_of_getElem? (i := 0) rfl)) (hb hby at_33) (pc' := 35) rfl ?_
   refine k_iand X0 hx (hb hby at_35) (pc' := 36) rfl (fun v2316 hv2316 => ?_)
   refine k_istore X0 hx (hb hby at_36) (Ls' := #[iv i0, iv i1, iv i2, iv i3, iv v1, iv (2 : Int32), iv v1765, iv (3 : Int32), iv v2315, iv v2316, .unset, .unset, .unset, .unset]) rfl (pc' := 38) rfl ?_
   refine k_newO X0 hx hZ hown (hw _ (List.mem_of_getElem? (i := 1) rfl)) (hw _ (List.mem_of_getElem? (i := 2) rfl)) (hw _ (List.mem_of_getElem? (i := 3) rfl)) e0 (hb hby at_38) (by decide) (by decide) (pc' := 41) rfl (fun T2317 h2317 b2317 g2317 X2317 e2317 E2317 A2317 D2317 => ?_)
   have g_b2317 : n0 ≤ b2317 := Nat.le_trans Z0 (Nat.le_of_eq g2317.symm)
   have Z2317 : n0 ≤ h2317.size := Nat.le_trans Z0 E2317.1
   have F2318 : Fld Z h2317 b2317 "com/example/dendrotick/dendrotick/VectorClock" "entries" "[I" .null := D2317 (Or.inl (hw _ (List.mem_of_getElem? (i := 12) rfl))) (ty := (.array .int)) (by decide)
   have F2319 : Fld Z h2317 b2317 "com/example/dendrotick/dendrotick/VectorClock" "work" "Lcom/example/dendrotick/dendrotick/ClockWork;" .null := D2317 (Or.inr (hw _ (List.mem_of_getElem? (i := 14) rfl))) (ty := (.object "com/example/dendrotick/dendrotick/ClockWork")) (by decide)
   have F2320 : Fld Z h2317 b2317 "com/example/dendrotick/dendrotick/VectorClock" "size" "I" (.int (0 : Int32)) := D2317 (Or.inl (hw _ (List.mem_of_getElem? (i := 21) rfl))) (ty := .int) (by decide)
   refine k_dup X2317 hx (hb hby at_41) rfl (pc' := 42) rfl ?_
   refine k_anull X2317 hx (hb hby at_42) (pc' := 43) rfl ?_
   refine k_callI X2317 hx hZ hown (a := b2317) rfl (hw _ (List.mem_of_getElem? (i := 4) rfl)) (hw _ (List.mem_of_getElem? (i := 5) rfl)) (hw _ (List.mem_of_getElem? (i := 3) rfl)) (hw _ (List.mem_of_getElem? (i := 6) rfl)) rfl (by decide) (rm1_27 l Z a0 hw [] b2317 h2317 n0 Z2317 A2317 F2318 F2319 F2320 g_b2317) (by decide) (by decide) e2317 (by rw [hml]; rfl) (argsL := [.null]) (rest := [(.ref b2317)]) (lenOf pd_0 rfl) rfl (W := 1) (Nat.le_refl _) rfl (hb hby at_43) (by decide) (by decide) (pc' := 46) rfl (fun T2321 L2321 r2321 X2321 q2321 => ?_)
   obtain ⟨N2321, q2321⟩ := q2321
   have N2321' := Fr.app N0 N2321
   obtain ⟨b2322, k2323, rfl, F2324, F2325, F2326, F2327, F2328, g_b2322, lt2329, Z2330⟩ := q2321
   show KEnds p e below s _ _ _ T2321 (mkF m 46 #[iv i0, iv i1, iv i2, iv i3, iv v1, iv (2 : Int32), iv v1765, iv (3 : Int32), iv v2315, iv v2316, .unset, .unset, .unset, .unset] [(.ref b2317)])
   refine k_astore X2321 hx (hb hby at_46) rfl (Ls' := #[iv i0, iv i1, iv i2, iv i3, iv v1, iv (2 : Int32), iv v1765, iv (3 : Int32), iv v2315, iv v2316, rv b2317, .unset, .unset, .unset]) rfl (pc' := 48) rfl ?_
   refine k_iload X2321 hx (hb hby at_48) rfl (pc' := 50) rfl ?_
   refine k_iconst X2321 hx (hb hby at_50) (pc' := 51) rfl (z := (1 : Int32)) rfl ?_
   refine k_icmp_lt X2321 hx (hb hby at_51) (pn := 54) rfl (py := 61) (by decide) (fun hc => absurd hc (by decide)) (fun _ => ?_)
   refine k_aload X2321 hx (hb hby at_54) rfl rfl (pc' := 56) rfl ?_
   refine k_iload X2321 hx (hb hby at_56) rfl (pc' := 58) rfl ?_
   have hT2332 : ¬ v1 < (0 : Int32) := (by intro hq2333; have B2336 : (-2147483648 : Int) ≤ i0.toInt ∧ i0.toInt ≤ 2147483647 := ⟨(rng32 i0).1, Int.le_of_lt_add_one (rng32 i0).2⟩; have q2335 : v1.toInt = i0.toInt % 16 := (by rw [hv1]; exact c_mask _ _ 4 (by decide) (by decide)); have B2334 : (0 : Int) ≤ v1.toInt ∧ v1.toInt ≤ 15 := (by rw [q2335]; exact k_modB (by decide)); have B2337 : (0 : Int) ≤ v1.toInt ∧ v1.toInt ≤ -1 := ⟨B2334.1, k_lt hq2333 (by decide)⟩; omega)
   have hT2338 : ¬ (15 : Int32) < v1 := (by intro hq2339; have B2342 : (-2147483648 : Int) ≤ i0.toInt ∧ i0.toInt ≤ 2147483647 := ⟨(rng32 i0).1, Int.le_of_lt_add_one (rng32 i0).2⟩; have q2341 : v1.toInt = i0.toInt % 16 := (by rw [hv1]; exact c_mask _ _ 4 (by decide) (by decide)); have B2340 : (0 : Int) ≤ v1.toInt ∧ v1.toInt ≤ 15 := (by rw [q2341]; exact k_modB (by decide)); have B2343 : (16 : Int) ≤ v1.toInt ∧ v1.toInt ≤ 15 := ⟨k_gt hq2339 (by decide), B2340.2⟩; omega)
   refine k_callV X2321 hx hZ hown (a := b2317) (hw _ (List.mem_of_getElem? (i := 26) rfl)) (hw _ (List.mem_of_getElem? (i := 27) rfl)) (hw _ (List.mem_of_getElem? (i := 29) rfl)) (hw _ (List.mem_of_getElem? (i := 28) rfl)) (hw _ (List.mem_of_getElem? (i := 3) rfl)) (hw _ (List.mem_of_getElem? (i := 30) rfl)) (by decide) F2324 (rm5_169 l Z a0 hw [] b2317 b2322 k2323 (0 : Int32) (0 : Int32) v1 (fun _ => 0) T2321.heap n0 Z2330 F2324 F2325 F2326 F2327 F2328 g_b2317 g_b2322 lt2329 (by decide) (by decide) (by decide) (by decide) (fun _ _ => rfl) hT2332 hT2338) (by decide) (by decide) rfl (by rw [hml]; rfl) (argsL := [(.int v1)]) (rest := []) (lenOf pd_5 rfl) rfl (W := 0) (Nat.le_refl _) rfl (hb hby at_58) (by decide) (by decide) (pc' := 61) rfl (fun T2331 L2331 r2331 X2331 q2331 => ?_)
   obtain ⟨N2331, b2331, k2331, v2344, v2345, rfl, F2346, F2347, F2348, F2349, F2350, g_b2331, lt2357, Z2358, hI2351, hI2352, hI2353, hI2354, HZ2355⟩ := q2331
   have N2331' := Fr.app N2321' N2331
   show KEnds p e below s _ _ _ T2331 (mkF m 61 #[iv i0, iv i1, iv i2, iv i3, iv v1, iv (2 : Int32), iv v1765, iv (3 : Int32), iv v2315, iv v2316, rv b2317, .unset, .unset, .unset] [])
   refine k_iload X2331 hx (hb hby at_61) rfl (pc' := 63) rfl ?_
   refine k_iconst X2331 hx (hb hby at_63) (pc' := 64) rfl (z := (2 : Int32)) rfl ?_
   refine k_icmp_lt X2331 hx (hb hby at_64) (pn := 67) rfl (py := 74) (by decide) (fun hc => absurd hc (by decide)) (fun _ => ?_)
   refine k_aload X2331 hx (hb hby at_67) rfl rfl (pc' := 69) rfl ?_
   refine k_iload X2331 hx (hb hby at_69) rfl (pc' := 71) rfl ?_
   refine k_callV X2331 hx hZ hown (a := b2317) (hw _ (List.mem_of_getElem? (i := 26) rfl)) (hw _ (List.mem_of_getElem? (i := 27) rfl)) (hw _ (List.mem_of_getElem? (i := 29) rfl)) (hw _ (List.mem_of_getElem? (i := 28) rfl)) (hw _ (List.mem_of_getElem? (i := 3) rfl)) (hw _ (List.mem_of_getElem? (i := 30) rfl)) (by decide) F2346 (rm5_169 l Z a0 hw [] b2317 b2331 k2331 v2344 v2345 v1 (updF (fun _ => 0) v1.toNatClampNeg ((fun _ => 0) v1.toNatClampNeg + 1)) T2331.heap n0 Z2358 F2346 F2347 F2348 F2349 F2350 g_b2317 g_b2331 lt2357 hI2351 hI2352 hI2353 hI2354 HZ2355 hT2332 hT2338) (by decide) (by decide) rfl (by rw [hml]; rfl) (argsL := [(.int v1)]) (rest := []) (lenOf pd_5 rfl) rfl (W := 0) (Nat.le_refl _) rfl (hb hby at_71) (by decide) (by decide) (pc' := 74) rfl (fun T2359 L2359 r2359 X2359 q2359 => ?_)
   obtain ⟨N2359, b2359, k2359, v2360, v2361, rfl, F2362, F2363, F2364, F2365, F2366, g_b2359, lt2373, Z2374, hI2367, hI2368, hI2369, hI2370, HZ2371⟩ := q2359
   have N2359' := Fr.app N2331' N2359
   show KEnds p e below s _ _ _ T2359 (mkF m 74 #[iv i0, iv i1, iv i2, iv i3, iv v1, iv (2 : Int32), iv v1765, iv (3 : Int32), iv v2315, iv v2316, rv b2317, .unset, .unset, .unset] [])
   refine k_iload X2359 hx (hb hby at_74) rfl (pc' := 76) rfl ?_
   refine k_iconst X2359 hx (hb hby at_76) (pc' := 77) rfl (z := (3 : Int32)) rfl ?_
   refine k_icmp_lt X2359 hx (hb hby at_77) (pn := 80) rfl (py := 87) (by decide) (fun _ => ?_) (fun hc => absurd (by decide) hc)
   refine k_iload X2359 hx (hb hby at_87) rfl (pc' := 89) rfl ?_
   refine k_iconst X2359 hx (hb hby at_89) (pc' := 90) rfl (z := (1 : Int32)) rfl ?_
   refine k_icmp_lt X2359 hx (hb hby at_90) (pn := 93) rfl (py := 100) (by decide) (fun hc => absurd hc (by decide)) (fun _ => ?_)
   refine k_aload X2359 hx (hb hby at_93) rfl rfl (pc' := 95) rfl ?_
   refine k_iload X2359 hx (hb hby at_95) rfl (pc' := 97) rfl ?_
   have hT2376 : ¬ v1765 < (0 : Int32) := (by intro hq2377; have B2380 : (-2147483648 : Int) ≤ i0.toInt ∧ i0.toInt ≤ 2147483647 := ⟨(rng32 i0).1, Int.le_of_lt_add_one (rng32 i0).2⟩; have q2379 : v1.toInt = i0.toInt % 16 := (by rw [hv1]; exact c_mask _ _ 4 (by decide) (by decide)); have B2378 : (0 : Int) ≤ v1.toInt ∧ v1.toInt ≤ 15 := (by rw [q2379]; exact k_modB (by decide)); have B2381 : (0 : Int) ≤ v2344.toInt ∧ v2344.toInt ≤ 30 := ⟨k_ge hI2351 (by decide), k_le hI2352 (by decide)⟩; have B2382 : (0 : Int) ≤ v2345.toInt ∧ v2345.toInt ≤ 2147483647 := ⟨k_ge hI2353 (by decide), Int.le_of_lt_add_one (rng32 v2345).2⟩; have q2383 := hI2354; rw [Int32.lt_iff_toInt_lt] at q2383; have B2384 : (0 : Int) ≤ v2360.toInt ∧ v2360.toInt ≤ 30 := ⟨k_ge hI2367 (by decide), k_le hI2368 (by decide)⟩; have B2385 : (0 : Int) ≤ v2361.toInt ∧ v2361.toInt ≤ 2147483647 := ⟨k_ge hI2369 (by decide), Int.le_of_lt_add_one (rng32 v2361).2⟩; have q2386 := hI2370; rw [Int32.lt_iff_toInt_lt] at q2386; have B2389 : (-2147483648 : Int) ≤ i1.toInt ∧ i1.toInt ≤ 2147483647 := ⟨(rng32 i1).1, Int.le_of_lt_add_one (rng32 i1).2⟩; have q2388 : v1765.toInt = i1.toInt % 16 := (by rw [hv1765]; exact c_mask _ _ 4 (by decide) (by decide)); have B2387 : (0 : Int) ≤ v1765.toInt ∧ v1765.toInt ≤ 15 := (by rw [q2388]; exact k_modB (by decide)); have B2390 : (0 : Int) ≤ v1765.toInt ∧ v1765.toInt ≤ -1 := ⟨B2387.1, k_lt hq2377 (by decide)⟩; omega)
   have hT2391 : ¬ (15 : Int32) < v1765 := (by intro hq2392; have B2395 : (-2147483648 : Int) ≤ i0.toInt ∧ i0.toInt ≤ 2147483647 := ⟨(rng32 i0).1, Int.le_of_lt_add_one (rng32 i0).2⟩; have q2394 : v1.toInt = i0.toInt % 16 := (by rw [hv1]; exact c_mask _ _ 4 (by decide) (by decide)); have B2393 : (0 : Int) ≤ v1.toInt ∧ v1.toInt ≤ 15 := (by rw [q2394]; exact k_modB (by decide)); have B2396 : (0 : Int) ≤ v2344.toInt ∧ v2344.toInt ≤ 30 := ⟨k_ge hI2351 (by decide), k_le hI2352 (by decide)⟩; have B2397 : (0 : Int) ≤ v2345.toInt ∧ v2345.toInt ≤ 2147483647 := ⟨k_ge hI2353 (by decide), Int.le_of_lt_add_one (rng32 v2345).2⟩; have q2398 := hI2354; rw [Int32.lt_iff_toInt_lt] at q2398; have B2399 : (0 : Int) ≤ v2360.toInt ∧ v2360.toInt ≤ 30 := ⟨k_ge hI2367 (by decide), k_le hI2368 (by decide)⟩; have B2400 : (0 : Int) ≤ v2361.toInt ∧ v2361.toInt ≤ 2147483647 := ⟨k_ge hI2369 (by decide), Int.le_of_lt_add_one (rng32 v2361).2⟩; have q2401 := hI2370; rw [Int32.lt_iff_toInt_lt] at q2401; have B2404 : (-2147483648 : Int) ≤ i1.toInt ∧ i1.toInt ≤ 2147483647 := ⟨(rng32 i1).1, Int.le_of_lt_add_one (rng32 i1).2⟩; have q2403 : v1765.toInt = i1.toInt % 16 := (by rw [hv1765]; exact c_mask _ _ 4 (by decide) (by decide)); have B2402 : (0 : Int) ≤ v1765.toInt ∧ v1765.toInt ≤ 15 := (by rw [q2403]; exact k_modB (by decide)); have B2405 : (16 : Int) ≤ v1765.toInt ∧ v1765.toInt ≤ 15 := ⟨k_gt hq2392 (by decide), B2402.2⟩; omega)
   refine k_callV X2359 hx hZ hown (a := b2317) (hw _ (List.mem_of_getElem? (i := 26) rfl)) (hw _ (List.mem_of_getElem? (i := 27) rfl)) (hw _ (List.mem_of_getElem? (i := 29) rfl)) (hw _ (List.mem_of_getElem? (i := 28) rfl)) (hw _ (List.mem_of_getElem? (i := 3) rfl)) (hw _ (List.mem_of_getElem? (i := 30) rfl)) (by decide) F2362 (rm5_169 l Z a0 hw [] b2317 b2359 k2359 v2360 v2361 v1765 (updF (updF (fun _ => 0) v1.toNatClampNeg ((fun _ => 0) v1.toNatClampNeg + 1)) v1.toNatClampNeg ((updF (fun _ => 0) v1.toNatClampNeg ((fun _ => 0) v1.toNatClampNeg + 1)) v1.toNatClampNeg + 1)) T2359.heap n0 Z2374 F2362 F2363 F2364 F2365 F2366 g_b2317 g_b2359 lt2373 hI2367 hI2368 hI2369 hI2370 HZ2371 hT2376 hT2391) (by decide) (by decide) rfl (by rw [hml]; rfl) (argsL := [(.int v1765)]) (rest := []) (lenOf pd_5 rfl) rfl (W := 0) (Nat.le_refl _) rfl (hb hby at_97) (by decide) (by decide) (pc' := 100) rfl (fun T2375 L2375 r2375 X2375 q2375 => ?_)
   obtain ⟨N2375, b2375, k2375, v2406, v2407, rfl, F2408, F2409, F2410, F2411, F2412, g_b2375, lt2419, Z2420, hI2413, hI2414, hI2415, hI2416, HZ2417⟩ := q2375
   have N2375' := Fr.app N2359' N2375
   show KEnds p e below s _ _ _ T2375 (mkF m 100 #[iv i0, iv i1, iv i2, iv i3, iv v1, iv (2 : Int32), iv v1765, iv (3 : Int32), iv v2315, iv v2316, rv b2317, .unset, .unset, .unset] [])
   refine k_iload X2375 hx (hb hby at_100) rfl (pc' := 102) rfl ?_
   refine k_iconst X2375 hx (hb hby at_102) (pc' := 103) rfl (z := (2 : Int32)) rfl ?_
   refine k_icmp_lt X2375 hx (hb hby at_103) (pn := 106) rfl (py := 113) (by decide) (fun hc => absurd hc (by decide)) (fun _ => ?_)
   refine k_aload X2375 hx (hb hby at_106) rfl rfl (pc' := 108) rfl ?_
   refine k_iload X2375 hx (hb hby at_108) rfl (pc' := 110) rfl ?_
   refine k_callV X2375 hx hZ hown (a := b2317) (hw _ (List.mem_of_getElem? (i := 26) rfl)) (hw _ (List.mem_of_getElem? (i := 27) rfl)) (hw _ (List.mem_of_getElem? (i := 29) rfl)) (hw _ (List.mem_of_getElem? (i := 28) rfl)) (hw _ (List.mem_of_getElem? (i := 3) rfl)) (hw _ (List.mem_of_getElem? (i := 30) rfl)) (by decide) F2408 (rm5_169 l Z a0 hw [] b2317 b2375 k2375 v2406 v2407 v1765 (updF (updF (updF (fun _ => 0) v1.toNatClampNeg ((fun _ => 0) v1.toNatClampNeg + 1)) v1.toNatClampNeg ((updF (fun _ => 0) v1.toNatClampNeg ((fun _ => 0) v1.toNatClampNeg + 1)) v1.toNatClampNeg + 1)) v1765.toNatClampNeg ((updF (updF (fun _ => 0) v1.toNatClampNeg ((fun _ => 0) v1.toNatClampNeg + 1)) v1.toNatClampNeg ((updF (fun _ => 0) v1.toNatClampNeg ((fun _ => 0) v1.toNatClampNeg + 1)) v1.toNatClampNeg + 1)) v1765.toNatClampNeg + 1)) T2375.heap n0 Z2420 F2408 F2409 F2410 F2411 F2412 g_b2317 g_b2375 lt2419 hI2413 hI2414 hI2415 hI2416 HZ2417 hT2376 hT2391) (by decide) (by decide) rfl (by rw [hml]; rfl) (argsL := [(.int v1765)]) (rest := []) (lenOf pd_5 rfl) rfl (W := 0) (Nat.le_refl _) rfl (hb hby at_110) (by decide) (by decide) (pc' := 113) rfl (fun T2421 L2421 r2421 X2421 q2421 => ?_)
   obtain ⟨N2421, b2421, k2421, v2422, v2423, rfl, F2424, F2425, F2426, F2427, F2428, g_b2421, lt2435, Z2436, hI2429, hI2430, hI2431, hI2432, HZ2433⟩ := q2421
   have N2421' := Fr.app N2375' N2421
   show KEnds p e below s _ _ _ T2421 (mkF m 113 #[iv i0, iv i1, iv i2, iv i3, iv v1, iv (2 : Int32), iv v1765, iv (3 : Int32), iv v2315, iv v2316, rv b2317, .unset, .unset, .unset] [])
   refine k_iload X2421 hx (hb hby at_113) rfl (pc' := 115) rfl ?_
   refine k_iconst X2421 hx (hb hby at_115) (pc' := 116) rfl (z := (3 : Int32)) rfl ?_
   refine k_icmp_lt X2421 hx (hb hby at_116) (pn := 119) rfl (py := 126) (by decide) (fun hc => absurd hc (by decide)) (fun _ => ?_)
   refine k_aload X2421 hx (hb hby at_119) rfl rfl (pc' := 121) rfl ?_
   refine k_iload X2421 hx (hb hby at_121) rfl (pc' := 123) rfl ?_
   refine k_callV X2421 hx hZ hown (a := b2317) (hw _ (List.mem_of_getElem? (i := 26) rfl)) (hw _ (List.mem_of_getElem? (i := 27) rfl)) (hw _ (List.mem_of_getElem? (i := 29) rfl)) (hw _ (List.mem_of_getElem? (i := 28) rfl)) (hw _ (List.mem_of_getElem? (i := 3) rfl)) (hw _ (List.mem_of_getElem? (i := 30) rfl)) (by decide) F2424 (rm5_169 l Z a0 hw [] b2317 b2421 k2421 v2422 v2423 v1765 (updF (updF (updF (updF (fun _ => 0) v1.toNatClampNeg ((fun _ => 0) v1.toNatClampNeg + 1)) v1.toNatClampNeg ((updF (fun _ => 0) v1.toNatClampNeg ((fun _ => 0) v1.toNatClampNeg + 1)) v1.toNatClampNeg + 1)) v1765.toNatClampNeg ((updF (updF (fun _ => 0) v1.toNatClampNeg ((fun _ => 0) v1.toNatClampNeg + 1)) v1.toNatClampNeg ((updF (fun _ => 0) v1.toNatClampNeg ((fun _ => 0) v1.toNatClampNeg + 1)) v1.toNatClampNeg + 1)) v1765.toNatClampNeg + 1)) v1765.toNatClampNeg ((updF (updF (updF (fun _ => 0) v1.toNatClampNeg ((fun _ => 0) v1.toNatClampNeg + 1)) v1.toNatClampNeg ((updF (fun _ => 0) v1.toNatClampNeg ((fun _ => 0) v1.toNatClampNeg + 1)) v1.toNatClampNeg + 1)) v1765.toNatClampNeg ((updF (updF (fun _ => 0) v1.toNatClampNeg ((fun _ => 0) v1.toNatClampNeg + 1)) v1.toNatClampNeg ((updF (fun _ => 0) v1.toNatClampNeg ((fun _ => 0) v1.toNatClampNeg + 1)) v1.toNatClampNeg + 1)) v1765.toNatClampNeg + 1)) v1765.toNatClampNeg + 1)) T2421.heap n0 Z2436 F2424 F2425 F2426 F2427 F2428 g_b2317 g_b2421 lt2435 hI2429 hI2430 hI2431 hI2432 HZ2433 hT2376 hT2391) (by decide) (by decide) rfl (by rw [hml]; rfl) (argsL := [(.int v1765)]) (rest := []) (lenOf pd_5 rfl) rfl (W := 0) (Nat.le_refl _) rfl (hb hby at_123) (by decide) (by decide) (pc' := 126) rfl (fun T2437 L2437 r2437 X2437 q2437 => ?_)
   obtain ⟨N2437, b2437, k2437, v2438, v2439, rfl, F2440, F2441, F2442, F2443, F2444, g_b2437, lt2451, Z2452, hI2445, hI2446, hI2447, hI2448, HZ2449⟩ := q2437
   have N2437' := Fr.app N2421' N2437
   show KEnds p e below s _ _ _ T2437 (mkF m 126 #[iv i0, iv i1, iv i2, iv i3, iv v1, iv (2 : Int32), iv v1765, iv (3 : Int32), iv v2315, iv v2316, rv b2317, .unset, .unset, .unset] [])
   refine k_aload X2437 hx (hb hby at_126) rfl rfl (pc' := 128) rfl ?_
   refine k_iload X2437 hx (hb hby at_128) rfl (pc' := 130) rfl ?_
   have hp2453 : ¬ v2315 < (0 : Int32) := by
    intro hq2454
    have B2457 : (-2147483648 : Int) ≤ i0.toInt ∧ i0.toInt ≤ 2147483647 := ⟨(rng32 i0).1, Int.le_of_lt_add_one (rng32 i0).2⟩
    have q2456 : v1.toInt = i0.toInt % 16 := (by rw [hv1]; exact c_mask _ _ 4 (by decide) (by decide))
    have B2455 : (0 : Int) ≤ v1.toInt ∧ v1.toInt ≤ 15 := (by rw [q2456]; exact k_modB (by decide))
    have B2458 : (0 : Int) ≤ v2344.toInt ∧ v2344.toInt ≤ 30 := ⟨k_ge hI2351 (by decide), k_le hI2352 (by decide)⟩
    have B2459 : (0 : Int) ≤ v2345.toInt ∧ v2345.toInt ≤ 2147483647 := ⟨k_ge hI2353 (by decide), Int.le_of_lt_add_one (rng32 v2345).2⟩
    have q2460 := hI2354; rw [Int32.lt_iff_toInt_lt] at q2460
    have B2461 : (0 : Int) ≤ v2360.toInt ∧ v2360.toInt ≤ 30 := ⟨k_ge hI2367 (by decide), k_le hI2368 (by decide)⟩
    have B2462 : (0 : Int) ≤ v2361.toInt ∧ v2361.toInt ≤ 2147483647 := ⟨k_ge hI2369 (by decide), Int.le_of_lt_add_one (rng32 v2361).2⟩
    have q2463 := hI2370; rw [Int32.lt_iff_toInt_lt] at q2463
    have B2466 : (-2147483648 : Int) ≤ i1.toInt ∧ i1.toInt ≤ 2147483647 := ⟨(rng32 i1).1, Int.le_of_lt_add_one (rng32 i1).2⟩
    have q2465 : v1765.toInt = i1.toInt % 16 := (by rw [hv1765]; exact c_mask _ _ 4 (by decide) (by decide))
    have B2464 : (0 : Int) ≤ v1765.toInt ∧ v1765.toInt ≤ 15 := (by rw [q2465]; exact k_modB (by decide))
    have B2467 : (0 : Int) ≤ v2406.toInt ∧ v2406.toInt ≤ 30 := ⟨k_ge hI2413 (by decide), k_le hI2414 (by decide)⟩
    have B2468 : (0 : Int) ≤ v2407.toInt ∧ v2407.toInt ≤ 2147483647 := ⟨k_ge hI2415 (by decide), Int.le_of_lt_add_one (rng32 v2407).2⟩
    have q2469 := hI2416; rw [Int32.lt_iff_toInt_lt] at q2469
    have B2470 : (0 : Int) ≤ v2422.toInt ∧ v2422.toInt ≤ 30 := ⟨k_ge hI2429 (by decide), k_le hI2430 (by decide)⟩
    have B2471 : (0 : Int) ≤ v2423.toInt ∧ v2423.toInt ≤ 2147483647 := ⟨k_ge hI2431 (by decide), Int.le_of_lt_add_one (rng32 v2423).2⟩
    have q2472 := hI2432; rw [Int32.lt_iff_toInt_lt] at q2472
    have B2473 : (0 : Int) ≤ v2438.toInt ∧ v2438.toInt ≤ 30 := ⟨k_ge hI2445 (by decide), k_le hI2446 (by decide)⟩
    have B2474 : (0 : Int) ≤ v2439.toInt ∧ v2439.toInt ≤ 2147483647 := ⟨k_ge hI2447 (by decide), Int.le_of_lt_add_one (rng32 v2439).2⟩
    have q2475 := hI2448; rw [Int32.lt_iff_toInt_lt] at q2475
    have B2478 : (-2147483648 : Int) ≤ i2.toInt ∧ i2.toInt ≤ 2147483647 := ⟨(rng32 i2).1, Int.le_of_lt_add_one (rng32 i2).2⟩
    have q2477 : v2315.toInt = i2.toInt % 32 := (by rw [hv2315]; exact c_mask _ _ 5 (by decide) (by decide))
    have B2476 : (0 : Int) ≤ v2315.toInt ∧ v2315.toInt ≤ 31 := (by rw [q2477]; exact k_modB (by decide))
    have B2479 : (0 : Int) ≤ v2315.toInt ∧ v2315.toInt ≤ -1 := ⟨B2476.1, k_lt hq2454 (by decide)⟩
    omega
   refine k_callV X2437 hx hZ hown (a := b2317) (hw _ (List.mem_of_getElem? (i := 15) rfl)) (hw _ (List.mem_of_getElem? (i := 16) rfl)) (hw _ (List.mem_of_getElem? (i := 18) rfl)) (hw _ (List.mem_of_getElem? (i := 17) rfl)) (hw _ (List.mem_of_getElem? (i := 3) rfl)) (hw _ (List.mem_of_getElem? (i := 19) rfl)) (by decide) F2440 (rm3_631 l Z a0 hw [] b2317 v2315 b2437 v2439 k2437 v2438 (updF (updF (updF (updF (updF (fun _ => 0) v1.toNatClampNeg ((fun _ => 0) v1.toNatClampNeg + 1)) v1.toNatClampNeg ((updF (fun _ => 0) v1.toNatClampNeg ((fun _ => 0) v1.toNatClampNeg + 1)) v1.toNatClampNeg + 1)) v1765.toNatClampNeg ((updF (updF (fun _ => 0) v1.toNatClampNeg ((fun _ => 0) v1.toNatClampNeg + 1)) v1.toNatClampNeg ((updF (fun _ => 0) v1.toNatClampNeg ((fun _ => 0) v1.toNatClampNeg + 1)) v1.toNatClampNeg + 1)) v1765.toNatClampNeg + 1)) v1765.toNatClampNeg ((updF (updF (updF (fun _ => 0) v1.toNatClampNeg ((fun _ => 0) v1.toNatClampNeg + 1)) v1.toNatClampNeg ((updF (fun _ => 0) v1.toNatClampNeg ((fun _ => 0) v1.toNatClampNeg + 1)) v1.toNatClampNeg + 1)) v1765.toNatClampNeg ((updF (updF (fun _ => 0) v1.toNatClampNeg ((fun _ => 0) v1.toNatClampNeg + 1)) v1.toNatClampNeg ((updF (fun _ => 0) v1.toNatClampNeg ((fun _ => 0) v1.toNatClampNeg + 1)) v1.toNatClampNeg + 1)) v1765.toNatClampNeg + 1)) v1765.toNatClampNeg + 1)) v1765.toNatClampNeg ((updF (updF (updF (updF (fun _ => 0) v1.toNatClampNeg ((fun _ => 0) v1.toNatClampNeg + 1)) v1.toNatClampNeg ((updF (fun _ => 0) v1.toNatClampNeg ((fun _ => 0) v1.toNatClampNeg + 1)) v1.toNatClampNeg + 1)) v1765.toNatClampNeg ((updF (updF (fun _ => 0) v1.toNatClampNeg ((fun _ => 0) v1.toNatClampNeg + 1)) v1.toNatClampNeg ((updF (fun _ => 0) v1.toNatClampNeg ((fun _ => 0) v1.toNatClampNeg + 1)) v1.toNatClampNeg + 1)) v1765.toNatClampNeg + 1)) v1765.toNatClampNeg ((updF (updF (updF (fun _ => 0) v1.toNatClampNeg ((fun _ => 0) v1.toNatClampNeg + 1)) v1.toNatClampNeg ((updF (fun _ => 0) v1.toNatClampNeg ((fun _ => 0) v1.toNatClampNeg + 1)) v1.toNatClampNeg + 1)) v1765.toNatClampNeg ((updF (updF (fun _ => 0) v1.toNatClampNeg ((fun _ => 0) v1.toNatClampNeg + 1)) v1.toNatClampNeg ((updF (fun _ => 0) v1.toNatClampNeg ((fun _ => 0) v1.toNatClampNeg + 1)) v1.toNatClampNeg + 1)) v1765.toNatClampNeg + 1)) v1765.toNatClampNeg + 1)) v1765.toNatClampNeg + 1)) T2437.heap n0 Z2452 F2440 F2441 F2442 F2443 F2444 lt2451 hp2453 hI2448 HZ2449) (by decide) (by decide) rfl (by rw [hml]; rfl) (argsL := [(.int v2315)]) (rest := []) (lenOf pd_1 rfl) rfl (W := 0) (Nat.le_refl _) rfl (hb hby at_130) (by decide) (by decide) (pc' := 133) rfl (fun T2480 L2480 r2480 X2480 q2480 => ?_)
   obtain ⟨N2480, e2480, v2481, rfl, hS2482⟩ := q2480
   have N2480' := Fr.app N2437' N2480
   show KEnds p e below s _ _ _ T2480 (mkF m 133 #[iv i0, iv i1, iv i2, iv i3, iv v1, iv (2 : Int32), iv v1765, iv (3 : Int32), iv v2315, iv v2316, rv b2317, .unset, .unset, .unset] [(.int v2481)])
   refine k_iload X2480 hx (hb hby at_133) rfl (pc' := 135) rfl ?_
   refine k_iload X2480 hx (hb hby at_135) rfl (pc' := 137) rfl ?_
   refine k_iload X2480 hx (hb hby at_137) rfl (pc' := 139) rfl ?_
   refine k_iload X2480 hx (hb hby at_139) rfl (pc' := 141) rfl ?_
   refine k_iload X2480 hx (hb hby at_141) rfl (pc' := 143) rfl ?_
   refine k_callS X2480 hx hZ hown (hw _ (List.mem_of_getElem? (i := 22) rfl)) (hw _ (List.mem_of_getElem? (i := 23) rfl)) (hw _ (List.mem_of_getElem? (i := 24) rfl)) (hw _ (List.mem_of_getElem? (i := 25) rfl)) (by decide) (rm4_2483 l Z a0 hw [] v2315 v1 v1765 T2437.heap n0 Z2452 ) (by decide) (by decide) e2480 (by rw [hml]; rfl) (argsL := [(.int v2315), (.int v1), (.int (2 : Int32)), (.int v1765), (.int (3 : Int32))]) (rest := [(.int v2481)]) (lenOf pd_2 rfl) rfl (W := 1) (Nat.le_refl _) rfl (hb hby at_143) (by decide) (by decide) (pc' := 146) rfl (fun T2487 L2487 r2487 X2487 q2487 => ?_)
   obtain ⟨N2487, e2487, rfl⟩ := q2487
   have N2487' := Fr.app N2480' N2487
   show KEnds p e below s _ _ _ T2487 (mkF m 146 #[iv i0, iv i1, iv i2, iv i3, iv v1, iv (2 : Int32), iv v1765, iv (3 : Int32), iv v2315, iv v2316, rv b2317, .unset, .unset, .unset] ((.int (f4_2483 v2315 v1 v1765)) :: (.int v2481) :: []))
   obtain ⟨v2488, hv2488⟩ : ∃ z, z = f4_2483 v2315 v1 v1765 := ⟨_, rfl⟩
   rw [← hv2488]
   refine k_icmp_ne X2487 hx (hb hby at_146) (pn := 149) rfl (py := 153) (by decide) (fun hc => absurd (by rw [hS2482, hv2488]; exact own_fin_33 v2315 v1 v1765 hp2453 hT2332 hT2376) hc) (fun _ => ?_)
   refine k_iconst X2487 hx (hb hby at_149) (pc' := 150) rfl (z := (1 : Int32)) rfl ?_
   refine k_goto X2487 hx (hb hby at_150) (pc' := 154) (by decide) ?_
   refine k_istore X2487 hx (hb hby at_154) (Ls' := #[iv i0, iv i1, iv i2, iv i3, iv v1, iv (2 : Int32), iv v1765, iv (3 : Int32), iv v2315, iv v2316, rv b2317, iv (1 : Int32), .unset, .unset]) rfl (pc' := 156) rfl ?_
   refine k_aload X2487 hx (hb hby at_156) rfl rfl (pc' := 158) rfl ?_
   refine k_iload X2487 hx (hb hby at_158) rfl (pc' := 160) rfl ?_
   have hp2489 : ¬ v2316 < (0 : Int32) := by
    intro hq2490
    have B2493 : (-2147483648 : Int) ≤ i0.toInt ∧ i0.toInt ≤ 2147483647 := ⟨(rng32 i0).1, Int.le_of_lt_add_one (rng32 i0).2⟩
    have q2492 : v1.toInt = i0.toInt % 16 := (by rw [hv1]; exact c_mask _ _ 4 (by decide) (by decide))
    have B2491 : (0 : Int) ≤ v1.toInt ∧ v1.toInt ≤ 15 := (by rw [q2492]; exact k_modB (by decide))
    have B2494 : (0 : Int) ≤ v2344.toInt ∧ v2344.toInt ≤ 30 := ⟨k_ge hI2351 (by decide), k_le hI2352 (by decide)⟩
    have B2495 : (0 : Int) ≤ v2345.toInt ∧ v2345.toInt ≤ 2147483647 := ⟨k_ge hI2353 (by decide), Int.le_of_lt_add_one (rng32 v2345).2⟩
    have q2496 := hI2354; rw [Int32.lt_iff_toInt_lt] at q2496
    have B2497 : (0 : Int) ≤ v2360.toInt ∧ v2360.toInt ≤ 30 := ⟨k_ge hI2367 (by decide), k_le hI2368 (by decide)⟩
    have B2498 : (0 : Int) ≤ v2361.toInt ∧ v2361.toInt ≤ 2147483647 := ⟨k_ge hI2369 (by decide), Int.le_of_lt_add_one (rng32 v2361).2⟩
    have q2499 := hI2370; rw [Int32.lt_iff_toInt_lt] at q2499
    have B2502 : (-2147483648 : Int) ≤ i1.toInt ∧ i1.toInt ≤ 2147483647 := ⟨(rng32 i1).1, Int.le_of_lt_add_one (rng32 i1).2⟩
    have q2501 : v1765.toInt = i1.toInt % 16 := (by rw [hv1765]; exact c_mask _ _ 4 (by decide) (by decide))
    have B2500 : (0 : Int) ≤ v1765.toInt ∧ v1765.toInt ≤ 15 := (by rw [q2501]; exact k_modB (by decide))
    have B2503 : (0 : Int) ≤ v2406.toInt ∧ v2406.toInt ≤ 30 := ⟨k_ge hI2413 (by decide), k_le hI2414 (by decide)⟩
    have B2504 : (0 : Int) ≤ v2407.toInt ∧ v2407.toInt ≤ 2147483647 := ⟨k_ge hI2415 (by decide), Int.le_of_lt_add_one (rng32 v2407).2⟩
    have q2505 := hI2416; rw [Int32.lt_iff_toInt_lt] at q2505
    have B2506 : (0 : Int) ≤ v2422.toInt ∧ v2422.toInt ≤ 30 := ⟨k_ge hI2429 (by decide), k_le hI2430 (by decide)⟩
    have B2507 : (0 : Int) ≤ v2423.toInt ∧ v2423.toInt ≤ 2147483647 := ⟨k_ge hI2431 (by decide), Int.le_of_lt_add_one (rng32 v2423).2⟩
    have q2508 := hI2432; rw [Int32.lt_iff_toInt_lt] at q2508
    have B2509 : (0 : Int) ≤ v2438.toInt ∧ v2438.toInt ≤ 30 := ⟨k_ge hI2445 (by decide), k_le hI2446 (by decide)⟩
    have B2510 : (0 : Int) ≤ v2439.toInt ∧ v2439.toInt ≤ 2147483647 := ⟨k_ge hI2447 (by decide), Int.le_of_lt_add_one (rng32 v2439).2⟩
    have q2511 := hI2448; rw [Int32.lt_iff_toInt_lt] at q2511
    have B2514 : (-2147483648 : Int) ≤ i2.toInt ∧ i2.toInt ≤ 2147483647 := ⟨(rng32 i2).1, Int.le_of_lt_add_one (rng32 i2).2⟩
    have q2513 : v2315.toInt = i2.toInt % 32 := (by rw [hv2315]; exact c_mask _ _ 5 (by decide) (by decide))
    have B2512 : (0 : Int) ≤ v2315.toInt ∧ v2315.toInt ≤ 31 := (by rw [q2513]; exact k_modB (by decide))
    have B2517 : (-2147483648 : Int) ≤ i3.toInt ∧ i3.toInt ≤ 2147483647 := ⟨(rng32 i3).1, Int.le_of_lt_add_one (rng32 i3).2⟩
    have q2516 : v2316.toInt = i3.toInt % 2147483648 := (by rw [hv2316]; exact c_mask _ _ 31 (by decide) (by decide))
    have B2515 : (0 : Int) ≤ v2316.toInt ∧ v2316.toInt ≤ 2147483647 := (by rw [q2516]; exact k_modB (by decide))
    have B2518 : (0 : Int) ≤ v2316.toInt ∧ v2316.toInt ≤ -1 := ⟨B2515.1, k_lt hq2490 (by decide)⟩
    omega
   refine k_callV X2487 hx hZ hown (a := b2317) (hw _ (List.mem_of_getElem? (i := 15) rfl)) (hw _ (List.mem_of_getElem? (i := 16) rfl)) (hw _ (List.mem_of_getElem? (i := 18) rfl)) (hw _ (List.mem_of_getElem? (i := 17) rfl)) (hw _ (List.mem_of_getElem? (i := 3) rfl)) (hw _ (List.mem_of_getElem? (i := 19) rfl)) (by decide) F2440 (rm3_631 l Z a0 hw [] b2317 v2316 b2437 v2439 k2437 v2438 (updF (updF (updF (updF (updF (fun _ => 0) v1.toNatClampNeg ((fun _ => 0) v1.toNatClampNeg + 1)) v1.toNatClampNeg ((updF (fun _ => 0) v1.toNatClampNeg ((fun _ => 0) v1.toNatClampNeg + 1)) v1.toNatClampNeg + 1)) v1765.toNatClampNeg ((updF (updF (fun _ => 0) v1.toNatClampNeg ((fun _ => 0) v1.toNatClampNeg + 1)) v1.toNatClampNeg ((updF (fun _ => 0) v1.toNatClampNeg ((fun _ => 0) v1.toNatClampNeg + 1)) v1.toNatClampNeg + 1)) v1765.toNatClampNeg + 1)) v1765.toNatClampNeg ((updF (updF (updF (fun _ => 0) v1.toNatClampNeg ((fun _ => 0) v1.toNatClampNeg + 1)) v1.toNatClampNeg ((updF (fun _ => 0) v1.toNatClampNeg ((fun _ => 0) v1.toNatClampNeg + 1)) v1.toNatClampNeg + 1)) v1765.toNatClampNeg ((updF (updF (fun _ => 0) v1.toNatClampNeg ((fun _ => 0) v1.toNatClampNeg + 1)) v1.toNatClampNeg ((updF (fun _ => 0) v1.toNatClampNeg ((fun _ => 0) v1.toNatClampNeg + 1)) v1.toNatClampNeg + 1)) v1765.toNatClampNeg + 1)) v1765.toNatClampNeg + 1)) v1765.toNatClampNeg ((updF (updF (updF (updF (fun _ => 0) v1.toNatClampNeg ((fun _ => 0) v1.toNatClampNeg + 1)) v1.toNatClampNeg ((updF (fun _ => 0) v1.toNatClampNeg ((fun _ => 0) v1.toNatClampNeg + 1)) v1.toNatClampNeg + 1)) v1765.toNatClampNeg ((updF (updF (fun _ => 0) v1.toNatClampNeg ((fun _ => 0) v1.toNatClampNeg + 1)) v1.toNatClampNeg ((updF (fun _ => 0) v1.toNatClampNeg ((fun _ => 0) v1.toNatClampNeg + 1)) v1.toNatClampNeg + 1)) v1765.toNatClampNeg + 1)) v1765.toNatClampNeg ((updF (updF (updF (fun _ => 0) v1.toNatClampNeg ((fun _ => 0) v1.toNatClampNeg + 1)) v1.toNatClampNeg ((updF (fun _ => 0) v1.toNatClampNeg ((fun _ => 0) v1.toNatClampNeg + 1)) v1.toNatClampNeg + 1)) v1765.toNatClampNeg ((updF (updF (fun _ => 0) v1.toNatClampNeg ((fun _ => 0) v1.toNatClampNeg + 1)) v1.toNatClampNeg ((updF (fun _ => 0) v1.toNatClampNeg ((fun _ => 0) v1.toNatClampNeg + 1)) v1.toNatClampNeg + 1)) v1765.toNatClampNeg + 1)) v1765.toNatClampNeg + 1)) v1765.toNatClampNeg + 1)) T2437.heap n0 Z2452 F2440 F2441 F2442 F2443 F2444 lt2451 hp2489 hI2448 HZ2449) (by decide) (by decide) e2487 (by rw [hml]; rfl) (argsL := [(.int v2316)]) (rest := []) (lenOf pd_1 rfl) rfl (W := 0) (Nat.le_refl _) rfl (hb hby at_160) (by decide) (by decide) (pc' := 163) rfl (fun T2519 L2519 r2519 X2519 q2519 => ?_)
   obtain ⟨N2519, e2519, v2520, rfl, hS2521⟩ := q2519
   have N2519' := Fr.app N2487' N2519
   show KEnds p e below s _ _ _ T2519 (mkF m 163 #[iv i0, iv i1, iv i2, iv i3, iv v1, iv (2 : Int32), iv v1765, iv (3 : Int32), iv v2315, iv v2316, rv b2317, iv (1 : Int32), .unset, .unset] [(.int v2520)])
   refine k_iload X2519 hx (hb hby at_163) rfl (pc' := 165) rfl ?_
   refine k_iload X2519 hx (hb hby at_165) rfl (pc' := 167) rfl ?_
   refine k_iload X2519 hx (hb hby at_167) rfl (pc' := 169) rfl ?_
   refine k_iload X2519 hx (hb hby at_169) rfl (pc' := 171) rfl ?_
   refine k_iload X2519 hx (hb hby at_171) rfl (pc' := 173) rfl ?_
   refine k_callS X2519 hx hZ hown (hw _ (List.mem_of_getElem? (i := 22) rfl)) (hw _ (List.mem_of_getElem? (i := 23) rfl)) (hw _ (List.mem_of_getElem? (i := 24) rfl)) (hw _ (List.mem_of_getElem? (i := 25) rfl)) (by decide) (rm4_2483 l Z a0 hw [] v2316 v1 v1765 T2437.heap n0 Z2452 ) (by decide) (by decide) e2519 (by rw [hml]; rfl) (argsL := [(.int v2316), (.int v1), (.int (2 : Int32)), (.int v1765), (.int (3 : Int32))]) (rest := [(.int v2520)]) (lenOf pd_2 rfl) rfl (W := 1) (Nat.le_refl _) rfl (hb hby at_173) (by decide) (by decide) (pc' := 176) rfl (fun T2522 L2522 r2522 X2522 q2522 => ?_)
   obtain ⟨N2522, e2522, rfl⟩ := q2522
   have N2522' := Fr.app N2519' N2522
   show KEnds p e below s _ _ _ T2522 (mkF m 176 #[iv i0, iv i1, iv i2, iv i3, iv v1, iv (2 : Int32), iv v1765, iv (3 : Int32), iv v2315, iv v2316, rv b2317, iv (1 : Int32), .unset, .unset] ((.int (f4_2483 v2316 v1 v1765)) :: (.int v2520) :: []))
   obtain ⟨v2523, hv2523⟩ : ∃ z, z = f4_2483 v2316 v1 v1765 := ⟨_, rfl⟩
   rw [← hv2523]
   refine k_icmp_ne X2522 hx (hb hby at_176) (pn := 179) rfl (py := 183) (by decide) (fun hc => absurd (by rw [hS2521, hv2523]; exact own_fin_34 v2316 v1 v1765 hp2489 hT2332 hT2376) hc) (fun _ => ?_)
   refine k_iconst X2522 hx (hb hby at_179) (pc' := 180) rfl (z := (1 : Int32)) rfl ?_
   refine k_goto X2522 hx (hb hby at_180) (pc' := 184) (by decide) ?_
   refine k_istore X2522 hx (hb hby at_184) (Ls' := #[iv i0, iv i1, iv i2, iv i3, iv v1, iv (2 : Int32), iv v1765, iv (3 : Int32), iv v2315, iv v2316, rv b2317, iv (1 : Int32), iv (1 : Int32), .unset]) rfl (pc' := 186) rfl ?_
   refine k_aload X2522 hx (hb hby at_186) rfl rfl (pc' := 188) rfl ?_
   refine k_iload X2522 hx (hb hby at_188) rfl (pc' := 190) rfl ?_
   refine k_callV X2522 hx hZ hown (a := b2317) (hw _ (List.mem_of_getElem? (i := 15) rfl)) (hw _ (List.mem_of_getElem? (i := 16) rfl)) (hw _ (List.mem_of_getElem? (i := 18) rfl)) (hw _ (List.mem_of_getElem? (i := 17) rfl)) (hw _ (List.mem_of_getElem? (i := 3) rfl)) (hw _ (List.mem_of_getElem? (i := 19) rfl)) (by decide) F2440 (rm3_631 l Z a0 hw [] b2317 v1 b2437 v2439 k2437 v2438 (updF (updF (updF (updF (updF (fun _ => 0) v1.toNatClampNeg ((fun _ => 0) v1.toNatClampNeg + 1)) v1.toNatClampNeg ((updF (fun _ => 0) v1.toNatClampNeg ((fun _ => 0) v1.toNatClampNeg + 1)) v1.toNatClampNeg + 1)) v1765.toNatClampNeg ((updF (updF (fun _ => 0) v1.toNatClampNeg ((fun _ => 0) v1.toNatClampNeg + 1)) v1.toNatClampNeg ((updF (fun _ => 0) v1.toNatClampNeg ((fun _ => 0) v1.toNatClampNeg + 1)) v1.toNatClampNeg + 1)) v1765.toNatClampNeg + 1)) v1765.toNatClampNeg ((updF (updF (updF (fun _ => 0) v1.toNatClampNeg ((fun _ => 0) v1.toNatClampNeg + 1)) v1.toNatClampNeg ((updF (fun _ => 0) v1.toNatClampNeg ((fun _ => 0) v1.toNatClampNeg + 1)) v1.toNatClampNeg + 1)) v1765.toNatClampNeg ((updF (updF (fun _ => 0) v1.toNatClampNeg ((fun _ => 0) v1.toNatClampNeg + 1)) v1.toNatClampNeg ((updF (fun _ => 0) v1.toNatClampNeg ((fun _ => 0) v1.toNatClampNeg + 1)) v1.toNatClampNeg + 1)) v1765.toNatClampNeg + 1)) v1765.toNatClampNeg + 1)) v1765.toNatClampNeg ((updF (updF (updF (updF (fun _ => 0) v1.toNatClampNeg ((fun _ => 0) v1.toNatClampNeg + 1)) v1.toNatClampNeg ((updF (fun _ => 0) v1.toNatClampNeg ((fun _ => 0) v1.toNatClampNeg + 1)) v1.toNatClampNeg + 1)) v1765.toNatClampNeg ((updF (updF (fun _ => 0) v1.toNatClampNeg ((fun _ => 0) v1.toNatClampNeg + 1)) v1.toNatClampNeg ((updF (fun _ => 0) v1.toNatClampNeg ((fun _ => 0) v1.toNatClampNeg + 1)) v1.toNatClampNeg + 1)) v1765.toNatClampNeg + 1)) v1765.toNatClampNeg ((updF (updF (updF (fun _ => 0) v1.toNatClampNeg ((fun _ => 0) v1.toNatClampNeg + 1)) v1.toNatClampNeg ((updF (fun _ => 0) v1.toNatClampNeg ((fun _ => 0) v1.toNatClampNeg + 1)) v1.toNatClampNeg + 1)) v1765.toNatClampNeg ((updF (updF (fun _ => 0) v1.toNatClampNeg ((fun _ => 0) v1.toNatClampNeg + 1)) v1.toNatClampNeg ((updF (fun _ => 0) v1.toNatClampNeg ((fun _ => 0) v1.toNatClampNeg + 1)) v1.toNatClampNeg + 1)) v1765.toNatClampNeg + 1)) v1765.toNatClampNeg + 1)) v1765.toNatClampNeg + 1)) T2437.heap n0 Z2452 F2440 F2441 F2442 F2443 F2444 lt2451 hT2332 hI2448 HZ2449) (by decide) (by decide) e2522 (by rw [hml]; rfl) (argsL := [(.int v1)]) (rest := []) (lenOf pd_1 rfl) rfl (W := 0) (Nat.le_refl _) rfl (hb hby at_190) (by decide) (by decide) (pc' := 193) rfl (fun T2524 L2524 r2524 X2524 q2524 => ?_)
   obtain ⟨N2524, e2524, v2525, rfl, hS2526⟩ := q2524
   have N2524' := Fr.app N2522' N2524
   show KEnds p e below s _ _ _ T2524 (mkF m 193 #[iv i0, iv i1, iv i2, iv i3, iv v1, iv (2 : Int32), iv v1765, iv (3 : Int32), iv v2315, iv v2316, rv b2317, iv (1 : Int32), iv (1 : Int32), .unset] [(.int v2525)])
   refine k_iload X2524 hx (hb hby at_193) rfl (pc' := 195) rfl ?_
   refine k_iload X2524 hx (hb hby at_195) rfl (pc' := 197) rfl ?_
   refine k_iload X2524 hx (hb hby at_197) rfl (pc' := 199) rfl ?_
   refine k_iload X2524 hx (hb hby at_199) rfl (pc' := 201) rfl ?_
   refine k_iload X2524 hx (hb hby at_201) rfl (pc' := 203) rfl ?_
   refine k_callS X2524 hx hZ hown (hw _ (List.mem_of_getElem? (i := 22) rfl)) (hw _ (List.mem_of_getElem? (i := 23) rfl)) (hw _ (List.mem_of_getElem? (i := 24) rfl)) (hw _ (List.mem_of_getElem? (i := 25) rfl)) (by decide) (rm4_2527 l Z a0 hw [] v1 v1765 T2437.heap n0 Z2452 ) (by decide) (by decide) e2524 (by rw [hml]; rfl) (argsL := [(.int v1), (.int v1), (.int (2 : Int32)), (.int v1765), (.int (3 : Int32))]) (rest := [(.int v2525)]) (lenOf pd_2 rfl) rfl (W := 1) (Nat.le_refl _) rfl (hb hby at_203) (by decide) (by decide) (pc' := 206) rfl (fun T2529 L2529 r2529 X2529 q2529 => ?_)
   obtain ⟨N2529, e2529, rfl⟩ := q2529
   have N2529' := Fr.app N2524' N2529
   show KEnds p e below s _ _ _ T2529 (mkF m 206 #[iv i0, iv i1, iv i2, iv i3, iv v1, iv (2 : Int32), iv v1765, iv (3 : Int32), iv v2315, iv v2316, rv b2317, iv (1 : Int32), iv (1 : Int32), .unset] ((.int (f4_2527 v1 v1765)) :: (.int v2525) :: []))
   obtain ⟨v2530, hv2530⟩ : ∃ z, z = f4_2527 v1 v1765 := ⟨_, rfl⟩
   rw [← hv2530]
   refine k_icmp_ne X2529 hx (hb hby at_206) (pn := 209) rfl (py := 213) (by decide) (fun hc => absurd (by rw [hS2526, hv2530]; exact own_fin_35 v1 v1765 hT2332 hT2332 hT2376) hc) (fun _ => ?_)
   refine k_iconst X2529 hx (hb hby at_209) (pc' := 210) rfl (z := (1 : Int32)) rfl ?_
   refine k_goto X2529 hx (hb hby at_210) (pc' := 214) (by decide) ?_
   refine k_istore X2529 hx (hb hby at_214) (Ls' := #[iv i0, iv i1, iv i2, iv i3, iv v1, iv (2 : Int32), iv v1765, iv (3 : Int32), iv v2315, iv v2316, rv b2317, iv (1 : Int32), iv (1 : Int32), iv (1 : Int32)]) rfl (pc' := 216) rfl ?_
   refine k_iload X2529 hx (hb hby at_216) rfl (pc' := 218) rfl ?_
   refine k_if_eq X2529 hx (hb hby at_218) (pn := 221) rfl (py := 235) (by decide) (fun hc => absurd hc (by decide)) (fun _ => ?_)
   refine k_iload X2529 hx (hb hby at_221) rfl (pc' := 223) rfl ?_
   refine k_if_eq X2529 hx (hb hby at_223) (pn := 226) rfl (py := 235) (by decide) (fun hc => absurd hc (by decide)) (fun _ => ?_)
   refine k_iload X2529 hx (hb hby at_226) rfl (pc' := 228) rfl ?_
   refine k_if_eq X2529 hx (hb hby at_228) (pn := 231) rfl (py := 235) (by decide) (fun hc => absurd hc (by decide)) (fun _ => ?_)
   refine k_iconst X2529 hx (hb hby at_231) (pc' := 232) rfl (z := (1 : Int32)) rfl ?_
   refine k_goto X2529 hx (hb hby at_232) (pc' := 236) (by decide) ?_
   exact k_retN X2529 hx (t := .boolean) Bd.returns (by simp) (hb hby at_236) hlk (by decide) (by decide) (z' := (1 : Int32)) rfl ⟨rfl, N2529'⟩
 ·
  show KEnds p e below s _ _ _ s₁ (mkF m 11 #[iv i0, iv i1, iv i2, iv i3, iv v1, .unset, .unset, .unset, .unset, .unset, .unset, .unset, .unset, .unset] [(.int (3 : Int32))])
  refine k_istore X0 hx (hb hby at_11) (Ls' := #[iv i0, iv i1, iv i2, iv i3, iv v1, iv (3 : Int32), .unset, .unset, .unset, .unset, .unset, .unset, .unset, .unset]) rfl (pc' := 13) rfl ?_
  refine k_iloadN X0 hx (hb hby at_13) rfl (pc' := 14) rfl ?_
  refine k_bipush X0 hx (hb hby at_14) (pc' := 16) rfl (z := (15 : Int32)) rfl ?_
  refine k_iand X0 hx (hb hby at_16) (pc' := 17) rfl (fun v2532 hv2532 => ?_)
  refine k_istore X0 hx (hb hby at_17) (Ls' := #[iv i0, iv i1, iv i2, iv i3, iv v1, iv (3 : Int32), iv v2532, .unset, .unset, .unset, .unset, .unset, .unset, .unset]) rfl (pc' := 19) rfl ?_
  refine k_iloadN X0 hx (hb hby at_19) rfl (pc' := 20) rfl ?_
  refine k_iconst X0 hx (hb hby at_20) (pc' := 21) rfl (z := (4 : Int32)) rfl ?_
  refine k_iushr X0 hx (hb hby at_21) (pc' := 22) rfl (fun v2533 hv2533 => ?_)
  refine k_iconst X0 hx (hb hby at_22) (pc' := 23) rfl (z := (3 : Int32)) rfl ?_
  refine k_iand X0 hx (hb hby at_23) (pc' := 24) rfl (fun v2534 hv2534 => ?_)
  have hs2535 : v2534 = (0 : Int32) ∨ v2534 = (1 : Int32) ∨ v2534 = (2 : Int32) ∨ v2534 = (3 : Int32) := by
   have B2540 : (-2147483648 : Int) ≤ i1.toInt ∧ i1.toInt ≤ 2147483647 := ⟨(rng32 i1).1, Int.le_of_lt_add_one (rng32 i1).2⟩
   have q2539 : v2533.toInt = (i1.toInt % 4294967296) / 16 := (by rw [hv2533]; exact c_iushr _ _ 4 (by decide) (by decide))
   have B2538 : (0 : Int) ≤ v2533.toInt ∧ v2533.toInt ≤ 268435455 := (by rw [q2539]; exact k_divmodB (by decide) (by decide) (by decide))
   have q2537 : v2534.toInt = v2533.toInt % 4 := (by rw [hv2534]; exact c_mask _ _ 2 (by decide) (by decide))
   have B2536 : (0 : Int) ≤ v2534.toInt ∧ v2534.toInt ≤ 3 := (by rw [q2537]; exact k_modB (by decide))
   rcases (by omega : v2534.toInt = 0 ∨ v2534.toInt = 1 ∨ v2534.toInt = 2 ∨ v2534.toInt = 3) with hq | hq | hq | hq
   · exact Or.inl (Int32.toInt_inj.mp hq)
   · exact Or.inr (Or.inl (Int32.toInt_inj.mp hq))
   · exact Or.inr (Or.inr (Or.inl (Int32.toInt_inj.mp hq)))
   · exact Or.inr (Or.inr (Or.inr ((Int32.toInt_inj.mp hq))))
  rcases hs2535 with rfl | rfl | rfl | rfl
  ·
   show KEnds p e below s _ _ _ s₁ (mkF m 24 #[iv i0, iv i1, iv i2, iv i3, iv v1, iv (3 : Int32), iv v2532, .unset, .unset, .unset, .unset, .unset, .unset, .unset] [(.int (0 : Int32))])
   refine k_istore X0 hx (hb hby at_24) (Ls' := #[iv i0, iv i1, iv i2, iv i3, iv v1, iv (3 : Int32), iv v2532, iv (0 : Int32), .unset, .unset, .unset, .unset, .unset, .unset]) rfl (pc' := 26) rfl ?_
   refine k_iloadN X0 hx (hb hby at_26) rfl (pc' := 27) rfl ?_
   refine k_bipush X0 hx (hb hby at_27) (pc' := 29) rfl (z := (31 : Int32)) rfl ?_
   refine k_iand X0 hx (hb hby at_29) (pc' := 30) rfl (fun v2542 hv2542 => ?_)
   refine k_istore X0 hx (hb hby at_30) (Ls' := #[iv i0, iv i1, iv i2, iv i3, iv v1, iv (3 : Int32), iv v2532, iv (0 : Int32), iv v2542, .unset, .unset, .unset, .unset, .unset]) rfl (pc' := 32) rfl ?_
   refine k_iloadN X0 hx (hb hby at_32) rfl (pc' := 33) rfl ?_
   refine k_ldc X0 hx hZ hown (hw _ (List.mem_of_getElem? (i := 0) rfl)) (hb hby at_33) (pc' := 35) rfl ?_
   refine k_iand X0 hx (hb hby at_35) (pc' := 36) rfl (fun v2543 hv2543 => ?_)
   refine k_istore X0 hx (hb hby at_36) (Ls' := #[iv i0, iv i1, iv i2, iv i3, iv v1, iv (3 : Int32), iv v2532, iv (0 : Int32), iv v2542, iv v2543, .unset, .unset, .unset, .unset]) rfl (pc' := 38) rfl ?_
   refine k_newO X0 hx hZ hown (hw _ (List.mem_of_getElem? (i := 1) rfl)) (hw _ (List.mem_of_getElem? (i := 2) rfl)) (hw _ (List.mem_of_getElem? (i := 3) rfl)) e0 (hb hby at_38) (by decide) (by decide) (pc' := 41) rfl (fun T2544 h2544 b2544 g2544 X2544 e2544 E2544 A2544 D2544 => ?_)
   have g_b2544 : n0 ≤ b2544 := Nat.le_trans Z0 (Nat.le_of_eq g2544.symm)
   have Z2544 : n0 ≤ h2544.size := Nat.le_trans Z0 E2544.1
   have F2545 : Fld Z h2544 b2544 "com/example/dendrotick/dendrotick/VectorClock" "entries" "[I" .null := D2544 (Or.inl (hw _ (List.mem_of_getElem? (i := 12) rfl))) (ty := (.array .int)) (by decide)
   have F2546 : Fld Z h2544 b2544 "com/example/dendrotick/dendrotick/VectorClock" "work" "Lcom/example/dendrotick/dendrotick/ClockWork;" .null := D2544 (Or.inr (hw _ (List.mem_of_getElem? (i := 14) rfl))) (ty := (.object "com/example/dendrotick/dendrotick/ClockWork")) (by decide)
   have F2547 : Fld Z h2544 b2544 "com/example/dendrotick/dendrotick/VectorClock" "size" "I" (.int (0 : Int32)) := D2544 (Or.inl (hw _ (List.mem_of_getElem? (i := 21) rfl))) (ty := .int) (by decide)
   refine k_dup X2544 hx (hb hby at_41) rfl (pc' := 42) rfl ?_
   refine k_anull X2544 hx (hb hby at_42) (pc' := 43) rfl ?_
   refine k_callI X2544 hx hZ hown (a := b2544) rfl (hw _ (List.mem_of_getElem? (i := 4) rfl)) (hw _ (List.mem_of_getElem? (i := 5) rfl)) (hw _ (List.mem_of_getElem? (i := 3) rfl)) (hw _ (List.mem_of_getElem? (i := 6) rfl)) rfl (by decide) (rm1_27 l Z a0 hw [] b2544 h2544 n0 Z2544 A2544 F2545 F2546 F2547 g_b2544) (by decide) (by decide) e2544 (by rw [hml]; rfl) (argsL := [.null]) (rest := [(.ref b2544)]) (lenOf pd_0 rfl) rfl (W := 1) (Nat.le_refl _) rfl (hb hby at_43) (by decide) (by decide) (pc' := 46) rfl (fun T2548 L2548 r2548 X2548 q2548 => ?_)
   obtain ⟨N2548, q2548⟩ := q2548
   have N2548' := Fr.app N0 N2548
   obtain ⟨b2549, k2550, rfl, F2551, F2552, F2553, F2554, F2555, g_b2549, lt2556, Z2557⟩ := q2548
   show KEnds p e below s _ _ _ T2548 (mkF m 46 #[iv i0, iv i1, iv i2, iv i3, iv v1, iv (3 : Int32), iv v2532, iv (0 : Int32), iv v2542, iv v2543, .unset, .unset, .unset, .unset] [(.ref b2544)])
   refine k_astore X2548 hx (hb hby at_46) rfl (Ls' := #[iv i0, iv i1, iv i2, iv i3, iv v1, iv (3 : Int32), iv v2532, iv (0 : Int32), iv v2542, iv v2543, rv b2544, .unset, .unset, .unset]) rfl (pc' := 48) rfl ?_
   refine k_iload X2548 hx (hb hby at_48) rfl (pc' := 50) rfl ?_
   refine k_iconst X2548 hx (hb hby at_50) (pc' := 51) rfl (z := (1 : Int32)) rfl ?_
   refine k_icmp_lt X2548 hx (hb hby at_51) (pn := 54) rfl (py := 61) (by decide) (fun hc => absurd hc (by decide)) (fun _ => ?_)
   refine k_aload X2548 hx (hb hby at_54) rfl rfl (pc' := 56) rfl ?_
   refine k_iload X2548 hx (hb hby at_56) rfl (pc' := 58) rfl ?_
   have hT2559 : ¬ v1 < (0 : Int32) := (by intro hq2560; have B2563 : (-2147483648 : Int) ≤ i0.toInt ∧ i0.toInt ≤ 2147483647 := ⟨(rng32 i0).1, Int.le_of_lt_add_one (rng32 i0).2⟩; have q2562 : v1.toInt = i0.toInt % 16 := (by rw [hv1]; exact c_mask _ _ 4 (by decide) (by decide)); have B2561 : (0 : Int) ≤ v1.toInt ∧ v1.toInt ≤ 15 := (by rw [q2562]; exact k_modB (by decide)); have B2564 : (0 : Int) ≤ v1.toInt ∧ v1.toInt ≤ -1 := ⟨B2561.1, k_lt hq2560 (by decide)⟩; omega)
   have hT2565 : ¬ (15 : Int32) < v1 := (by intro hq2566; have B2569 : (-2147483648 : Int) ≤ i0.toInt ∧ i0.toInt ≤ 2147483647 := ⟨(rng32 i0).1, Int.le_of_lt_add_one (rng32 i0).2⟩; have q2568 : v1.toInt = i0.toInt % 16 := (by rw [hv1]; exact c_mask _ _ 4 (by decide) (by decide)); have B2567 : (0 : Int) ≤ v1.toInt ∧ v1.toInt ≤ 15 := (by rw [q2568]; exact k_modB (by decide)); have B2570 : (16 : Int) ≤ v1.toInt ∧ v1.toInt ≤ 15 := ⟨k_gt hq2566 (by decide), B2567.2⟩; omega)
   refine k_callV X2548 hx hZ hown (a := b2544) (hw _ (List.mem_of_getElem? (i := 26) rfl)) (hw _ (List.mem_of_getElem? (i := 27) rfl)) (hw _ (List.mem_of_getElem? (i := 29) rfl)) (hw _ (List.mem_of_getElem? (i := 28) rfl)) (hw _ (List.mem_of_getElem? (i := 3) rfl)) (hw _ (List.mem_of_getElem? (i := 30) rfl)) (by decide) F2551 (rm5_169 l Z a0 hw [] b2544 b2549 k2550 (0 : Int32) (0 : Int32) v1 (fun _ => 0) T2548.heap n0 Z2557 F2551 F2552 F2553 F2554 F2555 g_b2544 g_b2549 lt2556 (by decide) (by decide) (by decide) (by decide) (fun _ _ => rfl) hT2559 hT2565) (by decide) (by decide) rfl (by rw [hml]; rfl) (argsL := [(.int v1)]) (rest := []) (lenOf pd_5 rfl) rfl (W := 0) (Nat.le_refl _) rfl (hb hby at_58) (by decide) (by decide) (pc' := 61) rfl (fun T2558 L2558 r2558 X2558 q2558 => ?_)
   obtain ⟨N2558, b2558, k2558, v2571, v2572, rfl, F2573, F2574, F2575, F2576, F2577, g_b2558, lt2584, Z2585, hI2578, hI2579, hI2580, hI2581, HZ2582⟩ := q2558
   have N2558' := Fr.app N2548' N2558
   show KEnds p e below s _ _ _ T2558 (mkF m 61 #[iv i0, iv i1, iv i2, iv i3, iv v1, iv (3 : Int32), iv v2532, iv (0 : Int32), iv v2542, iv v2543, rv b2544, .unset, .unset, .unset] [])
   refine k_iload X2558 hx (hb hby at_61) rfl (pc' := 63) rfl ?_
   refine k_iconst X2558 hx (hb hby at_63) (pc' := 64) rfl (z := (2 : Int32)) rfl ?_
   refine k_icmp_lt X2558 hx (hb hby at_64) (pn := 67) rfl (py := 74) (by decide) (fun hc => absurd hc (by decide)) (fun _ => ?_)
   refine k_aload X2558 hx (hb hby at_67) rfl rfl (pc' := 69) rfl ?_
   refine k_iload X2558 hx (hb hby at_69) rfl (pc' := 71) rfl ?_
   refine k_callV X2558 hx hZ hown (a := b2544) (hw _ (List.mem_of_getElem? (i := 26) rfl)) (hw _ (List.mem_of_getElem? (i := 27) rfl)) (hw _ (List.mem_of_getElem? (i := 29) rfl)) (hw _ (List.mem_of_getElem? (i := 28) rfl)) (hw _ (List.mem_of_getElem? (i := 3) rfl)) (hw _ (List.mem_of_getElem? (i := 30) rfl)) (by decide) F2573 (rm5_169 l Z a0 hw [] b2544 b2558 k2558 v2571 v2572 v1 (updF (fun _ => 0) v1.toNatClampNeg ((fun _ => 0) v1.toNatClampNeg + 1)) T2558.heap n0 Z2585 F2573 F2574 F2575 F2576 F2577 g_b2544 g_b2558 lt2584 hI2578 hI2579 hI2580 hI2581 HZ2582 hT2559 hT2565) (by decide) (by decide) rfl (by rw [hml]; rfl) (argsL := [(.int v1)]) (rest := []) (lenOf pd_5 rfl) rfl (W := 0) (Nat.le_refl _) rfl (hb hby at_71) (by decide) (by decide) (pc' := 74) rfl (fun T2586 L2586 r2586 X2586 q2586 => ?_)
   obtain ⟨N2586, b2586, k2586, v2587, v2588, rfl, F2589, F2590, F2591, F2592, F2593, g_b2586, lt2600, Z2601, hI2594, hI2595, hI2596, hI2597, HZ2598⟩ := q2586
   have N2586' := Fr.app N2558' N2586
   show KEnds p e below s _ _ _ T2586 (mkF m 74 #[iv i0, iv i1, iv i2, iv i3, iv v1, iv (3 : Int32), iv v2532, iv (0 : Int32), iv v2542, iv v2543, rv b2544, .unset, .unset, .unset] [])
   refine k_iload X2586 hx (hb hby at_74) rfl (pc' := 76) rfl ?_
   refine k_iconst X2586 hx (hb hby at_76) (pc' := 77) rfl (z := (3 : Int32)) rfl ?_
   refine k_icmp_lt X2586 hx (hb hby at_77) (pn := 80) rfl (py := 87) (by decide) (fun hc => absurd hc (by decide)) (fun _ => ?_)
   refine k_aload X2586 hx (hb hby at_80) rfl rfl (pc' := 82) rfl ?_
   refine k_iload X2586 hx (hb hby at_82) rfl (pc' := 84) rfl ?_
   refine k_callV X2586 hx hZ hown (a := b2544) (hw _ (List.mem_of_getElem? (i := 26) rfl)) (hw _ (List.mem_of_getElem? (i := 27) rfl)) (hw _ (List.mem_of_getElem? (i := 29) rfl)) (hw _ (List.mem_of_getElem? (i := 28) rfl)) (hw _ (List.mem_of_getElem? (i := 3) rfl)) (hw _ (List.mem_of_getElem? (i := 30) rfl)) (by decide) F2589 (rm5_169 l Z a0 hw [] b2544 b2586 k2586 v2587 v2588 v1 (updF (updF (fun _ => 0) v1.toNatClampNeg ((fun _ => 0) v1.toNatClampNeg + 1)) v1.toNatClampNeg ((updF (fun _ => 0) v1.toNatClampNeg ((fun _ => 0) v1.toNatClampNeg + 1)) v1.toNatClampNeg + 1)) T2586.heap n0 Z2601 F2589 F2590 F2591 F2592 F2593 g_b2544 g_b2586 lt2600 hI2594 hI2595 hI2596 hI2597 HZ2598 hT2559 hT2565) (by decide) (by decide) rfl (by rw [hml]; rfl) (argsL := [(.int v1)]) (rest := []) (lenOf pd_5 rfl) rfl (W := 0) (Nat.le_refl _) rfl (hb hby at_84) (by decide) (by decide) (pc' := 87) rfl (fun T2602 L2602 r2602 X2602 q2602 => ?_)
   obtain ⟨N2602, b2602, k2602, v2603, v2604, rfl, F2605, F2606, F2607, F2608, F2609, g_b2602, lt2616, Z2617, hI2610, hI2611, hI2612, hI2613, HZ2614⟩ := q2602
   have N2602' := Fr.app N2586' N2602
   show KEnds p e below s _ _ _ T2602 (mkF m 87 #[iv i0, iv i1, iv i2, iv i3, iv v1, iv (3 : Int32), iv v2532, iv (0 : Int32), iv v2542, iv v2543, rv b2544, .unset, .unset, .unset] [])
   refine k_iload X2602 hx (hb hby at_87) rfl (pc' := 89) rfl ?_
   refine k_iconst X2602 hx (hb hby at_89) (pc' := 90) rfl (z := (1 : Int32)) rfl ?_
   refine k_icmp_lt X2602 hx (hb hby at_90) (pn := 93) rfl (py := 100) (by decide) (fun _ => ?_) (fun hc => absurd (by decide) hc)
   refine k_iload X2602 hx (hb hby at_100) rfl (pc' := 102) rfl ?_
   refine k_iconst X2602 hx (hb hby at_102) (pc' := 103) rfl (z := (2 : Int32)) rfl ?_
   refine k_icmp_lt X2602 hx (hb hby at_103) (pn := 106) rfl (py := 113) (by decide) (fun _ => ?_) (fun hc => absurd (by decide) hc)
   refine k_iload X2602 hx (hb hby at_113) rfl (pc' := 115) rfl ?_
   refine k_iconst X2602 hx (hb hby at_115) (pc' := 116) rfl (z := (3 : Int32)) rfl ?_
   refine k_icmp_lt X2602 hx (hb hby at_116) (pn := 119) rfl (py := 126) (by decide) (fun _ => ?_) (fun hc => absurd (by decide) hc)
   refine k_aload X2602 hx (hb hby at_126) rfl rfl (pc' := 128) rfl ?_
   refine k_iload X2602 hx (hb hby at_128) rfl (pc' := 130) rfl ?_
   have hp2618 : ¬ v2542 < (0 : Int32) := by
    intro hq2619
    have B2622 : (-2147483648 : Int) ≤ i0.toInt ∧ i0.toInt ≤ 2147483647 := ⟨(rng32 i0).1, Int.le_of_lt_add_one (rng32 i0).2⟩
    have q2621 : v1.toInt = i0.toInt % 16 := (by rw [hv1]; exact c_mask _ _ 4 (by decide) (by decide))
    have B2620 : (0 : Int) ≤ v1.toInt ∧ v1.toInt ≤ 15 := (by rw [q2621]; exact k_modB (by decide))
    have B2623 : (0 : Int) ≤ v2571.toInt ∧ v2571.toInt ≤ 30 := ⟨k_ge hI2578 (by decide), k_le hI2579 (by decide)⟩
    have B2624 : (0 : Int) ≤ v2572.toInt ∧ v2572.toInt ≤ 2147483647 := ⟨k_ge hI2580 (by decide), Int.le_of_lt_add_one (rng32 v2572).2⟩
    have q2625 := hI2581; rw [Int32.lt_iff_toInt_lt] at q2625
    have B2626 : (0 : Int) ≤ v2587.toInt ∧ v2587.toInt ≤ 30 := ⟨k_ge hI2594 (by decide), k_le hI2595 (by decide)⟩
    have B2627 : (0 : Int) ≤ v2588.toInt ∧ v2588.toInt ≤ 2147483647 := ⟨k_ge hI2596 (by decide), Int.le_of_lt_add_one (rng32 v2588).2⟩
    have q2628 := hI2597; rw [Int32.lt_iff_toInt_lt] at q2628
    have B2629 : (0 : Int) ≤ v2603.toInt ∧ v2603.toInt ≤ 30 := ⟨k_ge hI2610 (by decide), k_le hI2611 (by decide)⟩
    have B2630 : (0 : Int) ≤ v2604.toInt ∧ v2604.toInt ≤ 2147483647 := ⟨k_ge hI2612 (by decide), Int.le_of_lt_add_one (rng32 v2604).2⟩
    have q2631 := hI2613; rw [Int32.lt_iff_toInt_lt] at q2631
    have B2634 : (-2147483648 : Int) ≤ i2.toInt ∧ i2.toInt ≤ 2147483647 := ⟨(rng32 i2).1, Int.le_of_lt_add_one (rng32 i2).2⟩
    have q2633 : v2542.toInt = i2.toInt % 32 := (by rw [hv2542]; exact c_mask _ _ 5 (by decide) (by decide))
    have B2632 : (0 : Int) ≤ v2542.toInt ∧ v2542.toInt ≤ 31 := (by rw [q2633]; exact k_modB (by decide))
    have B2635 : (0 : Int) ≤ v2542.toInt ∧ v2542.toInt ≤ -1 := ⟨B2632.1, k_lt hq2619 (by decide)⟩
    omega
   refine k_callV X2602 hx hZ hown (a := b2544) (hw _ (List.mem_of_getElem? (i := 15) rfl)) (hw _ (List.mem_of_getElem? (i := 16) rfl)) (hw _ (List.mem_of_getElem? (i := 18) rfl)) (hw _ (List.mem_of_getElem? (i := 17) rfl)) (hw _ (List.mem_of_getElem? (i := 3) rfl)) (hw _ (List.mem_of_getElem? (i := 19) rfl)) (by decide) F2605 (rm3_631 l Z a0 hw [] b2544 v2542 b2602 v2604 k2602 v2603 (updF (updF (updF (fun _ => 0) v1.toNatClampNeg ((fun _ => 0) v1.toNatClampNeg + 1)) v1.toNatClampNeg ((updF (fun _ => 0) v1.toNatClampNeg ((fun _ => 0) v1.toNatClampNeg + 1)) v1.toNatClampNeg + 1)) v1.toNatClampNeg ((updF (updF (fun _ => 0) v1.toNatClampNeg ((fun _ => 0) v1.toNatClampNeg + 1)) v1.toNatClampNeg ((updF (fun _ => 0) v1.toNatClampNeg ((fun _ => 0) v1.toNatClampNeg + 1)) v1.toNatClampNeg + 1)) v1.toNatClampNeg + 1)) T2602.heap n0 Z2617 F2605 F2606 F2607 F2608 F2609 lt2616 hp2618 hI2613 HZ2614) (by decide) (by decide) rfl (by rw [hml]; rfl) (argsL := [(.int v2542)]) (rest := []) (lenOf pd_1 rfl) rfl (W := 0) (Nat.le_refl _) rfl (hb hby at_130) (by decide) (by decide) (pc' := 133) rfl (fun T2636 L2636 r2636 X2636 q2636 => ?_)
   obtain ⟨N2636, e2636, v2637, rfl, hS2638⟩ := q2636
   have N2636' := Fr.app N2602' N2636
   show KEnds p e below s _ _ _ T2636 (mkF m 133 #[iv i0, iv i1, iv i2, iv i3, iv v1, iv (3 : Int32), iv v2532, iv (0 : Int32), iv v2542, iv v2543, rv b2544, .unset, .unset, .unset] [(.int v2637)])
   refine k_iload X2636 hx (hb hby at_133) rfl (pc' := 135) rfl ?_
   refine k_iload X2636 hx (hb hby at_135) rfl (pc' := 137) rfl ?_
   refine k_iload X2636 hx (hb hby at_137) rfl (pc' := 139) rfl ?_
   refine k_iload X2636 hx (hb hby at_139) rfl (pc' := 141) rfl ?_
   refine k_iload X2636 hx (hb hby at_141) rfl (pc' := 143) rfl ?_
   refine k_callS X2636 hx hZ hown (hw _ (List.mem_of_getElem? (i := 22) rfl)) (hw _ (List.mem_of_getElem? (i := 23) rfl)) (hw _ (List.mem_of_getElem? (i := 24) rfl)) (hw _ (List.mem_of_getElem? (i := 25) rfl)) (by decide) (rm4_2639 l Z a0 hw [] v2542 v1 v2532 T2602.heap n0 Z2617 ) (by decide) (by decide) e2636 (by rw [hml]; rfl) (argsL := [(.int v2542), (.int v1), (.int (3 : Int32)), (.int v2532), (.int (0 : Int32))]) (rest := [(.int v2637)]) (lenOf pd_2 rfl) rfl (W := 1) (Nat.le_refl _) rfl (hb hby at_143) (by decide) (by decide) (pc' := 146) rfl (fun T2643 L2643 r2643 X2643 q2643 => ?_)
   obtain ⟨N2643, e2643, rfl⟩ := q2643
   have N2643' := Fr.app N2636' N2643
   show KEnds p e below s _ _ _ T2643 (mkF m 146 #[iv i0, iv i1, iv i2, iv i3, iv v1, iv (3 : Int32), iv v2532, iv (0 : Int32), iv v2542, iv v2543, rv b2544, .unset, .unset, .unset] ((.int (f4_2639 v2542 v1 v2532)) :: (.int v2637) :: []))
   obtain ⟨v2644, hv2644⟩ : ∃ z, z = f4_2639 v2542 v1 v2532 := ⟨_, rfl⟩
   rw [← hv2644]
   refine k_icmp_ne X2643 hx (hb hby at_146) (pn := 149) rfl (py := 153) (by decide) (fun hc => absurd (by rw [hS2638, hv2644]; exact own_fin_36 v2542 v1 v2532 hp2618 hT2559 (by intro hq2645; have B2648 : (-2147483648 : Int) ≤ i0.toInt ∧ i0.toInt ≤ 2147483647 := ⟨(rng32 i0).1, Int.le_of_lt_add_one (rng32 i0).2⟩; have q2647 : v1.toInt = i0.toInt % 16 := (by rw [hv1]; exact c_mask _ _ 4 (by decide) (by decide)); have B2646 : (0 : Int) ≤ v1.toInt ∧ v1.toInt ≤ 15 := (by rw [q2647]; exact k_modB (by decide)); have B2649 : (0 : Int) ≤ v2571.toInt ∧ v2571.toInt ≤ 30 := ⟨k_ge hI2578 (by decide), k_le hI2579 (by decide)⟩; have B2650 : (0 : Int) ≤ v2572.toInt ∧ v2572.toInt ≤ 2147483647 := ⟨k_ge hI2580 (by decide), Int.le_of_lt_add_one (rng32 v2572).2⟩; have q2651 := hI2581; rw [Int32.lt_iff_toInt_lt] at q2651; have B2652 : (0 : Int) ≤ v2587.toInt ∧ v2587.toInt ≤ 30 := ⟨k_ge hI2594 (by decide), k_le hI2595 (by decide)⟩; have B2653 : (0 : Int) ≤ v2588.toInt ∧ v2588.toInt ≤ 2147483647 := ⟨k_ge hI2596 (by decide), Int.le_of_lt_add_one (rng32 v2588).2⟩; have q2654 := hI2597; rw [Int32.lt_iff_toInt_lt] at q2654; have B2655 : (0 : Int) ≤ v2603.toInt ∧ v2603.toInt ≤ 30 := ⟨k_ge hI2610 (by decide), k_le hI2611 (by decide)⟩; have B2656 : (0 : Int) ≤ v2604.toInt ∧ v2604.toInt ≤ 2147483647 := ⟨k_ge hI2612 (by decide), Int.le_of_lt_add_one (rng32 v2604).2⟩; have q2657 := hI2613; rw [Int32.lt_iff_toInt_lt] at q2657; have B2660 : (-2147483648 : Int) ≤ i2.toInt ∧ i2.toInt ≤ 2147483647 := ⟨(rng32 i2).1, Int.le_of_lt_add_one (rng32 i2).2⟩; have q2659 : v2542.toInt = i2.toInt % 32 := (by rw [hv2542]; exact c_mask _ _ 5 (by decide) (by decide)); have B2658 : (0 : Int) ≤ v2542.toInt ∧ v2542.toInt ≤ 31 := (by rw [q2659]; exact k_modB (by decide)); have B2663 : (-2147483648 : Int) ≤ i1.toInt ∧ i1.toInt ≤ 2147483647 := ⟨(rng32 i1).1, Int.le_of_lt_add_one (rng32 i1).2⟩; have q2662 : v2532.toInt = i1.toInt % 16 := (by rw [hv2532]; exact c_mask _ _ 4 (by decide) (by decide)); have B2661 : (0 : Int) ≤ v2532.toInt ∧ v2532.toInt ≤ 15 := (by rw [q2662]; exact k_modB (by decide)); have B2664 : (0 : Int) ≤ v2532.toInt ∧ v2532.toInt ≤ -1 := ⟨B2661.1, k_lt hq2645 (by decide)⟩; omega)) hc) (fun _ => ?_)
   refine k_iconst X2643 hx (hb hby at_149) (pc' := 150) rfl (z := (1 : Int32)) rfl ?_
   refine k_goto X2643 hx (hb hby at_150) (pc' := 154) (by decide) ?_
   refine k_istore X2643 hx (hb hby at_154) (Ls' := #[iv i0, iv i1, iv i2, iv i3, iv v1, iv (3 : Int32), iv v2532, iv (0 : Int32), iv v2542, iv v2543, rv b2544, iv (1 : Int32), .unset, .unset]) rfl (pc' := 156) rfl ?_
   refine k_aload X2643 hx (hb hby at_156) rfl rfl (pc' := 158) rfl ?_
   refine k_iload X2643 hx (hb hby at_158) rfl (pc' := 160) rfl ?_
   have hp2665 : ¬ v2543 < (0 : Int32) := by
    intro hq2666
    have B2669 : (-2147483648 : Int) ≤ i0.toInt ∧ i0.toInt ≤ 2147483647 := ⟨(rng32 i0).1, Int.le_of_lt_add_one (rng32 i0).2⟩
    have q2668 : v1.toInt = i0.toInt % 16 := (by rw [hv1]; exact c_mask _ _ 4 (by decide) (by decide))
    have B2667 : (0 : Int) ≤ v1.toInt ∧ v1.toInt ≤ 15 := (by rw [q2668]; exact k_modB (by decide))
    have B2670 : (0 : Int) ≤ v2571.toInt ∧ v2571.toInt ≤ 30 := ⟨k_ge hI2578 (by decide), k_le hI2579 (by decide)⟩
    have B2671 : (0 : Int) ≤ v2572.toInt ∧ v2572.toInt ≤ 2147483647 := ⟨k_ge hI2580 (by decide), Int.le_of_lt_add_one (rng32 v2572).2⟩
    have q2672 := hI2581; rw [Int32.lt_iff_toInt_lt] at q2672
    have B2673 : (0 : Int) ≤ v2587.toInt ∧ v2587.toInt ≤ 30 := ⟨k_ge hI2594 (by decide), k_le hI2595 (by decide)⟩
    have B2674 : (0 : Int) ≤ v2588.toInt ∧ v2588.toInt ≤ 2147483647 := ⟨k_ge hI2596 (by decide), Int.le_of_lt_add_one (rng32 v2588).2⟩
    have q2675 := hI2597; rw [Int32.lt_iff_toInt_lt] at q2675
    have B2676 : (0 : Int) ≤ v2603.toInt ∧ v2603.toInt ≤ 30 := ⟨k_ge hI2610 (by decide), k_le hI2611 (by decide)⟩
    have B2677 : (0 : Int) ≤ v2604.toInt ∧ v2604.toInt ≤ 2147483647 := ⟨k_ge hI2612 (by decide), Int.le_of_lt_add_one (rng32 v2604).2⟩
    have q2678 := hI2613; rw [Int32.lt_iff_toInt_lt] at q2678
    have B2681 : (-2147483648 : Int) ≤ i2.toInt ∧ i2.toInt ≤ 2147483647 := ⟨(rng32 i2).1, Int.le_of_lt_add_one (rng32 i2).2⟩
    have q2680 : v2542.toInt = i2.toInt % 32 := (by rw [hv2542]; exact c_mask _ _ 5 (by decide) (by decide))
    have B2679 : (0 : Int) ≤ v2542.toInt ∧ v2542.toInt ≤ 31 := (by rw [q2680]; exact k_modB (by decide))
    have B2684 : (-2147483648 : Int) ≤ i3.toInt ∧ i3.toInt ≤ 2147483647 := ⟨(rng32 i3).1, Int.le_of_lt_add_one (rng32 i3).2⟩
    have q2683 : v2543.toInt = i3.toInt % 2147483648 := (by rw [hv2543]; exact c_mask _ _ 31 (by decide) (by decide))
    have B2682 : (0 : Int) ≤ v2543.toInt ∧ v2543.toInt ≤ 2147483647 := (by rw [q2683]; exact k_modB (by decide))
    have B2685 : (0 : Int) ≤ v2543.toInt ∧ v2543.toInt ≤ -1 := ⟨B2682.1, k_lt hq2666 (by decide)⟩
    omega
   refine k_callV X2643 hx hZ hown (a := b2544) (hw _ (List.mem_of_getElem? (i := 15) rfl)) (hw _ (List.mem_of_getElem? (i := 16) rfl)) (hw _ (List.mem_of_getElem? (i := 18) rfl)) (hw _ (List.mem_of_getElem? (i := 17) rfl)) (hw _ (List.mem_of_getElem? (i := 3) rfl)) (hw _ (List.mem_of_getElem? (i := 19) rfl)) (by decide) F2605 (rm3_631 l Z a0 hw [] b2544 v2543 b2602 v2604 k2602 v2603 (updF (updF (updF (fun _ => 0) v1.toNatClampNeg ((fun _ => 0) v1.toNatClampNeg + 1)) v1.toNatClampNeg ((updF (fun _ => 0) v1.toNatClampNeg ((fun _ => 0) v1.toNatClampNeg + 1)) v1.toNatClampNeg + 1)) v1.toNatClampNeg ((updF (updF (fun _ => 0) v1.toNatClampNeg ((fun _ => 0) v1.toNatClampNeg + 1)) v1.toNatClampNeg ((updF (fun _ => 0) v1.toNatClampNeg ((fun _ => 0) v1.toNatClampNeg + 1)) v1.toNatClampNeg + 1)) v1.toNatClampNeg + 1)) T2602.heap n0 Z2617 F2605 F2606 F2607 F2608 F2609 lt2616 hp2665 hI2613 HZ2614) (by decide) (by decide) e2643 (by rw [hml]; rfl) (argsL := [(.int v2543)]) (rest := []) (lenOf pd_1 rfl) rfl (W := 0) (Nat.le_refl _) rfl (hb hby at_160) (by decide) (by decide) (pc' := 163) rfl (fun T2686 L2686 r2686 X2686 q2686 => ?_)
   obtain ⟨N2686, e2686, v2687, rfl, hS2688⟩ := q2686
   have N2686' := Fr.app N2643' N2686
   show KEnds p e below s _ _ _ T2686 (mkF m 163 #[iv i0, iv i1, iv i2, iv i3, iv v1, iv (3 : Int32), iv v2532, iv (0 : Int32), iv v2542, iv v2543, rv b2544, iv (1 : Int32), .unset, .unset] [(.int v2687)])
   refine k_iload X2686 hx (hb hby at_163) rfl (pc' := 165) rfl ?_
   refine k_iload X2686 hx (hb hby at_165) rfl (pc' := 167) rfl ?_
   refine k_iload X2686 hx (hb hby at_167) rfl (pc' := 169) rfl ?_
   refine k_iload X2686 hx (hb hby at_169) rfl (pc' := 171) rfl ?_
   refine k_iload X2686 hx (hb hby at_171) rfl (pc' := 173) rfl ?_
   refine k_callS X2686 hx hZ hown (hw _ (List.mem_of_getElem? (i := 22) rfl)) (hw _ (List.mem_of_getElem? (i := 23) rfl)) (hw _ (List.mem_of_getElem? (i := 24) rfl)) (hw _ (List.mem_of_getElem? (i := 25) rfl)) (by decide) (rm4_2639 l Z a0 hw [] v2543 v1 v2532 T2602.heap n0 Z2617 ) (by decide) (by decide) e2686 (by rw [hml]; rfl) (argsL := [(.int v2543), (.int v1), (.int (3 : Int32)), (.int v2532), (.int (0 : Int32))]) (rest := [(.int v2687)]) (lenOf pd_2 rfl) rfl (W := 1) (Nat.le_refl _) rfl (hb hby at_173) (by decide) (by decide) (pc' := 176) rfl (fun T2689 L2689 r2689 X2689 q2689 => ?_)
   obtain ⟨N2689, e2689, rfl⟩ := q2689
   have N2689' := Fr.app N2686' N2689
   show KEnds p e below s _ _ _ T2689 (mkF m 176 #[iv i0, iv i1, iv i2, iv i3, iv v1, iv (3 : Int32), iv v2532, iv (0 : Int32), iv v2542, iv v2543, rv b2544, iv (1 : Int32), .unset, .unset] ((.int (f4_2639 v2543 v1 v2532)) :: (.int v2687) :: []))
   obtain ⟨v2690, hv2690⟩ : ∃ z, z = f4_2639 v2543 v1 v2532 := ⟨_, rfl⟩
   rw [← hv2690]
   refine k_icmp_ne X2689 hx (hb hby at_176) (pn := 179) rfl (py := 183) (by decide) (fun hc => absurd (by rw [hS2688, hv2690]; exact own_fin_37 v2543 v1 v2532 hp2665 hT2559 (by intro hq2691; have B2694 : (-2147483648 : Int) ≤ i0.toInt ∧ i0.toInt ≤ 2147483647 := ⟨(rng32 i0).1, Int.le_of_lt_add_one (rng32 i0).2⟩; have q2693 : v1.toInt = i0.toInt % 16 := (by rw [hv1]; exact c_mask _ _ 4 (by decide) (by decide)); have B2692 : (0 : Int) ≤ v1.toInt ∧ v1.toInt ≤ 15 := (by rw [q2693]; exact k_modB (by decide)); have B2695 : (0 : Int) ≤ v2571.toInt ∧ v2571.toInt ≤ 30 := ⟨k_ge hI2578 (by decide), k_le hI2579 (by decide)⟩; have B2696 : (0 : Int) ≤ v2572.toInt ∧ v2572.toInt ≤ 2147483647 := ⟨k_ge hI2580 (by decide), Int.le_of_lt_add_one (rng32 v2572).2⟩; have q2697 := hI2581; rw [Int32.lt_iff_toInt_lt] at q2697; have B2698 : (0 : Int) ≤ v2587.toInt ∧ v2587.toInt ≤ 30 := ⟨k_ge hI2594 (by decide), k_le hI2595 (by decide)⟩; have B2699 : (0 : Int) ≤ v2588.toInt ∧ v2588.toInt ≤ 2147483647 := ⟨k_ge hI2596 (by decide), Int.le_of_lt_add_one (rng32 v2588).2⟩; have q2700 := hI2597; rw [Int32.lt_iff_toInt_lt] at q2700; have B2701 : (0 : Int) ≤ v2603.toInt ∧ v2603.toInt ≤ 30 := ⟨k_ge hI2610 (by decide), k_le hI2611 (by decide)⟩; have B2702 : (0 : Int) ≤ v2604.toInt ∧ v2604.toInt ≤ 2147483647 := ⟨k_ge hI2612 (by decide), Int.le_of_lt_add_one (rng32 v2604).2⟩; have q2703 := hI2613; rw [Int32.lt_iff_toInt_lt] at q2703; have B2706 : (-2147483648 : Int) ≤ i2.toInt ∧ i2.toInt ≤ 2147483647 := ⟨(rng32 i2).1, Int.le_of_lt_add_one (rng32 i2).2⟩; have q2705 : v2542.toInt = i2.toInt % 32 := (by rw [hv2542]; exact c_mask _ _ 5 (by decide) (by decide)); have B2704 : (0 : Int) ≤ v2542.toInt ∧ v2542.toInt ≤ 31 := (by rw [q2705]; exact k_modB (by decide)); have B2709 : (-2147483648 : Int) ≤ i3.toInt ∧ i3.toInt ≤ 2147483647 := ⟨(rng32 i3).1, Int.le_of_lt_add_one (rng32 i3).2⟩; have q2708 : v2543.toInt = i3.toInt % 2147483648 := (by rw [hv2543]; exact c_mask _ _ 31 (by decide) (by decide)); have B2707 : (0 : Int) ≤ v2543.toInt ∧ v2543.toInt ≤ 2147483647 := (by rw [q2708]; exact k_modB (by decide)); have B2712 : (-2147483648 : Int) ≤ i1.toInt ∧ i1.toInt ≤ 2147483647 := ⟨(rng32 i1).1, Int.le_of_lt_add_one (rng32 i1).2⟩; have q2711 : v2532.toInt = i1.toInt % 16 := (by rw [hv2532]; exact c_mask _ _ 4 (by decide) (by decide)); have B2710 : (0 : Int) ≤ v2532.toInt ∧ v2532.toInt ≤ 15 := (by rw [q2711]; exact k_modB (by decide)); have B2713 : (0 : Int) ≤ v2532.toInt ∧ v2532.toInt ≤ -1 := ⟨B2710.1, k_lt hq2691 (by decide)⟩; omega)) hc) (fun _ => ?_)
   refine k_iconst X2689 hx (hb hby at_179) (pc' := 180) rfl (z := (1 : Int32)) rfl ?_
   refine k_goto X2689 hx (hb hby at_180) (pc' := 184) (by decide) ?_
   refine k_istore X2689 hx (hb hby at_184) (Ls' := #[iv i0, iv i1, iv i2, iv i3, iv v1, iv (3 : Int32), iv v2532, iv (0 : Int32), iv v2542, iv v2543, rv b2544, iv (1 : Int32), iv (1 : Int32), .unset]) rfl (pc' := 186) rfl ?_
   refine k_aload X2689 hx (hb hby at_186) rfl rfl (pc' := 188) rfl ?_
   refine k_iload X2689 hx (hb hby at_188) rfl (pc' := 190) rfl ?_
   refine k_callV X2689 hx hZ hown (a := b2544) (hw _ (List.mem_of_getElem? (i := 15) rfl)) (hw _ (List.mem_of_getElem? (i := 16) rfl)) (hw _ (List.mem_of_getElem? (i := 18) rfl)) (hw _ (List.mem_of_getElem? (i := 17) rfl)) (hw _ (List.mem_of_getElem? (i := 3) rfl)) (hw _ (List.mem_of_getElem? (i := 19) rfl)) (by decide) F2605 (rm3_631 l Z a0 hw [] b2544 v1 b2602 v2604 k2602 v2603 (updF (updF (updF (fun _ => 0) v1.toNatClampNeg ((fun _ => 0) v1.toNatClampNeg + 1)) v1.toNatClampNeg ((updF (fun _ => 0) v1.toNatClampNeg ((fun _ => 0) v1.toNatClampNeg + 1)) v1.toNatClampNeg + 1)) v1.toNatClampNeg ((updF (updF (fun _ => 0) v1.toNatClampNeg ((fun _ => 0) v1.toNatClampNeg + 1)) v1.toNatClampNeg ((updF (fun _ => 0) v1.toNatClampNeg ((fun _ => 0) v1.toNatClampNeg + 1)) v1.toNatClampNeg + 1)) v1.toNatClampNeg + 1)) T2602.heap n0 Z2617 F2605 F2606 F2607 F2608 F2609 lt2616 hT2559 hI2613 HZ2614) (by decide) (by decide) e2689 (by rw [hml]; rfl) (argsL := [(.int v1)]) (rest := []) (lenOf pd_1 rfl) rfl (W := 0) (Nat.le_refl _) rfl (hb hby at_190) (by decide) (by decide) (pc' := 193) rfl (fun T2714 L2714 r2714 X2714 q2714 => ?_)
   obtain ⟨N2714, e2714, v2715, rfl, hS2716⟩ := q2714
   have N2714' := Fr.app N2689' N2714
   show KEnds p e below s _ _ _ T2714 (mkF m 193 #[iv i0, iv i1, iv i2, iv i3, iv v1, iv (3 : Int32), iv v2532, iv (0 : Int32), iv v2542, iv v2543, rv b2544, iv (1 : Int32), iv (1 : Int32), .unset] [(.int v2715)])
   refine k_iload X2714 hx (hb hby at_193) rfl (pc' := 195) rfl ?_
   refine k_iload X2714 hx (hb hby at_195) rfl (pc' := 197) rfl ?_
   refine k_iload X2714 hx (hb hby at_197) rfl (pc' := 199) rfl ?_
   refine k_iload X2714 hx (hb hby at_199) rfl (pc' := 201) rfl ?_
   refine k_iload X2714 hx (hb hby at_201) rfl (pc' := 203) rfl ?_
   refine k_callS X2714 hx hZ hown (hw _ (List.mem_of_getElem? (i := 22) rfl)) (hw _ (List.mem_of_getElem? (i := 23) rfl)) (hw _ (List.mem_of_getElem? (i := 24) rfl)) (hw _ (List.mem_of_getElem? (i := 25) rfl)) (by decide) (rm4_2717 l Z a0 hw [] v1 v2532 T2602.heap n0 Z2617 ) (by decide) (by decide) e2714 (by rw [hml]; rfl) (argsL := [(.int v1), (.int v1), (.int (3 : Int32)), (.int v2532), (.int (0 : Int32))]) (rest := [(.int v2715)]) (lenOf pd_2 rfl) rfl (W := 1) (Nat.le_refl _) rfl (hb hby at_203) (by decide) (by decide) (pc' := 206) rfl (fun T2719 L2719 r2719 X2719 q2719 => ?_)
   obtain ⟨N2719, e2719, rfl⟩ := q2719
   have N2719' := Fr.app N2714' N2719
   show KEnds p e below s _ _ _ T2719 (mkF m 206 #[iv i0, iv i1, iv i2, iv i3, iv v1, iv (3 : Int32), iv v2532, iv (0 : Int32), iv v2542, iv v2543, rv b2544, iv (1 : Int32), iv (1 : Int32), .unset] ((.int (f4_2717 v1 v2532)) :: (.int v2715) :: []))
   obtain ⟨v2720, hv2720⟩ : ∃ z, z = f4_2717 v1 v2532 := ⟨_, rfl⟩
   rw [← hv2720]
   refine k_icmp_ne X2719 hx (hb hby at_206) (pn := 209) rfl (py := 213) (by decide) (fun hc => absurd (by rw [hS2716, hv2720]; exact own_fin_38 v1 v2532 hT2559 hT2559 (by intro hq2721; have B2724 : (-2147483648 : Int) ≤ i0.toInt ∧ i0.toInt ≤ 2147483647 := ⟨(rng32 i0).1, Int.le_of_lt_add_one (rng32 i0).2⟩; have q2723 : v1.toInt = i0.toInt % 16 := (by rw [hv1]; exact c_mask _ _ 4 (by decide) (by decide)); have B2722 : (0 : Int) ≤ v1.toInt ∧ v1.toInt ≤ 15 := (by rw [q2723]; exact k_modB (by decide)); have B2725 : (0 : Int) ≤ v2571.toInt ∧ v2571.toInt ≤ 30 := ⟨k_ge hI2578 (by decide), k_le hI2579 (by decide)⟩; have B2726 : (0 : Int) ≤ v2572.toInt ∧ v2572.toInt ≤ 2147483647 := ⟨k_ge hI2580 (by decide), Int.le_of_lt_add_one (rng32 v2572).2⟩; have q2727 := hI2581; rw [Int32.lt_iff_toInt_lt] at q2727; have B2728 : (0 : Int) ≤ v2587.toInt ∧ v2587.toInt ≤ 30 := ⟨k_ge hI2594 (by decide), k_le hI2595 (by decide)⟩; have B2729 : (0 : Int) ≤ v2588.toInt ∧ v2588.toInt ≤ 2147483647 := ⟨k_ge hI2596 (by decide), Int.le_of_lt_add_one (rng32 v2588).2⟩; have q2730 := hI2597; rw [Int32.lt_iff_toInt_lt] at q2730; have B2731 : (0 : Int) ≤ v2603.toInt ∧ v2603.toInt ≤ 30 := ⟨k_ge hI2610 (by decide), k_le hI2611 (by decide)⟩; have B2732 : (0 : Int) ≤ v2604.toInt ∧ v2604.toInt ≤ 2147483647 := ⟨k_ge hI2612 (by decide), Int.le_of_lt_add_one (rng32 v2604).2⟩; have q2733 := hI2613; rw [Int32.lt_iff_toInt_lt] at q2733; have B2736 : (-2147483648 : Int) ≤ i2.toInt ∧ i2.toInt ≤ 2147483647 := ⟨(rng32 i2).1, Int.le_of_lt_add_one (rng32 i2).2⟩; have q2735 : v2542.toInt = i2.toInt % 32 := (by rw [hv2542]; exact c_mask _ _ 5 (by decide) (by decide)); have B2734 : (0 : Int) ≤ v2542.toInt ∧ v2542.toInt ≤ 31 := (by rw [q2735]; exact k_modB (by decide)); have B2739 : (-2147483648 : Int) ≤ i3.toInt ∧ i3.toInt ≤ 2147483647 := ⟨(rng32 i3).1, Int.le_of_lt_add_one (rng32 i3).2⟩; have q2738 : v2543.toInt = i3.toInt % 2147483648 := (by rw [hv2543]; exact c_mask _ _ 31 (by decide) (by decide)); have B2737 : (0 : Int) ≤ v2543.toInt ∧ v2543.toInt ≤ 2147483647 := (by rw [q2738]; exact k_modB (by decide)); have B2742 : (-2147483648 : Int) ≤ i1.toInt ∧ i1.toInt ≤ 2147483647 := ⟨(rng32 i1).1, Int.le_of_lt_add_one (rng32 i1).2⟩; have q2741 : v2532.toInt = i1.toInt % 16 := (by rw [hv2532]; exact c_mask _ _ 4 (by decide) (by decide)); have B2740 : (0 : Int) ≤ v2532.toInt ∧ v2532.toInt ≤ 15 := (by rw [q2741]; exact k_modB (by decide)); have B2743 : (0 : Int) ≤ v2532.toInt ∧ v2532.toInt ≤ -1 := ⟨B2740.1, k_lt hq2721 (by decide)⟩; omega)) hc) (fun _ => ?_)
   refine k_iconst X2719 hx (hb hby at_209) (pc' := 210) rfl (z := (1 : Int32)) rfl ?_
   refine k_goto X2719 hx (hb hby at_210) (pc' := 214) (by decide) ?_
   refine k_istore X2719 hx (hb hby at_214) (Ls' := #[iv i0, iv i1, iv i2, iv i3, iv v1, iv (3 : Int32), iv v2532, iv (0 : Int32), iv v2542, iv v2543, rv b2544, iv (1 : Int32), iv (1 : Int32), iv (1 : Int32)]) rfl (pc' := 216) rfl ?_
   refine k_iload X2719 hx (hb hby at_216) rfl (pc' := 218) rfl ?_
   refine k_if_eq X2719 hx (hb hby at_218) (pn := 221) rfl (py := 235) (by decide) (fun hc => absurd hc (by decide)) (fun _ => ?_)
   refine k_iload X2719 hx (hb hby at_221) rfl (pc' := 223) rfl ?_
   refine k_if_eq X2719 hx (hb hby at_223) (pn := 226) rfl (py := 235) (by decide) (fun hc => absurd hc (by decide)) (fun _ => ?_)
   refine k_iload X2719 hx (hb hby at_226) rfl (pc' := 228) rfl ?_
   refine k_if_eq X2719 hx (hb hby at_228) (pn := 231) rfl (py := 235) (by decide) (fun hc => absurd hc (by decide)) (fun _ => ?_)
   refine k_iconst X2719 hx (hb hby at_231) (pc' := 232) rfl (z := (1 : Int32)) rfl ?_
   refine k_goto X2719 hx (hb hby at_232) (pc' := 236) (by decide) ?_
   exact k_retN X2719 hx (t := .boolean) Bd.returns (by simp) (hb hby at_236) hlk (by decide) (by decide) (z' := (1 : Int32)) rfl ⟨rfl, N2719'⟩
  ·
   show KEnds p e below s _ _ _ s₁ (mkF m 24 #[iv i0, iv i1, iv i2, iv i3, iv v1, iv (3 : Int32), iv v2532, .unset, .unset, .unset, .unset, .unset, .unset, .unset] [(.int (1 : Int32))])
   refine k_istore X0 hx (hb hby at_24) (Ls' := #[iv i0, iv i1, iv i2, iv i3, iv v1, iv (3 : Int32), iv v2532, iv (1 : Int32), .unset, .unset, .unset, .unset, .unset, .unset]) rfl (pc' := 26) rfl ?_
   refine k_iloadN X0 hx (hb hby at_26) rfl (pc' := 27) rfl ?_
   refine k_bipush X0 hx (hb hby at_27) (pc' := 29) rfl (z := (31 : Int32)) rfl ?_
   refine k_iand X0 hx (hb hby at_29) (pc' := 30) rfl (fun v2745 hv2745 => ?_)
   refine k_istore X0 hx (hb hby at_30) (Ls' := #[iv i0, iv i1, iv i2, iv i3, iv v1, iv (3 : Int32), iv v2532, iv (1 : Int32), iv v2745, .unset, .unset, .unset, .unset, .unset]) rfl (pc' := 32) rfl ?_
   refine k_iloadN X0 hx (hb hby at_32) rfl (pc' := 33) rfl ?_
   refine k_ldc X0 hx hZ hown (hw _ (List.mem_of_getElem? (i := 0) rfl)) (hb hby at_33) (pc' := 35) rfl ?_
   refine k_iand X0 hx (hb hby at_35) (pc' := 36) rfl (fun v2746 hv2746 => ?_)
   refine k_istore X0 hx (hb hby at_36) (Ls' := #[iv i0, iv i1, iv i2, iv i3, iv v1, iv (3 : Int32), iv v2532, iv (1 : Int32), iv v2745, iv v2746, .unset, .unset, .unset, .unset]) rfl (pc' := 38) rfl ?_
   refine k_newO X0 hx hZ hown (hw _ (List.mem_of_getElem? (i := 1) rfl)) (hw _ (List.mem_of_getElem? (i := 2) rfl)) (hw _ (List.mem_of_getElem? (i := 3) rfl)) e0 (hb hby at_38) (by decide) (by decide) (pc' := 41) rfl (fun T2747 h2747 b2747 g2747 X2747 e2747 E2747 A2747 D2747 => ?_)
   have g_b2747 : n0 ≤ b2747 := Nat.le_trans Z0 (Nat.le_of_eq g2747.symm)
   have Z2747 : n0 ≤ h2747.size := Nat.le_trans Z0 E2747.1
   have F2748 : Fld Z h2747 b2747 "com/example/dendrotick/dendrotick/VectorClock" "entries" "[I" .null := D2747 (Or.inl (hw _ (List.mem_of_getElem? (i := 12) rfl))) (ty := (.array .int)) (by decide)
   have F2749 : Fld Z h2747 b2747 "com/example/dendrotick/dendrotick/VectorClock" "work" "Lcom/example/dendrotick/dendrotick/ClockWork;" .null := D2747 (Or.inr (hw _ (List.mem_of_getElem? (i := 14) rfl))) (ty := (.object "com/example/dendrotick/dendrotick/ClockWork")) (by decide)
   have F2750 : Fld Z h2747 b2747 "com/example/dendrotick/dendrotick/VectorClock" "size" "I" (.int (0 : Int32)) := D2747 (Or.inl (hw _ (List.mem_of_getElem? (i := 21) rfl))) (ty := .int) (by decide)
   refine k_dup X2747 hx (hb hby at_41) rfl (pc' := 42) rfl ?_
   refine k_anull X2747 hx (hb hby at_42) (pc' := 43) rfl ?_
   refine k_callI X2747 hx hZ hown (a := b2747) rfl (hw _ (List.mem_of_getElem? (i := 4) rfl)) (hw _ (List.mem_of_getElem? (i := 5) rfl)) (hw _ (List.mem_of_getElem? (i := 3) rfl)) (hw _ (List.mem_of_getElem? (i := 6) rfl)) rfl (by decide) (rm1_27 l Z a0 hw [] b2747 h2747 n0 Z2747 A2747 F2748 F2749 F2750 g_b2747) (by decide) (by decide) e2747 (by rw [hml]; rfl) (argsL := [.null]) (rest := [(.ref b2747)]) (lenOf pd_0 rfl) rfl (W := 1) (Nat.le_refl _) rfl (hb hby at_43) (by decide) (by decide) (pc' := 46) rfl (fun T2751 L2751 r2751 X2751 q2751 => ?_)
   obtain ⟨N2751, q2751⟩ := q2751
   have N2751' := Fr.app N0 N2751
   obtain ⟨b2752, k2753, rfl, F2754, F2755, F2756, F2757, F2758, g_b2752, lt2759, Z2760⟩ := q2751
   show KEnds p e below s _ _ _ T2751 (mkF m 46 #[iv i0, iv i1, iv i2, iv i3, iv v1, iv (3 : Int32), iv v2532, iv (1 : Int32), iv v2745, iv v2746, .unset, .unset, .unset, .unset] [(.ref b2747)])
   refine k_astore X2751 hx (hb hby at_46) rfl (Ls' := #[iv i0, iv i1, iv i2, iv i3, iv v1, iv (3 : Int32), iv v2532, iv (1 : Int32), iv v2745, iv v2746, rv b2747, .unset, .unset, .unset]) rfl (pc' := 48) rfl ?_
   refine k_iload X2751 hx (hb hby at_48) rfl (pc' := 50) rfl ?_
   refine k_iconst X2751 hx (hb hby at_50) (pc' := 51) rfl (z := (1 : Int32)) rfl ?_
   refine k_icmp_lt X2751 hx (hb hby at_51) (pn := 54) rfl (py := 61) (by decide) (fun hc => absurd hc (by decide)) (fun _ => ?_)
   refine k_aload X2751 hx (hb hby at_54) rfl rfl (pc' := 56) rfl ?_
   refine k_iload X2751 hx (hb hby at_56) rfl (pc' := 58) rfl ?_
   have hT2762 : ¬ v1 < (0 : Int32) := (by intro hq2763; have B2766 : (-2147483648 : Int) ≤ i0.toInt ∧ i0.toInt ≤ 2147483647 := ⟨(rng32 i0).1, Int.le_of_lt_add_one (rng32 i0).2⟩; have q2765 : v1.toInt = i0.toInt % 16 := (by rw [hv1]; exact c_mask _ _ 4 (by decide) (by decide)); have B2764 : (0 : Int) ≤ v1.toInt ∧ v1.toInt ≤ 15 := (by rw [q2765]; exact k_modB (by decide)); have B2767 : (0 : Int) ≤ v1.toInt ∧ v1.toInt ≤ -1 := ⟨B2764.1, k_lt hq2763 (by decide)⟩; omega)
   have hT2768 : ¬ (15 : Int32) < v1 := (by intro hq2769; have B2772 : (-2147483648 : Int) ≤ i0.toInt ∧ i0.toInt ≤ 2147483647 := ⟨(rng32 i0).1, Int.le_of_lt_add_one (rng32 i0).2⟩; have q2771 : v1.toInt = i0.toInt % 16 := (by rw [hv1]; exact c_mask _ _ 4 (by decide) (by decide)); have B2770 : (0 : Int) ≤ v1.toInt ∧ v1.toInt ≤ 15 := (by rw [q2771]; exact k_modB (by decide)); have B2773 : (16 : Int) ≤ v1.toInt ∧ v1.toInt ≤ 15 := ⟨k_gt hq2769 (by decide), B2770.2⟩; omega)
   refine k_callV X2751 hx hZ hown (a := b2747) (hw _ (List.mem_of_getElem? (i := 26) rfl)) (hw _ (List.mem_of_getElem? (i := 27) rfl)) (hw _ (List.mem_of_getElem? (i := 29) rfl)) (hw _ (List.mem_of_getElem? (i := 28) rfl)) (hw _ (List.mem_of_getElem? (i := 3) rfl)) (hw _ (List.mem_of_getElem? (i := 30) rfl)) (by decide) F2754 (rm5_169 l Z a0 hw [] b2747 b2752 k2753 (0 : Int32) (0 : Int32) v1 (fun _ => 0) T2751.heap n0 Z2760 F2754 F2755 F2756 F2757 F2758 g_b2747 g_b2752 lt2759 (by decide) (by decide) (by decide) (by decide) (fun _ _ => rfl) hT2762 hT2768) (by decide) (by decide) rfl (by rw [hml]; rfl) (argsL := [(.int v1)]) (rest := []) (lenOf pd_5 rfl) rfl (W := 0) (Nat.le_refl _) rfl (hb hby at_58) (by decide) (by decide) (pc' := 61) rfl (fun T2761 L2761 r2761 X2761 q2761 => ?_)
   obtain ⟨N2761, b2761, k2761, v2774, v2775, rfl, F2776, F2777, F2778, F2779, F2780, g_b2761, lt2787, Z2788, hI2781, hI2782, hI2783, hI2784, HZ2785⟩ := q2761
   have N2761' := Fr.app N2751' N2761
   show KEnds p e below s _ _ _ T2761 (mkF m 61 #[iv i0, iv i1, iv i2, iv i3, iv v1, iv (3 : Int32), iv v2532, iv (1 : Int32), iv v2745, iv v2746, rv b2747, .unset, .unset, .unset] [])
   refine k_iload X2761 hx (hb hby at_61) rfl (pc' := 63) rfl ?_
   refine k_iconst X2761 hx (hb hby at_63) (pc' := 64) rfl (z := (2 : Int32)) rfl ?_
   refine k_icmp_lt X2761 hx (hb hby at_64) (pn := 67) rfl (py := 74) (by decide) (fun hc => absurd hc (by decide)) (fun _ => ?_)
   refine k_aload X2761 hx (hb hby at_67) rfl rfl (pc' := 69) rfl ?_
   refine k_iload X2761 hx (hb hby at_69) rfl (pc' := 71) rfl ?_
   refine k_callV X2761 hx hZ hown (a := b2747) (hw _ (List.mem_of_getElem? (i := 26) rfl)) (hw _ (List.mem_of_getElem? (i := 27) rfl)) (hw _ (List.mem_of_getElem? (i := 29) rfl)) (hw _ (List.mem_of_getElem? (i := 28) rfl)) (hw _ (List.mem_of_getElem? (i := 3) rfl)) (hw _ (List.mem_of_getElem? (i := 30) rfl)) (by decide) F2776 (rm5_169 l Z a0 hw [] b2747 b2761 k2761 v2774 v2775 v1 (updF (fun _ => 0) v1.toNatClampNeg ((fun _ => 0) v1.toNatClampNeg + 1)) T2761.heap n0 Z2788 F2776 F2777 F2778 F2779 F2780 g_b2747 g_b2761 lt2787 hI2781 hI2782 hI2783 hI2784 HZ2785 hT2762 hT2768) (by decide) (by decide) rfl (by rw [hml]; rfl) (argsL := [(.int v1)]) (rest := []) (lenOf pd_5 rfl) rfl (W := 0) (Nat.le_refl _) rfl (hb hby at_71) (by decide) (by decide) (pc' := 74) rfl (fun T2789 L2789 r2789 X2789 q2789 => ?_)
   obtain ⟨N2789, b2789, k2789, v2790, v2791, rfl, F2792, F2793, F2794, F2795, F2796, g_b2789, lt2803, Z2804, hI2797, hI2798, hI2799, hI2800, HZ2801⟩ := q2789
   have N2789' := Fr.app N2761' N2789
   show KEnds p e below s _ _ _ T2789 (mkF m 74 #[iv i0, iv i1, iv i2, iv i3, iv v1, iv (3 : Int32), iv v2532, iv (1 : Int32), iv v2745, iv v2746, rv b2747, .unset, .unset, .unset] [])
   refine k_iload X2789 hx (hb hby at_74) rfl (pc' := 76) rfl ?_
   refine k_iconst X2789 hx (hb hby at_76) (pc' := 77) rfl (z := (3 : Int32)) rfl ?_
   refine k_icmp_lt X2789 hx (hb hby at_77) (pn := 80) rfl (py := 87) (by decide) (fun hc => absurd hc (by decide)) (fun _ => ?_)
   refine k_aload X2789 hx (hb hby at_80) rfl rfl (pc' := 82) rfl ?_
   refine k_iload X2789 hx (hb hby at_82) rfl (pc' := 84) rfl ?_
   refine k_callV X2789 hx hZ hown (a := b2747) (hw _ (List.mem_of_getElem? (i := 26) rfl)) (hw _ (List.mem_of_getElem? (i := 27) rfl)) (hw _ (List.mem_of_getElem? (i := 29) rfl)) (hw _ (List.mem_of_getElem? (i := 28) rfl)) (hw _ (List.mem_of_getElem? (i := 3) rfl)) (hw _ (List.mem_of_getElem? (i := 30) rfl)) (by decide) F2792 (rm5_169 l Z a0 hw [] b2747 b2789 k2789 v2790 v2791 v1 (updF (updF (fun _ => 0) v1.toNatClampNeg ((fun _ => 0) v1.toNatClampNeg + 1)) v1.toNatClampNeg ((updF (fun _ => 0) v1.toNatClampNeg ((fun _ => 0) v1.toNatClampNeg + 1)) v1.toNatClampNeg + 1)) T2789.heap n0 Z2804 F2792 F2793 F2794 F2795 F2796 g_b2747 g_b2789 lt2803 hI2797 hI2798 hI2799 hI2800 HZ2801 hT2762 hT2768) (by decide) (by decide) rfl (by rw [hml]; rfl) (argsL := [(.int v1)]) (rest := []) (lenOf pd_5 rfl) rfl (W := 0) (Nat.le_refl _) rfl (hb hby at_84) (by decide) (by decide) (pc' := 87) rfl (fun T2805 L2805 r2805 X2805 q2805 => ?_)
   obtain ⟨N2805, b2805, k2805, v2806, v2807, rfl, F2808, F2809, F2810, F2811, F2812, g_b2805, lt2819, Z2820, hI2813, hI2814, hI2815, hI2816, HZ2817⟩ := q2805
   have N2805' := Fr.app N2789' N2805
   show KEnds p e below s _ _ _ T2805 (mkF m 87 #[iv i0, iv i1, iv i2, iv i3, iv v1, iv (3 : Int32), iv v2532, iv (1 : Int32), iv v2745, iv v2746, rv b2747, .unset, .unset, .unset] [])
   refine k_iload X2805 hx (hb hby at_87) rfl (pc' := 89) rfl ?_
   refine k_iconst X2805 hx (hb hby at_89) (pc' := 90) rfl (z := (1 : Int32)) rfl ?_
   refine k_icmp_lt X2805 hx (hb hby at_90) (pn := 93) rfl (py := 100) (by decide) (fun hc => absurd hc (by decide)) (fun _ => ?_)
   refine k_aload X2805 hx (hb hby at_93) rfl rfl (pc' := 95) rfl ?_
   refine k_iload X2805 hx (hb hby at_95) rfl (pc' := 97) rfl ?_
   have hT2822 : ¬ v2532 < (0 : Int32) := (by intro hq2823; have B2826 : (-2147483648 : Int) ≤ i0.toInt ∧ i0.toInt ≤ 2147483647 := ⟨(rng32 i0).1, Int.le_of_lt_add_one (rng32 i0).2⟩; have q2825 : v1.toInt = i0.toInt % 16 := (by rw [hv1]; exact c_mask _ _ 4 (by decide) (by decide)); have B2824 : (0 : Int) ≤ v1.toInt ∧ v1.toInt ≤ 15 := (by rw [q2825]; exact k_modB (by decide)); have B2827 : (0 : Int) ≤ v2774.toInt ∧ v2774.toInt ≤ 30 := ⟨k_ge hI2781 (by decide), k_le hI2782 (by decide)⟩; have B2828 : (0 : Int) ≤ v2775.toInt ∧ v2775.toInt ≤ 2147483647 := ⟨k_ge hI2783 (by decide), Int.le_of_lt_add_one (rng32 v2775).2⟩; have q2829 := hI2784; rw [Int32.lt_iff_toInt_lt] at q2829; have B2830 : (0 : Int) ≤ v2790.toInt ∧ v2790.toInt ≤ 30 := ⟨k_ge hI2797 (by decide), k_le hI2798 (by decide)⟩; have B2831 : (0 : Int) ≤ v2791.toInt ∧ v2791.toInt ≤ 2147483647 := ⟨k_ge hI2799 (by decide), Int.le_of_lt_add_one (rng32 v2791).2⟩; have q2832 := hI2800; rw [Int32.lt_iff_toInt_lt] at q2832; have B2833 : (0 : Int) ≤ v2806.toInt ∧ v2806.toInt ≤ 30 := ⟨k_ge hI2813 (by decide), k_le hI2814 (by decide)⟩; have B2834 : (0 : Int) ≤ v2807.toInt ∧ v2807.toInt ≤ 2147483647 := ⟨k_ge hI2815 (by decide), Int.le_of_lt_add_one (rng32 v2807).2⟩; have q2835 := hI2816; rw [Int32.lt_iff_toInt_lt] at q2835; have B2838 : (-2147483648 : Int) ≤ i1.toInt ∧ i1.toInt ≤ 2147483647 := ⟨(rng32 i1).1, Int.le_of_lt_add_one (rng32 i1).2⟩; have q2837 : v2532.toInt = i1.toInt % 16 := (by rw [hv2532]; exact c_mask _ _ 4 (by decide) (by decide)); have B2836 : (0 : Int) ≤ v2532.toInt ∧ v2532.toInt ≤ 15 := (by rw [q2837]; exact k_modB (by decide)); have B2839 : (0 : Int) ≤ v2532.toInt ∧ v2532.toInt ≤ -1 := ⟨B2836.1, k_lt hq2823 (by decide)⟩; omega)
   have hT2840 : ¬ (15 : Int32) < v2532 := (by intro hq2841; have B2844 : (-2147483648 : Int) ≤ i0.toInt ∧ i0.toInt ≤ 2147483647 := ⟨(rng32 i0).1, Int.le_of_lt_add_one (rng32 i0).2⟩; have q2843 : v1.toInt = i0.toInt % 16 := (by rw [hv1]; exact c_mask _ _ 4 (by decide) (by decide)); have B2842 : (0 : Int) ≤ v1.toInt ∧ v1.toInt ≤ 15 := (by rw [q2843]; exact k_modB (by decide)); have B2845 : (0 : Int) ≤ v2774.toInt ∧ v2774.toInt ≤ 30 := ⟨k_ge hI2781 (by decide), k_le hI2782 (by decide)⟩; have B2846 : (0 : Int) ≤ v2775.toInt ∧ v2775.toInt ≤ 2147483647 := ⟨k_ge hI2783 (by decide), Int.le_of_lt_add_one (rng32 v2775).2⟩; have q2847 := hI2784; rw [Int32.lt_iff_toInt_lt] at q2847; have B2848 : (0 : Int) ≤ v2790.toInt ∧ v2790.toInt ≤ 30 := ⟨k_ge hI2797 (by decide), k_le hI2798 (by decide)⟩; have B2849 : (0 : Int) ≤ v2791.toInt ∧ v2791.toInt ≤ 2147483647 := ⟨k_ge hI2799 (by decide), Int.le_of_lt_add_one (rng32 v2791).2⟩; have q2850 := hI2800; rw [Int32.lt_iff_toInt_lt] at q2850; have B2851 : (0 : Int) ≤ v2806.toInt ∧ v2806.toInt ≤ 30 := ⟨k_ge hI2813 (by decide), k_le hI2814 (by decide)⟩; have B2852 : (0 : Int) ≤ v2807.toInt ∧ v2807.toInt ≤ 2147483647 := ⟨k_ge hI2815 (by decide), Int.le_of_lt_add_one (rng32 v2807).2⟩; have q2853 := hI2816; rw [Int32.lt_iff_toInt_lt] at q2853; have B2856 : (-2147483648 : Int) ≤ i1.toInt ∧ i1.toInt ≤ 2147483647 := ⟨(rng32 i1).1, Int.le_of_lt_add_one (rng32 i1).2⟩; have q2855 : v2532.toInt = i1.toInt % 16 := (by rw [hv2532]; exact c_mask _ _ 4 (by decide) (by decide)); have B2854 : (0 : Int) ≤ v2532.toInt ∧ v2532.toInt ≤ 15 := (by rw [q2855]; exact k_modB (by decide)); have B2857 : (16 : Int) ≤ v2532.toInt ∧ v2532.toInt ≤ 15 := ⟨k_gt hq2841 (by decide), B2854.2⟩; omega)
   refine k_callV X2805 hx hZ hown (a := b2747) (hw _ (List.mem_of_getElem? (i := 26) rfl)) (hw _ (List.mem_of_getElem? (i := 27) rfl)) (hw _ (List.mem_of_getElem? (i := 29) rfl)) (hw _ (List.mem_of_getElem? (i := 28) rfl)) (hw _ (List.mem_of_getElem? (i := 3) rfl)) (hw _ (List.mem_of_getElem? (i := 30) rfl)) (by decide) F2808 (rm5_169 l Z a0 hw [] b2747 b2805 k2805 v2806 v2807 v2532 (updF (updF (updF (fun _ => 0) v1.toNatClampNeg ((fun _ => 0) v1.toNatClampNeg + 1)) v1.toNatClampNeg ((updF (fun _ => 0) v1.toNatClampNeg ((fun _ => 0) v1.toNatClampNeg + 1)) v1.toNatClampNeg + 1)) v1.toNatClampNeg ((updF (updF (fun _ => 0) v1.toNatClampNeg ((fun _ => 0) v1.toNatClampNeg + 1)) v1.toNatClampNeg ((updF (fun _ => 0) v1.toNatClampNeg ((fun _ => 0) v1.toNatClampNeg + 1)) v1.toNatClampNeg + 1)) v1.toNatClampNeg + 1)) T2805.heap n0 Z2820 F2808 F2809 F2810 F2811 F2812 g_b2747 g_b2805 lt2819 hI2813 hI2814 hI2815 hI2816 HZ2817 hT2822 hT2840) (by decide) (by decide) rfl (by rw [hml]; rfl) (argsL := [(.int v2532)]) (rest := []) (lenOf pd_5 rfl) rfl (W := 0) (Nat.le_refl _) rfl (hb hby at_97) (by decide) (by decide) (pc' := 100) rfl (fun T2821 L2821 r2821 X2821 q2821 => ?_)
   obtain ⟨N2821, b2821, k2821, v2858, v2859, rfl, F2860, F2861, F2862, F2863, F2864, g_b2821, lt2871, Z2872, hI2865, hI2866, hI2867, hI2868, HZ2869⟩ := q2821
   have N2821' := Fr.app N2805' N2821
   show KEnds p e below s _ _ _ T2821 (mkF m 100 #[iv i0, iv i1, iv i2, iv i3, iv v1, iv (3 : Int32), iv v2532, iv (1 : Int32), iv v2745, iv v2746, rv b2747, .unset, .unset, .unset] [])
   refine k_iload X2821 hx (hb hby at_100) rfl (pc' := 102) rfl ?_
   refine k_iconst X2821 hx (hb hby at_102) (pc' := 103) rfl (z := (2 : Int32)) rfl ?_
   refine k_icmp_lt X2821 hx (hb hby at_103) (pn := 106) rfl (py := 113) (by decide) (fun _ => ?_) (fun hc => absurd (by decide) hc)
   refine k_iload X2821 hx (hb hby at_113) rfl (pc' := 115) rfl ?_
   refine k_iconst X2821 hx (hb hby at_115) (pc' := 116) rfl (z := (3 : Int32)) rfl ?_
   refine k_icmp_lt X2821 hx (hb hby at_116) (pn := 119) rfl (py := 126) (by decide) (fun _ => ?_) (fun hc => absurd (by decide) hc)
   refine k_aload X2821 hx (hb hby at_126) rfl rfl (pc' := 128) rfl ?_
   refine k_iload X2821 hx (hb hby at_128) rfl (pc' := 130) rfl ?_
   have hp2873 : ¬ v2745 < (0 : Int32) := by
    intro hq2874
    have B2877 : (-2147483648 : Int) ≤ i0.toInt ∧ i0.toInt ≤ 2147483647 := ⟨(rng32 i0).1, Int.le_of_lt_add_one (rng32 i0).2⟩
    have q2876 : v1.toInt = i0.toInt % 16 := (by rw [hv1]; exact c_mask _ _ 4 (by decide) (by decide))
    have B2875 : (0 : Int) ≤ v1.toInt ∧ v1.toInt ≤ 15 := (by rw [q2876]; exact k_modB (by decide))
    have B2878 : (0 : Int) ≤ v2774.toInt ∧ v2774.toInt ≤ 30 := ⟨k_ge hI2781 (by decide), k_le hI2782 (by decide)⟩
    have B2879 : (0 : Int) ≤ v2775.toInt ∧ v2775.toInt ≤ 2147483647 := ⟨k_ge hI2783 (by decide), Int.le_of_lt_add_one (rng32 v2775).2⟩
    have q2880 := hI2784; rw [Int32.lt_iff_toInt_lt] at q2880
    have B2881 : (0 : Int) ≤ v2790.toInt ∧ v2790.toInt ≤ 30 := ⟨k_ge hI2797 (by decide), k_le hI2798 (by decide)⟩
    have B2882 : (0 : Int) ≤ v2791.toInt ∧ v2791.toInt ≤ 2147483647 := ⟨k_ge hI2799 (by decide), Int.le_of_lt_add_one (rng32 v2791).2⟩
    have q2883 := hI2800; rw [Int32.lt_iff_toInt_lt] at q2883
    have B2884 : (0 : Int) ≤ v2806.toInt ∧ v2806.toInt ≤ 30 := ⟨k_ge hI2813 (by decide), k_le hI2814 (by decide)⟩
    have B2885 : (0 : Int) ≤ v2807.toInt ∧ v2807.toInt ≤ 2147483647 := ⟨k_ge hI2815 (by decide), Int.le_of_lt_add_one (rng32 v2807).2⟩
    have q2886 := hI2816; rw [Int32.lt_iff_toInt_lt] at q2886
    have B2889 : (-2147483648 : Int) ≤ i1.toInt ∧ i1.toInt ≤ 2147483647 := ⟨(rng32 i1).1, Int.le_of_lt_add_one (rng32 i1).2⟩
    have q2888 : v2532.toInt = i1.toInt % 16 := (by rw [hv2532]; exact c_mask _ _ 4 (by decide) (by decide))
    have B2887 : (0 : Int) ≤ v2532.toInt ∧ v2532.toInt ≤ 15 := (by rw [q2888]; exact k_modB (by decide))
    have B2890 : (0 : Int) ≤ v2858.toInt ∧ v2858.toInt ≤ 30 := ⟨k_ge hI2865 (by decide), k_le hI2866 (by decide)⟩
    have B2891 : (0 : Int) ≤ v2859.toInt ∧ v2859.toInt ≤ 2147483647 := ⟨k_ge hI2867 (by decide), Int.le_of_lt_add_one (rng32 v2859).2⟩
    have q2892 := hI2868; rw [Int32.lt_iff_toInt_lt] at q2892
    have B2895 : (-2147483648 : Int) ≤ i2.toInt ∧ i2.toInt ≤ 2147483647 := ⟨(rng32 i2).1, Int.le_of_lt_add_one (rng32 i2).2⟩
    have q2894 : v2745.toInt = i2.toInt % 32 := (by rw [hv2745]; exact c_mask _ _ 5 (by decide) (by decide))
    have B2893 : (0 : Int) ≤ v2745.toInt ∧ v2745.toInt ≤ 31 := (by rw [q2894]; exact k_modB (by decide))
    have B2896 : (0 : Int) ≤ v2745.toInt ∧ v2745.toInt ≤ -1 := ⟨B2893.1, k_lt hq2874 (by decide)⟩
    omega
   refine k_callV X2821 hx hZ hown (a := b2747) (hw _ (List.mem_of_getElem? (i := 15) rfl)) (hw _ (List.mem_of_getElem? (i := 16) rfl)) (hw _ (List.mem_of_getElem? (i := 18) rfl)) (hw _ (List.mem_of_getElem? (i := 17) rfl)) (hw _ (List.mem_of_getElem? (i := 3) rfl)) (hw _ (List.mem_of_getElem? (i := 19) rfl)) (by decide) F2860 (rm3_631 l Z a0 hw [] b2747 v2745 b2821 v2859 k2821 v2858 (updF (updF (updF (updF (fun _ => 0) v1.toNatClampNeg ((fun _ => 0) v1.toNatClampNeg + 1)) v1.toNatClampNeg ((updF (fun _ => 0) v1.toNatClampNeg ((fun _ => 0) v1.toNatClampNeg + 1)) v1.toNatClampNeg + 1)) v1.toNatClampNeg ((updF (updF (fun _ => 0) v1.toNatClampNeg ((fun _ => 0) v1.toNatClampNeg + 1)) v1.toNatClampNeg ((updF (fun _ => 0) v1.toNatClampNeg ((fun _ => 0) v1.toNatClampNeg + 1)) v1.toNatClampNeg + 1)) v1.toNatClampNeg + 1)) v2532.toNatClampNeg ((updF (updF (updF (fun _ => 0) v1.toNatClampNeg ((fun _ => 0) v1.toNatClampNeg + 1)) v1.toNatClampNeg ((updF (fun _ => 0) v1.toNatClampNeg ((fun _ => 0) v1.toNatClampNeg + 1)) v1.toNatClampNeg + 1)) v1.toNatClampNeg ((updF (updF (fun _ => 0) v1.toNatClampNeg ((fun _ => 0) v1.toNatClampNeg + 1)) v1.toNatClampNeg ((updF (fun _ => 0) v1.toNatClampNeg ((fun _ => 0) v1.toNatClampNeg + 1)) v1.toNatClampNeg + 1)) v1.toNatClampNeg + 1)) v2532.toNatClampNeg + 1)) T2821.heap n0 Z2872 F2860 F2861 F2862 F2863 F2864 lt2871 hp2873 hI2868 HZ2869) (by decide) (by decide) rfl (by rw [hml]; rfl) (argsL := [(.int v2745)]) (rest := []) (lenOf pd_1 rfl) rfl (W := 0) (Nat.le_refl _) rfl (hb hby at_130) (by decide) (by decide) (pc' := 133) rfl (fun T2897 L2897 r2897 X2897 q2897 => ?_)
   obtain ⟨N2897, e2897, v2898, rfl, hS2899⟩ := q2897
   have N2897' := Fr.app N2821' N2897
   show KEnds p e below s _ _ _ T2897 (mkF m 133 #[iv i0, iv i1, iv i2, iv i3, iv v1, iv (3 : Int32), iv v2532, iv (1 : Int32), iv v2745, iv v2746, rv b2747, .unset, .unset, .unset] [(.int v2898)])
   refine k_iload X2897 hx (hb hby at_133) rfl (pc' := 135) rfl ?_
   refine k_iload X2897 hx (hb hby at_135) rfl (pc' := 137) rfl ?_
   refine k_iload X2897 hx (hb hby at_137) rfl (pc' := 139) rfl ?_
   refine k_iload X2897 hx (hb hby at_139) rfl (pc' := 141) rfl ?_
   refine k_iload X2897 hx (hb hby at_141) rfl (pc' := 143) rfl ?_
   refine k_callS X2897 hx hZ hown (hw _ (List.mem_of_getElem? (i := 22) rfl)) (hw _ (List.mem_of_getElem? (i := 23) rfl)) (hw _ (List.mem_of_getElem? (i := 24) rfl)) (hw _ (List.mem_of_getElem? (i := 25) rfl)) (by decide) (rm4_2900 l Z a0 hw [] v2745 v1 v2532 T2821.heap n0 Z2872 ) (by decide) (by decide) e2897 (by rw [hml]; rfl) (argsL := [(.int v2745), (.int v1), (.int (3 : Int32)), (.int v2532), (.int (1 : Int32))]) (rest := [(.int v2898)]) (lenOf pd_2 rfl) rfl (W := 1) (Nat.le_refl _) rfl (hb hby at_143) (by decide) (by decide) (pc' := 146) rfl (fun T2904 L2904 r2904 X2904 q2904 => ?_)
   obtain ⟨N2904, e2904, rfl⟩ := q2904
   have N2904' := Fr.app N2897' N2904
   show KEnds p e below s _ _ _ T2904 (mkF m 146 #[iv i0, iv i1, iv i2, iv i3, iv v1, iv (3 : Int32), iv v2532, iv (1 : Int32), iv v2745, iv v2746, rv b2747, .unset, .unset, .unset] ((.int (f4_2900 v2745 v1 v2532)) :: (.int v2898) :: []))
   obtain ⟨v2905, hv2905⟩ : ∃ z, z = f4_2900 v2745 v1 v2532 := ⟨_, rfl⟩
   rw [← hv2905]
   refine k_icmp_ne X2904 hx (hb hby at_146) (pn := 149) rfl (py := 153) (by decide) (fun hc => absurd (by rw [hS2899, hv2905]; exact own_fin_39 v2745 v1 v2532 hp2873 hT2762 hT2822) hc) (fun _ => ?_)
   refine k_iconst X2904 hx (hb hby at_149) (pc' := 150) rfl (z := (1 : Int32)) rfl ?_
   refine k_goto X2904 hx (hb hby at_150) (pc' := 154) (by decide) ?_
   refine k_istore X2904 hx (hb hby at_154) (Ls' := #[iv i0, iv i1, iv i2, iv i3, iv v1, iv (3 : Int32), iv v2532, iv (1 : Int32), iv v2745, iv v2746, rv b2747, iv (1 : Int32), .unset, .unset]) rfl (pc' := 156) rfl ?_
   refine k_aload X2904 hx (hb hby at_156) rfl rfl (pc' := 158) rfl ?_
   refine k_iload X2904 hx (hb hby at_158) rfl (pc' := 160) rfl ?_
   have hp2906 : ¬ v2746 < (0 : Int32) := by
    intro hq2907
    have B2910 : (-2147483648 : Int) ≤ i0.toInt ∧ i0.toInt ≤ 2147483647 := ⟨(rng32 i0).1, Int.le_of_lt_add_one (rng32 i0).2⟩
    have q2909 : v1.toInt = i0.toInt % 16 := (by rw [hv1]; exact c_mask _ _ 4 (by decide) (by decide))
    have B2908 : (0 : Int) ≤ v1.toInt ∧ v1.toInt ≤ 15 := (by rw [q2909]; exact k_modB (by decide))
    have B2911 : (0 : Int) ≤ v2774.toInt ∧ v2774.toInt ≤ 30 := ⟨k_ge hI2781 (by decide), k_le hI2782 (by decide)⟩
    have B2912 : (0 : Int) ≤ v2775.toInt ∧ v2775.toInt ≤ 2147483647 := ⟨k_ge hI2783 (by decide), Int.le_of_lt_add_one (rng32 v2775).2⟩
    have q2913 := hI2784; rw [Int32.lt_iff_toInt_lt] at q2913
    have B2914 : (0 : Int) ≤ v2790.toInt ∧ v2790.toInt ≤ 30 := ⟨k_ge hI2797 (by decide), k_le hI2798 (by decide)⟩
    have B2915 : (0 : Int) ≤ v2791.toInt ∧ v2791.toInt ≤ 2147483647 := ⟨k_ge hI2799 (by decide), Int.le_of_lt_add_one (rng32 v2791).2⟩
    have q2916 := hI2800; rw [Int32.lt_iff_toInt_lt] at q2916
    have B2917 : (0 : Int) ≤ v2806.toInt ∧ v2806.toInt ≤ 30 := ⟨k_ge hI2813 (by decide), k_le hI2814 (by decide)⟩
    have B2918 : (0 : Int) ≤ v2807.toInt ∧ v2807.toInt ≤ 2147483647 := ⟨k_ge hI2815 (by decide), Int.le_of_lt_add_one (rng32 v2807).2⟩
    have q2919 := hI2816; rw [Int32.lt_iff_toInt_lt] at q2919
    have B2922 : (-2147483648 : Int) ≤ i1.toInt ∧ i1.toInt ≤ 2147483647 := ⟨(rng32 i1).1, Int.le_of_lt_add_one (rng32 i1).2⟩
    have q2921 : v2532.toInt = i1.toInt % 16 := (by rw [hv2532]; exact c_mask _ _ 4 (by decide) (by decide))
    have B2920 : (0 : Int) ≤ v2532.toInt ∧ v2532.toInt ≤ 15 := (by rw [q2921]; exact k_modB (by decide))
    have B2923 : (0 : Int) ≤ v2858.toInt ∧ v2858.toInt ≤ 30 := ⟨k_ge hI2865 (by decide), k_le hI2866 (by decide)⟩
    have B2924 : (0 : Int) ≤ v2859.toInt ∧ v2859.toInt ≤ 2147483647 := ⟨k_ge hI2867 (by decide), Int.le_of_lt_add_one (rng32 v2859).2⟩
    have q2925 := hI2868; rw [Int32.lt_iff_toInt_lt] at q2925
    have B2928 : (-2147483648 : Int) ≤ i2.toInt ∧ i2.toInt ≤ 2147483647 := ⟨(rng32 i2).1, Int.le_of_lt_add_one (rng32 i2).2⟩
    have q2927 : v2745.toInt = i2.toInt % 32 := (by rw [hv2745]; exact c_mask _ _ 5 (by decide) (by decide))
    have B2926 : (0 : Int) ≤ v2745.toInt ∧ v2745.toInt ≤ 31 := (by rw [q2927]; exact k_modB (by decide))
    have B2931 : (-2147483648 : Int) ≤ i3.toInt ∧ i3.toInt ≤ 2147483647 := ⟨(rng32 i3).1, Int.le_of_lt_add_one (rng32 i3).2⟩
    have q2930 : v2746.toInt = i3.toInt % 2147483648 := (by rw [hv2746]; exact c_mask _ _ 31 (by decide) (by decide))
    have B2929 : (0 : Int) ≤ v2746.toInt ∧ v2746.toInt ≤ 2147483647 := (by rw [q2930]; exact k_modB (by decide))
    have B2932 : (0 : Int) ≤ v2746.toInt ∧ v2746.toInt ≤ -1 := ⟨B2929.1, k_lt hq2907 (by decide)⟩
    omega
   refine k_callV X2904 hx hZ hown (a := b2747) (hw _ (List.mem_of_getElem? (i := 15) rfl)) (hw _ (List.mem_of_getElem? (i := 16) rfl)) (hw _ (List.mem_of_getElem? (i := 18) rfl)) (hw _ (List.mem_of_getElem? (i := 17) rfl)) (hw _ (List.mem_of_getElem? (i := 3) rfl)) (hw _ (List.mem_of_getElem? (i := 19) rfl)) (by decide) F2860 (rm3_631 l Z a0 hw [] b2747 v2746 b2821 v2859 k2821 v2858 (updF (updF (updF (updF (fun _ => 0) v1.toNatClampNeg ((fun _ => 0) v1.toNatClampNeg + 1)) v1.toNatClampNeg ((updF (fun _ => 0) v1.toNatClampNeg ((fun _ => 0) v1.toNatClampNeg + 1)) v1.toNatClampNeg + 1)) v1.toNatClampNeg ((updF (updF (fun _ => 0) v1.toNatClampNeg ((fun _ => 0) v1.toNatClampNeg + 1)) v1.toNatClampNeg ((updF (fun _ => 0) v1.toNatClampNeg ((fun _ => 0) v1.toNatClampNeg + 1)) v1.toNatClampNeg + 1)) v1.toNatClampNeg + 1)) v2532.toNatClampNeg ((updF (updF (updF (fun _ => 0) v1.toNatClampNeg ((fun _ => 0) v1.toNatClampNeg + 1)) v1.toNatClampNeg ((updF (fun _ => 0) v1.toNatClampNeg ((fun _ => 0) v1.toNatClampNeg + 1)) v1.toNatClampNeg + 1)) v1.toNatClampNeg ((updF (updF (fun _ => 0) v1.toNatClampNeg ((fun _ => 0) v1.toNatClampNeg + 1)) v1.toNatClampNeg ((updF (fun _ => 0) v1.toNatClampNeg ((fun _ => 0) v1.toNatClampNeg + 1)) v1.toNatClampNeg + 1)) v1.toNatClampNeg + 1)) v2532.toNatClampNeg + 1)) T2821.heap n0 Z2872 F2860 F2861 F2862 F2863 F2864 lt2871 hp2906 hI2868 HZ2869) (by decide) (by decide) e2904 (by rw [hml]; rfl) (argsL := [(.int v2746)]) (rest := []) (lenOf pd_1 rfl) rfl (W := 0) (Nat.le_refl _) rfl (hb hby at_160) (by decide) (by decide) (pc' := 163) rfl (fun T2933 L2933 r2933 X2933 q2933 => ?_)
   obtain ⟨N2933, e2933, v2934, rfl, hS2935⟩ := q2933
   have N2933' := Fr.app N2904' N2933
   show KEnds p e below s _ _ _ T2933 (mkF m 163 #[iv i0, iv i1, iv i2, iv i3, iv v1, iv (3 : Int32), iv v2532, iv (1 : Int32), iv v2745, iv v2746, rv b2747, iv (1 : Int32), .unset, .unset] [(.int v2934)])
   refine k_iload X2933 hx (hb hby at_163) rfl (pc' := 165) rfl ?_
   refine k_iload X2933 hx (hb hby at_165) rfl (pc' := 167) rfl ?_
   refine k_iload X2933 hx (hb hby at_167) rfl (pc' := 169) rfl ?_
   refine k_iload X2933 hx (hb hby at_169) rfl (pc' := 171) rfl ?_
   refine k_iload X2933 hx (hb hby at_171) rfl (pc' := 173) rfl ?_
   refine k_callS X2933 hx hZ hown (hw _ (List.mem_of_getElem? (i := 22) rfl)) (hw _ (List.mem_of_getElem? (i := 23) rfl)) (hw _ (List.mem_of_getElem? (i := 24) rfl)) (hw _ (List.mem_of_getElem? (i := 25) rfl)) (by decide) (rm4_2900 l Z a0 hw [] v2746 v1 v2532 T2821.heap n0 Z2872 ) (by decide) (by decide) e2933 (by rw [hml]; rfl) (argsL := [(.int v2746), (.int v1), (.int (3 : Int32)), (.int v2532), (.int (1 : Int32))]) (rest := [(.int v2934)]) (lenOf pd_2 rfl) rfl (W := 1) (Nat.le_refl _) rfl (hb hby at_173) (by decide) (by decide) (pc' := 176) rfl (fun T2936 L2936 r2936 X2936 q2936 => ?_)
   obtain ⟨N2936, e2936, rfl⟩ := q2936
   have N2936' := Fr.app N2933' N2936
   show KEnds p e below s _ _ _ T2936 (mkF m 176 #[iv i0, iv i1, iv i2, iv i3, iv v1, iv (3 : Int32), iv v2532, iv (1 : Int32), iv v2745, iv v2746, rv b2747, iv (1 : Int32), .unset, .unset] ((.int (f4_2900 v2746 v1 v2532)) :: (.int v2934) :: []))
   obtain ⟨v2937, hv2937⟩ : ∃ z, z = f4_2900 v2746 v1 v2532 := ⟨_, rfl⟩
   rw [← hv2937]
   refine k_icmp_ne X2936 hx (hb hby at_176) (pn := 179) rfl (py := 183) (by decide) (fun hc => absurd (by rw [hS2935, hv2937]; exact own_fin_40 v2746 v1 v2532 hp2906 hT2762 hT2822) hc) (fun _ => ?_)
   refine k_iconst X2936 hx (hb hby at_179) (pc' := 180) rfl (z := (1 : Int32)) rfl ?_
   refine k_goto X2936 hx (hb hby at_180) (pc' := 184) (by decide) ?_
   refine k_istore X2936 hx (hb hby at_184) (Ls' := #[iv i0, iv i1, iv i2, iv i3, iv v1, iv (3 : Int32), iv v2532, iv (1 : Int32), iv v2745, iv v2746, rv b2747, iv (1 : Int32), iv (1 : Int32), .unset]) rfl (pc' := 186) rfl ?_
   refine k_aload X2936 hx (hb hby at_186) rfl rfl (pc' := 188) rfl ?_
   refine k_iload X2936 hx (hb hby at_188) rfl (pc' := 190) rfl ?_
   refine k_callV X2936 hx hZ hown (a := b2747) (hw _ (List.mem_of_getElem? (i := 15) rfl)) (hw _ (List.mem_of_getElem? (i := 16) rfl)) (hw _ (List.mem_of_getElem? (i := 18) rfl)) (hw _ (List.mem_of_getElem? (i := 17) rfl)) (hw _ (List.mem_of_getElem? (i := 3) rfl)) (hw _ (List.mem_of_getElem? (i := 19) rfl)) (by decide) F2860 (rm3_631 l Z a0 hw [] b2747 v1 b2821 v2859 k2821 v2858 (updF (updF (updF (updF (fun _ => 0) v1.toNatClampNeg ((fun _ => 0) v1.toNatClampNeg + 1)) v1.toNatClampNeg ((updF (fun _ => 0) v1.toNatClampNeg ((fun _ => 0) v1.toNatClampNeg + 1)) v1.toNatClampNeg + 1)) v1.toNatClampNeg ((updF (updF (fun _ => 0) v1.toNatClampNeg ((fun _ => 0) v1.toNatClampNeg + 1)) v1.toNatClampNeg ((updF (fun _ => 0) v1.toNatClampNeg ((fun _ => 0) v1.toNatClampNeg + 1)) v1.toNatClampNeg + 1)) v1.toNatClampNeg + 1)) v2532.toNatClampNeg ((updF (updF (updF (fun _ => 0) v1.toNatClampNeg ((fun _ => 0) v1.toNatClampNeg + 1)) v1.toNatClampNeg ((updF (fun _ => 0) v1.toNatClampNeg ((fun _ => 0) v1.toNatClampNeg + 1)) v1.toNatClampNeg + 1)) v1.toNatClampNeg ((updF (updF (fun _ => 0) v1.toNatClampNeg ((fun _ => 0) v1.toNatClampNeg + 1)) v1.toNatClampNeg ((updF (fun _ => 0) v1.toNatClampNeg ((fun _ => 0) v1.toNatClampNeg + 1)) v1.toNatClampNeg + 1)) v1.toNatClampNeg + 1)) v2532.toNatClampNeg + 1)) T2821.heap n0 Z2872 F2860 F2861 F2862 F2863 F2864 lt2871 hT2762 hI2868 HZ2869) (by decide) (by decide) e2936 (by rw [hml]; rfl) (argsL := [(.int v1)]) (rest := []) (lenOf pd_1 rfl) rfl (W := 0) (Nat.le_refl _) rfl (hb hby at_190) (by decide) (by decide) (pc' := 193) rfl (fun T2938 L2938 r2938 X2938 q2938 => ?_)
   obtain ⟨N2938, e2938, v2939, rfl, hS2940⟩ := q2938
   have N2938' := Fr.app N2936' N2938
   show KEnds p e below s _ _ _ T2938 (mkF m 193 #[iv i0, iv i1, iv i2, iv i3, iv v1, iv (3 : Int32), iv v2532, iv (1 : Int32), iv v2745, iv v2746, rv b2747, iv (1 : Int32), iv (1 : Int32), .unset] [(.int v2939)])
   refine k_iload X2938 hx (hb hby at_193) rfl (pc' := 195) rfl ?_
   refine k_iload X2938 hx (hb hby at_195) rfl (pc' := 197) rfl ?_
   refine k_iload X2938 hx (hb hby at_197) rfl (pc' := 199) rfl ?_
   refine k_iload X2938 hx (hb hby at_199) rfl (pc' := 201) rfl ?_
   refine k_iload X2938 hx (hb hby at_201) rfl (pc' := 203) rfl ?_
   refine k_callS X2938 hx hZ hown (hw _ (List.mem_of_getElem? (i := 22) rfl)) (hw _ (List.mem_of_getElem? (i := 23) rfl)) (hw _ (List.mem_of_getElem? (i := 24) rfl)) (hw _ (List.mem_of_getElem? (i := 25) rfl)) (by decide) (rm4_2941 l Z a0 hw [] v1 v2532 T2821.heap n0 Z2872 ) (by decide) (by decide) e2938 (by rw [hml]; rfl) (argsL := [(.int v1), (.int v1), (.int (3 : Int32)), (.int v2532), (.int (1 : Int32))]) (rest := [(.int v2939)]) (lenOf pd_2 rfl) rfl (W := 1) (Nat.le_refl _) rfl (hb hby at_203) (by decide) (by decide) (pc' := 206) rfl (fun T2943 L2943 r2943 X2943 q2943 => ?_)
   obtain ⟨N2943, e2943, rfl⟩ := q2943
   have N2943' := Fr.app N2938' N2943
   show KEnds p e below s _ _ _ T2943 (mkF m 206 #[iv i0, iv i1, iv i2, iv i3, iv v1, iv (3 : Int32), iv v2532, iv (1 : Int32), iv v2745, iv v2746, rv b2747, iv (1 : Int32), iv (1 : Int32), .unset] ((.int (f4_2941 v1 v2532)) :: (.int v2939) :: []))
   obtain ⟨v2944, hv2944⟩ : ∃ z, z = f4_2941 v1 v2532 := ⟨_, rfl⟩
   rw [← hv2944]
   refine k_icmp_ne X2943 hx (hb hby at_206) (pn := 209) rfl (py := 213) (by decide) (fun hc => absurd (by rw [hS2940, hv2944]; exact own_fin_41 v1 v2532 hT2762 hT2762 hT2822) hc) (fun _ => ?_)
   refine k_iconst X2943 hx (hb hby at_209) (pc' := 210) rfl (z := (1 : Int32)) rfl ?_
   refine k_goto X2943 hx (hb hby at_210) (pc' := 214) (by decide) ?_
   refine k_istore X2943 hx (hb hby at_214) (Ls' := #[iv i0, iv i1, iv i2, iv i3, iv v1, iv (3 : Int32), iv v2532, iv (1 : Int32), iv v2745, iv v2746, rv b2747, iv (1 : Int32), iv (1 : Int32), iv (1 : Int32)]) rfl (pc' := 216) rfl ?_
   refine k_iload X2943 hx (hb hby at_216) rfl (pc' := 218) rfl ?_
   refine k_if_eq X2943 hx (hb hby at_218) (pn := 221) rfl (py := 235) (by decide) (fun hc => absurd hc (by decide)) (fun _ => ?_)
   refine k_iload X2943 hx (hb hby at_221) rfl (pc' := 223) rfl ?_
   refine k_if_eq X2943 hx (hb hby at_223) (pn := 226) rfl (py := 235) (by decide) (fun hc => absurd hc (by decide)) (fun _ => ?_)
   refine k_iload X2943 hx (hb hby at_226) rfl (pc' := 228) rfl ?_
   refine k_if_eq X2943 hx (hb hby at_228) (pn := 231) rfl (py := 235) (by decide) (fun hc => absurd hc (by decide)) (fun _ => ?_)
   refine k_iconst X2943 hx (hb hby at_231) (pc' := 232) rfl (z := (1 : Int32)) rfl ?_
   refine k_goto X2943 hx (hb hby at_232) (pc' := 236) (by decide) ?_
   exact k_retN X2943 hx (t := .boolean) Bd.returns (by simp) (hb hby at_236) hlk (by decide) (by decide) (z' := (1 : Int32)) rfl ⟨rfl, N2943'⟩
  ·
   show KEnds p e below s _ _ _ s₁ (mkF m 24 #[iv i0, iv i1, iv i2, iv i3, iv v1, iv (3 : Int32), iv v2532, .unset, .unset, .unset, .unset, .unset, .unset, .unset] [(.int (2 : Int32))])
   refine k_istore X0 hx (hb hby at_24) (Ls' := #[iv i0, iv i1, iv i2, iv i3, iv v1, iv (3 : Int32), iv v2532, iv (2 : Int32), .unset, .unset, .unset, .unset, .unset, .unset]) rfl (pc' := 26) rfl ?_
   refine k_iloadN X0 hx (hb hby at_26) rfl (pc' := 27) rfl ?_
   refine k_bipush X0 hx (hb hby at_27) (pc' := 29) rfl (z := (31 : Int32)) rfl ?_
   refine k_iand X0 hx (hb hby at_29) (pc' := 30) rfl (fun v2946 hv2946 => ?_)
   refine k_istore X0 hx (hb hby at_30) (Ls' := #[iv i0, iv i1, iv i2, iv i3, iv v1, iv (3 : Int32), iv v2532, iv (2 : Int32), iv v2946, .unset, .unset, .unset, .unset, .unset]) rfl (pc' := 32) rfl ?_
   refine k_iloadN X0 hx (hb hby at_32) rfl (pc' := 33) rfl ?_
   refine k_ldc X0 hx hZ hown (hw _ (List.mem_of_getElem? (i := 0) rfl)) (hb hby at_33) (pc' := 35) rfl ?_
   refine k_iand X0 hx (hb hby at_35) (pc' := 36) rfl (fun v2947 hv2947 => ?_)
   refine k_istore X0 hx (hb hby at_36) (Ls' := #[iv i0, iv i1, iv i2, iv i3, iv v1, iv (3 : Int32), iv v2532, iv (2 : Int32), iv v2946, iv v2947, .unset, .unset, .unset, .unset]) rfl (pc' := 38) rfl ?_
   refine k_newO X0 hx hZ hown (hw _ (List.mem_of_getElem? (i := 1) rfl)) (hw _ (List.mem_of_getElem? (i := 2) rfl)) (hw _ (List.mem_of_getElem? (i := 3) rfl)) e0 (hb hby at_38) (by decide) (by decide) (pc' := 41) rfl (fun T2948 h2948 b2948 g2948 X2948 e2948 E2948 A2948 D2948 => ?_)
   have g_b2948 : n0 ≤ b2948 := Nat.le_trans Z0 (Nat.le_of_eq g2948.symm)
   have Z2948 : n0 ≤ h2948.size := Nat.le_trans Z0 E2948.1
   have F2949 : Fld Z h2948 b2948 "com/example/dendrotick/dendrotick/VectorClock" "entries" "[I" .null := D2948 (Or.inl (hw _ (List.mem_of_getElem? (i := 12) rfl))) (ty := (.array .int)) (by decide)
   have F2950 : Fld Z h2948 b2948 "com/example/dendrotick/dendrotick/VectorClock" "work" "Lcom/example/dendrotick/dendrotick/ClockWork;" .null := D2948 (Or.inr (hw _ (List.mem_of_getElem? (i := 14) rfl))) (ty := (.object "com/example/dendrotick/dendrotick/ClockWork")) (by decide)
   have F2951 : Fld Z h2948 b2948 "com/example/dendrotick/dendrotick/VectorClock" "size" "I" (.int (0 : Int32)) := D2948 (Or.inl (hw _ (List.mem_of_getElem? (i := 21) rfl))) (ty := .int) (by decide)
   refine k_dup X2948 hx (hb hby at_41) rfl (pc' := 42) rfl ?_
   refine k_anull X2948 hx (hb hby at_42) (pc' := 43) rfl ?_
   refine k_callI X2948 hx hZ hown (a := b2948) rfl (hw _ (List.mem_of_getElem? (i := 4) rfl)) (hw _ (List.mem_of_getElem? (i := 5) rfl)) (hw _ (List.mem_of_getElem? (i := 3) rfl)) (hw _ (List.mem_of_getElem? (i := 6) rfl)) rfl (by decide) (rm1_27 l Z a0 hw [] b2948 h2948 n0 Z2948 A2948 F2949 F2950 F2951 g_b2948) (by decide) (by decide) e2948 (by rw [hml]; rfl) (argsL := [.null]) (rest := [(.ref b2948)]) (lenOf pd_0 rfl) rfl (W := 1) (Nat.le_refl _) rfl (hb hby at_43) (by decide) (by decide) (pc' := 46) rfl (fun T2952 L2952 r2952 X2952 q2952 => ?_)
   obtain ⟨N2952, q2952⟩ := q2952
   have N2952' := Fr.app N0 N2952
   obtain ⟨b2953, k2954, rfl, F2955, F2956, F2957, F2958, F2959, g_b2953, lt2960, Z2961⟩ := q2952
   show KEnds p e below s _ _ _ T2952 (mkF m 46 #[iv i0, iv i1, iv i2, iv i3, iv v1, iv (3 : Int32), iv v2532, iv (2 : Int32), iv v2946, iv v2947, .unset, .unset, .unset, .unset] [(.ref b2948)])
   refine k_astore X2952 hx (hb hby at_46) rfl (Ls' := #[iv i0, iv i1, iv i2, iv i3, iv v1, iv (3 : Int32), iv v2532, iv (2 : Int32), iv v2946, iv v2947, rv b2948, .unset, .unset, .unset]) rfl (pc' := 48) rfl ?_
   refine k_iload X2952 hx (hb hby at_48) rfl (pc' := 50) rfl ?_
   refine k_iconst X2952 hx (hb hby at_50) (pc' := 51) rfl (z := (1 : Int32)) rfl ?_
   refine k_icmp_lt X2952 hx (hb hby at_51) (pn := 54) rfl (py := 61) (by decide) (fun hc => absurd hc (by decide)) (fun _ => ?_)
   refine k_aload X2952 hx (hb hby at_54) rfl rfl (pc' := 56) rfl ?_
   refine k_iload X2952 hx (hb hby at_56) rfl (pc' := 58) rfl ?_
   have hT2963 : ¬ v1 < (0 : Int32) := (by intro hq2964; have B2967 : (-2147483648 : Int) ≤ i0.toInt ∧ i0.toInt ≤ 2147483647 := ⟨(rng32 i0).1, Int.le_of_lt_add_one (rng32 i0).2⟩; have q2966 : v1.toInt = i0.toInt % 16 := (by rw [hv1]; exact c_mask _ _ 4 (by decide) (by decide)); have B2965 : (0 : Int) ≤ v1.toInt ∧ v1.toInt ≤ 15 := (by rw [q2966]; exact k_modB (by decide)); have B2968 : (0 : Int) ≤ v1.toInt ∧ v1.toInt ≤ -1 := ⟨B2965.1, k_lt hq2964 (by decide)⟩; omega)
   have hT2969 : ¬ (15 : Int32) < v1 := (by intro hq2970; have B2973 : (-2147483648 : Int) ≤ i0.toInt ∧ i0.toInt ≤ 2147483647 := ⟨(rng32 i0).1, Int.le_of_lt_add_one (rng32 i0).2⟩; have q2972 : v1.toInt = i0.toInt % 16 := (by rw [hv1]; exact c_mask _ _ 4 (by decide) (by decide)); have B2971 : (0 : Int) ≤ v1.toInt ∧ v1.toInt ≤ 15 := (by rw [q2972]; exact k_modB (by decide)); have B2974 : (16 : Int) ≤ v1.toInt ∧ v1.toInt ≤ 15 := ⟨k_gt hq2970 (by decide), B2971.2⟩; omega)
   refine k_callV X2952 hx hZ hown (a := b2948) (hw _ (List.mem_of_getElem? (i := 26) rfl)) (hw _ (List.mem_of_getElem? (i := 27) rfl)) (hw _ (List.mem_of_getElem? (i := 29) rfl)) (hw _ (List.mem_of_getElem? (i := 28) rfl)) (hw _ (List.mem_of_getElem? (i := 3) rfl)) (hw _ (List.mem_of_getElem? (i := 30) rfl)) (by decide) F2955 (rm5_169 l Z a0 hw [] b2948 b2953 k2954 (0 : Int32) (0 : Int32) v1 (fun _ => 0) T2952.heap n0 Z2961 F2955 F2956 F2957 F2958 F2959 g_b2948 g_b2953 lt2960 (by decide) (by decide) (by decide) (by decide) (fun _ _ => rfl) hT2963 hT2969) (by decide) (by decide) rfl (by rw [hml]; rfl) (argsL := [(.int v1)]) (rest := []) (lenOf pd_5 rfl) rfl (W := 0) (Nat.le_refl _) rfl (hb hby at_58) (by decide) (by decide) (pc' := 61) rfl (fun T2962 L2962 r2962 X2962 q2962 => ?_)
   obtain ⟨N2962, b2962, k2962, v2975, v2976, rfl, F2977, F2978, F2979, F2980, F2981, g_b2962, lt2988, Z2989, hI2982, hI2983, hI2984, hI2985, HZ2986⟩ := q2962
   have N2962' := Fr.app N2952' N2962
   show KEnds p e below s _ _ _ T2962 (mkF m 61 #[iv i0, iv i1, iv i2, iv i3, iv v1, iv (3 : Int32), iv v2532, iv (2 : Int32), iv v2946, iv v2947, rv b2948, .unset, .unset, .unset] [])
   refine k_iload X2962 hx (hb hby at_61) rfl (pc' := 63) rfl ?_
   refine k_iconst X2962 hx (hb hby at_63) (pc' := 64) rfl (z := (2 : Int32)) rfl ?_
   refine k_icmp_lt X2962 hx (hb hby at_64) (pn := 67) rfl (py := 74) (by decide) (fun hc => absurd hc (by decide)) (fun _ => ?_)
   refine k_aload X2962 hx (hb hby at_67) rfl rfl (pc' := 69) rfl ?_
   refine k_iload X2962 hx (hb hby at_69) rfl (pc' := 71) rfl ?_
   refine k_callV X2962 hx hZ hown (a := b2948) (hw _ (List.mem_of_getElem? (i := 26) rfl)) (hw _ (List.mem_of_getElem? (i := 27) rfl)) (hw _ (List.mem_of_getElem? (i := 29) rfl)) (hw _ (List.mem_of_getElem? (i := 28) rfl)) (hw _ (List.mem_of_getElem? (i := 3) rfl)) (hw _ (List.mem_of_getElem? (i := 30) rfl)) (by decide) F2977 (rm5_169 l Z a0 hw [] b2948 b2962 k2962 v2975 v2976 v1 (updF (fun _ => 0) v1.toNatClampNeg ((fun _ => 0) v1.toNatClampNeg + 1)) T2962.heap n0 Z2989 F2977 F2978 F2979 F2980 F2981 g_b2948 g_b2962 lt2988 hI2982 hI2983 hI2984 hI2985 HZ2986 hT2963 hT2969) (by decide) (by decide) rfl (by rw [hml]; rfl) (argsL := [(.int v1)]) (rest := []) (lenOf pd_5 rfl) rfl (W := 0) (Nat.le_refl _) rfl (hb hby at_71) (by decide) (by decide) (pc' := 74) rfl (fun T2990 L2990 r2990 X2990 q2990 => ?_)
   obtain ⟨N2990, b2990, k2990, v2991, v2992, rfl, F2993, F2994, F2995, F2996, F2997, g_b2990, lt3004, Z3005, hI2998, hI2999, hI3000, hI3001, HZ3002⟩ := q2990
   have N2990' := Fr.app N2962' N2990
   show KEnds p e below s _ _ _ T2990 (mkF m 74 #[iv i0, iv i1, iv i2, iv i3, iv v1, iv (3 : Int32), iv v2532, iv (2 : Int32), iv v2946, iv v2947, rv b2948, .unset, .unset, .unset] [])
   refine k_iload X2990 hx (hb hby at_74) rfl (pc' := 76) rfl ?_
   refine k_iconst X2990 hx (hb hby at_76) (pc' := 77) rfl (z := (3 : Int32)) rfl ?_
   refine k_icmp_lt X2990 hx (hb hby at_77) (pn := 80) rfl (py := 87) (by decide) (fun hc => absurd hc (by decide)) (fun _ => ?_)
   refine k_aload X2990 hx (hb hby at_80) rfl rfl (pc' := 82) rfl ?_
   refine k_iload X2990 hx (hb hby at_82) rfl (pc' := 84) rfl ?_
   refine k_callV X2990 hx hZ hown (a := b2948) (hw _ (List.mem_of_getElem? (i := 26) rfl)) (hw _ (List.mem_of_getElem? (i := 27) rfl)) (hw _ (List.mem_of_getElem? (i := 29) rfl)) (hw _ (List.mem_of_getElem? (i := 28) rfl)) (hw _ (List.mem_of_getElem? (i := 3) rfl)) (hw _ (List.mem_of_getElem? (i := 30) rfl)) (by decide) F2993 (rm5_169 l Z a0 hw [] b2948 b2990 k2990 v2991 v2992 v1 (updF (updF (fun _ => 0) v1.toNatClampNeg ((fun _ => 0) v1.toNatClampNeg + 1)) v1.toNatClampNeg ((updF (fun _ => 0) v1.toNatClampNeg ((fun _ => 0) v1.toNatClampNeg + 1)) v1.toNatClampNeg + 1)) T2990.heap n0 Z3005 F2993 F2994 F2995 F2996 F2997 g_b2948 g_b2990 lt3004 hI2998 hI2999 hI3000 hI3001 HZ3002 hT2963 hT2969) (by decide) (by decide) rfl (by rw [hml]; rfl) (argsL := [(.int v1)]) (rest := []) (lenOf pd_5 rfl) rfl (W := 0) (Nat.le_refl _) rfl (hb hby at_84) (by decide) (by decide) (pc' := 87) rfl (fun T3006 L3006 r3006 X3006 q3006 => ?_)
   obtain ⟨N3006, b3006, k3006, v3007, v3008, rfl, F3009, F3010, F3011, F3012, F3013, g_b3006, lt3020, Z3021, hI3014, hI3015, hI3016, hI3017, HZ3018⟩ := q3006
   have N3006' := Fr.app N2990' N3006
   show KEnds p e below s _ _ _ T3006 (mkF m 87 #[iv i0, iv i1, iv i2, iv i3, iv v1, iv (3 : Int32), iv v2532, iv (2 : Int32), iv v2946, iv v2947, rv b2948, .unset, .unset, .unset] [])
   refine k_iload X3006 hx (hb hby at_87) rfl (pc' := 89) rfl ?_
   refine k_iconst X3006 hx (hb hby at_89) (pc' := 90) rfl (z := (1 : Int32)) rfl ?_
   refine k_icmp_lt X3006 hx (hb hby at_90) (pn := 93) rfl (py := 100) (by decide) (fun hc => absurd hc (by decide)) (fun _ => ?_)
   refine k_aload X3006 hx (hb hby at_93) rfl rfl (pc' := 95) rfl ?_
   refine k_iload X3006 hx (hb hby at_95) rfl (pc' := 97) rfl ?_
   have hT3023 : ¬ v2532 < (0 : Int32) := (by intro hq3024; have B3027 : (-2147483648 : Int) ≤ i0.toInt ∧ i0.toInt ≤ 2147483647 := ⟨(rng32 i0).1, Int.le_of_lt_add_one (rng32 i0).2⟩; have q3026 : v1.toInt = i0.toInt % 16 := (by rw [hv1]; exact c_mask _ _ 4 (by decide) (by decide)); have B3025 : (0 : Int) ≤ v1.toInt ∧ v1.toInt ≤ 15 := (by rw [q3026]; exact k_modB (by decide)); have B3028 : (0 : Int) ≤ v2975.toInt ∧ v2975.toInt ≤ 30 := ⟨k_ge hI2982 (by decide), k_le hI2983 (by decide)⟩; have B3029 : (0 : Int) ≤ v2976.toInt ∧ v2976.toInt ≤ 2147483647 := ⟨k_ge hI2984 (by decide), Int.le_of_lt_add_one (rng32 v2976).2⟩; have q3030 := hI2985; rw [Int32.lt_iff_toInt_lt] at q3030; have B3031 : (0 : Int) ≤ v2991.toInt ∧ v2991.toInt ≤ 30 := ⟨k_ge hI2998 (by decide), k_le hI2999 (by decide)⟩; have B3032 : (0 : Int) ≤ v2992.toInt ∧ v2992.toInt ≤ 2147483647 := ⟨k_ge hI3000 (by decide), Int.le_of_lt_add_one (rng32 v2992).2⟩; have q3033 := hI3001; rw [Int32.lt_iff_toInt_lt] at q3033; have B3034 : (0 : Int) ≤ v3007.toInt ∧ v3007.toInt ≤ 30 := ⟨k_ge hI3014 (by decide), k_le hI3015 (by decide)⟩; have B3035 : (0 : Int) ≤ v3008.toInt ∧ v3008.toInt ≤ 2147483647 := ⟨k_ge hI3016 (by decide), Int.le_of_lt_add_one (rng32 v3008).2⟩; have q3036 := hI3017; rw [Int32.lt_iff_toInt_lt] at q3036; have B3039 : (-2147483648 : Int) ≤ i1.toInt ∧ i1.toInt ≤ 2147483647 := ⟨(rng32 i1).1, Int.le_of_lt_add_one (rng32 i1).2⟩; have q3038 : v2532.toInt = i1.toInt % 16 := (by rw [hv2532]; exact c_mask _ _ 4 (by decide) (by decide)); have B3037 : (0 : Int) ≤ v2532.toInt ∧ v2532.toInt ≤ 15 := (by rw [q3038]; exact k_modB (by decide)); have B3040 : (0 : Int) ≤ v2532.toInt ∧ v2532.toInt ≤ -1 := ⟨B3037.1, k_lt hq3024 (by decide)⟩; omega)
   have hT3041 : ¬ (15 : Int32) < v2532 := (by intro hq3042; have B3045 : (-2147483648 : Int) ≤ i0.toInt ∧ i0.toInt ≤ 2147483647 := ⟨(rng32 i0).1, Int.le_of_lt_add_one (rng32 i0).2⟩; have q3044 : v1.toInt = i0.toInt % 16 := (by rw [hv1]; exact c_mask _ _ 4 (by decide) (by decide)); have B3043 : (0 : Int) ≤ v1.toInt ∧ v1.toInt ≤ 15 := (by rw [q3044]; exact k_modB (by decide)); have B3046 : (0 : Int) ≤ v2975.toInt ∧ v2975.toInt ≤ 30 := ⟨k_ge hI2982 (by decide), k_le hI2983 (by decide)⟩; have B3047 : (0 : Int) ≤ v2976.toInt ∧ v2976.toInt ≤ 2147483647 := ⟨k_ge hI2984 (by decide), Int.le_of_lt_add_one (rng32 v2976).2⟩; have q3048 := hI2985; rw [Int32.lt_iff_toInt_lt] at q3048; have B3049 : (0 : Int) ≤ v2991.toInt ∧ v2991.toInt ≤ 30 := ⟨k_ge hI2998 (by decide), k_le hI2999 (by decide)⟩; have B3050 : (0 : Int) ≤ v2992.toInt ∧ v2992.toInt ≤ 2147483647 := ⟨k_ge hI3000 (by decide), Int.le_of_lt_add_one (rng32 v2992).2⟩; have q3051 := hI3001; rw [Int32.lt_iff_toInt_lt] at q3051; have B3052 : (0 : Int) ≤ v3007.toInt ∧ v3007.toInt ≤ 30 := ⟨k_ge hI3014 (by decide), k_le hI3015 (by decide)⟩; have B3053 : (0 : Int) ≤ v3008.toInt ∧ v3008.toInt ≤ 2147483647 := ⟨k_ge hI3016 (by decide), Int.le_of_lt_add_one (rng32 v3008).2⟩; have q3054 := hI3017; rw [Int32.lt_iff_toInt_lt] at q3054; have B3057 : (-2147483648 : Int) ≤ i1.toInt ∧ i1.toInt ≤ 2147483647 := ⟨(rng32 i1).1, Int.le_of_lt_add_one (rng32 i1).2⟩; have q3056 : v2532.toInt = i1.toInt % 16 := (by rw [hv2532]; exact c_mask _ _ 4 (by decide) (by decide)); have B3055 : (0 : Int) ≤ v2532.toInt ∧ v2532.toInt ≤ 15 := (by rw [q3056]; exact k_modB (by decide)); have B3058 : (16 : Int) ≤ v2532.toInt ∧ v2532.toInt ≤ 15 := ⟨k_gt hq3042 (by decide), B3055.2⟩; omega)
   refine k_callV X3006 hx hZ hown (a := b2948) (hw _ (List.mem_of_getElem? (i := 26) rfl)) (hw _ (List.mem_of_getElem? (i := 27) rfl)) (hw _ (List.mem_of_getElem? (i := 29) rfl)) (hw _ (List.mem_of_getElem? (i := 28) rfl)) (hw _ (List.mem_of_getElem? (i := 3) rfl)) (hw _ (List.mem_of_getElem? (i := 30) rfl)) (by decide) F3009 (rm5_169 l Z a0 hw [] b2948 b3006 k3006 v3007 v3008 v2532 (updF (updF (updF (fun _ => 0) v1.toNatClampNeg ((fun _ => 0) v1.toNatClampNeg + 1)) v1.toNatClampNeg ((updF (fun _ => 0) v1.toNatClampNeg ((fun _ => 0) v1.toNatClampNeg + 1)) v1.toNatClampNeg + 1)) v1.toNatClampNeg ((updF (updF (fun _ => 0) v1.toNatClampNeg ((fun _ => 0) v1.toNatClampNeg + 1)) v1.toNatClampNeg ((updF (fun _ => 0) v1.toNatClampNeg ((fun _ => 0) v1.toNatClampNeg + 1)) v1.toNatClampNeg + 1)) v1.toNatClampNeg + 1)) T3006.heap n0 Z3021 F3009 F3010 F3011 F3012 F3013 g_b2948 g_b3006 lt3020 hI3014 hI3015 hI3016 hI3017 HZ3018 hT3023 hT3041) (by decide) (by decide) rfl (by rw [hml]; rfl) (argsL := [(.int v2532)]) (rest := []) (lenOf pd_5 rfl) rfl (W := 0) (Nat.le_refl _) rfl (hb hby at_97) (by decide) (by decide) (pc' := 100) rfl (fun T3022 L3022 r3022 X3022 q3022 => ?_)
   obtain ⟨N3022, b3022, k3022, v3059, v3060, rfl, F3061, F3062, F3063, F3064, F3065, g_b3022, lt3072, Z3073, hI3066, hI3067, hI3068, hI3069, HZ3070⟩ := q3022
   have N3022' := Fr.app N3006' N3022
   show KEnds p e below s _ _ _ T3022 (mkF m 100 #[iv i0, iv i1, iv i2, iv i3, iv v1, iv (3 : Int32), iv v2532, iv (2 : Int32), iv v2946, iv v2947, rv b2948, .unset, .unset, .unset] [])
   refine k_iload X3022 hx (hb hby at_100) rfl (pc' := 102) rfl ?_
   refine k_iconst X3022 hx (hb hby at_102) (pc' := 103) rfl (z := (2 : Int32)) rfl ?_
   refine k_icmp_lt X3022 hx (hb hby at_103) (pn := 106) rfl (py := 113) (by decide) (fun hc => absurd hc (by decide)) (fun _ => ?_)
   refine k_aload X3022 hx (hb hby at_106) rfl rfl (pc' := 108) rfl ?_
   refine k_iload X3022 hx (hb hby at_108) rfl (pc' := 110) rfl ?_
   refine k_callV X3022 hx hZ hown (a := b2948) (hw _ (List.mem_of_getElem? (i := 26) rfl)) (hw _ (List.mem_of_getElem? (i := 27) rfl)) (hw _ (List.mem_of_getElem? (i := 29) rfl)) (hw _ (List.mem_of_getElem? (i := 28) rfl)) (hw _ (List.mem_of_getElem? (i := 3) rfl)) (hw _ (List.mem_of_getElem? (i := 30) rfl)) (by decide) F3061 (rm5_169 l Z a0 hw [] b2948 b3022 k3022 v3059 v3060 v2532 (updF (updF (updF (updF (fun _ => 0) v1.toNatClampNeg ((fun _ => 0) v1.toNatClampNeg + 1)) v1.toNatClampNeg ((updF (fun _ => 0) v1.toNatClampNeg ((fun _ => 0) v1.toNatClampNeg + 1)) v1.toNatClampNeg + 1)) v1.toNatClampNeg ((updF (updF (fun _ => 0) v1.toNatClampNeg ((fun _ => 0) v1.toNatClampNeg + 1)) v1.toNatClampNeg ((updF (fun _ => 0) v1.toNatClampNeg ((fun _ => 0) v1.toNatClampNeg + 1)) v1.toNatClampNeg + 1)) v1.toNatClampNeg + 1)) v2532.toNatClampNeg ((updF (updF (updF (fun _ => 0) v1.toNatClampNeg ((fun _ => 0) v1.toNatClampNeg + 1)) v1.toNatClampNeg ((updF (fun _ => 0) v1.toNatClampNeg ((fun _ => 0) v1.toNatClampNeg + 1)) v1.toNatClampNeg + 1)) v1.toNatClampNeg ((updF (updF (fun _ => 0) v1.toNatClampNeg ((fun _ => 0) v1.toNatClampNeg + 1)) v1.toNatClampNeg ((updF (fun _ => 0) v1.toNatClampNeg ((fun _ => 0) v1.toNatClampNeg + 1)) v1.toNatClampNeg + 1)) v1.toNatClampNeg + 1)) v2532.toNatClampNeg + 1)) T3022.heap n0 Z3073 F3061 F3062 F3063 F3064 F3065 g_b2948 g_b3022 lt3072 hI3066 hI3067 hI3068 hI3069 HZ3070 hT3023 hT3041) (by decide) (by decide) rfl (by rw [hml]; rfl) (argsL := [(.int v2532)]) (rest := []) (lenOf pd_5 rfl) rfl (W := 0) (Nat.le_refl _) rfl (hb hby at_110) (by decide) (by decide) (pc' := 113) rfl (fun T3074 L3074 r3074 X3074 q3074 => ?_)
   obtain ⟨N3074, b3074, k3074, v3075, v3076, rfl, F3077, F3078, F3079, F3080, F3081, g_b3074, lt3088, Z3089, hI3082, hI3083, hI3084, hI3085, HZ3086⟩ := q3074
   have N3074' := Fr.app N3022' N3074
   show KEnds p e below s _ _ _ T3074 (mkF m 113 #[iv i0, iv i1, iv i2, iv i3, iv v1, iv (3 : Int32), iv v2532, iv (2 : Int32), iv v2946, iv v2947, rv b2948, .unset, .unset, .unset] [])
   refine k_iload X3074 hx (hb hby at_113) rfl (pc' := 115) rfl ?_
   refine k_iconst X3074 hx (hb hby at_115) (pc' := 116) rfl (z := (3 : Int32)) rfl ?_
   refine k_icmp_lt X3074 hx (hb hby at_116) (pn := 119) rfl (py := 126) (by decide) (fun _ => ?_) (fun hc => absurd (by decide) hc)
   refine k_aload X3074 hx (hb hby at_126) rfl rfl (pc' := 128) rfl ?_
   refine k_iload X3074 hx (hb hby at_128) rfl (pc' := 130) rfl ?_
   have hp3090 : ¬ v2946 < (0 : Int32) := by
    intro hq3091
    have B3094 : (-2147483648 : Int) ≤ i0.toInt ∧ i0.toInt ≤ 2147483647 := ⟨(rng32 i0).1, Int.le_of_lt_add_one (rng32 i0).2⟩
    have q3093 : v1.toInt = i0.toInt % 16 := (by rw [hv1]; exact c_mask _ _ 4 (by decide) (by decide))
    have B3092 : (0 : Int) ≤ v1.toInt ∧ v1.toInt ≤ 15 := (by rw [q3093]; exact k_modB (by decide))
    have B3095 : (0 : Int) ≤ v2975.toInt ∧ v2975.toInt ≤ 30 := ⟨k_ge hI2982 (by decide), k_le hI2983 (by decide)⟩
    have B3096 : (0 : Int) ≤ v2976.toInt ∧ v2976.toInt ≤ 2147483647 := ⟨k_ge hI2984 (by decide), Int.le_of_lt_add_one (rng32 v2976).2⟩
    have q3097 := hI2985; rw [Int32.lt_iff_toInt_lt] at q3097
    have B3098 : (0 : Int) ≤ v2991.toInt ∧ v2991.toInt ≤ 30 := ⟨k_ge hI2998 (by decide), k_le hI2999 (by decide)⟩
    have B3099 : (0 : Int) ≤ v2992.toInt ∧ v2992.toInt ≤ 2147483647 := ⟨k_ge hI3000 (by decide), Int.le_of_lt_add_one (rng32 v2992).2⟩
    have q3100 := hI3001; rw [Int32.lt_iff_toInt_lt] at q3100
    have B3101 : (0 : Int) ≤ v3007.toInt ∧ v3007.toInt ≤ 30 := ⟨k_ge hI3014 (by decide), k_le hI3015 (by decide)⟩
    have B3102 : (0 : Int) ≤ v3008.toInt ∧ v3008.toInt ≤ 2147483647 := ⟨k_ge hI3016 (by decide), Int.le_of_lt_add_one (rng32 v3008).2⟩
    have q3103 := hI3017; rw [Int32.lt_iff_toInt_lt] at q3103
    have B3106 : (-2147483648 : Int) ≤ i1.toInt ∧ i1.toInt ≤ 2147483647 := ⟨(rng32 i1).1, Int.le_of_lt_add_one (rng32 i1).2⟩
    have q3105 : v2532.toInt = i1.toInt % 16 := (by rw [hv2532]; exact c_mask _ _ 4 (by decide) (by decide))
    have B3104 : (0 : Int) ≤ v2532.toInt ∧ v2532.toInt ≤ 15 := (by rw [q3105]; exact k_modB (by decide))
    have B3107 : (0 : Int) ≤ v3059.toInt ∧ v3059.toInt ≤ 30 := ⟨k_ge hI3066 (by decide), k_le hI3067 (by decide)⟩
    have B3108 : (0 : Int) ≤ v3060.toInt ∧ v3060.toInt ≤ 2147483647 := ⟨k_ge hI3068 (by decide), Int.le_of_lt_add_one (rng32 v3060).2⟩
    have q3109 := hI3069; rw [Int32.lt_iff_toInt_lt] at q3109
    have B3110 : (0 : Int) ≤ v3075.toInt ∧ v3075.toInt ≤ 30 := ⟨k_ge hI3082 (by decide), k_le hI3083 (by decide)⟩
    have B3111 : (0 : Int) ≤ v3076.toInt ∧ v3076.toInt ≤ 2147483647 := ⟨k_ge hI3084 (by decide), Int.le_of_lt_add_one (rng32 v3076).2⟩
    have q3112 := hI3085; rw [Int32.lt_iff_toInt_lt] at q3112
    have B3115 : (-2147483648 : Int) ≤ i2.toInt ∧ i2.toInt ≤ 2147483647 := ⟨(rng32 i2).1, Int.le_of_lt_add_one (rng32 i2).2⟩
    have q3114 : v2946.toInt = i2.toInt % 32 := (by rw [hv2946]; exact c_mask _ _ 5 (by decide) (by decide))
    have B3113 : (0 : Int) ≤ v2946.toInt ∧ v2946.toInt ≤ 31 := (by rw [q3114]; exact k_modB (by decide))
    have B3116 : (0 : Int) ≤ v2946.toInt ∧ v2946.toInt ≤ -1 := ⟨B3113.1, k_lt hq3091 (by decide)⟩
    omega
   refine k_callV X3074 hx hZ hown (a := b2948) (hw _ (List.mem_of_getElem? (i := 15) rfl)) (hw _ (List.mem_of_getElem? (i := 16) rfl)) (hw _ (List.mem_of_getElem? (i := 18) rfl)) (hw _ (List.mem_of_getElem? (i := 17) rfl)) (hw _ (List.mem_of_getElem? (i := 3) rfl)) (hw _ (List.mem_of_getElem? (i := 19) rfl)) (by decide) F3077 (rm3_631 l Z a0 hw [] b2948 v2946 b3074 v3076 k3074 v3075 (updF (updF (updF (updF (updF (fun _ => 0) v1.toNatClampNeg ((fun _ => 0) v1.toNatClampNeg + 1)) v1.toNatClampNeg ((updF (fun _ => 0) v1.toNatClampNeg ((fun _ => 0) v1.toNatClampNeg + 1)) v1.toNatClampNeg + 1)) v1.toNatClampNeg ((updF (updF (fun _ => 0) v1.toNatClampNeg ((fun _ => 0) v1.toNatClampNeg + 1)) v1.toNatClampNeg ((updF (fun _ => 0) v1.toNatClampNeg ((fun _ => 0) v1.toNatClampNeg + 1)) v1.toNatClampNeg + 1)) v1.toNatClampNeg + 1)) v2532.toNatClampNeg ((updF (updF (updF (fun _ => 0) v1.toNatClampNeg ((fun _ => 0) v1.toNatClampNeg + 1)) v1.toNatClampNeg ((updF (fun _ => 0) v1.toNatClampNeg ((fun _ => 0) v1.toNatClampNeg + 1)) v1.toNatClampNeg + 1)) v1.toNatClampNeg ((updF (updF (fun _ => 0) v1.toNatClampNeg ((fun _ => 0) v1.toNatClampNeg + 1)) v1.toNatClampNeg ((updF (fun _ => 0) v1.toNatClampNeg ((fun _ => 0) v1.toNatClampNeg + 1)) v1.toNatClampNeg + 1)) v1.toNatClampNeg + 1)) v2532.toNatClampNeg + 1)) v2532.toNatClampNeg ((updF (updF (updF (updF (fun _ => 0) v1.toNatClampNeg ((fun _ => 0) v1.toNatClampNeg + 1)) v1.toNatClampNeg ((updF (fun _ => 0) v1.toNatClampNeg ((fun _ => 0) v1.toNatClampNeg + 1)) v1.toNatClampNeg + 1)) v1.toNatClampNeg ((updF (updF (fun _ => 0) v1.toNatClampNeg ((fun _ => 0) v1.toNatClampNeg + 1)) v1.toNatClampNeg ((updF (fun _ => 0) v1.toNatClampNeg ((fun _ => 0) v1.toNatClampNeg + 1)) v1.toNatClampNeg + 1)) v1.toNatClampNeg + 1)) v2532.toNatClampNeg ((updF (updF (updF (fun _ => 0) v1.toNatClampNeg ((fun _ => 0) v1.toNatClampNeg + 1)) v1.toNatClampNeg ((updF (fun _ => 0) v1.toNatClampNeg ((fun _ => 0) v1.toNatClampNeg + 1)) v1.toNatClampNeg + 1)) v1.toNatClampNeg ((updF (updF (fun _ => 0) v1.toNatClampNeg ((fun _ => 0) v1.toNatClampNeg + 1)) v1.toNatClampNeg ((updF (fun _ => 0) v1.toNatClampNeg ((fun _ => 0) v1.toNatClampNeg + 1)) v1.toNatClampNeg + 1)) v1.toNatClampNeg + 1)) v2532.toNatClampNeg + 1)) v2532.toNatClampNeg + 1)) T3074.heap n0 Z3089 F3077 F3078 F3079 F3080 F3081 lt3088 hp3090 hI3085 HZ3086) (by decide) (by decide) rfl (by rw [hml]; rfl) (argsL := [(.int v2946)]) (rest := []) (lenOf pd_1 rfl) rfl (W := 0) (Nat.le_refl _) rfl (hb hby at_130) (by decide) (by decide) (pc' := 133) rfl (fun T3117 L3117 r3117 X3117 q3117 => ?_)
   obtain ⟨N3117, e3117, v3118, rfl, hS3119⟩ := q3117
   have N3117' := Fr.app N3074' N3117
   show KEnds p e below s _ _ _ T3117 (mkF m 133 #[iv i0, iv i1, iv i2, iv i3, iv v1, iv (3 : Int32), iv v2532, iv (2 : Int32), iv v2946, iv v2947, rv b2948, .unset, .unset, .unset] [(.int v3118)])
   refine k_iload X3117 hx (hb hby at_133) rfl (pc' := 135) rfl ?_
   refine k_iload X3117 hx (hb hby at_135) rfl (pc' := 137) rfl ?_
   refine k_iload X3117 hx (hb hby at_137) rfl (pc' := 139) rfl ?_
   refine k_iload X3117 hx (hb hby at_139) rfl (pc' := 141) rfl ?_
   refine k_iload X3117 hx (hb hby at_141) rfl (pc' := 143) rfl ?_
   refine k_callS X3117 hx hZ hown (hw _ (List.mem_of_getElem? (i := 22) rfl)) (hw _ (List.mem_of_getElem? (i := 23) rfl)) (hw _ (List.mem_of_getElem? (i := 24) rfl)) (hw _ (List.mem_of_getElem? (i := 25) rfl)) (by decide) (rm4_3120 l Z a0 hw [] v2946 v1 v2532 T3074.heap n0 Z3089 ) (by decide) (by decide) e3117 (by rw [hml]; rfl) (argsL := [(.int v2946), (.int v1), (.int (3 : Int32)), (.int v2532), (.int (2 : Int32))]) (rest := [(.int v3118)]) (lenOf pd_2 rfl) rfl (W := 1) (Nat.le_refl _) rfl (hb hby at_143) (by decide) (by decide) (pc' := 146) rfl (fun T3124 L3124 r3124 X3124 q3124 => ?_)
   obtain ⟨N3124, e3124, rfl⟩ := q3124
   have N3124' := Fr.app N3117' N3124
   show KEnds p e below s _ _ _ T3124 (mkF m 146 #[iv i0, iv i1, iv i2, iv i3, iv v1, iv (3 : Int32), iv v2532, iv (2 : Int32), iv v2946, iv v2947, rv b2948, .unset, .unset, .unset] ((.int (f4_3120 v2946 v1 v2532)) :: (.int v3118) :: []))
   obtain ⟨v3125, hv3125⟩ : ∃ z, z = f4_3120 v2946 v1 v2532 := ⟨_, rfl⟩
   rw [← hv3125]
   refine k_icmp_ne X3124 hx (hb hby at_146) (pn := 149) rfl (py := 153) (by decide) (fun hc => absurd (by rw [hS3119, hv3125]; exact own_fin_42 v2946 v1 v2532 hp3090 hT2963 hT3023) hc) (fun _ => ?_)
   refine k_iconst X3124 hx (hb hby at_149) (pc' := 150) rfl (z := (1 : Int32)) rfl ?_
   refine k_goto X3124 hx (hb hby at_150) (pc' := 154) (by decide) ?_
   refine k_istore X3124 hx (hb hby at_154) (Ls' := #[iv i0, iv i1, iv i2, iv i3, iv v1, iv (3 : Int32), iv v2532, iv (2 : Int32), iv v2946, iv v2947, rv b2948, iv (1 : Int32), .unset, .unset]) rfl (pc' := 156) rfl ?_
   refine k_aload X3124 hx (hb hby at_156) rfl rfl (pc' := 158) rfl ?_
   refine k_iload X3124 hx (hb hby at_158) rfl (pc' := 160) rfl ?_
   have hp3126 : ¬ v2947 < (0 : Int32) := by
    intro hq3127
    have B3130 : (-2147483648 : Int) ≤ i0.toInt ∧ i0.toInt ≤ 2147483647 := ⟨(rng32 i0).1, Int.le_of_lt_add_one (rng32 i0).2⟩
    have q3129 : v1.toInt = i0.toInt % 16 := (by rw [hv1]; exact c_mask _ _ 4 (by decide) (by decide))
    have B3128 : (0 : Int) ≤ v1.toInt ∧ v1.toInt ≤ 15 := (by rw [q3129]; exact k_modB (by decide))
    have B3131 : (0 : Int) ≤ v2975.toInt ∧ v2975.toInt ≤ 30 := ⟨k_ge hI2982 (by decide), k_le hI2983 (by decide)⟩
    have B3132 : (0 : Int) ≤ v2976.toInt ∧ v2976.toInt ≤ 2147483647 := ⟨k_ge hI2984 (by decide), Int.le_of_lt_add_one (rng32 v2976).2⟩
    have q3133 := hI2985; rw [Int32.lt_iff_toInt_lt] at q3133
    have B3134 : (0 : Int) ≤ v2991.toInt ∧ v2991.toInt ≤ 30 := ⟨k_ge hI2998 (by decide), k_le hI2999 (by decide)⟩
    have B3135 : (0 : Int) ≤ v2992.toInt ∧ v2992.toInt ≤ 2147483647 := ⟨k_ge hI3000 (by decide), Int.le_of_lt_add_one (rng32 v2992).2⟩
    have q3136 := hI3001; rw [Int32.lt_iff_toInt_lt] at q3136
    have B3137 : (0 : Int) ≤ v3007.toInt ∧ v3007.toInt ≤ 30 := ⟨k_ge hI3014 (by decide), k_le hI3015 (by decide)⟩
    have B3138 : (0 : Int) ≤ v3008.toInt ∧ v3008.toInt ≤ 2147483647 := ⟨k_ge hI3016 (by decide), Int.le_of_lt_add_one (rng32 v3008).2⟩
    have q3139 := hI3017; rw [Int32.lt_iff_toInt_lt] at q3139
    have B3142 : (-2147483648 : Int) ≤ i1.toInt ∧ i1.toInt ≤ 2147483647 := ⟨(rng32 i1).1, Int.le_of_lt_add_one (rng32 i1).2⟩
    have q3141 : v2532.toInt = i1.toInt % 16 := (by rw [hv2532]; exact c_mask _ _ 4 (by decide) (by decide))
    have B3140 : (0 : Int) ≤ v2532.toInt ∧ v2532.toInt ≤ 15 := (by rw [q3141]; exact k_modB (by decide))
    have B3143 : (0 : Int) ≤ v3059.toInt ∧ v3059.toInt ≤ 30 := ⟨k_ge hI3066 (by decide), k_le hI3067 (by decide)⟩
    have B3144 : (0 : Int) ≤ v3060.toInt ∧ v3060.toInt ≤ 2147483647 := ⟨k_ge hI3068 (by decide), Int.le_of_lt_add_one (rng32 v3060).2⟩
    have q3145 := hI3069; rw [Int32.lt_iff_toInt_lt] at q3145
    have B3146 : (0 : Int) ≤ v3075.toInt ∧ v3075.toInt ≤ 30 := ⟨k_ge hI3082 (by decide), k_le hI3083 (by decide)⟩
    have B3147 : (0 : Int) ≤ v3076.toInt ∧ v3076.toInt ≤ 2147483647 := ⟨k_ge hI3084 (by decide), Int.le_of_lt_add_one (rng32 v3076).2⟩
    have q3148 := hI3085; rw [Int32.lt_iff_toInt_lt] at q3148
    have B3151 : (-2147483648 : Int) ≤ i2.toInt ∧ i2.toInt ≤ 2147483647 := ⟨(rng32 i2).1, Int.le_of_lt_add_one (rng32 i2).2⟩
    have q3150 : v2946.toInt = i2.toInt % 32 := (by rw [hv2946]; exact c_mask _ _ 5 (by decide) (by decide))
    have B3149 : (0 : Int) ≤ v2946.toInt ∧ v2946.toInt ≤ 31 := (by rw [q3150]; exact k_modB (by decide))
    have B3154 : (-2147483648 : Int) ≤ i3.toInt ∧ i3.toInt ≤ 2147483647 := ⟨(rng32 i3).1, Int.le_of_lt_add_one (rng32 i3).2⟩
    have q3153 : v2947.toInt = i3.toInt % 2147483648 := (by rw [hv2947]; exact c_mask _ _ 31 (by decide) (by decide))
    have B3152 : (0 : Int) ≤ v2947.toInt ∧ v2947.toInt ≤ 2147483647 := (by rw [q3153]; exact k_modB (by decide))
    have B3155 : (0 : Int) ≤ v2947.toInt ∧ v2947.toInt ≤ -1 := ⟨B3152.1, k_lt hq3127 (by decide)⟩
    omega
   refine k_callV X3124 hx hZ hown (a := b2948) (hw _ (List.mem_of_getElem? (i := 15) rfl)) (hw _ (List.mem_of_getElem? (i := 16) rfl)) (hw _ (List.mem_of_getElem? (i := 18) rfl)) (hw _ (List.mem_of_getElem? (i := 17) rfl)) (hw _ (List.mem_of_getElem? (i := 3) rfl)) (hw _ (List.mem_of_getElem? (i := 19) rfl)) (by decide) F3077 (rm3_631 l Z a0 hw [] b2948 v2947 b3074 v3076 k3074 v3075 (updF (updF (updF (updF (updF (fun _ => 0) v1.toNatClampNeg ((fun _ => 0) v1.toNatClampNeg + 1)) v1.toNatClampNeg ((updF (fun _ => 0) v1.toNatClampNeg ((fun _ => 0) v1.toNatClampNeg + 1)) v1.toNatClampNeg + 1)) v1.toNatClampNeg ((updF (updF (fun _ => 0) v1.toNatClampNeg ((fun _ => 0) v1.toNatClampNeg + 1)) v1.toNatClampNeg ((updF (fun _ => 0) v1.toNatClampNeg ((fun _ => 0) v1.toNatClampNeg + 1)) v1.toNatClampNeg + 1)) v1.toNatClampNeg + 1)) v2532.toNatClampNeg ((updF (updF (updF (fun _ => 0) v1.toNatClampNeg ((fun _ => 0) v1.toNatClampNeg + 1)) v1.toNatClampNeg ((updF (fun _ => 0) v1.toNatClampNeg ((fun _ => 0) v1.toNatClampNeg + 1)) v1.toNatClampNeg + 1)) v1.toNatClampNeg ((updF (updF (fun _ => 0) v1.toNatClampNeg ((fun _ => 0) v1.toNatClampNeg + 1)) v1.toNatClampNeg ((updF (fun _ => 0) v1.toNatClampNeg ((fun _ => 0) v1.toNatClampNeg + 1)) v1.toNatClampNeg + 1)) v1.toNatClampNeg + 1)) v2532.toNatClampNeg + 1)) v2532.toNatClampNeg ((updF (updF (updF (updF (fun _ => 0) v1.toNatClampNeg ((fun _ => 0) v1.toNatClampNeg + 1)) v1.toNatClampNeg ((updF (fun _ => 0) v1.toNatClampNeg ((fun _ => 0) v1.toNatClampNeg + 1)) v1.toNatClampNeg + 1)) v1.toNatClampNeg ((updF (updF (fun _ => 0) v1.toNatClampNeg ((fun _ => 0) v1.toNatClampNeg + 1)) v1.toNatClampNeg ((updF (fun _ => 0) v1.toNatClampNeg ((fun _ => 0) v1.toNatClampNeg + 1)) v1.toNatClampNeg + 1)) v1.toNatClampNeg + 1)) v2532.toNatClampNeg ((updF (updF (updF (fun _ => 0) v1.toNatClampNeg ((fun _ => 0) v1.toNatClampNeg + 1)) v1.toNatClampNeg ((updF (fun _ => 0) v1.toNatClampNeg ((fun _ => 0) v1.toNatClampNeg + 1)) v1.toNatClampNeg + 1)) v1.toNatClampNeg ((updF (updF (fun _ => 0) v1.toNatClampNeg ((fun _ => 0) v1.toNatClampNeg + 1)) v1.toNatClampNeg ((updF (fun _ => 0) v1.toNatClampNeg ((fun _ => 0) v1.toNatClampNeg + 1)) v1.toNatClampNeg + 1)) v1.toNatClampNeg + 1)) v2532.toNatClampNeg + 1)) v2532.toNatClampNeg + 1)) T3074.heap n0 Z3089 F3077 F3078 F3079 F3080 F3081 lt3088 hp3126 hI3085 HZ3086) (by decide) (by decide) e3124 (by rw [hml]; rfl) (argsL := [(.int v2947)]) (rest := []) (lenOf pd_1 rfl) rfl (W := 0) (Nat.le_refl _) rfl (hb hby at_160) (by decide) (by decide) (pc' := 163) rfl (fun T3156 L3156 r3156 X3156 q3156 => ?_)
   obtain ⟨N3156, e3156, v3157, rfl, hS3158⟩ := q3156
   have N3156' := Fr.app N3124' N3156
   show KEnds p e below s _ _ _ T3156 (mkF m 163 #[iv i0, iv i1, iv i2, iv i3, iv v1, iv (3 : Int32), iv v2532, iv (2 : Int32), iv v2946, iv v2947, rv b2948, iv (1 : Int32), .unset, .unset] [(.int v3157)])
   refine k_iload X3156 hx (hb hby at_163) rfl (pc' := 165) rfl ?_
   refine k_iload X3156 hx (hb hby at_165) rfl (pc' := 167) rfl ?_
   refine k_iload X3156 hx (hb hby at_167) rfl (pc' := 169) rfl ?_
   refine k_iload X3156 hx (hb hby at_169) rfl (pc' := 171) rfl ?_
   refine k_iload X3156 hx (hb hby at_171) rfl (pc' := 173) rfl ?_
   refine k_callS X3156 hx hZ hown (hw _ (List.mem_of_getElem? (i := 22) rfl)) (hw _ (List.mem_of_getElem? (i := 23) rfl)) (hw _ (List.mem_of_getElem? (i := 24) rfl)) (hw _ (List.mem_of_getElem? (i := 25) rfl)) (by decide) (rm4_3120 l Z a0 hw [] v2947 v1 v2532 T3074.heap n0 Z3089 ) (by decide) (by decide) e3156 (by rw [hml]; rfl) (argsL := [(.int v2947), (.int v1), (.int (3 : Int32)), (.int v2532), (.int (2 : Int32))]) (rest := [(.int v3157)]) (lenOf pd_2 rfl) rfl (W := 1) (Nat.le_refl _) rfl (hb hby at_173) (by decide) (by decide) (pc' := 176) rfl (fun T3159 L3159 r3159 X3159 q3159 => ?_)
   obtain ⟨N3159, e3159, rfl⟩ := q3159
   have N3159' := Fr.app N3156' N3159
   show KEnds p e below s _ _ _ T3159 (mkF m 176 #[iv i0, iv i1, iv i2, iv i3, iv v1, iv (3 : Int32), iv v2532, iv (2 : Int32), iv v2946, iv v2947, rv b2948, iv (1 : Int32), .unset, .unset] ((.int (f4_3120 v2947 v1 v2532)) :: (.int v3157) :: []))
   obtain ⟨v3160, hv3160⟩ : ∃ z, z = f4_3120 v2947 v1 v2532 := ⟨_, rfl⟩
   rw [← hv3160]
   refine k_icmp_ne X3159 hx (hb hby at_176) (pn := 179) rfl (py := 183) (by decide) (fun hc => absurd (by rw [hS3158, hv3160]; exact own_fin_43 v2947 v1 v2532 hp3126 hT2963 hT3023) hc) (fun _ => ?_)
   refine k_iconst X3159 hx (hb hby at_179) (pc' := 180) rfl (z := (1 : Int32)) rfl ?_
   refine k_goto X3159 hx (hb hby at_180) (pc' := 184) (by decide) ?_
   refine k_istore X3159 hx (hb hby at_184) (Ls' := #[iv i0, iv i1, iv i2, iv i3, iv v1, iv (3 : Int32), iv v2532, iv (2 : Int32), iv v2946, iv v2947, rv b2948, iv (1 : Int32), iv (1 : Int32), .unset]) rfl (pc' := 186) rfl ?_
   refine k_aload X3159 hx (hb hby at_186) rfl rfl (pc' := 188) rfl ?_
   refine k_iload X3159 hx (hb hby at_188) rfl (pc' := 190) rfl ?_
   refine k_callV X3159 hx hZ hown (a := b2948) (hw _ (List.mem_of_getElem? (i := 15) rfl)) (hw _ (List.mem_of_getElem? (i := 16) rfl)) (hw _ (List.mem_of_getElem? (i := 18) rfl)) (hw _ (List.mem_of_getElem? (i := 17) rfl)) (hw _ (List.mem_of_getElem? (i := 3) rfl)) (hw _ (List.mem_of_getElem? (i := 19) rfl)) (by decide) F3077 (rm3_631 l Z a0 hw [] b2948 v1 b3074 v3076 k3074 v3075 (updF (updF (updF (updF (updF (fun _ => 0) v1.toNatClampNeg ((fun _ => 0) v1.toNatClampNeg + 1)) v1.toNatClampNeg ((updF (fun _ => 0) v1.toNatClampNeg ((fun _ => 0) v1.toNatClampNeg + 1)) v1.toNatClampNeg + 1)) v1.toNatClampNeg ((updF (updF (fun _ => 0) v1.toNatClampNeg ((fun _ => 0) v1.toNatClampNeg + 1)) v1.toNatClampNeg ((updF (fun _ => 0) v1.toNatClampNeg ((fun _ => 0) v1.toNatClampNeg + 1)) v1.toNatClampNeg + 1)) v1.toNatClampNeg + 1)) v2532.toNatClampNeg ((updF (updF (updF (fun _ => 0) v1.toNatClampNeg ((fun _ => 0) v1.toNatClampNeg + 1)) v1.toNatClampNeg ((updF (fun _ => 0) v1.toNatClampNeg ((fun _ => 0) v1.toNatClampNeg + 1)) v1.toNatClampNeg + 1)) v1.toNatClampNeg ((updF (updF (fun _ => 0) v1.toNatClampNeg ((fun _ => 0) v1.toNatClampNeg + 1)) v1.toNatClampNeg ((updF (fun _ => 0) v1.toNatClampNeg ((fun _ => 0) v1.toNatClampNeg + 1)) v1.toNatClampNeg + 1)) v1.toNatClampNeg + 1)) v2532.toNatClampNeg + 1)) v2532.toNatClampNeg ((updF (updF (updF (updF (fun _ => 0) v1.toNatClampNeg ((fun _ => 0) v1.toNatClampNeg + 1)) v1.toNatClampNeg ((updF (fun _ => 0) v1.toNatClampNeg ((fun _ => 0) v1.toNatClampNeg + 1)) v1.toNatClampNeg + 1)) v1.toNatClampNeg ((updF (updF (fun _ => 0) v1.toNatClampNeg ((fun _ => 0) v1.toNatClampNeg + 1)) v1.toNatClampNeg ((updF (fun _ => 0) v1.toNatClampNeg ((fun _ => 0) v1.toNatClampNeg + 1)) v1.toNatClampNeg + 1)) v1.toNatClampNeg + 1)) v2532.toNatClampNeg ((updF (updF (updF (fun _ => 0) v1.toNatClampNeg ((fun _ => 0) v1.toNatClampNeg + 1)) v1.toNatClampNeg ((updF (fun _ => 0) v1.toNatClampNeg ((fun _ => 0) v1.toNatClampNeg + 1)) v1.toNatClampNeg + 1)) v1.toNatClampNeg ((updF (updF (fun _ => 0) v1.toNatClampNeg ((fun _ => 0) v1.toNatClampNeg + 1)) v1.toNatClampNeg ((updF (fun _ => 0) v1.toNatClampNeg ((fun _ => 0) v1.toNatClampNeg + 1)) v1.toNatClampNeg + 1)) v1.toNatClampNeg + 1)) v2532.toNatClampNeg + 1)) v2532.toNatClampNeg + 1)) T3074.heap n0 Z3089 F3077 F3078 F3079 F3080 F3081 lt3088 hT2963 hI3085 HZ3086) (by decide) (by decide) e3159 (by rw [hml]; rfl) (argsL := [(.int v1)]) (rest := []) (lenOf pd_1 rfl) rfl (W := 0) (Nat.le_refl _) rfl (hb hby at_190) (by decide) (by decide) (pc' := 193) rfl (fun T3161 L3161 r3161 X3161 q3161 => ?_)
   obtain ⟨N3161, e3161, v3162, rfl, hS3163⟩ := q3161
   have N3161' := Fr.app N3159' N3161
   show KEnds p e below s _ _ _ T3161 (mkF m 193 #[iv i0, iv i1, iv i2, iv i3, iv v1, iv (3 : Int32), iv v2532, iv (2 : Int32), iv v2946, iv v2947, rv b2948, iv (1 : Int32), iv (1 : Int32), .unset] [(.int v3162)])
   refine k_iload X3161 hx (hb hby at_193) rfl (pc' := 195) rfl ?_
   refine k_iload X3161 hx (hb hby at_195) rfl (pc' := 197) rfl ?_
   refine k_iload X3161 hx (hb hby at_197) rfl (pc' := 199) rfl ?_
   refine k_iload X3161 hx (hb hby at_199) rfl (pc' := 201) rfl ?_
   refine k_iload X3161 hx (hb hby at_201) rfl (pc' := 203) rfl ?_
   refine k_callS X3161 hx hZ hown (hw _ (List.mem_of_getElem? (i := 22) rfl)) (hw _ (List.mem_of_getElem? (i := 23) rfl)) (hw _ (List.mem_of_getElem? (i := 24) rfl)) (hw _ (List.mem_of_getElem? (i := 25) rfl)) (by decide) (rm4_3164 l Z a0 hw [] v1 v2532 T3074.heap n0 Z3089 ) (by decide) (by decide) e3161 (by rw [hml]; rfl) (argsL := [(.int v1), (.int v1), (.int (3 : Int32)), (.int v2532), (.int (2 : Int32))]) (rest := [(.int v3162)]) (lenOf pd_2 rfl) rfl (W := 1) (Nat.le_refl _) rfl (hb hby at_203) (by decide) (by decide) (pc' := 206) rfl (fun T3166 L3166 r3166 X3166 q3166 => ?_)
   obtain ⟨N3166, e3166, rfl⟩ := q3166
   have N3166' := Fr.app N3161' N3166
   show KEnds p e below s _ _ _ T3166 (mkF m 206 #[iv i0, iv i1, iv i2, iv i3, iv v1, iv (3 : Int32), iv v2532, iv (2 : Int32), iv v2946, iv v2947, rv b2948, iv (1 : Int32), iv (1 : Int32), .unset] ((.int (f4_3164 v1 v2532)) :: (.int v3162) :: []))
   obtain ⟨v3167, hv3167⟩ : ∃ z, z = f4_3164 v1 v2532 := ⟨_, rfl⟩
   rw [← hv3167]
   refine k_icmp_ne X3166 hx (hb hby at_206) (pn := 209) rfl (py := 213) (by decide) (fun hc => absurd (by rw [hS3163, hv3167]; exact own_fin_44 v1 v2532 hT2963 hT2963 hT3023) hc) (fun _ => ?_)
   refine k_iconst X3166 hx (hb hby at_209) (pc' := 210) rfl (z := (1 : Int32)) rfl ?_
   refine k_goto X3166 hx (hb hby at_210) (pc' := 214) (by decide) ?_
   refine k_istore X3166 hx (hb hby at_214) (Ls' := #[iv i0, iv i1, iv i2, iv i3, iv v1, iv (3 : Int32), iv v2532, iv (2 : Int32), iv v2946, iv v2947, rv b2948, iv (1 : Int32), iv (1 : Int32), iv (1 : Int32)]) rfl (pc' := 216) rfl ?_
   refine k_iload X3166 hx (hb hby at_216) rfl (pc' := 218) rfl ?_
   refine k_if_eq X3166 hx (hb hby at_218) (pn := 221) rfl (py := 235) (by decide) (fun hc => absurd hc (by decide)) (fun _ => ?_)
   refine k_iload X3166 hx (hb hby at_221) rfl (pc' := 223) rfl ?_
   refine k_if_eq X3166 hx (hb hby at_223) (pn := 226) rfl (py := 235) (by decide) (fun hc => absurd hc (by decide)) (fun _ => ?_)
   refine k_iload X3166 hx (hb hby at_226) rfl (pc' := 228) rfl ?_
   refine k_if_eq X3166 hx (hb hby at_228) (pn := 231) rfl (py := 235) (by decide) (fun hc => absurd hc (by decide)) (fun _ => ?_)
   refine k_iconst X3166 hx (hb hby at_231) (pc' := 232) rfl (z := (1 : Int32)) rfl ?_
   refine k_goto X3166 hx (hb hby at_232) (pc' := 236) (by decide) ?_
   exact k_retN X3166 hx (t := .boolean) Bd.returns (by simp) (hb hby at_236) hlk (by decide) (by decide) (z' := (1 : Int32)) rfl ⟨rfl, N3166'⟩
  ·
   show KEnds p e below s _ _ _ s₁ (mkF m 24 #[iv i0, iv i1, iv i2, iv i3, iv v1, iv (3 : Int32), iv v2532, .unset, .unset, .unset, .unset, .unset, .unset, .unset] [(.int (3 : Int32))])
   refine k_istore X0 hx (hb hby at_24) (Ls' := #[iv i0, iv i1, iv i2, iv i3, iv v1, iv (3 : Int32), iv v2532, iv (3 : Int32), .unset, .unset, .unset, .unset, .unset, .unset]) rfl (pc' := 26) rfl ?_
   refine k_iloadN X0 hx (hb hby at_26) rfl (pc' := 27) rfl ?_
   refine k_bipush X0 hx (hb hby at_27) (pc' := 29) rfl (z := (31 : Int32)) rfl ?_
   refine k_iand X0 hx (hb hby at_29) (pc' := 30) rfl (fun v3169 hv3169 => ?_)
   refine k_istore X0 hx (hb hby at_30) (Ls' := #[iv i0, iv i1, iv i2, iv i3, iv v1, iv (3 : Int32), iv v2532, iv (3 : Int32), iv v3169, .unset, .unset, .unset, .unset, .unset]) rfl (pc' := 32) rfl ?_
   refine k_iloadN X0 hx (hb hby at_32) rfl (pc' := 33) rfl ?_
   refine k_ldc X0 hx hZ hown (hw _ (List.mem_of_getElem? (i := 0) rfl)) (hb hby at_33) (pc' := 35) rfl ?_
   refine k_iand X0 hx (hb hby at_35) (pc' := 36) rfl (fun v3170 hv3170 => ?_)
   refine k_istore X0 hx (hb hby at_36) (Ls' := #[iv i0, iv i1, iv i2, iv i3, iv v1, iv (3 : Int32), iv v2532, iv (3 : Int32), iv v3169, iv v3170, .unset, .unset, .unset, .unset]) rfl (pc' := 38) rfl ?_
   refine k_newO X0 hx hZ hown (hw _ (List.mem_of_getElem? (i := 1) rfl)) (hw _ (List.mem_of_getElem? (i := 2) rfl)) (hw _ (List.mem_of_getElem? (i := 3) rfl)) e0 (hb hby at_38) (by decide) (by decide) (pc' := 41) rfl (fun T3171 h3171 b3171 g3171 X3171 e3171 E3171 A3171 D3171 => ?_)
   have g_b3171 : n0 ≤ b3171 := Nat.le_trans Z0 (Nat.le_of_eq g3171.symm)
   have Z3171 : n0 ≤ h3171.size := Nat.le_trans Z0 E3171.1
   have F3172 : Fld Z h3171 b3171 "com/example/dendrotick/dendrotick/VectorClock" "entries" "[I" .null := D3171 (Or.inl (hw _ (List.mem_of_getElem? (i := 12) rfl))) (ty := (.array .int)) (by decide)
   have F3173 : Fld Z h3171 b3171 "com/example/dendrotick/dendrotick/VectorClock" "work" "Lcom/example/dendrotick/dendrotick/ClockWork;" .null := D3171 (Or.inr (hw _ (List.mem_of_getElem? (i := 14) rfl))) (ty := (.object "com/example/dendrotick/dendrotick/ClockWork")) (by decide)
   have F3174 : Fld Z h3171 b3171 "com/example/dendrotick/dendrotick/VectorClock" "size" "I" (.int (0 : Int32)) := D3171 (Or.inl (hw _ (List.mem_of_getElem? (i := 21) rfl))) (ty := .int) (by decide)
   refine k_dup X3171 hx (hb hby at_41) rfl (pc' := 42) rfl ?_
   refine k_anull X3171 hx (hb hby at_42) (pc' := 43) rfl ?_
   refine k_callI X3171 hx hZ hown (a := b3171) rfl (hw _ (List.mem_of_getElem? (i := 4) rfl)) (hw _ (List.mem_of_getElem? (i := 5) rfl)) (hw _ (List.mem_of_getElem? (i := 3) rfl)) (hw _ (List.mem_of_getElem? (i := 6) rfl)) rfl (by decide) (rm1_27 l Z a0 hw [] b3171 h3171 n0 Z3171 A3171 F3172 F3173 F3174 g_b3171) (by decide) (by decide) e3171 (by rw [hml]; rfl) (argsL := [.null]) (rest := [(.ref b3171)]) (lenOf pd_0 rfl) rfl (W := 1) (Nat.le_refl _) rfl (hb hby at_43) (by decide) (by decide) (pc' := 46) rfl (fun T3175 L3175 r3175 X3175 q3175 => ?_)
   obtain ⟨N3175, q3175⟩ := q3175
   have N3175' := Fr.app N0 N3175
   obtain ⟨b3176, k3177, rfl, F3178, F3179, F3180, F3181, F3182, g_b3176, lt3183, Z3184⟩ := q3175
   show KEnds p e below s _ _ _ T3175 (mkF m 46 #[iv i0, iv i1, iv i2, iv i3, iv v1, iv (3 : Int32), iv v2532, iv (3 : Int32), iv v3169, iv v3170, .unset, .unset, .unset, .unset] [(.ref b3171)])
   refine k_astore X3175 hx (hb hby at_46) rfl (Ls' := #[iv i0, iv i1, iv i2, iv i3, iv v1, iv (3 : Int32), iv v2532, iv (3 : Int32), iv v3169, iv v3170, rv b3171, .unset, .unset, .unset]) rfl (pc' := 48) rfl ?_
   refine k_iload X3175 hx (hb hby at_48) rfl (pc' := 50) rfl ?_
   refine k_iconst X3175 hx (hb hby at_50) (pc' := 51) rfl (z := (1 : Int32)) rfl ?_
   refine k_icmp_lt X3175 hx (hb hby at_51) (pn := 54) rfl (py := 61) (by decide) (fun hc => absurd hc (by decide)) (fun _ => ?_)
   refine k_aload X3175 hx (hb hby at_54) rfl rfl (pc' := 56) rfl ?_
   refine k_iload X3175 hx (hb hby at_56) rfl (pc' := 58) rfl ?_
   have hT3186 : ¬ v1 < (0 : Int32) := (by intro hq3187; have B3190 : (-2147483648 : Int) ≤ i0.toInt ∧ i0.toInt ≤ 2147483647 := ⟨(rng32 i0).1, Int.le_of_lt_add_one (rng32 i0).2⟩; have q3189 : v1.toInt = i0.toInt % 16 := (by rw [hv1]; exact c_mask _ _ 4 (by decide) (by decide)); have B3188 : (0 : Int) ≤ v1.toInt ∧ v1.toInt ≤ 15 := (by rw [q3189]; exact k_modB (by decide)); have B3191 : (0 : Int) ≤ v1.toInt ∧ v1.toInt ≤ -1 := ⟨B3188.1, k_lt hq3187 (by decide)⟩; omega)
   have hT3192 : ¬ (15 : Int32) < v1 := (by intro hq3193; have B3196 : (-2147483648 : Int) ≤ i0.toInt ∧ i0.toInt ≤ 2147483647 := ⟨(rng32 i0).1, Int.le_of_lt_add_one (rng32 i0).2⟩; have q3195 : v1.toInt = i0.toInt % 16 := (by rw [hv1]; exact c_mask _ _ 4 (by decide) (by decide)); have B3194 : (0 : Int) ≤ v1.toInt ∧ v1.toInt ≤ 15 := (by rw [q3195]; exact k_modB (by decide)); have B3197 : (16 : Int) ≤ v1.toInt ∧ v1.toInt ≤ 15 := ⟨k_gt hq3193 (by decide), B3194.2⟩; omega)
   refine k_callV X3175 hx hZ hown (a := b3171) (hw _ (List.mem_of_getElem? (i := 26) rfl)) (hw _ (List.mem_of_getElem? (i := 27) rfl)) (hw _ (List.mem_of_getElem? (i := 29) rfl)) (hw _ (List.mem_of_getElem? (i := 28) rfl)) (hw _ (List.mem_of_getElem? (i := 3) rfl)) (hw _ (List.mem_of_getElem? (i := 30) rfl)) (by decide) F3178 (rm5_169 l Z a0 hw [] b3171 b3176 k3177 (0 : Int32) (0 : Int32) v1 (fun _ => 0) T3175.heap n0 Z3184 F3178 F3179 F3180 F3181 F3182 g_b3171 g_b3176 lt3183 (by decide) (by decide) (by decide) (by decide) (fun _ _ => rfl) hT3186 hT3192) (by decide) (by decide) rfl (by rw [hml]; rfl) (argsL := [(.int v1)]) (rest := []) (lenOf pd_5 rfl) rfl (W := 0) (Nat.le_refl _) rfl (hb hby at_58) (by decide) (by decide) (pc' := 61) rfl (fun T3185 L3185 r3185 X3185 q3185 => ?_)
   obtain ⟨N3185, b3185, k3185, v3198, v3199, rfl, F3200, F3201, F3202, F3203, F3204, g_b3185, lt3211, Z3212, hI3205, hI3206, hI3207, hI3208, HZ3209⟩ := q3185
   have N3185' := Fr.app N3175' N3185
   show KEnds p e below s _ _ _ T3185 (mkF m 61 #[iv i0, iv i1, iv i2, iv i3, iv v1, iv (3 : Int32), iv v2532, iv (3 : Int32), iv v3169, iv v3170, rv b3171, .unset, .unset, .unset] [])
   refine k_iload X3185 hx (hb hby at_61) rfl (pc' := 63) rfl ?_
   refine k_iconst X3185 hx (hb hby at_63) (pc' := 64) rfl (z := (2 : Int32)) rfl ?_
   refine k_icmp_lt X3185 hx (hb hby at_64) (pn := 67) rfl (py := 74) (by decide) (fun hc => absurd hc (by decide)) (fun _ => ?_)
   refine k_aload X3185 hx (hb hby at_67) rfl rfl (pc' := 69) rfl ?_
   refine k_iload X3185 hx (hb hby at_69) rfl (pc' := 71) rfl ?_
   refine k_callV X3185 hx hZ hown (a := b3171) (hw _ (List.mem_of_getElem? (i := 26) rfl)) (hw _ (List.mem_of_getElem? (i := 27) rfl)) (hw _ (List.mem_of_getElem? (i := 29) rfl)) (hw _ (List.mem_of_getElem? (i := 28) rfl)) (hw _ (List.mem_of_getElem? (i := 3) rfl)) (hw _ (List.mem_of_getElem? (i := 30) rfl)) (by decide) F3200 (rm5_169 l Z a0 hw [] b3171 b3185 k3185 v3198 v3199 v1 (updF (fun _ => 0) v1.toNatClampNeg ((fun _ => 0) v1.toNatClampNeg + 1)) T3185.heap n0 Z3212 F3200 F3201 F3202 F3203 F3204 g_b3171 g_b3185 lt3211 hI3205 hI3206 hI3207 hI3208 HZ3209 hT3186 hT3192) (by decide) (by decide) rfl (by rw [hml]; rfl) (argsL := [(.int v1)]) (rest := []) (lenOf pd_5 rfl) rfl (W := 0) (Nat.le_refl _) rfl (hb hby at_71) (by decide) (by decide) (pc' := 74) rfl (fun T3213 L3213 r3213 X3213 q3213 => ?_)
   obtain ⟨N3213, b3213, k3213, v3214, v3215, rfl, F3216, F3217, F3218, F3219, F3220, g_b3213, lt3227, Z3228, hI3221, hI3222, hI3223, hI3224, HZ3225⟩ := q3213
   have N3213' := Fr.app N3185' N3213
   show KEnds p e below s _ _ _ T3213 (mkF m 74 #[iv i0, iv i1, iv i2, iv i3, iv v1, iv (3 : Int32), iv v2532, iv (3 : Int32), iv v3169, iv v3170, rv b3171, .unset, .unset, .unset] [])
   refine k_iload X3213 hx (hb hby at_74) rfl (pc' := 76) rfl ?_
   refine k_iconst X3213 hx (hb hby at_76) (pc' := 77) rfl (z := (3 : Int32)) rfl ?_
   refine k_icmp_lt X3213 hx (hb hby at_77) (pn := 80) rfl (py := 87) (by decide) (fun hc => absurd hc (by decide)) (fun _ => ?_)
   refine k_aload X3213 hx (hb hby at_80) rfl rfl (pc' := 82) rfl ?_
   refine k_iload X3213 hx (hb hby at_82) rfl (pc' := 84) rfl ?_
   refine k_callV X3213 hx hZ hown (a := b3171) (hw _ (List.mem_of_getElem? (i := 26) rfl)) (hw _ (List.mem_of_getElem? (i := 27) rfl)) (hw _ (List.mem_of_getElem? (i := 29) rfl)) (hw _ (List.mem_of_getElem? (i := 28) rfl)) (hw _ (List.mem_of_getElem? (i := 3) rfl)) (hw _ (List.mem_of_getElem? (i := 30) rfl)) (by decide) F3216 (rm5_169 l Z a0 hw [] b3171 b3213 k3213 v3214 v3215 v1 (updF (updF (fun _ => 0) v1.toNatClampNeg ((fun _ => 0) v1.toNatClampNeg + 1)) v1.toNatClampNeg ((updF (fun _ => 0) v1.toNatClampNeg ((fun _ => 0) v1.toNatClampNeg + 1)) v1.toNatClampNeg + 1)) T3213.heap n0 Z3228 F3216 F3217 F3218 F3219 F3220 g_b3171 g_b3213 lt3227 hI3221 hI3222 hI3223 hI3224 HZ3225 hT3186 hT3192) (by decide) (by decide) rfl (by rw [hml]; rfl) (argsL := [(.int v1)]) (rest := []) (lenOf pd_5 rfl) rfl (W := 0) (Nat.le_refl _) rfl (hb hby at_84) (by decide) (by decide) (pc' := 87) rfl (fun T3229 L3229 r3229 X3229 q3229 => ?_)
   obtain ⟨N3229, b3229, k3229, v3230, v3231, rfl, F3232, F3233, F3234, F3235, F3236, g_b3229, lt3243, Z3244, hI3237, hI3238, hI3239, hI3240, HZ3241⟩ := q3229
   have N3229' := Fr.app N3213' N3229
   show KEnds p e below s _ _ _ T3229 (mkF m 87 #[iv i0, iv i1, iv i2, iv i3, iv v1, iv (3 : Int32), iv v2532, iv (3 : Int32), iv v3169, iv v3170, rv b3171, .unset, .unset, .unset] [])
   refine k_iload X3229 hx (hb hby at_87) rfl (pc' := 89) rfl ?_
   refine k_iconst X3229 hx (hb hby at_89) (pc' := 90) rfl (z := (1 : Int32)) rfl ?_
   refine k_icmp_lt X3229 hx (hb hby at_90) (pn := 93) rfl (py := 100) (by decide) (fun hc => absurd hc (by decide)) (fun _ => ?_)
   refine k_aload X3229 hx (hb hby at_93) rfl rfl (pc' := 95) rfl ?_
   refine k_iload X3229 hx (hb hby at_95) rfl (pc' := 97) rfl ?_
   have hT3246 : ¬ v2532 < (0 : Int32) := (by intro hq3247; have B3250 : (-2147483648 : Int) ≤ i0.toInt ∧ i0.toInt ≤ 2147483647 := ⟨(rng32 i0).1, Int.le_of_lt_add_one (rng32 i0).2⟩; have q3249 : v1.toInt = i0.toInt % 16 := (by rw [hv1]; exact c_mask _ _ 4 (by decide) (by decide)); have B3248 : (0 : Int) ≤ v1.toInt ∧ v1.toInt ≤ 15 := (by rw [q3249]; exact k_modB (by decide)); have B3251 : (0 : Int) ≤ v3198.toInt ∧ v3198.toInt ≤ 30 := ⟨k_ge hI3205 (by decide), k_le hI3206 (by decide)⟩; have B3252 : (0 : Int) ≤ v3199.toInt ∧ v3199.toInt ≤ 2147483647 := ⟨k_ge hI3207 (by decide), Int.le_of_lt_add_one (rng32 v3199).2⟩; have q3253 := hI3208; rw [Int32.lt_iff_toInt_lt] at q3253; have B3254 : (0 : Int) ≤ v3214.toInt ∧ v3214.toInt ≤ 30 := ⟨k_ge hI3221 (by decide), k_le hI3222 (by decide)⟩; have B3255 : (0 : Int) ≤ v3215.toInt ∧ v3215.toInt ≤ 2147483647 := ⟨k_ge hI3223 (by decide), Int.le_of_lt_add_one (rng32 v3215).2⟩; have q3256 := hI3224; rw [Int32.lt_iff_toInt_lt] at q3256; have B3257 : (0 : Int) ≤ v3230.toInt ∧ v3230.toInt ≤ 30 := ⟨k_ge hI3237 (by decide), k_le hI3238 (by decide)⟩; have B3258 : (0 : Int) ≤ v3231.toInt ∧ v3231.toInt ≤ 2147483647 := ⟨k_ge hI3239 (by decide), Int.le_of_lt_add_one (rng32 v3231).2⟩; have q3259 := hI3240; rw [Int32.lt_iff_toInt_lt] at q3259; have B3262 : (-2147483648 : Int) ≤ i1.toInt ∧ i1.toInt ≤ 2147483647 := ⟨(rng32 i1).1, Int.le_of_lt_add_one (rng32 i1).2⟩; have q3261 : v2532.toInt = i1.toInt % 16 := (by rw [hv2532]; exact c_mask _ _ 4 (by decide) (by decide)); have B3260 : (0 : Int) ≤ v2532.toInt ∧ v2532.toInt ≤ 15 := (by rw [q3261]; exact k_modB (by decide)); have B3263 : (0 : Int) ≤ v2532.toInt ∧ v2532.toInt ≤ -1 := ⟨B3260.1, k_lt hq3247 (by decide)⟩; omega)
   have hT3264 : ¬ (15 : Int32) < v2532 := (by intro hq3265; have B3268 : (-2147483648 : Int) ≤ i0.toInt ∧ i0.toInt ≤ 2147483647 := ⟨(rng32 i0).1, Int.le_of_lt_add_one (rng32 i0).2⟩; have q3267 : v1.toInt = i0.toInt % 16 := (by rw [hv1]; exact c_mask _ _ 4 (by decide) (by decide)); have B3266 : (0 : Int) ≤ v1.toInt ∧ v1.toInt ≤ 15 := (by rw [q3267]; exact k_modB (by decide)); have B3269 : (0 : Int) ≤ v3198.toInt ∧ v3198.toInt ≤ 30 := ⟨k_ge hI3205 (by decide), k_le hI3206 (by decide)⟩; have B3270 : (0 : Int) ≤ v3199.toInt ∧ v3199.toInt ≤ 2147483647 := ⟨k_ge hI3207 (by decide), Int.le_of_lt_add_one (rng32 v3199).2⟩; have q3271 := hI3208; rw [Int32.lt_iff_toInt_lt] at q3271; have B3272 : (0 : Int) ≤ v3214.toInt ∧ v3214.toInt ≤ 30 := ⟨k_ge hI3221 (by decide), k_le hI3222 (by decide)⟩; have B3273 : (0 : Int) ≤ v3215.toInt ∧ v3215.toInt ≤ 2147483647 := ⟨k_ge hI3223 (by decide), Int.le_of_lt_add_one (rng32 v3215).2⟩; have q3274 := hI3224; rw [Int32.lt_iff_toInt_lt] at q3274; have B3275 : (0 : Int) ≤ v3230.toInt ∧ v3230.toInt ≤ 30 := ⟨k_ge hI3237 (by decide), k_le hI3238 (by decide)⟩; have B3276 : (0 : Int) ≤ v3231.toInt ∧ v3231.toInt ≤ 2147483647 := ⟨k_ge hI3239 (by decide), Int.le_of_lt_add_one (rng32 v3231).2⟩; have q3277 := hI3240; rw [Int32.lt_iff_toInt_lt] at q3277; have B3280 : (-2147483648 : Int) ≤ i1.toInt ∧ i1.toInt ≤ 2147483647 := ⟨(rng32 i1).1, Int.le_of_lt_add_one (rng32 i1).2⟩; have q3279 : v2532.toInt = i1.toInt % 16 := (by rw [hv2532]; exact c_mask _ _ 4 (by decide) (by decide)); have B3278 : (0 : Int) ≤ v2532.toInt ∧ v2532.toInt ≤ 15 := (by rw [q3279]; exact k_modB (by decide)); have B3281 : (16 : Int) ≤ v2532.toInt ∧ v2532.toInt ≤ 15 := ⟨k_gt hq3265 (by decide), B3278.2⟩; omega)
   refine k_callV X3229 hx hZ hown (a := b3171) (hw _ (List.mem_of_getElem? (i := 26) rfl)) (hw _ (List.mem_of_getElem? (i := 27) rfl)) (hw _ (List.mem_of_getElem? (i := 29) rfl)) (hw _ (List.mem_of_getElem? (i := 28) rfl)) (hw _ (List.mem_of_getElem? (i := 3) rfl)) (hw _ (List.mem_of_getElem? (i := 30) rfl)) (by decide) F3232 (rm5_169 l Z a0 hw [] b3171 b3229 k3229 v3230 v3231 v2532 (updF (updF (updF (fun _ => 0) v1.toNatClampNeg ((fun _ => 0) v1.toNatClampNeg + 1)) v1.toNatClampNeg ((updF (fun _ => 0) v1.toNatClampNeg ((fun _ => 0) v1.toNatClampNeg + 1)) v1.toNatClampNeg + 1)) v1.toNatClampNeg ((updF (updF (fun _ => 0) v1.toNatClampNeg ((fun _ => 0) v1.toNatClampNeg + 1)) v1.toNatClampNeg ((updF (fun _ => 0) v1.toNatClampNeg ((fun _ => 0) v1.toNatClampNeg + 1)) v1.toNatClampNeg + 1)) v1.toNatClampNeg + 1)) T3229.heap n0 Z3244 F3232 F3233 F3234 F3235 F3236 g_b3171 g_b3229 lt3243 hI3237 hI3238 hI3239 hI3240 HZ3241 hT3246 hT3264) (by decide) (by decide) rfl (by rw [hml]; rfl) (argsL := [(.int v2532)]) (rest := []) (lenOf pd_5 rfl) rfl (W := 0) (Nat.le_refl _) rfl (hb hby at_97) (by decide) (by decide) (pc' := 100) rfl (fun T3245 L3245 r3245 X3245 q3245 => ?_)
   obtain ⟨N3245, b3245, k3245, v3282, v3283, rfl, F3284, F3285, F3286, F3287, F3288, g_b3245, lt3295, Z3296, hI3289, hI3290, hI3291, hI3292, HZ3293⟩ := q3245
   have N3245' := Fr.app N3229' N3245
   show KEnds p e below s _ _ _ T3245 (mkF m 100 #[iv i0, iv i1, iv i2, iv i3, iv v1, iv (3 : Int32), iv v2532, iv (3 : Int32), iv v3169, iv v3170, rv b3171, .unset, .unset, .unset] [])
   refine k_iload X3245 hx (hb hby at_100) rfl (pc' := 102) rfl ?_
   refine k_iconst X3245 hx (hb hby at_102) (pc' := 103) rfl (z := (2 : Int32)) rfl ?_
   refine k_icmp_lt X3245 hx (hb hby at_103) (pn := 106) rfl (py := 113) (by decide) (fun hc => absurd hc (by decide)) (fun _ => ?_)
   refine k_aload X3245 hx (hb hby at_106) rfl rfl (pc' := 108) rfl ?_
   refine k_iload X3245 hx (hb hby at_108) rfl (pc' := 110) rfl ?_
   refine k_callV X3245 hx hZ hown (a := b3171) (hw _ (List.mem_of_getElem? (i := 26) rfl)) (hw _ (List.mem_of_getElem? (i := 27) rfl)) (hw _ (List.mem_of_getElem? (i := 29) rfl)) (hw _ (List.mem_of_getElem? (i := 28) rfl)) (hw _ (List.mem_of_getElem? (i := 3) rfl)) (hw _ (List.mem_of_getElem? (i := 30) rfl)) (by decide) F3284 (rm5_169 l Z a0 hw [] b3171 b3245 k3245 v3282 v3283 v2532 (updF (updF (updF (updF (fun _ => 0) v1.toNatClampNeg ((fun _ => 0) v1.toNatClampNeg + 1)) v1.toNatClampNeg ((updF (fun _ => 0) v1.toNatClampNeg ((fun _ => 0) v1.toNatClampNeg + 1)) v1.toNatClampNeg + 1)) v1.toNatClampNeg ((updF (updF (fun _ => 0) v1.toNatClampNeg ((fun _ => 0) v1.toNatClampNeg + 1)) v1.toNatClampNeg ((updF (fun _ => 0) v1.toNatClampNeg ((fun _ => 0) v1.toNatClampNeg + 1)) v1.toNatClampNeg + 1)) v1.toNatClampNeg + 1)) v2532.toNatClampNeg ((updF (updF (updF (fun _ => 0) v1.toNatClampNeg ((fun _ => 0) v1.toNatClampNeg + 1)) v1.toNatClampNeg ((updF (fun _ => 0) v1.toNatClampNeg ((fun _ => 0) v1.toNatClampNeg + 1)) v1.toNatClampNeg + 1)) v1.toNatClampNeg ((updF (updF (fun _ => 0) v1.toNatClampNeg ((fun _ => 0) v1.toNatClampNeg + 1)) v1.toNatClampNeg ((updF (fun _ => 0) v1.toNatClampNeg ((fun _ => 0) v1.toNatClampNeg + 1)) v1.toNatClampNeg + 1)) v1.toNatClampNeg + 1)) v2532.toNatClampNeg + 1)) T3245.heap n0 Z3296 F3284 F3285 F3286 F3287 F3288 g_b3171 g_b3245 lt3295 hI3289 hI3290 hI3291 hI3292 HZ3293 hT3246 hT3264) (by decide) (by decide) rfl (by rw [hml]; rfl) (argsL := [(.int v2532)]) (rest := []) (lenOf pd_5 rfl) rfl (W := 0) (Nat.le_refl _) rfl (hb hby at_110) (by decide) (by decide) (pc' := 113) rfl (fun T3297 L3297 r3297 X3297 q3297 => ?_)
   obtain ⟨N3297, b3297, k3297, v3298, v3299, rfl, F3300, F3301, F3302, F3303, F3304, g_b3297, lt3311, Z3312, hI3305, hI3306, hI3307, hI3308, HZ3309⟩ := q3297
   have N3297' := Fr.app N3245' N3297
   show KEnds p e below s _ _ _ T3297 (mkF m 113 #[iv i0, iv i1, iv i2, iv i3, iv v1, iv (3 : Int32), iv v2532, iv (3 : Int32), iv v3169, iv v3170, rv b3171, .unset, .unset, .unset] [])
   refine k_iload X3297 hx (hb hby at_113) rfl (pc' := 115) rfl ?_
   refine k_iconst X3297 hx (hb hby at_115) (pc' := 116) rfl (z := (3 : Int32)) rfl ?_
   refine k_icmp_lt X3297 hx (hb hby at_116) (pn := 119) rfl (py := 126) (by decide) (fun hc => absurd hc (by decide)) (fun _ => ?_)
   refine k_aload X3297 hx (hb hby at_119) rfl rfl (pc' := 121) rfl ?_
   refine k_iload X3297 hx (hb hby at_121) rfl (pc' := 123) rfl ?_
   refine k_callV X3297 hx hZ hown (a := b3171) (hw _ (List.mem_of_getElem? (i := 26) rfl)) (hw _ (List.mem_of_getElem? (i := 27) rfl)) (hw _ (List.mem_of_getElem? (i := 29) rfl)) (hw _ (List.mem_of_getElem? (i := 28) rfl)) (hw _ (List.mem_of_getElem? (i := 3) rfl)) (hw _ (List.mem_of_getElem? (i := 30) rfl)) (by decide) F3300 (rm5_169 l Z a0 hw [] b3171 b3297 k3297 v3298 v3299 v2532 (updF (updF (updF (updF (updF (fun _ => 0) v1.toNatClampNeg ((fun _ => 0) v1.toNatClampNeg + 1)) v1.toNatClampNeg ((updF (fun _ => 0) v1.toNatClampNeg ((fun _ => 0) v1.toNatClampNeg + 1)) v1.toNatClampNeg + 1)) v1.toNatClampNeg ((updF (updF (fun _ => 0) v1.toNatClampNeg ((fun _ => 0) v1.toNatClampNeg + 1)) v1.toNatClampNeg ((updF (fun _ => 0) v1.toNatClampNeg ((fun _ => 0) v1.toNatClampNeg + 1)) v1.toNatClampNeg + 1)) v1.toNatClampNeg + 1)) v2532.toNatClampNeg ((updF (updF (updF (fun _ => 0) v1.toNatClampNeg ((fun _ => 0) v1.toNatClampNeg + 1)) v1.toNatClampNeg ((updF (fun _ => 0) v1.toNatClampNeg ((fun _ => 0) v1.toNatClampNeg + 1)) v1.toNatClampNeg + 1)) v1.toNatClampNeg ((updF (updF (fun _ => 0) v1.toNatClampNeg ((fun _ => 0) v1.toNatClampNeg + 1)) v1.toNatClampNeg ((updF (fun _ => 0) v1.toNatClampNeg ((fun _ => 0) v1.toNatClampNeg + 1)) v1.toNatClampNeg + 1)) v1.toNatClampNeg + 1)) v2532.toNatClampNeg + 1)) v2532.toNatClampNeg ((updF (updF (updF (updF (fun _ => 0) v1.toNatClampNeg ((fun _ => 0) v1.toNatClampNeg + 1)) v1.toNatClampNeg ((updF (fun _ => 0) v1.toNatClampNeg ((fun _ => 0) v1.toNatClampNeg + 1)) v1.toNatClampNeg + 1)) v1.toNatClampNeg ((updF (updF (fun _ => 0) v1.toNatClampNeg ((fun _ => 0) v1.toNatClampNeg + 1)) v1.toNatClampNeg ((updF (fun _ => 0) v1.toNatClampNeg ((fun _ => 0) v1.toNatClampNeg + 1)) v1.toNatClampNeg + 1)) v1.toNatClampNeg + 1)) v2532.toNatClampNeg ((updF (updF (updF (fun _ => 0) v1.toNatClampNeg ((fun _ => 0) v1.toNatClampNeg + 1)) v1.toNatClampNeg ((updF (fun _ => 0) v1.toNatClampNeg ((fun _ => 0) v1.toNatClampNeg + 1)) v1.toNatClampNeg + 1)) v1.toNatClampNeg ((updF (updF (fun _ => 0) v1.toNatClampNeg ((fun _ => 0) v1.toNatClampNeg + 1)) v1.toNatClampNeg ((updF (fun _ => 0) v1.toNatClampNeg ((fun _ => 0) v1.toNatClampNeg + 1)) v1.toNatClampNeg + 1)) v1.toNatClampNeg + 1)) v2532.toNatClampNeg + 1)) v2532.toNatClampNeg + 1)) T3297.heap n0 Z3312 F3300 F3301 F3302 F3303 F3304 g_b3171 g_b3297 lt3311 hI3305 hI3306 hI3307 hI3308 HZ3309 hT3246 hT3264) (by decide) (by decide) rfl (by rw [hml]; rfl) (argsL := [(.int v2532)]) (rest := []) (lenOf pd_5 rfl) rfl (W := 0) (Nat.le_refl _) rfl (hb hby at_123) (by decide) (by decide) (pc' := 126) rfl (fun T3313 L3313 r3313 X3313 q3313 => ?_)
   obtain ⟨N3313, b3313, k3313, v3314, v3315, rfl, F3316, F3317, F3318, F3319, F3320, g_b3313, lt3327, Z3328, hI3321, hI3322, hI3323, hI3324, HZ3325⟩ := q3313
   have N3313' := Fr.app N3297' N3313
   show KEnds p e below s _ _ _ T3313 (mkF m 126 #[iv i0, iv i1, iv i2, iv i3, iv v1, iv (3 : Int32), iv v2532, iv (3 : Int32), iv v3169, iv v3170, rv b3171, .unset, .unset, .unset] [])
   refine k_aload X3313 hx (hb hby at_126) rfl rfl (pc' := 128) rfl ?_
   refine k_iload X3313 hx (hb hby at_128) rfl (pc' := 130) rfl ?_
   have hp3329 : ¬ v3169 < (0 : Int32) := by
    intro hq3330
    have B3333 : (-2147483648 : Int) ≤ i0.toInt ∧ i0.toInt ≤ 2147483647 := ⟨(rng32 i0).1, Int.le_of_lt_add_one (rng32 i0).2⟩
    have q3332 : v1.toInt = i0.toInt % 16 := (by rw [hv1]; exact c_mask _ _ 4 (by decide) (by decide))
    have B3331 : (0 : Int) ≤ v1.toInt ∧ v1.toInt ≤ 15 := (by rw [q3332]; exact k_modB (by decide))
    have B3334 : (0 : Int) ≤ v3198.toInt ∧ v3198.toInt ≤ 30 := ⟨k_ge hI3205 (by decide), k_le hI3206 (by decide)⟩
    have B3335 : (0 : Int) ≤ v3199.toInt ∧ v3199.toInt ≤ 2147483647 := ⟨k_ge hI3207 (by decide), Int.le_of_lt_add_one (rng32 v3199).2⟩
    have q3336 := hI3208; rw [Int32.lt_iff_toInt_lt] at q3336
    have B3337 : (0 : Int) ≤ v3214.toInt ∧ v3214.toInt ≤ 30 := ⟨k_ge hI3221 (by decide), k_le hI3222 (by decide)⟩
    have B3338 : (0 : Int) ≤ v3215.toInt ∧ v3215.toInt ≤ 2147483647 := ⟨k_ge hI3223 (by decide), Int.le_of_lt_add_one (rng32 v3215).2⟩
    have q3339 := hI3224; rw [Int32.lt_iff_toInt_lt] at q3339
    have B3340 : (0 : Int) ≤ v3230.toInt ∧ v3230.toInt ≤ 30 := ⟨k_ge hI3237 (by decide), k_le hI3238 (by decide)⟩
    have B3341 : (0 : Int) ≤ v3231.toInt ∧ v3231.toInt ≤ 2147483647 := ⟨k_ge hI3239 (by decide), Int.le_of_lt_add_one (rng32 v3231).2⟩
    have q3342 := hI3240; rw [Int32.lt_iff_toInt_lt] at q3342
    have B3345 : (-2147483648 : Int) ≤ i1.toInt ∧ i1.toInt ≤ 2147483647 := ⟨(rng32 i1).1, Int.le_of_lt_add_one (rng32 i1).2⟩
    have q3344 : v2532.toInt = i1.toInt % 16 := (by rw [hv2532]; exact c_mask _ _ 4 (by decide) (by decide))
    have B3343 : (0 : Int) ≤ v2532.toInt ∧ v2532.toInt ≤ 15 := (by rw [q3344]; exact k_modB (by decide))
    have B3346 : (0 : Int) ≤ v3282.toInt ∧ v3282.toInt ≤ 30 := ⟨k_ge hI3289 (by decide), k_le hI3290 (by decide)⟩
    have B3347 : (0 : Int) ≤ v3283.toInt ∧ v3283.toInt ≤ 2147483647 := ⟨k_ge hI3291 (by decide), Int.le_of_lt_add_one (rng32 v3283).2⟩
    have q3348 := hI3292; rw [Int32.lt_iff_toInt_lt] at q3348
    have B3349 : (0 : Int) ≤ v3298.toInt ∧ v3298.toInt ≤ 30 := ⟨k_ge hI3305 (by decide), k_le hI3306 (by decide)⟩
    have B3350 : (0 : Int) ≤ v3299.toInt ∧ v3299.toInt ≤ 2147483647 := ⟨k_ge hI3307 (by decide), Int.le_of_lt_add_one (rng32 v3299).2⟩
    have q3351 := hI3308; rw [Int32.lt_iff_toInt_lt] at q3351
    have B3352 : (0 : Int) ≤ v3314.toInt ∧ v3314.toInt ≤ 30 := ⟨k_ge hI3321 (by decide), k_le hI3322 (by decide)⟩
    have B3353 : (0 : Int) ≤ v3315.toInt ∧ v3315.toInt ≤ 2147483647 := ⟨k_ge hI3323 (by decide), Int.le_of_lt_add_one (rng32 v3315).2⟩
    have q3354 := hI3324; rw [Int32.lt_iff_toInt_lt] at q3354
    have B3357 : (-2147483648 : Int) ≤ i2.toInt ∧ i2.toInt ≤ 2147483647 := ⟨(rng32 i2).1, Int.le_of_lt_add_one (rng32 i2).2⟩
    have q3356 : v3169.toInt = i2.toInt % 32 := (by rw [hv3169]; exact c_mask _ _ 5 (by decide) (by decide))
    have B3355 : (0 : Int) ≤ v3169.toInt ∧ v3169.toInt ≤ 31 := (by rw [q3356]; exact k_modB (by decide))
    have B3358 : (0 : Int) ≤ v3169.toInt ∧ v3169.toInt ≤ -1 := ⟨B3355.1, k_lt hq3330 (by decide)⟩
    omega
   refine k_callV X3313 hx hZ hown (a := b3171) (hw _ (List.mem_of_getElem? (i := 15) rfl)) (hw _ (List.mem_of_getElem? (i := 16) rfl)) (hw _ (List.mem_of_getElem? (i := 18) rfl)) (hw _ (List.mem_of_getElem? (i := 17) rfl)) (hw _ (List.mem_of_getElem? (i := 3) rfl)) (hw _ (List.mem_of_getElem? (i := 19) rfl)) (by decide) F3316 (rm3_631 l Z a0 hw [] b3171 v3169 b3313 v3315 k3313 v3314 (updF (updF (updF (updF (updF (updF (fun _ => 0) v1.toNatClampNeg ((fun _ => 0) v1.toNatClampNeg + 1)) v1.toNatClampNeg ((updF (fun _ => 0) v1.toNatClampNeg ((fun _ => 0) v1.toNatClampNeg + 1)) v1.toNatClampNeg + 1)) v1.toNatClampNeg ((updF (updF (fun _ => 0) v1.toNatClampNeg ((fun _ => 0) v1.toNatClampNeg + 1)) v1.toNatClampNeg ((updF (fun _ => 0) v1.toNatClampNeg ((fun _ => 0) v1.toNatClampNeg + 1)) v1.toNatClampNeg + 1)) v1.toNatClampNeg + 1)) v2532.toNatClampNeg ((updF (updF (updF (fun _ => 0) v1.toNatClampNeg ((fun _ => 0) v1.toNatClampNeg + 1)) v1.toNatClampNeg ((updF (fun _ => 0) v1.toNatClampNeg ((fun _ => 0) v1.toNatClampNeg + 1)) v1.toNatClampNeg + 1)) v1.toNatClampNeg ((updF (updF (fun _ => 0) v1.toNatClampNeg ((fun _ => 0) v1.toNatClampNeg + 1)) v1.toNatClampNeg ((updF (fun _ => 0) v1.toNatClampNeg ((fun _ => 0) v1.toNatClampNeg + 1)) v1.toNatClampNeg + 1)) v1.toNatClampNeg + 1)) v2532.toNatClampNeg + 1)) v2532.toNatClampNeg ((updF (updF (updF (updF (fun _ => 0) v1.toNatClampNeg ((fun _ => 0) v1.toNatClampNeg + 1)) v1.toNatClampNeg ((updF (fun _ => 0) v1.toNatClampNeg ((fun _ => 0) v1.toNatClampNeg + 1)) v1.toNatClampNeg + 1)) v1.toNatClampNeg ((updF (updF (fun _ => 0) v1.toNatClampNeg ((fun _ => 0) v1.toNatClampNeg + 1)) v1.toNatClampNeg ((updF (fun _ => 0) v1.toNatClampNeg ((fun _ => 0) v1.toNatClampNeg + 1)) v1.toNatClampNeg + 1)) v1.toNatClampNeg + 1)) v2532.toNatClampNeg ((updF (updF (updF (fun _ => 0) v1.toNatClampNeg ((fun _ => 0) v1.toNatClampNeg + 1)) v1.toNatClampNeg ((updF (fun _ => 0) v1.toNatClampNeg ((fun _ => 0) v1.toNatClampNeg + 1)) v1.toNatClampNeg + 1)) v1.toNatClampNeg ((updF (updF (fun _ => 0) v1.toNatClampNeg ((fun _ => 0) v1.toNatClampNeg + 1)) v1.toNatClampNeg ((updF (fun _ => 0) v1.toNatClampNeg ((fun _ => 0) v1.toNatClampNeg + 1)) v1.toNatClampNeg + 1)) v1.toNatClampNeg + 1)) v2532.toNatClampNeg + 1)) v2532.toNatClampNeg + 1)) v2532.toNatClampNeg ((updF (updF (updF (updF (updF (fun _ => 0) v1.toNatClampNeg ((fun _ => 0) v1.toNatClampNeg + 1)) v1.toNatClampNeg ((updF (fun _ => 0) v1.toNatClampNeg ((fun _ => 0) v1.toNatClampNeg + 1)) v1.toNatClampNeg + 1)) v1.toNatClampNeg ((updF (updF (fun _ => 0) v1.toNatClampNeg ((fun _ => 0) v1.toNatClampNeg + 1)) v1.toNatClampNeg ((updF (fun _ => 0) v1.toNatClampNeg ((fun _ => 0) v1.toNatClampNeg + 1)) v1.toNatClampNeg + 1)) v1.toNatClampNeg + 1)) v2532.toNatClampNeg ((updF (updF (updF (fun _ => 0) v1.toNatClampNeg ((fun _ => 0) v1.toNatClampNeg + 1)) v1.toNatClampNeg ((updF (fun _ => 0) v1.toNatClampNeg ((fun _ => 0) v1.toNatClampNeg + 1)) v1.toNatClampNeg + 1)) v1.toNatClampNeg ((updF (updF (fun _ => 0) v1.toNatClampNeg ((fun _ => 0) v1.toNatClampNeg + 1)) v1.toNatClampNeg ((updF (fun _ => 0) v1.toNatClampNeg ((fun _ => 0) v1.toNatClampNeg + 1)) v1.toNatClampNeg + 1)) v1.toNatClampNeg + 1)) v2532.toNatClampNeg + 1)) v2532.toNatClampNeg ((updF (updF (updF (updF (fun _ => 0) v1.toNatClampNeg ((fun _ => 0) v1.toNatClampNeg + 1)) v1.toNatClampNeg ((updF (fun _ => 0) v1.toNatClampNeg ((fun _ => 0) v1.toNatClampNeg + 1)) v1.toNatClampNeg + 1)) v1.toNatClampNeg ((updF (updF (fun _ => 0) v1.toNatClampNeg ((fun _ => 0) v1.toNatClampNeg + 1)) v1.toNatClampNeg ((updF (fun _ => 0) v1.toNatClampNeg ((fun _ => 0) v1.toNatClampNeg + 1)) v1.toNatClampNeg + 1)) v1.toNatClampNeg + 1)) v2532.toNatClampNeg ((updF (updF (updF (fun _ => 0) v1.toNatClampNeg ((fun _ => 0) v1.toNatClampNeg + 1)) v1.toNatClampNeg ((updF (fun _ => 0) v1.toNatClampNeg ((fun _ => 0) v1.toNatClampNeg + 1)) v1.toNatClampNeg + 1)) v1.toNatClampNeg ((updF (updF (fun _ => 0) v1.toNatClampNeg ((fun _ => 0) v1.toNatClampNeg + 1)) v1.toNatClampNeg ((updF (fun _ => 0) v1.toNatClampNeg ((fun _ => 0) v1.toNatClampNeg + 1)) v1.toNatClampNeg + 1)) v1.toNatClampNeg + 1)) v2532.toNatClampNeg + 1)) v2532.toNatClampNeg + 1)) v2532.toNatClampNeg + 1)) T3313.heap n0 Z3328 F3316 F3317 F3318 F3319 F3320 lt3327 hp3329 hI3324 HZ3325) (by decide) (by decide) rfl (by rw [hml]; rfl) (argsL := [(.int v3169)]) (rest := []) (lenOf pd_1 rfl) rfl (W := 0) (Nat.le_refl _) rfl (hb hby at_130) (by decide) (by decide) (pc' := 133) rfl (fun T3359 L3359 r3359 X3359 q3359 => ?_)
   obtain ⟨N3359, e3359, v3360, rfl, hS3361⟩ := q3359
   have N3359' := Fr.app N3313' N3359
   show KEnds p e below s _ _ _ T3359 (mkF m 133 #[iv i0, iv i1, iv i2, iv i3, iv v1, iv (3 : Int32), iv v2532, iv (3 : Int32), iv v3169, iv v3170, rv b3171, .unset, .unset, .unset] [(.int v3360)])
   refine k_iload X3359 hx (hb hby at_133) rfl (pc' := 135) rfl ?_
   refine k_iload X3359 hx (hb hby at_135) rfl (pc' := 137) rfl ?_
   refine k_iload X3359 hx (hb hby at_137) rfl (pc' := 139) rfl ?_
   refine k_iload X3359 hx (hb hby at_139) rfl (pc' := 141) rfl ?_
   refine k_iload X3359 hx (hb hby at_141) rfl (pc' := 143) rfl ?_
   refine k_callS X3359 hx hZ hown (hw _ (List.mem_of_getElem? (i := 22) rfl)) (hw _ (List.mem_of_getElem? (i := 23) rfl)) (hw _ (List.mem_of_getElem? (i := 24) rfl)) (hw _ (List.mem_of_getElem? (i := 25) rfl)) (by decide) (rm4_3362 l Z a0 hw [] v3169 v1 v2532 T3313.heap n0 Z3328 ) (by decide) (by decide) e3359 (by rw [hml]; rfl) (argsL := [(.int v3169), (.int v1), (.int (3 : Int32)), (.int v2532), (.int (3 : Int32))]) (rest := [(.int v3360)]) (lenOf pd_2 rfl) rfl (W := 1) (Nat.le_refl _) rfl (hb hby at_143) (by decide) (by decide) (pc' := 146) rfl (fun T3366 L3366 r3366 X3366 q3366 => ?_)
   obtain ⟨N3366, e3366, rfl⟩ := q3366
   have N3366' := Fr.app N3359' N3366
   show KEnds p e below s _ _ _ T3366 (mkF m 146 #[iv i0, iv i1, iv i2, iv i3, iv v1, iv (3 : Int32), iv v2532, iv (3 : Int32), iv v3169, iv v3170, rv b3171, .unset, .unset, .unset] ((.int (f4_3362 v3169 v1 v2532)) :: (.int v3360) :: []))
   obtain ⟨v3367, hv3367⟩ : ∃ z, z = f4_3362 v3169 v1 v2532 := ⟨_, rfl⟩
   rw [← hv3367]
   refine k_icmp_ne X3366 hx (hb hby at_146) (pn := 149) rfl (py := 153) (by decide) (fun hc => absurd (by rw [hS3361, hv3367]; exact own_fin_45 v3169 v1 v2532 hp3329 hT3186 hT3246) hc) (fun _ => ?_)
   refine k_iconst X3366 hx (hb hby at_149) (pc' := 150) rfl (z := (1 : Int32)) rfl ?_
   refine k_goto X3366 hx (hb hby at_150) (pc' := 154) (by decide) ?_
   refine k_istore X3366 hx (hb hby at_154) (Ls' := #[iv i0, iv i1, iv i2, iv i3, iv v1, iv (3 : Int32), iv v2532, iv (3 : Int32), iv v3169, iv v3170, rv b3171, iv (1 : Int32), .unset, .unset]) rfl (pc' := 156) rfl ?_
   refine k_aload X3366 hx (hb hby at_156) rfl rfl (pc' := 158) rfl ?_
   refine k_iload X3366 hx (hb hby at_158) rfl (pc' := 160) rfl ?_
   have hp3368 : ¬ v3170 < (0 : Int32) := by
    intro hq3369
    have B3372 : (-2147483648 : Int) ≤ i0.toInt ∧ i0.toInt ≤ 2147483647 := ⟨(rng32 i0).1, Int.le_of_lt_add_one (rng32 i0).2⟩
    have q3371 : v1.toInt = i0.toInt % 16 := (by rw [hv1]; exact c_mask _ _ 4 (by decide) (by decide))
    have B3370 : (0 : Int) ≤ v1.toInt ∧ v1.toInt ≤ 15 := (by rw [q3371]; exact k_modB (by decide))
    have B3373 : (0 : Int) ≤ v3198.toInt ∧ v3198.toInt ≤ 30 := ⟨k_ge hI3205 (by decide), k_le hI3206 (by decide)⟩
    have B3374 : (0 : Int) ≤ v3199.toInt ∧ v3199.toInt ≤ 2147483647 := ⟨k_ge hI3207 (by decide), Int.le_of_lt_add_one (rng32 v3199).2⟩
    have q3375 := hI3208; rw [Int32.lt_iff_toInt_lt] at q3375
    have B3376 : (0 : Int) ≤ v3214.toInt ∧ v3214.toInt ≤ 30 := ⟨k_ge hI3221 (by decide), k_le hI3222 (by decide)⟩
    have B3377 : (0 : Int) ≤ v3215.toInt ∧ v3215.toInt ≤ 2147483647 := ⟨k_ge hI3223 (by decide), Int.le_of_lt_add_one (rng32 v3215).2⟩
    have q3378 := hI3224; rw [Int32.lt_iff_toInt_lt] at q3378
    have B3379 : (0 : Int) ≤ v3230.toInt ∧ v3230.toInt ≤ 30 := ⟨k_ge hI3237 (by decide), k_le hI3238 (by decide)⟩
    have B3380 : (0 : Int) ≤ v3231.toInt ∧ v3231.toInt ≤ 2147483647 := ⟨k_ge hI3239 (by decide), Int.le_of_lt_add_one (rng32 v3231).2⟩
    have q3381 := hI3240; rw [Int32.lt_iff_toInt_lt] at q3381
    have B3384 : (-2147483648 : Int) ≤ i1.toInt ∧ i1.toInt ≤ 2147483647 := ⟨(rng32 i1).1, Int.le_of_lt_add_one (rng32 i1).2⟩
    have q3383 : v2532.toInt = i1.toInt % 16 := (by rw [hv2532]; exact c_mask _ _ 4 (by decide) (by decide))
    have B3382 : (0 : Int) ≤ v2532.toInt ∧ v2532.toInt ≤ 15 := (by rw [q3383]; exact k_modB (by decide))
    have B3385 : (0 : Int) ≤ v3282.toInt ∧ v3282.toInt ≤ 30 := ⟨k_ge hI3289 (by decide), k_le hI3290 (by decide)⟩
    have B3386 : (0 : Int) ≤ v3283.toInt ∧ v3283.toInt ≤ 2147483647 := ⟨k_ge hI3291 (by decide), Int.le_of_lt_add_one (rng32 v3283).2⟩
    have q3387 := hI3292; rw [Int32.lt_iff_toInt_lt] at q3387
    have B3388 : (0 : Int) ≤ v3298.toInt ∧ v3298.toInt ≤ 30 := ⟨k_ge hI3305 (by decide), k_le hI3306 (by decide)⟩
    have B3389 : (0 : Int) ≤ v3299.toInt ∧ v3299.toInt ≤ 2147483647 := ⟨k_ge hI3307 (by decide), Int.le_of_lt_add_one (rng32 v3299).2⟩
    have q3390 := hI3308; rw [Int32.lt_iff_toInt_lt] at q3390
    have B3391 : (0 : Int) ≤ v3314.toInt ∧ v3314.toInt ≤ 30 := ⟨k_ge hI3321 (by decide), k_le hI3322 (by decide)⟩
    have B3392 : (0 : Int) ≤ v3315.toInt ∧ v3315.toInt ≤ 2147483647 := ⟨k_ge hI3323 (by decide), Int.le_of_lt_add_one (rng32 v3315).2⟩
    have q3393 := hI3324; rw [Int32.lt_iff_toInt_lt] at q3393
    have B3396 : (-2147483648 : Int) ≤ i2.toInt ∧ i2.toInt ≤ 2147483647 := ⟨(rng32 i2).1, Int.le_of_lt_add_one (rng32 i2).2⟩
    have q3395 : v3169.toInt = i2.toInt % 32 := (by rw [hv3169]; exact c_mask _ _ 5 (by decide) (by decide))
    have B3394 : (0 : Int) ≤ v3169.toInt ∧ v3169.toInt ≤ 31 := (by rw [q3395]; exact k_modB (by decide))
    have B3399 : (-2147483648 : Int) ≤ i3.toInt ∧ i3.toInt ≤ 2147483647 := ⟨(rng32 i3).1, Int.le_of_lt_add_one (rng32 i3).2⟩
    have q3398 : v3170.toInt = i3.toInt % 2147483648 := (by rw [hv3170]; exact c_mask _ _ 31 (by decide) (by decide))
    have B3397 : (0 : Int) ≤ v3170.toInt ∧ v3170.toInt ≤ 2147483647 := (by rw [q3398]; exact k_modB (by decide))
    have B3400 : (0 : Int) ≤ v3170.toInt ∧ v3170.toInt ≤ -1 := ⟨B3397.1, k_lt hq3369 (by decide)⟩
    omega
   refine k_callV X3366 hx hZ hown (a := b3171) (hw _ (List.mem_of_getElem? (i := 15) rfl)) (hw _ (List.mem_of_getElem? (i := 16) rfl)) (hw _ (List.mem_of_getElem? (i := 18) rfl)) (hw _ (List.mem_of_getElem? (i := 17) rfl)) (hw _ (List.mem_of_getElem? (i := 3) rfl)) (hw _ (List.mem_of_getElem? (i := 19) rfl)) (by decide) F3316 (rm3_631 l Z a0 hw [] b3171 v3170 b3313 v3315 k3313 v3314 (updF (updF (updF (updF (updF (updF (fun _ => 0) v1.toNatClampNeg ((fun _ => 0) v1.toNatClampNeg + 1)) v1.toNatClampNeg ((updF (fun _ => 0) v1.toNatClampNeg ((fun _ => 0) v1.toNatClampNeg + 1)) v1.toNatClampNeg + 1)) v1.toNatClampNeg ((updF (updF (fun _ => 0) v1.toNatClampNeg ((fun _ => 0) v1.toNatClampNeg + 1)) v1.toNatClampNeg ((updF (fun _ => 0) v1.toNatClampNeg ((fun _ => 0) v1.toNatClampNeg + 1)) v1.toNatClampNeg + 1)) v1.toNatClampNeg + 1)) v2532.toNatClampNeg ((updF (updF (updF (fun _ => 0) v1.toNatClampNeg ((fun _ => 0) v1.toNatClampNeg + 1)) v1.toNatClampNeg ((updF (fun _ => 0) v1.toNatClampNeg ((fun _ => 0) v1.toNatClampNeg + 1)) v1.toNatClampNeg + 1)) v1.toNatClampNeg ((updF (updF (fun _ => 0) v1.toNatClampNeg ((fun _ => 0) v1.toNatClampNeg + 1)) v1.toNatClampNeg ((updF (fun _ => 0) v1.toNatClampNeg ((fun _ => 0) v1.toNatClampNeg + 1)) v1.toNatClampNeg + 1)) v1.toNatClampNeg + 1)) v2532.toNatClampNeg + 1)) v2532.toNatClampNeg ((updF (updF (updF (updF (fun _ => 0) v1.toNatClampNeg ((fun _ => 0) v1.toNatClampNeg + 1)) v1.toNatClampNeg ((updF (fun _ => 0) v1.toNatClampNeg ((fun _ => 0) v1.toNatClampNeg + 1)) v1.toNatClampNeg + 1)) v1.toNatClampNeg ((updF (updF (fun _ => 0) v1.toNatClampNeg ((fun _ => 0) v1.toNatClampNeg + 1)) v1.toNatClampNeg ((updF (fun _ => 0) v1.toNatClampNeg ((fun _ => 0) v1.toNatClampNeg + 1)) v1.toNatClampNeg + 1)) v1.toNatClampNeg + 1)) v2532.toNatClampNeg ((updF (updF (updF (fun _ => 0) v1.toNatClampNeg ((fun _ => 0) v1.toNatClampNeg + 1)) v1.toNatClampNeg ((updF (fun _ => 0) v1.toNatClampNeg ((fun _ => 0) v1.toNatClampNeg + 1)) v1.toNatClampNeg + 1)) v1.toNatClampNeg ((updF (updF (fun _ => 0) v1.toNatClampNeg ((fun _ => 0) v1.toNatClampNeg + 1)) v1.toNatClampNeg ((updF (fun _ => 0) v1.toNatClampNeg ((fun _ => 0) v1.toNatClampNeg + 1)) v1.toNatClampNeg + 1)) v1.toNatClampNeg + 1)) v2532.toNatClampNeg + 1)) v2532.toNatClampNeg + 1)) v2532.toNatClampNeg ((updF (updF (updF (updF (updF (fun _ => 0) v1.toNatClampNeg ((fun _ => 0) v1.toNatClampNeg + 1)) v1.toNatClampNeg ((updF (fun _ => 0) v1.toNatClampNeg ((fun _ => 0) v1.toNatClampNeg + 1)) v1.toNatClampNeg + 1)) v1.toNatClampNeg ((updF (updF (fun _ => 0) v1.toNatClampNeg ((fun _ => 0) v1.toNatClampNeg + 1)) v1.toNatClampNeg ((updF (fun _ => 0) v1.toNatClampNeg ((fun _ => 0) v1.toNatClampNeg + 1)) v1.toNatClampNeg + 1)) v1.toNatClampNeg + 1)) v2532.toNatClampNeg ((updF (updF (updF (fun _ => 0) v1.toNatClampNeg ((fun _ => 0) v1.toNatClampNeg + 1)) v1.toNatClampNeg ((updF (fun _ => 0) v1.toNatClampNeg ((fun _ => 0) v1.toNatClampNeg + 1)) v1.toNatClampNeg + 1)) v1.toNatClampNeg ((updF (updF (fun _ => 0) v1.toNatClampNeg ((fun _ => 0) v1.toNatClampNeg + 1)) v1.toNatClampNeg ((updF (fun _ => 0) v1.toNatClampNeg ((fun _ => 0) v1.toNatClampNeg + 1)) v1.toNatClampNeg + 1)) v1.toNatClampNeg + 1)) v2532.toNatClampNeg + 1)) v2532.toNatClampNeg ((updF (updF (updF (updF (fun _ => 0) v1.toNatClampNeg ((fun _ => 0) v1.toNatClampNeg + 1)) v1.toNatClampNeg ((updF (fun _ => 0) v1.toNatClampNeg ((fun _ => 0) v1.toNatClampNeg + 1)) v1.toNatClampNeg + 1)) v1.toNatClampNeg ((updF (updF (fun _ => 0) v1.toNatClampNeg ((fun _ => 0) v1.toNatClampNeg + 1)) v1.toNatClampNeg ((updF (fun _ => 0) v1.toNatClampNeg ((fun _ => 0) v1.toNatClampNeg + 1)) v1.toNatClampNeg + 1)) v1.toNatClampNeg + 1)) v2532.toNatClampNeg ((updF (updF (updF (fun _ => 0) v1.toNatClampNeg ((fun _ => 0) v1.toNatClampNeg + 1)) v1.toNatClampNeg ((updF (fun _ => 0) v1.toNatClampNeg ((fun _ => 0) v1.toNatClampNeg + 1)) v1.toNatClampNeg + 1)) v1.toNatClampNeg ((updF (updF (fun _ => 0) v1.toNatClampNeg ((fun _ => 0) v1.toNatClampNeg + 1)) v1.toNatClampNeg ((updF (fun _ => 0) v1.toNatClampNeg ((fun _ => 0) v1.toNatClampNeg + 1)) v1.toNatClampNeg + 1)) v1.toNatClampNeg + 1)) v2532.toNatClampNeg + 1)) v2532.toNatClampNeg + 1)) v2532.toNatClampNeg + 1)) T3313.heap n0 Z3328 F3316 F3317 F3318 F3319 F3320 lt3327 hp3368 hI3324 HZ3325) (by decide) (by decide) e3366 (by rw [hml]; rfl) (argsL := [(.int v3170)]) (rest := []) (lenOf pd_1 rfl) rfl (W := 0) (Nat.le_refl _) rfl (hb hby at_160) (by decide) (by decide) (pc' := 163) rfl (fun T3401 L3401 r3401 X3401 q3401 => ?_)
   obtain ⟨N3401, e3401, v3402, rfl, hS3403⟩ := q3401
   have N3401' := Fr.app N3366' N3401
   show KEnds p e below s _ _ _ T3401 (mkF m 163 #[iv i0, iv i1, iv i2, iv i3, iv v1, iv (3 : Int32), iv v2532, iv (3 : Int32), iv v3169, iv v3170, rv b3171, iv (1 : Int32), .unset, .unset] [(.int v3402)])
   refine k_iload X3401 hx (hb hby at_163) rfl (pc' := 165) rfl ?_
   refine k_iload X3401 hx (hb hby at_165) rfl (pc' := 167) rfl ?_
   refine k_iload X3401 hx (hb hby at_167) rfl (pc' := 169) rfl ?_
   refine k_iload X3401 hx (hb hby at_169) rfl (pc' := 171) rfl ?_
   refine k_iload X3401 hx (hb hby at_171) rfl (pc' := 173) rfl ?_
   refine k_callS X3401 hx hZ hown (hw _ (List.mem_of_getElem? (i := 22) rfl)) (hw _ (List.mem_of_getElem? (i := 23) rfl)) (hw _ (List.mem_of_getElem? (i := 24) rfl)) (hw _ (List.mem_of_getElem? (i := 25) rfl)) (by decide) (rm4_3362 l Z a0 hw [] v3170 v1 v2532 T3313.heap n0 Z3328 ) (by decide) (by decide) e3401 (by rw [hml]; rfl) (argsL := [(.int v3170), (.int v1), (.int (3 : Int32)), (.int v2532), (.int (3 : Int32))]) (rest := [(.int v3402)]) (lenOf pd_2 rfl) rfl (W := 1) (Nat.le_refl _) rfl (hb hby at_173) (by decide) (by decide) (pc' := 176) rfl (fun T3404 L3404 r3404 X3404 q3404 => ?_)
   obtain ⟨N3404, e3404, rfl⟩ := q3404
   have N3404' := Fr.app N3401' N3404
   show KEnds p e below s _ _ _ T3404 (mkF m 176 #[iv i0, iv i1, iv i2, iv i3, iv v1, iv (3 : Int32), iv v2532, iv (3 : Int32), iv v3169, iv v3170, rv b3171, iv (1 : Int32), .unset, .unset] ((.int (f4_3362 v3170 v1 v2532)) :: (.int v3402) :: []))
   obtain ⟨v3405, hv3405⟩ : ∃ z, z = f4_3362 v3170 v1 v2532 := ⟨_, rfl⟩
   rw [← hv3405]
   refine k_icmp_ne X3404 hx (hb hby at_176) (pn := 179) rfl (py := 183) (by decide) (fun hc => absurd (by rw [hS3403, hv3405]; exact own_fin_46 v3170 v1 v2532 hp3368 hT3186 hT3246) hc) (fun _ => ?_)
   refine k_iconst X3404 hx (hb hby at_179) (pc' := 180) rfl (z := (1 : Int32)) rfl ?_
   refine k_goto X3404 hx (hb hby at_180) (pc' := 184) (by decide) ?_
   refine k_istore X3404 hx (hb hby at_184) (Ls' := #[iv i0, iv i1, iv i2, iv i3, iv v1, iv (3 : Int32), iv v2532, iv (3 : Int32), iv v3169, iv v3170, rv b3171, iv (1 : Int32), iv (1 : Int32), .unset]) rfl (pc' := 186) rfl ?_
   refine k_aload X3404 hx (hb hby at_186) rfl rfl (pc' := 188) rfl ?_
   refine k_iload X3404 hx (hb hby at_188) rfl (pc' := 190) rfl ?_
   refine k_callV X3404 hx hZ hown (a := b3171) (hw _ (List.mem_of_getElem? (i := 15) rfl)) (hw _ (List.mem_of_getElem? (i := 16) rfl)) (hw _ (List.mem_of_getElem? (i := 18) rfl)) (hw _ (List.mem_of_getElem? (i := 17) rfl)) (hw _ (List.mem_of_getElem? (i := 3) rfl)) (hw _ (List.mem_of_getElem? (i := 19) rfl)) (by decide) F3316 (rm3_631 l Z a0 hw [] b3171 v1 b3313 v3315 k3313 v3314 (updF (updF (updF (updF (updF (updF (fun _ => 0) v1.toNatClampNeg ((fun _ => 0) v1.toNatClampNeg + 1)) v1.toNatClampNeg ((updF (fun _ => 0) v1.toNatClampNeg ((fun _ => 0) v1.toNatClampNeg + 1)) v1.toNatClampNeg + 1)) v1.toNatClampNeg ((updF (updF (fun _ => 0) v1.toNatClampNeg ((fun _ => 0) v1.toNatClampNeg + 1)) v1.toNatClampNeg ((updF (fun _ => 0) v1.toNatClampNeg ((fun _ => 0) v1.toNatClampNeg + 1)) v1.toNatClampNeg + 1)) v1.toNatClampNeg + 1)) v2532.toNatClampNeg ((updF (updF (updF (fun _ => 0) v1.toNatClampNeg ((fun _ => 0) v1.toNatClampNeg + 1)) v1.toNatClampNeg ((updF (fun _ => 0) v1.toNatClampNeg ((fun _ => 0) v1.toNatClampNeg + 1)) v1.toNatClampNeg + 1)) v1.toNatClampNeg ((updF (updF (fun _ => 0) v1.toNatClampNeg ((fun _ => 0) v1.toNatClampNeg + 1)) v1.toNatClampNeg ((updF (fun _ => 0) v1.toNatClampNeg ((fun _ => 0) v1.toNatClampNeg + 1)) v1.toNatClampNeg + 1)) v1.toNatClampNeg + 1)) v2532.toNatClampNeg + 1)) v2532.toNatClampNeg ((updF (updF (updF (updF (fun _ => 0) v1.toNatClampNeg ((fun _ => 0) v1.toNatClampNeg + 1)) v1.toNatClampNeg ((updF (fun _ => 0) v1.toNatClampNeg ((fun _ => 0) v1.toNatClampNeg + 1)) v1.toNatClampNeg + 1)) v1.toNatClampNeg ((updF (updF (fun _ => 0) v1.toNatClampNeg ((fun _ => 0) v1.toNatClampNeg + 1)) v1.toNatClampNeg ((updF (fun _ => 0) v1.toNatClampNeg ((fun _ => 0) v1.toNatClampNeg + 1)) v1.toNatClampNeg + 1)) v1.toNatClampNeg + 1)) v2532.toNatClampNeg ((updF (updF (updF (fun _ => 0) v1.toNatClampNeg ((fun _ => 0) v1.toNatClampNeg + 1)) v1.toNatClampNeg ((updF (fun _ => 0) v1.toNatClampNeg ((fun _ => 0) v1.toNatClampNeg + 1)) v1.toNatClampNeg + 1)) v1.toNatClampNeg ((updF (updF (fun _ => 0) v1.toNatClampNeg ((fun _ => 0) v1.toNatClampNeg + 1)) v1.toNatClampNeg ((updF (fun _ => 0) v1.toNatClampNeg ((fun _ => 0) v1.toNatClampNeg + 1)) v1.toNatClampNeg + 1)) v1.toNatClampNeg + 1)) v2532.toNatClampNeg + 1)) v2532.toNatClampNeg + 1)) v2532.toNatClampNeg ((updF (updF (updF (updF (updF (fun _ => 0) v1.toNatClampNeg ((fun _ => 0) v1.toNatClampNeg + 1)) v1.toNatClampNeg ((updF (fun _ => 0) v1.toNatClampNeg ((fun _ => 0) v1.toNatClampNeg + 1)) v1.toNatClampNeg + 1)) v1.toNatClampNeg ((updF (updF (fun _ => 0) v1.toNatClampNeg ((fun _ => 0) v1.toNatClampNeg + 1)) v1.toNatClampNeg ((updF (fun _ => 0) v1.toNatClampNeg ((fun _ => 0) v1.toNatClampNeg + 1)) v1.toNatClampNeg + 1)) v1.toNatClampNeg + 1)) v2532.toNatClampNeg ((updF (updF (updF (fun _ => 0) v1.toNatClampNeg ((fun _ => 0) v1.toNatClampNeg + 1)) v1.toNatClampNeg ((updF (fun _ => 0) v1.toNatClampNeg ((fun _ => 0) v1.toNatClampNeg + 1)) v1.toNatClampNeg + 1)) v1.toNatClampNeg ((updF (updF (fun _ => 0) v1.toNatClampNeg ((fun _ => 0) v1.toNatClampNeg + 1)) v1.toNatClampNeg ((updF (fun _ => 0) v1.toNatClampNeg ((fun _ => 0) v1.toNatClampNeg + 1)) v1.toNatClampNeg + 1)) v1.toNatClampNeg + 1)) v2532.toNatClampNeg + 1)) v2532.toNatClampNeg ((updF (updF (updF (updF (fun _ => 0) v1.toNatClampNeg ((fun _ => 0) v1.toNatClampNeg + 1)) v1.toNatClampNeg ((updF (fun _ => 0) v1.toNatClampNeg ((fun _ => 0) v1.toNatClampNeg + 1)) v1.toNatClampNeg + 1)) v1.toNatClampNeg ((updF (updF (fun _ => 0) v1.toNatClampNeg ((fun _ => 0) v1.toNatClampNeg + 1)) v1.toNatClampNeg ((updF (fun _ => 0) v1.toNatClampNeg ((fun _ => 0) v1.toNatClampNeg + 1)) v1.toNatClampNeg + 1)) v1.toNatClampNeg + 1)) v2532.toNatClampNeg ((updF (updF (updF (fun _ => 0) v1.toNatClampNeg ((fun _ => 0) v1.toNatClampNeg + 1)) v1.toNatClampNeg ((updF (fun _ => 0) v1.toNatClampNeg ((fun _ => 0) v1.toNatClampNeg + 1)) v1.toNatClampNeg + 1)) v1.toNatClampNeg ((updF (updF (fun _ => 0) v1.toNatClampNeg ((fun _ => 0) v1.toNatClampNeg + 1)) v1.toNatClampNeg ((updF (fun _ => 0) v1.toNatClampNeg ((fun _ => 0) v1.toNatClampNeg + 1)) v1.toNatClampNeg + 1)) v1.toNatClampNeg + 1)) v2532.toNatClampNeg + 1)) v2532.toNatClampNeg + 1)) v2532.toNatClampNeg + 1)) T3313.heap n0 Z3328 F3316 F3317 F3318 F3319 F3320 lt3327 hT3186 hI3324 HZ3325) (by decide) (by decide) e3404 (by rw [hml]; rfl) (argsL := [(.int v1)]) (rest := []) (lenOf pd_1 rfl) rfl (W := 0) (Nat.le_refl _) rfl (hb hby at_190) (by decide) (by decide) (pc' := 193) rfl (fun T3406 L3406 r3406 X3406 q3406 => ?_)
   obtain ⟨N3406, e3406, v3407, rfl, hS3408⟩ := q3406
   have N3406' := Fr.app N3404' N3406
   show KEnds p e below s _ _ _ T3406 (mkF m 193 #[iv i0, iv i1, iv i2, iv i3, iv v1, iv (3 : Int32), iv v2532, iv (3 : Int32), iv v3169, iv v3170, rv b3171, iv (1 : Int32), iv (1 : Int32), .unset] [(.int v3407)])
   refine k_iload X3406 hx (hb hby at_193) rfl (pc' := 195) rfl ?_
   refine k_iload X3406 hx (hb hby at_195) rfl (pc' := 197) rfl ?_
   refine k_iload X3406 hx (hb hby at_197) rfl (pc' := 199) rfl ?_
   refine k_iload X3406 hx (hb hby at_199) rfl (pc' := 201) rfl ?_
   refine k_iload X3406 hx (hb hby at_201) rfl (pc' := 203) rfl ?_
   refine k_callS X3406 hx hZ hown (hw _ (List.mem_of_getElem? (i := 22) rfl)) (hw _ (List.mem_of_getElem? (i := 23) rfl)) (hw _ (List.mem_of_getElem? (i := 24) rfl)) (hw _ (List.mem_of_getElem? (i := 25) rfl)) (by decide) (rm4_3409 l Z a0 hw [] v1 v2532 T3313.heap n0 Z3328 ) (by decide) (by decide) e3406 (by rw [hml]; rfl) (argsL := [(.int v1), (.int v1), (.int (3 : Int32)), (.int v2532), (.int (3 : Int32))]) (rest := [(.int v3407)]) (lenOf pd_2 rfl) rfl (W := 1) (Nat.le_refl _) rfl (hb hby at_203) (by decide) (by decide) (pc' := 206) rfl (fun T3411 L3411 r3411 X3411 q3411 => ?_)
   obtain ⟨N3411, e3411, rfl⟩ := q3411
   have N3411' := Fr.app N3406' N3411
   show KEnds p e below s _ _ _ T3411 (mkF m 206 #[iv i0, iv i1, iv i2, iv i3, iv v1, iv (3 : Int32), iv v2532, iv (3 : Int32), iv v3169, iv v3170, rv b3171, iv (1 : Int32), iv (1 : Int32), .unset] ((.int (f4_3409 v1 v2532)) :: (.int v3407) :: []))
   obtain ⟨v3412, hv3412⟩ : ∃ z, z = f4_3409 v1 v2532 := ⟨_, rfl⟩
   rw [← hv3412]
   refine k_icmp_ne X3411 hx (hb hby at_206) (pn := 209) rfl (py := 213) (by decide) (fun hc => absurd (by rw [hS3408, hv3412]; exact own_fin_47 v1 v2532 hT3186 hT3186 hT3246) hc) (fun _ => ?_)
   refine k_iconst X3411 hx (hb hby at_209) (pc' := 210) rfl (z := (1 : Int32)) rfl ?_
   refine k_goto X3411 hx (hb hby at_210) (pc' := 214) (by decide) ?_
   refine k_istore X3411 hx (hb hby at_214) (Ls' := #[iv i0, iv i1, iv i2, iv i3, iv v1, iv (3 : Int32), iv v2532, iv (3 : Int32), iv v3169, iv v3170, rv b3171, iv (1 : Int32), iv (1 : Int32), iv (1 : Int32)]) rfl (pc' := 216) rfl ?_
   refine k_iload X3411 hx (hb hby at_216) rfl (pc' := 218) rfl ?_
   refine k_if_eq X3411 hx (hb hby at_218) (pn := 221) rfl (py := 235) (by decide) (fun hc => absurd hc (by decide)) (fun _ => ?_)
   refine k_iload X3411 hx (hb hby at_221) rfl (pc' := 223) rfl ?_
   refine k_if_eq X3411 hx (hb hby at_223) (pn := 226) rfl (py := 235) (by decide) (fun hc => absurd hc (by decide)) (fun _ => ?_)
   refine k_iload X3411 hx (hb hby at_226) rfl (pc' := 228) rfl ?_
   refine k_if_eq X3411 hx (hb hby at_228) (pn := 231) rfl (py := 235) (by decide) (fun hc => absurd hc (by decide)) (fun _ => ?_)
   refine k_iconst X3411 hx (hb hby at_231) (pc' := 232) rfl (z := (1 : Int32)) rfl ?_
   refine k_goto X3411 hx (hb hby at_232) (pc' := 236) (by decide) ?_
   exact k_retN X3411 hx (t := .boolean) Bd.returns (by simp) (hb hby at_236) hlk (by decide) (by decide) (z' := (1 : Int32)) rfl ⟨rfl, N3411'⟩
set_option maxRecDepth 65536 in
set_option maxHeartbeats 40000000 in
theorem comes_1 {Post : Tables → Env → Array Value → State → Outcome → State → Prop} (hpost : ∀ tb e args s v u, (limb_1_1.after args s (.returned v) u = true ∧ limb_1_2.after args s (.returned v) u = true ∧ True) → FrameEnd s (.returned v) u (Jvm.fieldLocs frame_1_writes args s ++ Jvm.arrayLocs frame_1_arrays args s ++ Jvm.staticLocs frame_1_statics s) 16 192 → Post tb e args s (.returned v) u) :
    ArmFor flags0 classFile x code maxLocals ret World_1 tables_1 room_1 Calls_1 rest_1 Pre_1 Post := by
  intro l hfl _ _ p e ha hc hk s m args below hf hA hF happ hP
  obtain ⟨hcalls, hrest, hpre⟩ := hP
  obtain ⟨-, -, -, hnamed, -, -, -, hat⟩ := (Spec.applies_iff hf).mp happ
  obtain ⟨hg, hn⟩ := and_e (Cond.before_iff.mp (show (Jvm.Cond.and given_1 narrow_1).before args s = true from hpre))
  obtain ⟨g3413, g3414⟩ := and_e hg
  obtain ⟨g3415, g3416⟩ := and_e g3414
  obtain ⟨g3417, g3418⟩ := and_e g3416
  obtain ⟨g3419, g3420⟩ := and_e g3418
  obtain ⟨w0, w1, w2, w3, rfl⟩ : ∃ w0 w1 w2 w3 : Value, args = #[w0, w1, w2, w3] := by
    have hs : args.size = 4 := by simpa [Cond.value, given_1] using g3413
    obtain ⟨L⟩ := args
    match L, hs with
    | [w0, w1, w2, w3], _ => exact ⟨w0, w1, w2, w3, rfl⟩
  have hw := fun d (hd : d ∈ tables_1) => atoms_spec (ws := Jvm.Cond.code x code maxLocals ret :: tables_1) hat d (List.mem_cons_of_mem _ hd)
  obtain ⟨i0, ei0⟩ := is_v g3415
  obtain rfl : w0 = (.int i0) := Option.some.inj ei0
  obtain ⟨i1, ei1⟩ := is_v g3417
  obtain rfl : w1 = (.int i1) := Option.some.inj ei1
  obtain ⟨i2, ei2⟩ := is_v g3419
  obtain rfl : w2 = (.int i2) := Option.some.inj ei2
  obtain ⟨i3, ei3⟩ := is_v g3420
  obtain rfl : w3 = (.int i3) := Option.some.inj ei3
  obtain ⟨n, o, h1, h2, h3, _, L, rfl, ⟨rfl, N⟩, hq⟩ := rm0 l s _ hw tables_1 i0 i1 i2 i3 s.heap s.heap.size (Nat.le_refl _) p e ha hc hk s m _ below hf ((Spec.applies_iff_loose hf).mp happ).1 ⟨rfl, State.Warmed39.refl s, rfl⟩ trivial
  refine ⟨n, _, h1, h2, h3, hpost _ _ _ _ _ _ ⟨Cond.after_iff.mpr rfl, Cond.after_iff.mpr (eq_i res_at (Term.int_eval (1)) rfl), trivial⟩ ⟨hq.1, hq.2.1, (hq.2.2.sift fun y hy => Or.inr (N y hy)).mono (by decide) (by decide)⟩⟩
theorem main_1_1 : Claimed_1_1 := comes_1 fun _ _ _ _ _ _ h hF => ⟨h.1, hF⟩
theorem main_1_2 : Claimed_1_2 := comes_1 fun _ _ _ _ _ _ h hF => ⟨h.2.1, hF⟩
end Jvm.Pilot.@@N@@
namespace Jvm.Pilot.@@N@@
open Jvm Jvm.ClassFile Sem Op Lib Jvm.Free Jvm.Stand Jvm.Pilot.@@N@@.Jvm.D
/-! MADE BY PROGRAM (witnessworld.py) out of the Statement's table words and the real class files: 13 classes; the members and pool entries that the words name. The judged class is class 1, her method 1. -/
namespace start1
open Jvm.ClassFile
def u (s : String) : CpInfo := .utf8 (stringToUtf16 s)
/-- a pool by its gaps: so many unusable entries, then the entry; so many at the end -/
def gap : Nat → List CpInfo → List CpInfo
  | 0, r => r
  | n + 1, r => .unusable :: gap n r
def poolList (es : List (Nat × CpInfo)) (last : Nat) : List CpInfo := es.foldr (fun e r => gap e.1 (e.2 :: r)) (gap last [])
def pool (es : List (Nat × CpInfo)) (last : Nat) : Array CpInfo := ⟨poolList es last⟩
def fileOf (pool : Array CpInfo) (this : Nat) (attrs : Array Attribute := #[]) (ms : Array MethodInfo := #[]) (fl : Nat := 33) (sup : Nat := 0) (ifs : Array Nat := #[]) (fds : Array FieldInfo := #[]) : ClassFile where
  minorVersion := 0
  majorVersion := 65
  constantPool := pool
  accessFlags := fl
  thisClass := this
  superClass := sup
  interfaces := ifs
  fields := fds
  methods := ms
  attributes := attrs
def plain (name : String) (sup : Option ClassId) : Class where
  name := name
  kind := .ordinary
  loader := none
  accessFlags := 33
  super := sup
  interfaces := #[]
  cf := none
  fields := #[]
  methods := #[]
  instanceTypes := #[]
  staticTypes := #[]
  resolved := #[]
  callSites := []
  init := .initialized
  statics := none
  mirror := none

def pool0 : Array CpInfo := pool [(5, u "<init>"), (0, u "()V"), (1, .class_ 10), (1, u "java/lang/Object")] 113

def k0c0 : Code := { maxStack := 0, maxLocals := 1, code := object_method_1_code, exceptionTable := #[], attributes := #[] }
def k0m0 : Method := { name := "<init>", desc := "()V", sig := { parameters := [], returnType := none }, accessFlags := 1, code := some k0c0 }
/-- java/lang/Object -/
def k0 : Class := { plain "java/lang/Object" none with
  accessFlags := 33
  interfaces := #[]
  cf := some (fileOf pool0 8 #[] #[{ accessFlags := 1, nameIndex := 5, descriptorIndex := 6, attributes := #[] }] 33 0 #[] #[])
  fields := #[]
  methods := #[k0m0]
  instanceTypes := #[]
  staticTypes := #[]
  resolved := Array.replicate 124 none
  statics := none }

def pool1 : Array CpInfo := pool [(2, .class_ 4), (1, u "java/lang/Object"), (0, u "<init>"), (0, u "()V"), (0, .integer 2147483647), (0, .class_ 9), (0, u "com/example/dendrotick/dendrotick/VectorClock"), (0, .methodref 8 11), (0, .nameAndType 5 12), (0, u "(Lcom/example/dendrotick/dendrotick/ClockWork;)V"), (0, .methodref 8 14), (0, .nameAndType 15 16), (0, u "increment"), (0, u "(I)V"), (0, .methodref 8 18), (0, .nameAndType 19 20), (0, u "get"), (0, u "(I)I"), (0, .methodref 22 23), (0, .class_ 24), (0, .nameAndType 25 26), (0, u "com/example/dendrotick/dendrotick/VectorClockGetPinLaw"), (0, u "expected"), (0, u "(IIIII)I"), (2, u "law"), (0, u "(IIII)Z")] 3

def k1m0 : Method := { name := "<init>", desc := "()V", sig := { parameters := [], returnType := none }, accessFlags := 1, code := none }
def k1c1 : Code := { maxStack := 6, maxLocals := 14, code := code, exceptionTable := #[], attributes := #[] }
def k1m1 : Method := { name := "law", desc := "(IIII)Z", sig := { parameters := [.int, .int, .int, .int], returnType := some .boolean }, accessFlags := 9, code := some k1c1 }
def k1c2 : Code := { maxStack := 2, maxLocals := 6, code := method_3_code, exceptionTable := #[], attributes := #[] }
def k1m2 : Method := { name := "expected", desc := "(IIIII)I", sig := { parameters := [.int, .int, .int, .int, .int], returnType := some .int }, accessFlags := 10, code := some k1c2 }
/-- com/example/dendrotick/dendrotick/VectorClockGetPinLaw -/
def k1 : Class := { plain "com/example/dendrotick/dendrotick/VectorClockGetPinLaw" (some 0) with
  accessFlags := 49
  interfaces := #[]
  cf := some (fileOf pool1 22 #[] #[{ accessFlags := 1, nameIndex := 5, descriptorIndex := 6, attributes := #[] }, { accessFlags := 9, nameIndex := 29, descriptorIndex := 30, attributes := #[] }, { accessFlags := 10, nameIndex := 25, descriptorIndex := 26, attributes := #[] }] 49 2 #[] #[])
  fields := #[]
  methods := #[k1m0, k1m1, k1m2]
  instanceTypes := #[]
  staticTypes := #[]
  resolved := Array.replicate 34 none
  statics := none }

def pool2 : Array CpInfo := pool [(1, .class_ 2), (0, u "com/example/dendrotick/dendrotick/Clock"), (0, .class_ 4), (0, u "java/lang/Object")] 9

/-- com/example/dendrotick/dendrotick/Clock -/
def k2 : Class := { plain "com/example/dendrotick/dendrotick/Clock" (some 0) with
  accessFlags := 1537
  interfaces := #[]
  cf := some (fileOf pool2 1 #[] #[] 1537 3 #[] #[])
  fields := #[]
  methods := #[]
  instanceTypes := #[]
  staticTypes := #[]
  resolved := Array.replicate 14 none
  statics := none }

def pool3 : Array CpInfo := pool [(1, .methodref 2 3), (0, .class_ 4), (0, .nameAndType 5 6), (0, u "java/lang/Object"), (0, u "<init>"), (0, u "()V"), (0, .fieldref 8 9), (0, .class_ 10), (0, .nameAndType 11 12), (0, u "com/example/dendrotick/dendrotick/VectorClock"), (0, u "entries"), (0, u "[I"), (0, .fieldref 8 14), (0, .nameAndType 15 16), (0, u "work"), (0, u "Lcom/example/dendrotick/dendrotick/ClockWork;"), (0, .fieldref 8 18), (0, .nameAndType 19 20), (0, u "size"), (0, u "I"), (0, .methodref 8 22), (0, .nameAndType 23 24), (0, u "growTo"), (0, u "(I)V"), (8, .methodref 34 35), (0, .class_ 36), (0, .nameAndType 37 38), (0, u "java/lang/Math"), (0, u "max"), (0, u "(II)I"), (2, u "get"), (0, u "(I)I"), (7, .class_ 52), (1, u "java/util/Arrays"), (2, .methodref 50 56), (0, .nameAndType 57 58), (0, u "copyOf"), (0, u "([II)[I"), (0, .class_ 60), (0, u "com/example/dendrotick/dendrotick/Clock"), (0, u "(Lcom/example/dendrotick/dendrotick/ClockWork;)V"), (3, u "increment")] 5

def k3c0 : Code := { maxStack := 2, maxLocals := 2, code := prog_36_method_1_code, exceptionTable := #[], attributes := #[] }
def k3m0 : Method := { name := "<init>", desc := "(Lcom/example/dendrotick/dendrotick/ClockWork;)V", sig := { parameters := [(.object "com/example/dendrotick/dendrotick/ClockWork")], returnType := none }, accessFlags := 1, code := some k3c0 }
def k3c1 : Code := { maxStack := 2, maxLocals := 2, code := prog_36_method_2_code, exceptionTable := #[], attributes := #[] }
def k3m1 : Method := { name := "get", desc := "(I)I", sig := { parameters := [.int], returnType := some .int }, accessFlags := 1, code := some k3c1 }
def k3c2 : Code := { maxStack := 4, maxLocals := 2, code := prog_36_method_3_code, exceptionTable := #[], attributes := #[] }
def k3m2 : Method := { name := "increment", desc := "(I)V", sig := { parameters := [.int], returnType := none }, accessFlags := 1, code := some k3c2 }
def k3c3 : Code := { maxStack := 5, maxLocals := 2, code := prog_36_method_6_code, exceptionTable := #[], attributes := #[] }
def k3m3 : Method := { name := "growTo", desc := "(I)V", sig := { parameters := [.int], returnType := none }, accessFlags := 2, code := some k3c3 }
/-- com/example/dendrotick/dendrotick/VectorClock -/
def k3 : Class := { plain "com/example/dendrotick/dendrotick/VectorClock" (some 0) with
  accessFlags := 49
  interfaces := #[2]
  cf := some (fileOf pool3 8 #[] #[{ accessFlags := 1, nameIndex := 5, descriptorIndex := 61, attributes := #[] }, { accessFlags := 1, nameIndex := 41, descriptorIndex := 42, attributes := #[] }, { accessFlags := 1, nameIndex := 65, descriptorIndex := 24, attributes := #[] }, { accessFlags := 2, nameIndex := 23, descriptorIndex := 24, attributes := #[] }] 49 2 #[59] #[{ accessFlags := 18, nameIndex := 15, descriptorIndex := 16, attributes := #[] }, { accessFlags := 2, nameIndex := 11, descriptorIndex := 12, attributes := #[] }, { accessFlags := 2, nameIndex := 19, descriptorIndex := 20, attributes := #[] }])
  fields := #[{ name := "work", type := (.object "com/example/dendrotick/dendrotick/ClockWork"), accessFlags := 18, slot := 0, constantValue := 0 }, { name := "entries", type := (.array .int), accessFlags := 2, slot := 1, constantValue := 0 }, { name := "size", type := .int, accessFlags := 2, slot := 2, constantValue := 0 }]
  methods := #[k3m0, k3m1, k3m2, k3m3]
  instanceTypes := #[(.object "com/example/dendrotick/dendrotick/ClockWork"), (.array .int), .int]
  staticTypes := #[]
  resolved := Array.replicate 71 none
  statics := none }

def pool4 : Array CpInfo := pool [(1, .class_ 2), (0, u "java/lang/Math"), (1, .class_ 6), (1, u "java/lang/Object"), (0, u "<init>"), (0, u "()V"), (89, .class_ 100), (1, u "java/lang/Math$RandomNumberGeneratorHolder"), (71, u "negativeZeroFloatBits"), (0, u "J"), (2, u "negativeZeroDoubleBits"), (21, u "max"), (2, u "min"), (43, u "$assertionsDisabled"), (0, u "Z"), (88, u "(II)I"), (2, u "twoToTheDoubleScaleDown"), (0, u "D"), (4, u "twoToTheDoubleScaleUp"), (9, u "E"), (3, u "PI"), (2, u "TAU"), (2, u "DEGREES_TO_RADIANS"), (0, u "RADIANS_TO_DEGREES")] 94

def k4m0 : Method := { name := "<init>", desc := "()V", sig := { parameters := [], returnType := none }, accessFlags := 2, code := none }
def k4c1 : Code := { maxStack := 2, maxLocals := 2, code := jdk_29_method_65_code, exceptionTable := #[], attributes := #[] }
def k4m1 : Method := { name := "max", desc := "(II)I", sig := { parameters := [.int, .int], returnType := some .int }, accessFlags := 9, code := some k4c1 }
def k4c2 : Code := { maxStack := 2, maxLocals := 2, code := jdk_29_method_69_code, exceptionTable := #[], attributes := #[] }
def k4m2 : Method := { name := "min", desc := "(II)I", sig := { parameters := [.int, .int], returnType := some .int }, accessFlags := 9, code := some k4c2 }
/-- java/lang/Math -/
def k4 : Class := { plain "java/lang/Math" (some 0) with
  accessFlags := 49
  interfaces := #[]
  cf := some (fileOf pool4 1 #[.nestMembers #[98]] #[{ accessFlags := 2, nameIndex := 7, descriptorIndex := 8, attributes := #[] }, { accessFlags := 9, nameIndex := 198, descriptorIndex := 335, attributes := #[] }, { accessFlags := 9, nameIndex := 201, descriptorIndex := 335, attributes := #[] }] 49 4 #[] #[{ accessFlags := 25, nameIndex := 354, descriptorIndex := 339, attributes := #[] }, { accessFlags := 25, nameIndex := 358, descriptorIndex := 339, attributes := #[] }, { accessFlags := 25, nameIndex := 361, descriptorIndex := 339, attributes := #[] }, { accessFlags := 26, nameIndex := 364, descriptorIndex := 339, attributes := #[] }, { accessFlags := 26, nameIndex := 365, descriptorIndex := 339, attributes := #[] }, { accessFlags := 26, nameIndex := 172, descriptorIndex := 173, attributes := #[] }, { accessFlags := 26, nameIndex := 176, descriptorIndex := 173, attributes := #[] }, { accessFlags := 8, nameIndex := 344, descriptorIndex := 339, attributes := #[] }, { accessFlags := 8, nameIndex := 338, descriptorIndex := 339, attributes := #[] }, { accessFlags := 4120, nameIndex := 245, descriptorIndex := 246, attributes := #[] }])
  fields := #[{ name := "E", type := .double, accessFlags := 25, slot := 0, constantValue := 0 }, { name := "PI", type := .double, accessFlags := 25, slot := 1, constantValue := 0 }, { name := "TAU", type := .double, accessFlags := 25, slot := 2, constantValue := 0 }, { name := "DEGREES_TO_RADIANS", type := .double, accessFlags := 26, slot := 3, constantValue := 0 }, { name := "RADIANS_TO_DEGREES", type := .double, accessFlags := 26, slot := 4, constantValue := 0 }, { name := "negativeZeroFloatBits", type := .long, accessFlags := 26, slot := 5, constantValue := 0 }, { name := "negativeZeroDoubleBits", type := .long, accessFlags := 26, slot := 6, constantValue := 0 }, { name := "twoToTheDoubleScaleUp", type := .double, accessFlags := 8, slot := 7, constantValue := 0 }, { name := "twoToTheDoubleScaleDown", type := .double, accessFlags := 8, slot := 8, constantValue := 0 }, { name := "$assertionsDisabled", type := .boolean, accessFlags := 4120, slot := 9, constantValue := 0 }]
  methods := #[k4m0, k4m1, k4m2]
  instanceTypes := #[]
  staticTypes := #[.double, .double, .double, .double, .double, .long, .long, .double, .double, .boolean]
  resolved := Array.replicate 460 none
  statics := none }

def pool5 : Array CpInfo := pool [(2, .class_ 4), (1, u "java/lang/Object"), (0, u "<init>"), (0, u "()V"), (7, .class_ 16), (1, u "java/util/Arrays"), (57, .class_ 76), (1, u "java/util/Arrays$NaturalOrder"), (36, .class_ 115), (1, u "java/util/Arrays$LegacyMergeSort"), (1, u "Z"), (32, .methodref 151 152), (0, .class_ 153), (0, .nameAndType 154 155), (0, u "java/lang/System"), (0, u "arraycopy"), (0, u "(Ljava/lang/Object;ILjava/lang/Object;II)V"), (146, u "copyOf"), (1, .methodref 305 306), (0, .class_ 307), (0, .nameAndType 308 309), (0, u "java/lang/Math"), (0, u "min"), (0, u "(II)I"), (65, .class_ 376), (0, u "java/util/Arrays$ArrayList"), (68, u "$assertionsDisabled"), (269, u "MIN_ARRAY_SORT_GRAN"), (0, u "I"), (2, u "INSERTIONSORT_THRESHOLD"), (151, u "([II)[I"), (103, .class_ 976), (0, u "java/util/Arrays$ArrayItr")] 52

def k5m0 : Method := { name := "<init>", desc := "()V", sig := { parameters := [], returnType := none }, accessFlags := 2, code := none }
def k5c1 : Code := { maxStack := 6, maxLocals := 3, code := jdk_65_method_123_code, exceptionTable := #[], attributes := #[] }
def k5m1 : Method := { name := "copyOf", desc := "([II)[I", sig := { parameters := [(.array .int), .int], returnType := some (.array .int) }, accessFlags := 9, code := some k5c1 }
/-- java/util/Arrays -/
def k5 : Class := { plain "java/util/Arrays" (some 0) with
  accessFlags := 49
  interfaces := #[]
  cf := some (fileOf pool5 14 #[.nestMembers #[975, 375, 113, 74]] #[{ accessFlags := 2, nameIndex := 5, descriptorIndex := 6, attributes := #[] }, { accessFlags := 9, nameIndex := 302, descriptorIndex := 871, attributes := #[] }] 49 2 #[] #[{ accessFlags := 26, nameIndex := 715, descriptorIndex := 716, attributes := #[] }, { accessFlags := 26, nameIndex := 719, descriptorIndex := 716, attributes := #[] }, { accessFlags := 4120, nameIndex := 445, descriptorIndex := 117, attributes := #[] }])
  fields := #[{ name := "MIN_ARRAY_SORT_GRAN", type := .int, accessFlags := 26, slot := 0, constantValue := 0 }, { name := "INSERTIONSORT_THRESHOLD", type := .int, accessFlags := 26, slot := 1, constantValue := 0 }, { name := "$assertionsDisabled", type := .boolean, accessFlags := 4120, slot := 2, constantValue := 0 }]
  methods := #[k5m0, k5m1]
  instanceTypes := #[]
  staticTypes := #[.int, .int, .boolean]
  resolved := Array.replicate 1029 none
  statics := none }

def pool6 : Array CpInfo := pool [(2, .class_ 4), (1, u "java/lang/Object"), (0, u "<init>"), (0, u "()V"), (1, .class_ 10), (1, u "java/lang/System"), (0, u "allowSecurityManager"), (0, u "I"), (16, u "cons"), (0, u "Ljava/io/Console;"), (77, .class_ 110), (1, u "java/lang/System$CallersHolder"), (43, u "initialErrStream"), (0, u "Ljava/io/PrintStream;"), (19, u "security"), (0, u "Ljava/lang/SecurityManager;"), (31, .class_ 209), (0, u "java/lang/System$1"), (7, u "props"), (0, u "Ljava/util/Properties;"), (2, u "lineSeparator"), (0, u "Ljava/lang/String;"), (96, .class_ 321), (1, u "java/lang/System$LoggerFinder"), (5, .class_ 328), (0, u "java/lang/System$Logger"), (67, u "err"), (2, u "out"), (91, u "notSupportedJnuEncoding"), (15, u "in"), (17, u "initialIn"), (0, u "Ljava/io/InputStream;"), (35, u "bootLayer"), (0, u "Ljava/lang/ModuleLayer;"), (99, .class_ 664), (0, u "java/lang/System$2"), (9, u "NEVER"), (2, u "MAYBE"), (49, u "arraycopy"), (0, u "(Ljava/lang/Object;ILjava/lang/Object;II)V"), (72, .class_ 802), (0, u "java/lang/System$Logger$Level")] 31

def k6m0 : Method := { name := "<init>", desc := "()V", sig := { parameters := [], returnType := none }, accessFlags := 2, code := none }
def k6m1 : Method := { name := "arraycopy", desc := "(Ljava/lang/Object;ILjava/lang/Object;II)V", sig := { parameters := [(.object "java/lang/Object"), .int, (.object "java/lang/Object"), .int, .int], returnType := none }, accessFlags := 265, code := none }
/-- java/lang/System -/
def k6 : Class := { plain "java/lang/System" (some 0) with
  accessFlags := 49
  interfaces := #[]
  cf := some (fileOf pool6 8 #[.nestMembers #[319, 327, 801, 108, 663, 208]] #[{ accessFlags := 2, nameIndex := 5, descriptorIndex := 6, attributes := #[] }, { accessFlags := 265, nameIndex := 727, descriptorIndex := 728, attributes := #[] }] 49 2 #[] #[{ accessFlags := 25, nameIndex := 507, descriptorIndex := 526, attributes := #[] }, { accessFlags := 25, nameIndex := 399, descriptorIndex := 155, attributes := #[] }, { accessFlags := 25, nameIndex := 396, descriptorIndex := 155, attributes := #[] }, { accessFlags := 10, nameIndex := 525, descriptorIndex := 526, attributes := #[] }, { accessFlags := 26, nameIndex := 674, descriptorIndex := 12, attributes := #[] }, { accessFlags := 26, nameIndex := 677, descriptorIndex := 12, attributes := #[] }, { accessFlags := 10, nameIndex := 11, descriptorIndex := 12, attributes := #[] }, { accessFlags := 74, nameIndex := 175, descriptorIndex := 176, attributes := #[] }, { accessFlags := 10, nameIndex := 491, descriptorIndex := 222, attributes := #[] }, { accessFlags := 74, nameIndex := 29, descriptorIndex := 30, attributes := #[] }, { accessFlags := 74, nameIndex := 154, descriptorIndex := 155, attributes := #[] }, { accessFlags := 10, nameIndex := 217, descriptorIndex := 218, attributes := #[] }, { accessFlags := 10, nameIndex := 221, descriptorIndex := 222, attributes := #[] }, { accessFlags := 8, nameIndex := 562, descriptorIndex := 563, attributes := #[] }])
  fields := #[{ name := "in", type := (.object "java/io/InputStream"), accessFlags := 25, slot := 0, constantValue := 0 }, { name := "out", type := (.object "java/io/PrintStream"), accessFlags := 25, slot := 1, constantValue := 0 }, { name := "err", type := (.object "java/io/PrintStream"), accessFlags := 25, slot := 2, constantValue := 0 }, { name := "initialIn", type := (.object "java/io/InputStream"), accessFlags := 10, slot := 3, constantValue := 0 }, { name := "NEVER", type := .int, accessFlags := 26, slot := 4, constantValue := 0 }, { name := "MAYBE", type := .int, accessFlags := 26, slot := 5, constantValue := 0 }, { name := "allowSecurityManager", type := .int, accessFlags := 10, slot := 6, constantValue := 0 }, { name := "security", type := (.object "java/lang/SecurityManager"), accessFlags := 74, slot := 7, constantValue := 0 }, { name := "notSupportedJnuEncoding", type := (.object "java/lang/String"), accessFlags := 10, slot := 8, constantValue := 0 }, { name := "cons", type := (.object "java/io/Console"), accessFlags := 74, slot := 9, constantValue := 0 }, { name := "initialErrStream", type := (.object "java/io/PrintStream"), accessFlags := 74, slot := 10, constantValue := 0 }, { name := "props", type := (.object "java/util/Properties"), accessFlags := 10, slot := 11, constantValue := 0 }, { name := "lineSeparator", type := (.object "java/lang/String"), accessFlags := 10, slot := 12, constantValue := 0 }, { name := "bootLayer", type := (.object "java/lang/ModuleLayer"), accessFlags := 8, slot := 13, constantValue := 0 }]
  methods := #[k6m0, k6m1]
  instanceTypes := #[]
  staticTypes := #[(.object "java/io/InputStream"), (.object "java/io/PrintStream"), (.object "java/io/PrintStream"), (.object "java/io/InputStream"), .int, .int, .int, (.object "java/lang/SecurityManager"), (.object "java/lang/String"), (.object "java/io/Console"), (.object "java/io/PrintStream"), (.object "java/util/Properties"), (.object "java/lang/String"), (.object "java/lang/ModuleLayer")]
  resolved := Array.replicate 834 none
  statics := none }

def pool7 : Array CpInfo := pool [(1, u "java/lang/Cloneable"), (0, .class_ 1), (0, u "java/lang/Object"), (0, .class_ 3)] 3

/-- java/lang/Cloneable -/
def k7 : Class := { plain "java/lang/Cloneable" (some 0) with
  accessFlags := 1537
  interfaces := #[]
  cf := some (fileOf pool7 2 #[] #[] 1537 4 #[] #[])
  fields := #[]
  methods := #[]
  instanceTypes := #[]
  staticTypes := #[]
  resolved := Array.replicate 8 none
  statics := none }

def pool8 : Array CpInfo := pool [(1, u "java/io/Serializable"), (0, .class_ 1), (0, u "java/lang/Object"), (0, .class_ 3)] 3

/-- java/io/Serializable -/
def k8 : Class := { plain "java/io/Serializable" (some 0) with
  accessFlags := 1537
  interfaces := #[]
  cf := some (fileOf pool8 2 #[] #[] 1537 4 #[] #[])
  fields := #[]
  methods := #[]
  instanceTypes := #[]
  staticTypes := #[]
  resolved := Array.replicate 8 none
  statics := none }

/-- the primitive byte -/
def k9 : Class := { plain "byte" none with kind := .primitive 'B', accessFlags := 0x411 }
/-- [B -/
def k10 : Class := { plain "[B" (some 0) with kind := .array 9 .byte, interfaces := #[7, 8], accessFlags := 1041 }

/-- the primitive int -/
def k11 : Class := { plain "int" none with kind := .primitive 'I', accessFlags := 0x411 }
/-- [I -/
def k12 : Class := { plain "[I" (some 0) with kind := .array 11 .int, interfaces := #[7, 8], accessFlags := 1041 }

def heap : Heap := #[]
def classes : Array Class := #[k0, k1, k2, k3, k4, k5, k6, k7, k8, k9, k10, k11, k12]
def interned : List (Array UInt16 × Addr) := []
def slotsUsed : Nat := 0
def theMethod : MethodId := ⟨1, 1⟩
def args0 : Array Value := #[.int 37, .int 18, .int 5, .int 2]
def aboutOver (below : List Frame) : State where
  vm := { classes := classes, interned := interned.toArray }
  heap := heap
  slotsUsed := slotsUsed
  threads := #[{ frames := .invoking theMethod args0 :: below }]
def below0 : List Frame := [.native { method := ⟨0, 0⟩, args := #[] }]
def about1 : State := aboutOver below0
def p0 : Program := .bare "" "" ""
def e0 : Env := launch0.env 0 0 0
theorem w_frames : about1.frames = Frame.invoking theMethod args0 :: below0 := rfl
set_option maxRecDepth 65536 in
theorem w_args : argsFit about1.vm theMethod args0 = true := by decide +kernel
set_option maxRecDepth 65536 in
theorem w_heap : heapFits about1 = true := by decide +kernel
set_option maxRecDepth 65536 in
theorem w_runnable : about1.curStatus? = some .runnable := by decide +kernel
set_option maxRecDepth 65536 in
theorem w_alone : about1.alone = true := by decide +kernel
set_option maxRecDepth 65536 in
theorem w_named : about1.methodNamed? x = some theMethod := by decide +kernel
set_option maxRecDepth 65536 in
theorem w_hears : about1.hears theMethod below0 = true := by decide +kernel
set_option maxRecDepth 65536 in
theorem w_ripe : about1.ripe theMethod args0 below0 = true := by decide +kernel
theorem w_running : about1.status = .running := rfl
set_option maxRecDepth 65536 in
theorem w_room : about1.hasRoom e0.platform room_1 = true :=
  launch0.hasRoom_least _ room_1 (by decide +kernel) (by decide +kernel) (by decide +kernel) (by decide +kernel) (by decide +kernel) (by decide +kernel)
theorem allAtoms_all (ts : List Jvm.Cond) (a : Array Jvm.Value) (st : Jvm.State) : (allAtoms ts).before a st = ts.all (fun c => c.before a st) := by
  induction ts with
  | nil => rfl
  | cons c t ih =>
    show (Jvm.Cond.and c (allAtoms t)).before a st = _
    rw [Jvm.Cond.before_and, ih, List.all_cons]
def words1 : List Jvm.Cond := Jvm.Cond.code x code maxLocals ret :: tables_1
/-- a 'code' word, met by the world's own term for the bytes: nothing is compared byte by byte -/
theorem code_word {y : MethodName} {bytes : ByteArray} {mx : Nat} {rt : Option FieldType} {a : Array Value} {s : State} {m : MethodId} {meth : Method} {c : Code} (h1 : s.methodNamed? y = some m) (h2 : s.vm.method? m = some meth) (h3 : meth.code = some c) (h4 : c.code = bytes)
    (h5 : (c.maxLocals == mx && c.exceptionTable.isEmpty && decide (c.maxStack ≤ mostOperands) && decide (meth.sig.returnType = rt) && !meth.locks && decide (parseMethodDescriptor y.desc = some meth.sig)) = true) : (Jvm.Cond.code y bytes mx rt).before a s = true := by
  simp only [Bool.and_eq_true, beq_iff_eq, Bool.not_eq_true', decide_eq_true_eq] at h5
  obtain ⟨⟨⟨⟨⟨g1, g2⟩, g3⟩, g4⟩, g5⟩, g6⟩ := h5
  simp [Cond.before, Cond.holds, Cond.value, h1, h2, h3, h4, g1, g2, g3, g4, g5, g6]
def isCode : Jvm.Cond → Bool
  | .code _ _ _ _ => true
  | _ => false
theorem all_split {L : List Jvm.Cond} {P : Jvm.Cond → Bool} (h1 : L.all (fun c => isCode c || P c) = true) (h2 : ∀ c ∈ L.filter isCode, P c = true) : L.all P = true := by
  refine List.all_eq_true.mpr fun c hc => ?_
  have h := List.all_eq_true.mp h1 c hc
  rcases Bool.eq_false_or_eq_true (isCode c) with hi | hi
  · exact h2 c (List.mem_filter.mpr ⟨hc, hi⟩)
  · simpa [hi] using h
set_option maxRecDepth 65536 in
theorem w_c0 : (Jvm.Cond.code x code maxLocals ret).before args0 about1 = true := code_word (m := ⟨1, 1⟩) (meth := k1m1) (c := k1c1) (by decide +kernel) rfl rfl rfl (by decide +kernel)
set_option maxRecDepth 65536 in
theorem w_c1 : (Jvm.Cond.code ({ cls := "com/example/dendrotick/dendrotick/VectorClock", name := "<init>", desc := "(Lcom/example/dendrotick/dendrotick/ClockWork;)V" } : Jvm.MethodName) prog_36_method_1_code (2 : Nat) (Option.none : Option Jvm.ClassFile.FieldType)).before args0 about1 = true := code_word (m := ⟨3, 0⟩) (meth := k3m0) (c := k3c0) (by decide +kernel) rfl rfl rfl (by decide +kernel)
set_option maxRecDepth 65536 in
theorem w_c2 : (Jvm.Cond.code ({ cls := "java/lang/Object", name := "<init>", desc := "()V" } : Jvm.MethodName) object_method_1_code (1 : Nat) (Option.none : Option Jvm.ClassFile.FieldType)).before args0 about1 = true := code_word (m := ⟨0, 0⟩) (meth := k0m0) (c := k0c0) (by decide +kernel) rfl rfl rfl (by decide +kernel)
set_option maxRecDepth 65536 in
theorem w_c3 : (Jvm.Cond.code ({ cls := "com/example/dendrotick/dendrotick/VectorClock", name := "get", desc := "(I)I" } : Jvm.MethodName) prog_36_method_2_code (2 : Nat) (Option.some Jvm.ClassFile.FieldType.int)).before args0 about1 = true := code_word (m := ⟨3, 1⟩) (meth := k3m1) (c := k3c1) (by decide +kernel) rfl rfl rfl (by decide +kernel)
set_option maxRecDepth 65536 in
theorem w_c4 : (Jvm.Cond.code ({ cls := "com/example/dendrotick/dendrotick/VectorClockGetPinLaw", name := "expected", desc := "(IIIII)I" } : Jvm.MethodName) method_3_code (6 : Nat) (Option.some Jvm.ClassFile.FieldType.int)).before args0 about1 = true := code_word (m := ⟨1, 2⟩) (meth := k1m2) (c := k1c2) (by decide +kernel) rfl rfl rfl (by decide +kernel)
set_option maxRecDepth 65536 in
theorem w_c5 : (Jvm.Cond.code ({ cls := "com/example/dendrotick/dendrotick/VectorClock", name := "increment", desc := "(I)V" } : Jvm.MethodName) prog_36_method_3_code (2 : Nat) (Option.none : Option Jvm.ClassFile.FieldType)).before args0 about1 = true := code_word (m := ⟨3, 2⟩) (meth := k3m2) (c := k3c2) (by decide +kernel) rfl rfl rfl (by decide +kernel)
set_option maxRecDepth 65536 in
theorem w_c6 : (Jvm.Cond.code ({ cls := "com/example/dendrotick/dendrotick/VectorClock", name := "growTo", desc := "(I)V" } : Jvm.MethodName) prog_36_method_6_code (2 : Nat) (Option.none : Option Jvm.ClassFile.FieldType)).before args0 about1 = true := code_word (m := ⟨3, 3⟩) (meth := k3m3) (c := k3c3) (by decide +kernel) rfl rfl rfl (by decide +kernel)
set_option maxRecDepth 65536 in
theorem w_c7 : (Jvm.Cond.code ({ cls := "java/lang/Math", name := "max", desc := "(II)I" } : Jvm.MethodName) jdk_29_method_65_code (2 : Nat) (Option.some Jvm.ClassFile.FieldType.int)).before args0 about1 = true := code_word (m := ⟨4, 1⟩) (meth := k4m1) (c := k4c1) (by decide +kernel) rfl rfl rfl (by decide +kernel)
set_option maxRecDepth 65536 in
theorem w_c8 : (Jvm.Cond.code ({ cls := "java/util/Arrays", name := "copyOf", desc := "([II)[I" } : Jvm.MethodName) jdk_65_method_123_code (3 : Nat) (Option.some (Jvm.ClassFile.FieldType.array Jvm.ClassFile.FieldType.int))).before args0 about1 = true := code_word (m := ⟨5, 1⟩) (meth := k5m1) (c := k5c1) (by decide +kernel) rfl rfl rfl (by decide +kernel)
set_option maxRecDepth 65536 in
theorem w_c9 : (Jvm.Cond.code ({ cls := "java/lang/Math", name := "min", desc := "(II)I" } : Jvm.MethodName) jdk_29_method_69_code (2 : Nat) (Option.some Jvm.ClassFile.FieldType.int)).before args0 about1 = true := code_word (m := ⟨4, 2⟩) (meth := k4m2) (c := k4c2) (by decide +kernel) rfl rfl rfl (by decide +kernel)
def codes1 : List Jvm.Cond := [Jvm.Cond.code x code maxLocals ret, Jvm.Cond.code ({ cls := "com/example/dendrotick/dendrotick/VectorClock", name := "<init>", desc := "(Lcom/example/dendrotick/dendrotick/ClockWork;)V" } : Jvm.MethodName) prog_36_method_1_code (2 : Nat) (Option.none : Option Jvm.ClassFile.FieldType), Jvm.Cond.code ({ cls := "java/lang/Object", name := "<init>", desc := "()V" } : Jvm.MethodName) object_method_1_code (1 : Nat) (Option.none : Option Jvm.ClassFile.FieldType), Jvm.Cond.code ({ cls := "com/example/dendrotick/dendrotick/VectorClock", name := "get", desc := "(I)I" } : Jvm.MethodName) prog_36_method_2_code (2 : Nat) (Option.some Jvm.ClassFile.FieldType.int), Jvm.Cond.code ({ cls := "com/example/dendrotick/dendrotick/VectorClockGetPinLaw", name := "expected", desc := "(IIIII)I" } : Jvm.MethodName) method_3_code (6 : Nat) (Option.some Jvm.ClassFile.FieldType.int), Jvm.Cond.code ({ cls := "com/example/dendrotick/dendrotick/VectorClock", name := "increment", desc := "(I)V" } : Jvm.MethodName) prog_36_method_3_code (2 : Nat) (Option.none : Option Jvm.ClassFile.FieldType), Jvm.Cond.code ({ cls := "com/example/dendrotick/dendrotick/VectorClock", name := "growTo", desc := "(I)V" } : Jvm.MethodName) prog_36_method_6_code (2 : Nat) (Option.none : Option Jvm.ClassFile.FieldType), Jvm.Cond.code ({ cls := "java/lang/Math", name := "max", desc := "(II)I" } : Jvm.MethodName) jdk_29_method_65_code (2 : Nat) (Option.some Jvm.ClassFile.FieldType.int), Jvm.Cond.code ({ cls := "java/util/Arrays", name := "copyOf", desc := "([II)[I" } : Jvm.MethodName) jdk_65_method_123_code (3 : Nat) (Option.some (Jvm.ClassFile.FieldType.array Jvm.ClassFile.FieldType.int)), Jvm.Cond.code ({ cls := "java/lang/Math", name := "min", desc := "(II)I" } : Jvm.MethodName) jdk_29_method_69_code (2 : Nat) (Option.some Jvm.ClassFile.FieldType.int)]
set_option maxRecDepth 65536 in
theorem codes_eq : words1.filter isCode = codes1 := rfl
theorem w_codes : ∀ c ∈ words1.filter isCode, c.before args0 about1 = true := by
  rw [codes_eq]
  intro c hc
  simp only [codes1, List.mem_cons, List.not_mem_nil, or_false] at hc
  rcases hc with rfl | rfl | rfl | rfl | rfl | rfl | rfl | rfl | rfl | rfl
  · exact w_c0
  · exact w_c1
  · exact w_c2
  · exact w_c3
  · exact w_c4
  · exact w_c5
  · exact w_c6
  · exact w_c7
  · exact w_c8
  · exact w_c9
set_option maxRecDepth 65536 in
theorem w_t1 : (words1.take 24).all (fun c => isCode c || c.before args0 about1) = true := by decide +kernel
set_option maxRecDepth 65536 in
theorem w_t2 : ((words1.drop 24).take 24).all (fun c => isCode c || c.before args0 about1) = true := by decide +kernel
set_option maxRecDepth 65536 in
theorem w_t3 : ((words1.drop 24).drop 24).all (fun c => isCode c || c.before args0 about1) = true := by decide +kernel
theorem w_tables : (allAtoms (Jvm.Cond.code x code maxLocals ret :: tables_1)).before args0 about1 = true := by
  rw [allAtoms_all]
  show words1.all (fun c => c.before args0 about1) = true
  refine all_split ?_ w_codes
  rw [← List.take_append_drop 24 words1, List.all_append, w_t1, ← List.take_append_drop 24 (words1.drop 24), List.all_append, w_t2, w_t3]
  rfl
set_option maxRecDepth 65536 in
theorem w_case : (Jvm.Cond.and given_1 narrow_1).before args0 about1 = true := by decide +kernel
theorem w_applies : (headSpec (Jvm.Cond.code x code maxLocals ret :: tables_1) room_1).applies x e0.platform about1 = true :=
  (Spec.applies_iff w_frames).mpr ⟨w_running, w_runnable, w_alone, w_named, w_hears, w_ripe, w_room, w_tables⟩
theorem atStart : AtStart classFile x code maxLocals ret World_1 tables_1 room_1 Calls_1 rest_1 Pre_1 launch0 p0 e0 about1 theMethod args0 below0 :=
  ⟨lists_1, trivial, launch0.admits_env _ _ _, launch0.least_env, fairChoices_fair.cas, fairChoices_fair.clock, w_frames, w_args, w_heap, w_applies, trivial, trivial, w_case⟩
end start1
theorem witness_1 : WitnessClaimed_1 := ⟨start1.p0, start1.e0, start1.about1, start1.theMethod, start1.args0, start1.below0, start1.atStart⟩
end Jvm.Pilot.@@N@@
