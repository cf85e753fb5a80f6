import JvmDerived
import JvmDerived.Pilot.@@N@@Statement
import JvmDerived.Pilot.@@N@@Code
set_option linter.unusedVariables false
set_option linter.unusedSimpArgs false
namespace Jvm.OwnK
open Sem ClassFile Op Lib Jvm.Stand Jvm.Free Jvm.LawKit Jvm.RoadKit
section
variable {p : Program} {l : Launch} {e : Env} {R : Room} {s : State} {m : MethodId} {args : Array Value} {below : List Frame} {meth : Method} {c : Code} {T : State} {locs : List Loc} {cells slots : Nat} {Cn Sn : Nat} {Q : Option Value → Heap → List Loc → Prop}
/-- from the frame f the run comes to an end that Q takes -/
def KEnds (p : Program) (e : Env) (below : List Frame) (s : State) (Cn Sn : Nat) (Q : Option Value → Heap → List Loc → Prop) (T : State) (f : JFrame) : Prop :=
  ∃ s₂ o, Steps p.tables e below (T.setTop f) s₂ ∧ s₂.status = .running ∧ Ended s₂ below o ∧ ∃ v L, o = .returned v ∧ Q v s₂.heap L ∧ FrameEnd s o s₂ L Cn Sn
theorem k_via {T' : State} {f f' : JFrame} (st : ∀ t, Steps p.tables e below (T'.setTop f') t → Steps p.tables e below (T.setTop f) t) (k : KEnds p e below s Cn Sn Q T' f') : KEnds p e below s Cn Sn Q T f := by
  obtain ⟨s₂, o, h, r⟩ := k
  exact ⟨s₂, o, st _ h, r⟩
theorem k_i2b2 (x : Int32) : (x.toInt8.toInt32).toInt8.toInt32 = x.toInt8.toInt32 := by rw [Int8.toInt8_toInt32]
theorem k_iloadN (X : Stand p l e R s m args below meth c T locs cells slots) (hx : p.tables.exec = Jvm.exec) {pc pc' : Nat} {Ls : Array Slot} {St : List Value} {i : Fin 4} {v : Int32} (hd : decode c.code pc = .ok (.iload_n i, 1)) (hl : Ls[i.val]? = some (.val (.int v))) (hpc : pc + 1 = pc') (k : KEnds p e below s Cn Sn Q T (mkF m pc' Ls (.int v :: St))) : KEnds p e below s Cn Sn Q T (mkF m pc Ls (St)) := by
  subst hpc; exact k_via (fun t h => XS.iloadN X.here hx rfl hd hl h) k
theorem k_iload (X : Stand p l e R s m args below meth c T locs cells slots) (hx : p.tables.exec = Jvm.exec) {pc pc' : Nat} {Ls : Array Slot} {St : List Value} {i : Nat} {v : Int32} (hd : decode c.code pc = .ok (.iload i, 2)) (hl : Ls[i]? = some (.val (.int v))) (hpc : pc + 2 = pc') (k : KEnds p e below s Cn Sn Q T (mkF m pc' Ls (.int v :: St))) : KEnds p e below s Cn Sn Q T (mkF m pc Ls (St)) := by
  subst hpc; exact k_via (fun t h => XS.iload X.here hx rfl hd hl h) k
theorem k_istore (X : Stand p l e R s m args below meth c T locs cells slots) (hx : p.tables.exec = Jvm.exec) {pc pc' : Nat} {Ls : Array Slot} {St : List Value} {i : Nat} {v : Int32} {Ls' : Array Slot} (hd : decode c.code pc = .ok (.istore i, 2)) (hl : storeLocals Ls i (.int v) = some Ls') (hpc : pc + 2 = pc') (k : KEnds p e below s Cn Sn Q T (mkF m pc' Ls' (St))) : KEnds p e below s Cn Sn Q T (mkF m pc Ls (.int v :: St)) := by
  subst hpc; exact k_via (fun t h => XS.istore X.here hx rfl hd rfl hl h) k
theorem k_aloadN (X : Stand p l e R s m args below meth c T locs cells slots) (hx : p.tables.exec = Jvm.exec) {pc pc' : Nat} {Ls : Array Slot} {St : List Value} {i : Fin 4} {v : Value} (hd : decode c.code pc = .ok (.aload_n i, 1)) (hl : Ls[i.val]? = some (.val v)) (hv : v.isRef = true) (hpc : pc + 1 = pc') (k : KEnds p e below s Cn Sn Q T (mkF m pc' Ls (v :: St))) : KEnds p e below s Cn Sn Q T (mkF m pc Ls (St)) := by
  subst hpc; exact k_via (fun t h => XS.aloadN X.here hx rfl hd hl hv h) k
theorem k_aload (X : Stand p l e R s m args below meth c T locs cells slots) (hx : p.tables.exec = Jvm.exec) {pc pc' : Nat} {Ls : Array Slot} {St : List Value} {i : Nat} {v : Value} (hd : decode c.code pc = .ok (.aload i, 2)) (hl : Ls[i]? = some (.val v)) (hv : v.isRef = true) (hpc : pc + 2 = pc') (k : KEnds p e below s Cn Sn Q T (mkF m pc' Ls (v :: St))) : KEnds p e below s Cn Sn Q T (mkF m pc Ls (St)) := by
  subst hpc; exact k_via (fun t h => XS.aload X.here hx rfl hd hl hv h) k
theorem k_astore (X : Stand p l e R s m args below meth c T locs cells slots) (hx : p.tables.exec = Jvm.exec) {pc pc' : Nat} {Ls : Array Slot} {St : List Value} {i : Nat} {v : Value} {Ls' : Array Slot} (hd : decode c.code pc = .ok (.astore i, 2)) (hv : v.isRef = true) (hl : storeLocals Ls i v = some Ls') (hpc : pc + 2 = pc') (k : KEnds p e below s Cn Sn Q T (mkF m pc' Ls' (St))) : KEnds p e below s Cn Sn Q T (mkF m pc Ls (v :: St)) := by
  subst hpc; exact k_via (fun t h => XS.astore X.here hx rfl hd rfl hv hl h) k
theorem k_iconst (X : Stand p l e R s m args below meth c T locs cells slots) (hx : p.tables.exec = Jvm.exec) {pc pc' : Nat} {Ls : Array Slot} {St : List Value} {i : Int} {z : Int32} (hd : decode c.code pc = .ok (.iconst i, 1)) (hpc : pc + 1 = pc') (hz : Int32.ofInt i = z) (k : KEnds p e below s Cn Sn Q T (mkF m pc' Ls (.int z :: St))) : KEnds p e below s Cn Sn Q T (mkF m pc Ls St) := by
  subst hpc hz; exact k_via (fun t h => XS.iconst X.here hx rfl hd h) k
theorem k_bipush (X : Stand p l e R s m args below meth c T locs cells slots) (hx : p.tables.exec = Jvm.exec) {pc pc' : Nat} {Ls : Array Slot} {St : List Value} {i : Int} {z : Int32} (hd : decode c.code pc = .ok (.bipush i, 2)) (hpc : pc + 2 = pc') (hz : (Int8.ofInt i).toInt32 = z) (k : KEnds p e below s Cn Sn Q T (mkF m pc' Ls (.int z :: St))) : KEnds p e below s Cn Sn Q T (mkF m pc Ls St) := by
  subst hpc hz; exact k_via (fun t h => XS.bipush X.here hx rfl hd h) k
theorem k_sipush (X : Stand p l e R s m args below meth c T locs cells slots) (hx : p.tables.exec = Jvm.exec) {pc pc' : Nat} {Ls : Array Slot} {St : List Value} {i : Int} {z : Int32} (hd : decode c.code pc = .ok (.sipush i, 3)) (hpc : pc + 3 = pc') (hz : (Int16.ofInt i).toInt32 = z) (k : KEnds p e below s Cn Sn Q T (mkF m pc' Ls (.int z :: St))) : KEnds p e below s Cn Sn Q T (mkF m pc Ls St) := by
  subst hpc hz; exact k_via (fun t h => XS.sipush X.here hx rfl hd h) k
theorem k_iand (X : Stand p l e R s m args below meth c T locs cells slots) (hx : p.tables.exec = Jvm.exec) {pc pc' : Nat} {Ls : Array Slot} {St : List Value} {x y : Int32} (hd : decode c.code pc = .ok (.iand, 1))  (hpc : pc + 1 = pc') (k : ∀ z : Int32, z = x &&& y → KEnds p e below s Cn Sn Q T (mkF m pc' Ls (.int z :: St))) : KEnds p e below s Cn Sn Q T (mkF m pc Ls (.int y :: .int x :: St)) := by
  subst hpc; exact k_via (fun t h => XS.iand X.here hx rfl hd rfl h) (k _ rfl)
theorem k_iushr (X : Stand p l e R s m args below meth c T locs cells slots) (hx : p.tables.exec = Jvm.exec) {pc pc' : Nat} {Ls : Array Slot} {St : List Value} {x y : Int32} (hd : decode c.code pc = .ok (.iushr, 1))  (hpc : pc + 1 = pc') (k : ∀ z : Int32, z = ((x.toUInt32 >>> (y &&& 31).toUInt32).toInt32) → KEnds p e below s Cn Sn Q T (mkF m pc' Ls (.int z :: St))) : KEnds p e below s Cn Sn Q T (mkF m pc Ls (.int y :: .int x :: St)) := by
  subst hpc; exact k_via (fun t h => XS.iushr X.here hx rfl hd rfl h) (k _ rfl)
theorem k_irem (X : Stand p l e R s m args below meth c T locs cells slots) (hx : p.tables.exec = Jvm.exec) {pc pc' : Nat} {Ls : Array Slot} {St : List Value} {x y : Int32} (hd : decode c.code pc = .ok (.irem, 1)) (hy : y ≠ 0) (hpc : pc + 1 = pc') (k : ∀ z : Int32, z = x % y → KEnds p e below s Cn Sn Q T (mkF m pc' Ls (.int z :: St))) : KEnds p e below s Cn Sn Q T (mkF m pc Ls (.int y :: .int x :: St)) := by
  subst hpc; exact k_via (fun t h => iremM X hx rfl hd rfl hy h) (k _ rfl)
theorem k_i2b (X : Stand p l e R s m args below meth c T locs cells slots) (hx : p.tables.exec = Jvm.exec) {pc pc' : Nat} {Ls : Array Slot} {St : List Value} {x : Int32} (hd : decode c.code pc = .ok (.i2b, 1))  (hpc : pc + 1 = pc') (k : ∀ z : Int32, z = x.toInt8.toInt32 → KEnds p e below s Cn Sn Q T (mkF m pc' Ls (.int z :: St))) : KEnds p e below s Cn Sn Q T (mkF m pc Ls (.int x :: St)) := by
  subst hpc; exact k_via (fun t h => XS.i2b X.here hx rfl hd rfl h) (k _ rfl)
theorem k_iinc (X : Stand p l e R s m args below meth c T locs cells slots) (hx : p.tables.exec = Jvm.exec) {pc pc' : Nat} {Ls : Array Slot} {St : List Value} {i : Nat} {cst : Int} {x z : Int32} {Ls' : Array Slot} (hd : decode c.code pc = .ok (.iinc i cst, 3)) (hl : Ls[i]? = some (.val (.int x))) (hpc : pc + 3 = pc') (hz : x + Int32.ofInt cst = z) (hl' : storeLocals Ls i (.int z) = some Ls') (k : KEnds p e below s Cn Sn Q T (mkF m pc' Ls' St)) : KEnds p e below s Cn Sn Q T (mkF m pc Ls St) := by
  subst hpc hz; exact k_via (fun t h => XS.iinc X.here hx rfl hd hl hl' h) k
theorem k_dup (X : Stand p l e R s m args below meth c T locs cells slots) (hx : p.tables.exec = Jvm.exec) {pc pc' : Nat} {Ls : Array Slot} {St : List Value} {v : Value} (hd : decode c.code pc = .ok (.dup, 1)) (hv : v.category = 1) (hpc : pc + 1 = pc') (k : KEnds p e below s Cn Sn Q T (mkF m pc' Ls (v :: v :: St))) : KEnds p e below s Cn Sn Q T (mkF m pc Ls (v :: St)) := by
  subst hpc; exact k_via (fun t h => XS.dup X.here hx rfl hd rfl hv h) k
theorem k_goto (X : Stand p l e R s m args below meth c T locs cells slots) (hx : p.tables.exec = Jvm.exec) {pc pc' : Nat} {Ls : Array Slot} {St : List Value} {o : Int} (hd : decode c.code pc = .ok (.goto o, 3)) (hp : (pc : Int) + o = (pc' : Int)) (k : KEnds p e below s Cn Sn Q T (mkF m pc' Ls St)) : KEnds p e below s Cn Sn Q T (mkF m pc Ls St) :=
  k_via (fun t h => XS.goto X.here hx rfl (pc0 := pc) rfl hd (by omega) (by omega) h) k
theorem k_icmp_ge (X : Stand p l e R s m args below meth c T locs cells slots) (hx : p.tables.exec = Jvm.exec) {pc pn py : Nat} {Ls : Array Slot} {St : List Value} {x y : Int32} {o : Int} (hd : decode c.code pc = .ok (.if_icmp .ge o, 3)) (hn : pc + 3 = pn) (hp : (pc : Int) + o = (py : Int)) (ky : ¬ x < y → KEnds p e below s Cn Sn Q T (mkF m py Ls St)) (kn : x < y → KEnds p e below s Cn Sn Q T (mkF m pn Ls St)) : KEnds p e below s Cn Sn Q T (mkF m pc Ls (.int y :: .int x :: St)) := by
  subst hn
  by_cases hc : x < y
  · exact k_via (fun t h => XS.icmpNo X.here hx rfl hd rfl (tlt hc).2.1 h) (kn hc)
  · exact k_via (fun t h => XS.icmpYes X.here hx rfl (pc0 := pc) rfl hd rfl (flt hc).2.1 (by omega) (by omega) h) (ky hc)
theorem k_icmp_gt (X : Stand p l e R s m args below meth c T locs cells slots) (hx : p.tables.exec = Jvm.exec) {pc pn py : Nat} {Ls : Array Slot} {St : List Value} {x y : Int32} {o : Int} (hd : decode c.code pc = .ok (.if_icmp .gt o, 3)) (hn : pc + 3 = pn) (hp : (pc : Int) + o = (py : Int)) (ky : y < x → KEnds p e below s Cn Sn Q T (mkF m py Ls St)) (kn : ¬ y < x → KEnds p e below s Cn Sn Q T (mkF m pn Ls St)) : KEnds p e below s Cn Sn Q T (mkF m pc Ls (.int y :: .int x :: St)) := by
  subst hn
  by_cases hc : y < x
  · exact k_via (fun t h => XS.icmpYes X.here hx rfl (pc0 := pc) rfl hd rfl (tlt hc).2.2.1 (by omega) (by omega) h) (ky hc)
  · exact k_via (fun t h => XS.icmpNo X.here hx rfl hd rfl (flt hc).2.2.1 h) (kn hc)
theorem k_if_eq (X : Stand p l e R s m args below meth c T locs cells slots) (hx : p.tables.exec = Jvm.exec) {pc pn py : Nat} {Ls : Array Slot} {St : List Value} {x : Int32} {o : Int} (hd : decode c.code pc = .ok (.ifCond .eq o, 3)) (hn : pc + 3 = pn) (hp : (pc : Int) + o = (py : Int)) (ky : x = (0 : Int32) → KEnds p e below s Cn Sn Q T (mkF m py Ls St)) (kn : ¬ x = (0 : Int32) → KEnds p e below s Cn Sn Q T (mkF m pn Ls St)) : KEnds p e below s Cn Sn Q T (mkF m pc Ls (.int x :: St)) := by
  subst hn
  by_cases hc : x = (0 : Int32)
  · exact k_via (fun t h => XS.ifYes X.here hx rfl (pc0 := pc) rfl hd rfl ((if0 _ _).trans (teq hc).1) (by omega) (by omega) h) (ky hc)
  · exact k_via (fun t h => XS.ifNo X.here hx rfl hd rfl ((if0 _ _).trans (feq hc).1) h) (kn hc)
theorem k_icmp_ne (X : Stand p l e R s m args below meth c T locs cells slots) (hx : p.tables.exec = Jvm.exec) {pc pn py : Nat} {Ls : Array Slot} {St : List Value} {x y : Int32} {o : Int} (hd : decode c.code pc = .ok (.if_icmp .ne o, 3)) (hn : pc + 3 = pn) (hp : (pc : Int) + o = (py : Int)) (ky : ¬ x = y → KEnds p e below s Cn Sn Q T (mkF m py Ls St)) (kn : x = y → KEnds p e below s Cn Sn Q T (mkF m pn Ls St)) : KEnds p e below s Cn Sn Q T (mkF m pc Ls (.int y :: .int x :: St)) := by
  subst hn
  by_cases hc : x = y
  · exact k_via (fun t h => XS.icmpNo X.here hx rfl hd rfl (teq hc).2 h) (kn hc)
  · exact k_via (fun t h => XS.icmpYes X.here hx rfl (pc0 := pc) rfl hd rfl (feq hc).2 (by omega) (by omega) h) (ky hc)
theorem k_if_ne (X : Stand p l e R s m args below meth c T locs cells slots) (hx : p.tables.exec = Jvm.exec) {pc pn py : Nat} {Ls : Array Slot} {St : List Value} {x : Int32} {o : Int} (hd : decode c.code pc = .ok (.ifCond .ne o, 3)) (hn : pc + 3 = pn) (hp : (pc : Int) + o = (py : Int)) (ky : ¬ x = (0 : Int32) → KEnds p e below s Cn Sn Q T (mkF m py Ls St)) (kn : x = (0 : Int32) → KEnds p e below s Cn Sn Q T (mkF m pn Ls St)) : KEnds p e below s Cn Sn Q T (mkF m pc Ls (.int x :: St)) := by
  subst hn
  by_cases hc : x = (0 : Int32)
  · exact k_via (fun t h => XS.ifNo X.here hx rfl hd rfl ((if0 _ _).trans (teq hc).2) h) (kn hc)
  · exact k_via (fun t h => XS.ifYes X.here hx rfl (pc0 := pc) rfl hd rfl ((if0 _ _).trans (feq hc).2) (by omega) (by omega) h) (ky hc)
theorem k_retN (X : Stand p l e R s m args below meth c T locs cells slots) (hx : p.tables.exec = Jvm.exec) {pc : Nat} {Ls : Array Slot} {St : List Value} {t : FieldType} {z z' : Int32} (hret : meth.sig.returnType = some t) (ht : t = .boolean ∨ t = .byte ∨ t = .char ∨ t = .short) (hd : decode c.code pc = .ok (.ireturn, 1)) (hlk : meth.locks = false) (hC : cells ≤ Cn) (hS : slots ≤ Sn) (hz : nar t z = z') (q : Q (some (.int z')) T.heap locs) : KEnds p e below s Cn Sn Q T (mkF m pc Ls (.int z :: St)) := by
  subst hz
  obtain ⟨fs, hr, hrun, hended, hW, hsame⟩ := X.leave (v := some (.int (nar t z))) (fun h => by rw [hret] at h; cases h) hlk
  exact ⟨_, _, retN X hx hret ht hd hr, hrun, hended, _, _, rfl, q, ⟨_, rfl⟩, hW, hsame.mono hC hS⟩
theorem k_retI (X : Stand p l e R s m args below meth c T locs cells slots) (hx : p.tables.exec = Jvm.exec) {pc : Nat} {Ls : Array Slot} {St : List Value} {z : Int32} (hret : meth.sig.returnType = some .int) (hd : decode c.code pc = .ok (.ireturn, 1)) (hlk : meth.locks = false) (hC : cells ≤ Cn) (hS : slots ≤ Sn) (q : Q (some (.int z)) T.heap locs) : KEnds p e below s Cn Sn Q T (mkF m pc Ls (.int z :: St)) := by
  obtain ⟨fs, hr, hrun, hended, hW, hsame⟩ := X.leave (v := some (.int z)) (fun h => by rw [hret] at h; cases h) hlk
  exact ⟨_, _, retOut X hx hret rfl (Or.inl ⟨rfl, Or.inl rfl, _, rfl⟩) hd hr, hrun, hended, _, _, rfl, q, ⟨_, rfl⟩, hW, hsame.mono hC hS⟩
variable {Z : State} {a0 : Array Value} {h : Heap} {own : String}
theorem k_ldc (X : Stand p l e R s m args below meth c T locs cells slots) (hx : p.tables.exec = Jvm.exec) (hZ : Z.Warmed39 s.vm) (hown : s.vm.findClass own = some m.cls) {pc pc' : Nat} {Ls : Array Slot} {St : List Value} {index : Nat} {v : Int32} (w : (Cond.constant own index v).before a0 Z = true) (hd : decode c.code pc = .ok (.ldc index, 2)) (hpc : pc + 2 = pc') (k : KEnds p e below s Cn Sn Q T (mkF m pc' Ls (.int v :: St))) : KEnds p e below s Cn Sn Q T (mkF m pc Ls St) := by
  subst hpc; exact k_via (X.ldcInt hx hown (mvT hZ w) (g := mkF m pc Ls St) rfl hd) k
theorem k_newA (X : Stand p l e R s m args below meth c T locs cells slots) (hx : p.tables.exec = Jvm.exec) (hZ : Z.Warmed39 s.vm) {pc pc' : Nat} {Ls : Array Slot} {St : List Value} {aty : ArrayType} (w : (Cond.arrayClass (newarray.typeOf aty)).before a0 Z = true) (eT : T.heap = h) (hd : decode c.code pc = .ok (.newarray aty, 2)) {n : Int32} (hn : ¬ n < 0) {cap : Nat} (hcap : n.toNatClampNeg ≤ cap) (hb : cap * 8 ≤ 536870912) (hc : cells + 1 ≤ R.cells) (hl : slots + cap ≤ R.slots) (hpc : pc + 2 = pc') (k : ∀ T' h' a cA, a = h.size → Stand p l e R s m args below meth c T' locs (cells + 1) (slots + cap) → T'.heap = h' → Ext h h' → Arv Z h' a cA (newarray.typeOf aty) n (List.replicate cap (defaultValue (newarray.typeOf aty))) (defaultValue (newarray.typeOf aty)) → KEnds p e below s Cn Sn Q T' (mkF m pc' Ls (.ref a :: St))) : KEnds p e below s Cn Sn Q T (mkF m pc Ls (.int n :: St)) := by
  subst hpc
  obtain ⟨T', h', cA, X', e', E', A', st⟩ := newP X hx hZ w eT (g := mkF m pc Ls (.int n :: St)) rfl hd rfl hn hcap hb hc hl
  exact k_via st (k T' h' _ cA rfl X' e' E' ((Arv.new A' hn).pad (pad_rep [] _ cap)))
theorem k_bastore (X : Stand p l e R s m args below meth c T locs cells slots) (hx : p.tables.exec = Jvm.exec) (hZ : Z.Warmed39 s.vm) {pc pc' : Nat} {Ls : Array Slot} {St : List Value} (eT : T.heap = h) {a : Addr} {kA : ClassId} {z j : Int32} {x : Int32} {vs : List Value} {dv : Value} (F : Arv Z h a kA .byte z vs dv) (hj : ¬ j < 0 ∧ j < z) {i : Nat} (hi : j.toNatClampNeg = i) (hil : i < vs.length) (hd : decode c.code pc = .ok (.bastore, 1)) (hpc : pc + 1 = pc') (k : ∀ T' h', Stand p l e R s m args below meth c T' (locs ++ [⟨a, j.toNatClampNeg⟩]) cells slots → T'.heap = h' → Wr h h' a j.toNatClampNeg (.int (x.toInt8.toInt32)) → Arv Z h' a kA .byte z (vs.set i (.int (x.toInt8.toInt32))) dv → KEnds p e below s Cn Sn Q T' (mkF m pc' Ls St)) : KEnds p e below s Cn Sn Q T (mkF m pc Ls (.int x :: .int j :: .ref a :: St)) := by
  subst hpc
  obtain ⟨cl, A, q1, S, N, H, G⟩ := F
  obtain ⟨T', h', X', e', W', st⟩ := stB X hx hZ eT A (inb_of S hj) (g := mkF m pc Ls (.int x :: .int j :: .ref a :: St)) rfl rfl hd
  exact k_via st (k T' h' X' e' W' (Arv.set A q1 S N H G (fits_nar_byte _) W' i hi hil))
theorem k_baload (X : Stand p l e R s m args below meth c T locs cells slots) (hx : p.tables.exec = Jvm.exec) (hZ : Z.Warmed39 s.vm) {pc pc' : Nat} {Ls : Array Slot} {St : List Value} (eT : T.heap = h) {a : Addr} {kA : ClassId} {z j : Int32} {v : Value} {vs : List Value} {dv : Value} (F : Arv Z h a kA .byte z vs dv) (hj : ¬ j < 0 ∧ j < z) (hv : vs.getD j.toNatClampNeg dv = v) (hd : decode c.code pc = .ok (.baload, 1)) (hpc : pc + 1 = pc') (k : KEnds p e below s Cn Sn Q T (mkF m pc' Ls (v :: St))) : KEnds p e below s Cn Sn Q T (mkF m pc Ls (.int j :: .ref a :: St)) := by
  subst hpc
  obtain ⟨cl, A, q1, S, N, H, G⟩ := F
  exact k_via (fun t hs => X.baloadBytes hx (by rw [eT]; exact A.1) (State.isArrayOf_alike hZ.alike A.2.1) A.2.2 (inb_of S hj) (H.at (inb_of S hj) hv) (g := mkF m pc Ls (.int j :: .ref a :: St)) rfl rfl hd t hs) k
theorem k_callS (X : Stand p l e R s m args below meth c T locs cells slots) (hx : p.tables.exec = Jvm.exec) (hZ : Z.Warmed39 s.vm) (hown : s.vm.findClass own = some m.cls) {pc pc' : Nat} {Ls : Array Slot} {St : List Value} {y : MethodName} {bytes : ByteArray} {maxL : Nat} {ret : Option FieldType} {rm : Room} {index W : Nat} {as' : Array Value} {Q' : Option Value → Heap → List Loc → Prop} (w1 : (Cond.methodLink own index y).before a0 Z = true) (w2 : (Cond.static y).before a0 Z = true) (w3 : (Cond.initialized y.cls).before a0 Z = true) (w4 : (Cond.code y bytes maxL ret).before a0 Z = true) (hy : y.cls ≠ "java/lang/invoke/MethodHandle" ∧ y.cls ≠ "java/lang/invoke/VarHandle") (hM : MetFree l y (head1 [Cond.code y bytes maxL ret] rm) (fun a U => a = as' ∧ Z.Warmed39 U.vm ∧ U.heap = h) (fun _ _ _ _ _ => True) (fun _ U o U' => ∃ v L, o = .returned v ∧ Q' v U'.heap L ∧ FrameEnd U o U' L rm.cells rm.slots)) (hf : rm.frames + 1 ≤ R.frames) (hl : W + (maxL + 11) + rm.locals ≤ R.locals) (eT : T.heap = h) (hsize : Ls.size = c.maxLocals) {argsL rest : List Value} (hlen : ∀ sig, parseMethodDescriptor y.desc = some sig → argsL.length = sig.parameters.length) (hst : St = argsL.reverse ++ rest) (hW : (rest.map fun v => v.category).sum ≤ W) (has : argsL.toArray = as') (hd : decode c.code pc = .ok (.invokestatic index, 3)) (hce : cells + rm.cells ≤ R.cells) (hsl : slots + rm.slots ≤ R.slots) (hpc : pc + 3 = pc') (k : ∀ T' L v, Stand p l e R s m args below meth c T' (locs ++ L) (cells + rm.cells) (slots + rm.slots) → Q' v T'.heap L → KEnds p e below s Cn Sn Q T' (mkF m pc' Ls (v.toList ++ rest))) : KEnds p e below s Cn Sn Q T (mkF m pc Ls St) := by
  subst hpc
  obtain ⟨v, _, ⟨T', L', k', n'⟩, -, X', ⟨Lc, hQ, l', y', z'⟩, st⟩ := Jvm.LawKit.callS X hx (y := y) hown (mvT hZ w1) (mvT hZ w2) (mvT hZ w3) (mvT hZ w4) hy (backOf (W := W) hM hZ w4 w3 hf hl) (g := mkF m pc Ls St) rfl hsize hlen hst (by show 2 * 0 + _ ≤ _; omega) hd (fun _ _ => ⟨has, eT, hce, hsl⟩)
  dsimp only [Pt.U, Pt.locs, Pt.cells, Pt.slots] at X' l' y' z' st hQ
  subst l' y' z'
  exact k_via st (k T' Lc v X' hQ)
theorem k_baloadS (X : Stand p l e R s m args below meth c T locs cells slots) (hx : p.tables.exec = Jvm.exec) (hZ : Z.Warmed39 s.vm) {pc pc' : Nat} {Ls : Array Slot} {St : List Value} (eT : T.heap = h) {a : Addr} {kA : ClassId} {z j : Int32} {vs : List Value} {dv : Value} (F : Arv Z h a kA .byte z vs dv) (hj : ¬ j < 0 ∧ j < z) (hd : decode c.code pc = .ok (.baload, 1)) (hpc : pc + 1 = pc') (k : ∀ x : Int32, vs.getD j.toNatClampNeg dv = .int x → KEnds p e below s Cn Sn Q T (mkF m pc' Ls (.int x :: St))) : KEnds p e below s Cn Sn Q T (mkF m pc Ls (.int j :: .ref a :: St)) := by
  subst hpc
  obtain ⟨cl, A, q1, S, N, H, G⟩ := F
  have hin := inb_of S hj
  obtain ⟨x, hx'⟩ := fit_I (G j.toNatClampNeg (Nat.lt_of_not_le fun q => hin (Or.inr q))) (by simp)
  exact k_via (fun t hs => X.baloadBytes hx (by rw [eT]; exact A.1) (State.isArrayOf_alike hZ.alike A.2.1) A.2.2 hin (H.at hin hx') (g := mkF m pc Ls (.int j :: .ref a :: St)) rfl rfl hd t hs) (k x hx')
end
end Jvm.OwnK
namespace Jvm.Pilot.@@N@@
open Jvm Jvm.ClassFile Sem Op Lib Jvm.Free Jvm.Stand Jvm.LawKit Jvm.RoadKit Jvm.OwnK Bundle Jvm.Pilot.@@N@@.Jvm.D
theorem d1_0 : decode method_2_code 0 = .ok (.iload_n 2, 1) := by decide +kernel
theorem d1_1 : decode method_2_code 1 = .ok (.iload_n 1, 1) := by decide +kernel
theorem d1_2 : decode method_2_code 2 = .ok (.if_icmp .gt 24, 3) := by decide +kernel
theorem d1_26 : decode method_2_code 26 = .ok (.iconst 0, 1) := by decide +kernel
theorem d1_27 : decode method_2_code 27 = .ok (.ireturn, 1) := by decide +kernel
theorem d1_5 : decode method_2_code 5 = .ok (.iload_n 1, 1) := by decide +kernel
theorem d1_6 : decode method_2_code 6 = .ok (.iload_n 3, 1) := by decide +kernel
theorem d1_7 : decode method_2_code 7 = .ok (.if_icmp .ge 19, 3) := by decide +kernel
abbrev R1_56 : Room := { frames := 0, cells := 0, slots := 0, locals := 0 }
def Q1_56 (Z : State) (a1 : Addr) (p2 : Int32) (p3 : Int32) (k4 : ClassId) (p5 : Int32) (p6 : Int32) (p7 : Int32) (p8 : Int32) (h0 : Heap) (n0 : Nat) (v : Option Value) (h : Heap) (L : List Loc) : Prop := Fr n0 L ∧ h = h0 ∧ (((0 : Int32) < p2 ∧ v = some (.int (0 : Int32))) ∨ (¬ (0 : Int32) < p2 ∧ v = some (.int (0 : Int32))))
theorem ef1_56 (m : MethodId) (x0 : Addr) (x2 : Int32) (x3 : Int32) (x4 : Int32) : entryFrame m #[(.ref x0), (.int (0 : Int32)), (.int x2), (.int x3), (.int x4)] 5 = mkF m 0 #[.val (.ref x0), .val (.int (0 : Int32)), .val (.int x2), .val (.int x3), .val (.int x4)] [] := by first | (simp [entryFrame, mkF, argsToLocals, Value.category]; done) | rfl
theorem pn_0 : plainName "com/example/corella/corella/hl7/DelimitersIndexOfPinLaw" = true := by first | (simp [plainName, overriddenIn]; done) | decide +kernel
set_option maxRecDepth 65536 in
set_option maxHeartbeats 40000000 in
theorem rm1_56 (l : Launch) (Z : State) (a0 : Array Value) (hw : ∀ d ∈ tables_1, d.before a0 Z = true) (ws : List Jvm.Cond) (a1 : Addr) (p2 : Int32) (p3 : Int32) (k4 : ClassId) (p5 : Int32) (p6 : Int32) (p7 : Int32) (p8 : Int32) (h0 : Heap) (n0 : Nat) (Z0 : n0 ≤ h0.size) (F0_0 : Arv Z h0 a1 k4 .byte (4 : Int32) [(.int p5), (.int p6), (.int p7), (.int p8)] (.int (0 : Int32))) :
    MetFree l (⟨"com/example/corella/corella/hl7/DelimitersIndexOfPinLaw", "hit", "([BIIII)Z"⟩ : MethodName) (head1 (Jvm.Cond.code (⟨"com/example/corella/corella/hl7/DelimitersIndexOfPinLaw", "hit", "([BIIII)Z"⟩ : MethodName) method_2_code 5 (some .boolean) :: ws) R1_56) (fun a U => a = #[(.ref a1), (.int (0 : Int32)), (.int p2), (.int p2), (.int p3)] ∧ Z.Warmed39 U.vm ∧ U.heap = h0) (fun _ _ _ _ _ => True) (fun _ U o U' => ∃ v L, o = .returned v ∧ Q1_56 Z a1 p2 p3 k4 p5 p6 p7 p8 h0 n0 v U'.heap L ∧ FrameEnd U o U' L R1_56.cells R1_56.slots) := by
 refine MetFree.of_bodySF (plainFor_of_name pn_0) hisR ?_
 intro p e s m args below meth c s₁ Bd hml0 hP hK
 obtain ⟨rfl, hZ, hh⟩ := hP
 have hx := Bd.exec
 have hby := Bd.bytes
 have hml : c.maxLocals = 5 := hml0
 have hlk : meth.locks = false := Bd.notSynchronized
 have hown : s.vm.findClass "com/example/corella/corella/hl7/DelimitersIndexOfPinLaw" = some m.cls := findClass_of_methodNamed Bd.named
 have hnm := (name_of_methodNamed Bd.named Bd.method).1
 have X0 : Stand p l e R1_56 s m #[(.ref a1), (.int (0 : Int32)), (.int p2), (.int p2), (.int p3)] below meth c s₁ [] 0 0 := Stand.of_body Bd
 have e0 : s₁.heap = h0 := by rw [← hh, Bd.state]; rfl
 have N0 := Fr.nil n0
 rw [ef1_56 m a1 p2 p2 p3]
 show KEnds p e below s R1_56.cells R1_56.slots (Q1_56 Z a1 p2 p3 k4 p5 p6 p7 p8 h0 n0) s₁ (mkF m 0 #[.val (.ref a1), .val (.int (0 : Int32)), .val (.int p2), .val (.int p2), .val (.int p3)] [])
 refine k_iloadN X0 hx (hb hby d1_0) rfl (pc' := 1) rfl ?_
 refine k_iloadN X0 hx (hb hby d1_1) rfl (pc' := 2) rfl ?_
 refine k_icmp_gt X0 hx (hb hby d1_2) (pn := 5) rfl (py := 26) (by decide) (fun hc57 => ?_) (fun hc57 => ?_)
 ·
  refine k_iconst X0 hx (hb hby d1_26) (pc' := 27) rfl (z := (0 : Int32)) rfl ?_
  exact k_retN X0 hx (t := .boolean) Bd.returns (by simp) (hb hby d1_27) hlk (by decide) (by decide) (z' := (0 : Int32)) rfl ⟨N0, e0, (Or.inl ⟨hc57, rfl⟩)⟩
 ·
  refine k_iloadN X0 hx (hb hby d1_5) rfl (pc' := 6) rfl ?_
  refine k_iloadN X0 hx (hb hby d1_6) rfl (pc' := 7) rfl ?_
  refine k_icmp_ge X0 hx (hb hby d1_7) (pn := 10) rfl (py := 26) (by decide) (fun _ => ?_) (fun hc => absurd hc hc57)
  refine k_iconst X0 hx (hb hby d1_26) (pc' := 27) rfl (z := (0 : Int32)) rfl ?_
  exact k_retN X0 hx (t := .boolean) Bd.returns (by simp) (hb hby d1_27) hlk (by decide) (by decide) (z' := (0 : Int32)) rfl ⟨N0, e0, (Or.inr ⟨hc57, rfl⟩)⟩
theorem pd_0 : parseMethodDescriptor "([BIIII)Z" = some ⟨[(.array .byte), .int, .int, .int, .int], some .boolean⟩ := by decide +kernel
abbrev R1_61 : Room := { frames := 0, cells := 0, slots := 0, locals := 0 }
def Q1_61 (Z : State) (a1 : Addr) (p2 : Int32) (p3 : Int32) (k4 : ClassId) (p5 : Int32) (p6 : Int32) (p7 : Int32) (p8 : Int32) (h0 : Heap) (n0 : Nat) (v : Option Value) (h : Heap) (L : List Loc) : Prop := Fr n0 L ∧ h = h0 ∧ (((1 : Int32) < p2 ∧ v = some (.int (0 : Int32))) ∨ (¬ (1 : Int32) < p2 ∧ v = some (.int (0 : Int32))))
theorem ef1_61 (m : MethodId) (x0 : Addr) (x2 : Int32) (x3 : Int32) (x4 : Int32) : entryFrame m #[(.ref x0), (.int (1 : Int32)), (.int x2), (.int x3), (.int x4)] 5 = mkF m 0 #[.val (.ref x0), .val (.int (1 : Int32)), .val (.int x2), .val (.int x3), .val (.int x4)] [] := by first | (simp [entryFrame, mkF, argsToLocals, Value.category]; done) | rfl
set_option maxRecDepth 65536 in
set_option maxHeartbeats 40000000 in
theorem rm1_61 (l : Launch) (Z : State) (a0 : Array Value) (hw : ∀ d ∈ tables_1, d.before a0 Z = true) (ws : List Jvm.Cond) (a1 : Addr) (p2 : Int32) (p3 : Int32) (k4 : ClassId) (p5 : Int32) (p6 : Int32) (p7 : Int32) (p8 : Int32) (h0 : Heap) (n0 : Nat) (Z0 : n0 ≤ h0.size) (F0_0 : Arv Z h0 a1 k4 .byte (4 : Int32) [(.int p5), (.int p6), (.int p7), (.int p8)] (.int (0 : Int32))) :
    MetFree l (⟨"com/example/corella/corella/hl7/DelimitersIndexOfPinLaw", "hit", "([BIIII)Z"⟩ : MethodName) (head1 (Jvm.Cond.code (⟨"com/example/corella/corella/hl7/DelimitersIndexOfPinLaw", "hit", "([BIIII)Z"⟩ : MethodName) method_2_code 5 (some .boolean) :: ws) R1_61) (fun a U => a = #[(.ref a1), (.int (1 : Int32)), (.int p2), (.int p2), (.int p3)] ∧ Z.Warmed39 U.vm ∧ U.heap = h0) (fun _ _ _ _ _ => True) (fun _ U o U' => ∃ v L, o = .returned v ∧ Q1_61 Z a1 p2 p3 k4 p5 p6 p7 p8 h0 n0 v U'.heap L ∧ FrameEnd U o U' L R1_61.cells R1_61.slots) := by
 refine MetFree.of_bodySF (plainFor_of_name pn_0) hisR ?_
 intro p e s m args below meth c s₁ Bd hml0 hP hK
 obtain ⟨rfl, hZ, hh⟩ := hP
 have hx := Bd.exec
 have hby := Bd.bytes
 have hml : c.maxLocals = 5 := hml0
 have hlk : meth.locks = false := Bd.notSynchronized
 have hown : s.vm.findClass "com/example/corella/corella/hl7/DelimitersIndexOfPinLaw" = some m.cls := findClass_of_methodNamed Bd.named
 have hnm := (name_of_methodNamed Bd.named Bd.method).1
 have X0 : Stand p l e R1_61 s m #[(.ref a1), (.int (1 : Int32)), (.int p2), (.int p2), (.int p3)] below meth c s₁ [] 0 0 := Stand.of_body Bd
 have e0 : s₁.heap = h0 := by rw [← hh, Bd.state]; rfl
 have N0 := Fr.nil n0
 rw [ef1_61 m a1 p2 p2 p3]
 show KEnds p e below s R1_61.cells R1_61.slots (Q1_61 Z a1 p2 p3 k4 p5 p6 p7 p8 h0 n0) s₁ (mkF m 0 #[.val (.ref a1), .val (.int (1 : Int32)), .val (.int p2), .val (.int p2), .val (.int p3)] [])
 refine k_iloadN X0 hx (hb hby d1_0) rfl (pc' := 1) rfl ?_
 refine k_iloadN X0 hx (hb hby d1_1) rfl (pc' := 2) rfl ?_
 refine k_icmp_gt X0 hx (hb hby d1_2) (pn := 5) rfl (py := 26) (by decide) (fun hc62 => ?_) (fun hc62 => ?_)
 ·
  refine k_iconst X0 hx (hb hby d1_26) (pc' := 27) rfl (z := (0 : Int32)) rfl ?_
  exact k_retN X0 hx (t := .boolean) Bd.returns (by simp) (hb hby d1_27) hlk (by decide) (by decide) (z' := (0 : Int32)) rfl ⟨N0, e0, (Or.inl ⟨hc62, rfl⟩)⟩
 ·
  refine k_iloadN X0 hx (hb hby d1_5) rfl (pc' := 6) rfl ?_
  refine k_iloadN X0 hx (hb hby d1_6) rfl (pc' := 7) rfl ?_
  refine k_icmp_ge X0 hx (hb hby d1_7) (pn := 10) rfl (py := 26) (by decide) (fun _ => ?_) (fun hc => absurd hc hc62)
  refine k_iconst X0 hx (hb hby d1_26) (pc' := 27) rfl (z := (0 : Int32)) rfl ?_
  exact k_retN X0 hx (t := .boolean) Bd.returns (by simp) (hb hby d1_27) hlk (by decide) (by decide) (z' := (0 : Int32)) rfl ⟨N0, e0, (Or.inr ⟨hc62, rfl⟩)⟩
abbrev R1_66 : Room := { frames := 0, cells := 0, slots := 0, locals := 0 }
def Q1_66 (Z : State) (a1 : Addr) (p2 : Int32) (p3 : Int32) (k4 : ClassId) (p5 : Int32) (p6 : Int32) (p7 : Int32) (p8 : Int32) (h0 : Heap) (n0 : Nat) (v : Option Value) (h : Heap) (L : List Loc) : Prop := Fr n0 L ∧ h = h0 ∧ (((2 : Int32) < p2 ∧ v = some (.int (0 : Int32))) ∨ (¬ (2 : Int32) < p2 ∧ v = some (.int (0 : Int32))))
theorem ef1_66 (m : MethodId) (x0 : Addr) (x2 : Int32) (x3 : Int32) (x4 : Int32) : entryFrame m #[(.ref x0), (.int (2 : Int32)), (.int x2), (.int x3), (.int x4)] 5 = mkF m 0 #[.val (.ref x0), .val (.int (2 : Int32)), .val (.int x2), .val (.int x3), .val (.int x4)] [] := by first | (simp [entryFrame, mkF, argsToLocals, Value.category]; done) | rfl
set_option maxRecDepth 65536 in
set_option maxHeartbeats 40000000 in
theorem rm1_66 (l : Launch) (Z : State) (a0 : Array Value) (hw : ∀ d ∈ tables_1, d.before a0 Z = true) (ws : List Jvm.Cond) (a1 : Addr) (p2 : Int32) (p3 : Int32) (k4 : ClassId) (p5 : Int32) (p6 : Int32) (p7 : Int32) (p8 : Int32) (h0 : Heap) (n0 : Nat) (Z0 : n0 ≤ h0.size) (F0_0 : Arv Z h0 a1 k4 .byte (4 : Int32) [(.int p5), (.int p6), (.int p7), (.int p8)] (.int (0 : Int32))) :
    MetFree l (⟨"com/example/corella/corella/hl7/DelimitersIndexOfPinLaw", "hit", "([BIIII)Z"⟩ : MethodName) (head1 (Jvm.Cond.code (⟨"com/example/corella/corella/hl7/DelimitersIndexOfPinLaw", "hit", "([BIIII)Z"⟩ : MethodName) method_2_code 5 (some .boolean) :: ws) R1_66) (fun a U => a = #[(.ref a1), (.int (2 : Int32)), (.int p2), (.int p2), (.int p3)] ∧ Z.Warmed39 U.vm ∧ U.heap = h0) (fun _ _ _ _ _ => True) (fun _ U o U' => ∃ v L, o = .returned v ∧ Q1_66 Z a1 p2 p3 k4 p5 p6 p7 p8 h0 n0 v U'.heap L ∧ FrameEnd U o U' L R1_66.cells R1_66.slots) := by
 refine MetFree.of_bodySF (plainFor_of_name pn_0) hisR ?_
 intro p e s m args below meth c s₁ Bd hml0 hP hK
 obtain ⟨rfl, hZ, hh⟩ := hP
 have hx := Bd.exec
 have hby := Bd.bytes
 have hml : c.maxLocals = 5 := hml0
 have hlk : meth.locks = false := Bd.notSynchronized
 have hown : s.vm.findClass "com/example/corella/corella/hl7/DelimitersIndexOfPinLaw" = some m.cls := findClass_of_methodNamed Bd.named
 have hnm := (name_of_methodNamed Bd.named Bd.method).1
 have X0 : Stand p l e R1_66 s m #[(.ref a1), (.int (2 : Int32)), (.int p2), (.int p2), (.int p3)] below meth c s₁ [] 0 0 := Stand.of_body Bd
 have e0 : s₁.heap = h0 := by rw [← hh, Bd.state]; rfl
 have N0 := Fr.nil n0
 rw [ef1_66 m a1 p2 p2 p3]
 show KEnds p e below s R1_66.cells R1_66.slots (Q1_66 Z a1 p2 p3 k4 p5 p6 p7 p8 h0 n0) s₁ (mkF m 0 #[.val (.ref a1), .val (.int (2 : Int32)), .val (.int p2), .val (.int p2), .val (.int p3)] [])
 refine k_iloadN X0 hx (hb hby d1_0) rfl (pc' := 1) rfl ?_
 refine k_iloadN X0 hx (hb hby d1_1) rfl (pc' := 2) rfl ?_
 refine k_icmp_gt X0 hx (hb hby d1_2) (pn := 5) rfl (py := 26) (by decide) (fun hc67 => ?_) (fun hc67 => ?_)
 ·
  refine k_iconst X0 hx (hb hby d1_26) (pc' := 27) rfl (z := (0 : Int32)) rfl ?_
  exact k_retN X0 hx (t := .boolean) Bd.returns (by simp) (hb hby d1_27) hlk (by decide) (by decide) (z' := (0 : Int32)) rfl ⟨N0, e0, (Or.inl ⟨hc67, rfl⟩)⟩
 ·
  refine k_iloadN X0 hx (hb hby d1_5) rfl (pc' := 6) rfl ?_
  refine k_iloadN X0 hx (hb hby d1_6) rfl (pc' := 7) rfl ?_
  refine k_icmp_ge X0 hx (hb hby d1_7) (pn := 10) rfl (py := 26) (by decide) (fun _ => ?_) (fun hc => absurd hc hc67)
  refine k_iconst X0 hx (hb hby d1_26) (pc' := 27) rfl (z := (0 : Int32)) rfl ?_
  exact k_retN X0 hx (t := .boolean) Bd.returns (by simp) (hb hby d1_27) hlk (by decide) (by decide) (z' := (0 : Int32)) rfl ⟨N0, e0, (Or.inr ⟨hc67, rfl⟩)⟩
abbrev R1_71 : Room := { frames := 0, cells := 0, slots := 0, locals := 0 }
def Q1_71 (Z : State) (a1 : Addr) (p2 : Int32) (p3 : Int32) (k4 : ClassId) (p5 : Int32) (p6 : Int32) (p7 : Int32) (p8 : Int32) (h0 : Heap) (n0 : Nat) (v : Option Value) (h : Heap) (L : List Loc) : Prop := Fr n0 L ∧ h = h0 ∧ (((3 : Int32) < p2 ∧ v = some (.int (0 : Int32))) ∨ (¬ (3 : Int32) < p2 ∧ v = some (.int (0 : Int32))))
theorem ef1_71 (m : MethodId) (x0 : Addr) (x2 : Int32) (x3 : Int32) (x4 : Int32) : entryFrame m #[(.ref x0), (.int (3 : Int32)), (.int x2), (.int x3), (.int x4)] 5 = mkF m 0 #[.val (.ref x0), .val (.int (3 : Int32)), .val (.int x2), .val (.int x3), .val (.int x4)] [] := by first | (simp [entryFrame, mkF, argsToLocals, Value.category]; done) | rfl
set_option maxRecDepth 65536 in
set_option maxHeartbeats 40000000 in
theorem rm1_71 (l : Launch) (Z : State) (a0 : Array Value) (hw : ∀ d ∈ tables_1, d.before a0 Z = true) (ws : List Jvm.Cond) (a1 : Addr) (p2 : Int32) (p3 : Int32) (k4 : ClassId) (p5 : Int32) (p6 : Int32) (p7 : Int32) (p8 : Int32) (h0 : Heap) (n0 : Nat) (Z0 : n0 ≤ h0.size) (F0_0 : Arv Z h0 a1 k4 .byte (4 : Int32) [(.int p5), (.int p6), (.int p7), (.int p8)] (.int (0 : Int32))) :
    MetFree l (⟨"com/example/corella/corella/hl7/DelimitersIndexOfPinLaw", "hit", "([BIIII)Z"⟩ : MethodName) (head1 (Jvm.Cond.code (⟨"com/example/corella/corella/hl7/DelimitersIndexOfPinLaw", "hit", "([BIIII)Z"⟩ : MethodName) method_2_code 5 (some .boolean) :: ws) R1_71) (fun a U => a = #[(.ref a1), (.int (3 : Int32)), (.int p2), (.int p2), (.int p3)] ∧ Z.Warmed39 U.vm ∧ U.heap = h0) (fun _ _ _ _ _ => True) (fun _ U o U' => ∃ v L, o = .returned v ∧ Q1_71 Z a1 p2 p3 k4 p5 p6 p7 p8 h0 n0 v U'.heap L ∧ FrameEnd U o U' L R1_71.cells R1_71.slots) := by
 refine MetFree.of_bodySF (plainFor_of_name pn_0) hisR ?_
 intro p e s m args below meth c s₁ Bd hml0 hP hK
 obtain ⟨rfl, hZ, hh⟩ := hP
 have hx := Bd.exec
 have hby := Bd.bytes
 have hml : c.maxLocals = 5 := hml0
 have hlk : meth.locks = false := Bd.notSynchronized
 have hown : s.vm.findClass "com/example/corella/corella/hl7/DelimitersIndexOfPinLaw" = some m.cls := findClass_of_methodNamed Bd.named
 have hnm := (name_of_methodNamed Bd.named Bd.method).1
 have X0 : Stand p l e R1_71 s m #[(.ref a1), (.int (3 : Int32)), (.int p2), (.int p2), (.int p3)] below meth c s₁ [] 0 0 := Stand.of_body Bd
 have e0 : s₁.heap = h0 := by rw [← hh, Bd.state]; rfl
 have N0 := Fr.nil n0
 rw [ef1_71 m a1 p2 p2 p3]
 show KEnds p e below s R1_71.cells R1_71.slots (Q1_71 Z a1 p2 p3 k4 p5 p6 p7 p8 h0 n0) s₁ (mkF m 0 #[.val (.ref a1), .val (.int (3 : Int32)), .val (.int p2), .val (.int p2), .val (.int p3)] [])
 refine k_iloadN X0 hx (hb hby d1_0) rfl (pc' := 1) rfl ?_
 refine k_iloadN X0 hx (hb hby d1_1) rfl (pc' := 2) rfl ?_
 refine k_icmp_gt X0 hx (hb hby d1_2) (pn := 5) rfl (py := 26) (by decide) (fun hc72 => ?_) (fun hc72 => ?_)
 ·
  refine k_iconst X0 hx (hb hby d1_26) (pc' := 27) rfl (z := (0 : Int32)) rfl ?_
  exact k_retN X0 hx (t := .boolean) Bd.returns (by simp) (hb hby d1_27) hlk (by decide) (by decide) (z' := (0 : Int32)) rfl ⟨N0, e0, (Or.inl ⟨hc72, rfl⟩)⟩
 ·
  refine k_iloadN X0 hx (hb hby d1_5) rfl (pc' := 6) rfl ?_
  refine k_iloadN X0 hx (hb hby d1_6) rfl (pc' := 7) rfl ?_
  refine k_icmp_ge X0 hx (hb hby d1_7) (pn := 10) rfl (py := 26) (by decide) (fun _ => ?_) (fun hc => absurd hc hc72)
  refine k_iconst X0 hx (hb hby d1_26) (pc' := 27) rfl (z := (0 : Int32)) rfl ?_
  exact k_retN X0 hx (t := .boolean) Bd.returns (by simp) (hb hby d1_27) hlk (by decide) (by decide) (z' := (0 : Int32)) rfl ⟨N0, e0, (Or.inr ⟨hc72, rfl⟩)⟩
theorem d2_0 : decode prog_107_method_20_code 0 = .ok (.iload_n 3, 1) := by decide +kernel
theorem d2_1 : decode prog_107_method_20_code 1 = .ok (.iconst (-1), 1) := by decide +kernel
theorem d2_2 : decode prog_107_method_20_code 2 = .ok (.if_icmp .ne 5, 3) := by decide +kernel
theorem d2_7 : decode prog_107_method_20_code 7 = .ok (.iload_n 1, 1) := by decide +kernel
theorem d2_8 : decode prog_107_method_20_code 8 = .ok (.istore 4, 2) := by decide +kernel
theorem d2_10 : decode prog_107_method_20_code 10 = .ok (.iload 4, 2) := by decide +kernel
theorem d2_12 : decode prog_107_method_20_code 12 = .ok (.iload_n 2, 1) := by decide +kernel
theorem d2_13 : decode prog_107_method_20_code 13 = .ok (.if_icmp .ge 24, 3) := by decide +kernel
theorem d2_37 : decode prog_107_method_20_code 37 = .ok (.iconst (-1), 1) := by decide +kernel
theorem d2_38 : decode prog_107_method_20_code 38 = .ok (.ireturn, 1) := by decide +kernel
theorem d2_5 : decode prog_107_method_20_code 5 = .ok (.iconst (-1), 1) := by decide +kernel
theorem d2_6 : decode prog_107_method_20_code 6 = .ok (.ireturn, 1) := by decide +kernel
abbrev R2_76 : Room := { frames := 0, cells := 0, slots := 0, locals := 0 }
def Q2_76 (Z : State) (a1 : Addr) (p2 : Int32) (k3 : ClassId) (p4 : Int32) (p5 : Int32) (p6 : Int32) (p7 : Int32) (h0 : Heap) (n0 : Nat) (v : Option Value) (h : Heap) (L : List Loc) : Prop := Fr n0 L ∧ h = h0 ∧ ((¬ p2 = (-1 : Int32) ∧ v = some (.int (-1 : Int32))) ∨ (p2 = (-1 : Int32) ∧ v = some (.int (-1 : Int32))))
theorem ef2_76 (m : MethodId) (x0 : Addr) (x3 : Int32) : entryFrame m #[(.ref x0), (.int (0 : Int32)), (.int (0 : Int32)), (.int x3)] 5 = mkF m 0 #[.val (.ref x0), .val (.int (0 : Int32)), .val (.int (0 : Int32)), .val (.int x3), .unset] [] := by first | (simp [entryFrame, mkF, argsToLocals, Value.category]; done) | rfl
theorem pn_1 : plainName "com/example/corella/corella/hl7/Delimiters" = true := by first | (simp [plainName, overriddenIn]; done) | decide +kernel
set_option maxRecDepth 65536 in
set_option maxHeartbeats 40000000 in
theorem rm2_76 (l : Launch) (Z : State) (a0 : Array Value) (hw : ∀ d ∈ tables_1, d.before a0 Z = true) (ws : List Jvm.Cond) (a1 : Addr) (p2 : Int32) (k3 : ClassId) (p4 : Int32) (p5 : Int32) (p6 : Int32) (p7 : Int32) (h0 : Heap) (n0 : Nat) (Z0 : n0 ≤ h0.size) (F0_0 : Arv Z h0 a1 k3 .byte (4 : Int32) [(.int p4), (.int p5), (.int p6), (.int p7)] (.int (0 : Int32))) :
    MetFree l (⟨"com/example/corella/corella/hl7/Delimiters", "indexOf", "([BIII)I"⟩ : MethodName) (head1 (Jvm.Cond.code (⟨"com/example/corella/corella/hl7/Delimiters", "indexOf", "([BIII)I"⟩ : MethodName) prog_107_method_20_code 5 (some .int) :: ws) R2_76) (fun a U => a = #[(.ref a1), (.int (0 : Int32)), (.int (0 : Int32)), (.int p2)] ∧ Z.Warmed39 U.vm ∧ U.heap = h0) (fun _ _ _ _ _ => True) (fun _ U o U' => ∃ v L, o = .returned v ∧ Q2_76 Z a1 p2 k3 p4 p5 p6 p7 h0 n0 v U'.heap L ∧ FrameEnd U o U' L R2_76.cells R2_76.slots) := by
 refine MetFree.of_bodySF (plainFor_of_name pn_1) hisR ?_
 intro p e s m args below meth c s₁ Bd hml0 hP hK
 obtain ⟨rfl, hZ, hh⟩ := hP
 have hx := Bd.exec
 have hby := Bd.bytes
 have hml : c.maxLocals = 5 := hml0
 have hlk : meth.locks = false := Bd.notSynchronized
 have hown : s.vm.findClass "com/example/corella/corella/hl7/Delimiters" = some m.cls := findClass_of_methodNamed Bd.named
 have hnm := (name_of_methodNamed Bd.named Bd.method).1
 have X0 : Stand p l e R2_76 s m #[(.ref a1), (.int (0 : Int32)), (.int (0 : Int32)), (.int p2)] below meth c s₁ [] 0 0 := Stand.of_body Bd
 have e0 : s₁.heap = h0 := by rw [← hh, Bd.state]; rfl
 have N0 := Fr.nil n0
 rw [ef2_76 m a1 p2]
 show KEnds p e below s R2_76.cells R2_76.slots (Q2_76 Z a1 p2 k3 p4 p5 p6 p7 h0 n0) s₁ (mkF m 0 #[.val (.ref a1), .val (.int (0 : Int32)), .val (.int (0 : Int32)), .val (.int p2), .unset] [])
 refine k_iloadN X0 hx (hb hby d2_0) rfl (pc' := 1) rfl ?_
 refine k_iconst X0 hx (hb hby d2_1) (pc' := 2) rfl (z := (-1 : Int32)) rfl ?_
 refine k_icmp_ne X0 hx (hb hby d2_2) (pn := 5) rfl (py := 7) (by decide) (fun hc77 => ?_) (fun hc77 => ?_)
 ·
  refine k_iloadN X0 hx (hb hby d2_7) rfl (pc' := 8) rfl ?_
  refine k_istore X0 hx (hb hby d2_8) (Ls' := #[.val (.ref a1), .val (.int (0 : Int32)), .val (.int (0 : Int32)), .val (.int p2), .val (.int (0 : Int32))]) rfl (pc' := 10) rfl ?_
  refine k_iload X0 hx (hb hby d2_10) rfl (pc' := 12) rfl ?_
  refine k_iloadN X0 hx (hb hby d2_12) rfl (pc' := 13) rfl ?_
  refine k_icmp_ge X0 hx (hb hby d2_13) (pn := 16) rfl (py := 37) (by decide) (fun _ => ?_) (fun hc => absurd hc (by decide))
  refine k_iconst X0 hx (hb hby d2_37) (pc' := 38) rfl (z := (-1 : Int32)) rfl ?_
  exact k_retI X0 hx Bd.returns (hb hby d2_38) hlk (by decide) (by decide) ⟨N0, e0, (Or.inl ⟨hc77, rfl⟩)⟩
 ·
  refine k_iconst X0 hx (hb hby d2_5) (pc' := 6) rfl (z := (-1 : Int32)) rfl ?_
  exact k_retI X0 hx Bd.returns (hb hby d2_6) hlk (by decide) (by decide) ⟨N0, e0, (Or.inr ⟨hc77, rfl⟩)⟩
theorem pd_1 : parseMethodDescriptor "([BIII)I" = some ⟨[(.array .byte), .int, .int, .int], some .int⟩ := by decide +kernel
theorem d1_10 : decode method_2_code 10 = .ok (.aload_n 0, 1) := by decide +kernel
theorem d1_11 : decode method_2_code 11 = .ok (.iload_n 1, 1) := by decide +kernel
theorem d1_12 : decode method_2_code 12 = .ok (.baload, 1) := by decide +kernel
theorem d1_13 : decode method_2_code 13 = .ok (.sipush 255, 3) := by decide +kernel
theorem d1_16 : decode method_2_code 16 = .ok (.iand, 1) := by decide +kernel
theorem d1_17 : decode method_2_code 17 = .ok (.iload 4, 2) := by decide +kernel
theorem d1_19 : decode method_2_code 19 = .ok (.if_icmp .ne 7, 3) := by decide +kernel
theorem d1_22 : decode method_2_code 22 = .ok (.iconst 1, 1) := by decide +kernel
theorem d1_23 : decode method_2_code 23 = .ok (.goto 4, 3) := by decide +kernel
abbrev R1_113 : Room := { frames := 0, cells := 0, slots := 0, locals := 0 }
def Q1_113 (Z : State) (a1 : Addr) (p2 : Int32) (p3 : Int32) (p4 : Int32) (k5 : ClassId) (p6 : Int32) (p7 : Int32) (p8 : Int32) (p9 : Int32) (h0 : Heap) (n0 : Nat) (v : Option Value) (h : Heap) (L : List Loc) : Prop := Fr n0 L ∧ h = h0 ∧ (((0 : Int32) < p2 ∧ v = some (.int (0 : Int32))) ∨ (¬ (0 : Int32) < p2 ∧ ¬ (0 : Int32) < p3 ∧ v = some (.int (0 : Int32))) ∨ (∃ (v116 : Int32), v116 = p6 &&& (255 : Int32) ∧ ¬ (0 : Int32) < p2 ∧ (0 : Int32) < p3 ∧ ¬ v116 = p4 ∧ v = some (.int (0 : Int32))) ∨ (∃ (v116 : Int32), v116 = p6 &&& (255 : Int32) ∧ ¬ (0 : Int32) < p2 ∧ (0 : Int32) < p3 ∧ v116 = p4 ∧ v = some (.int (1 : Int32))))
theorem ef1_113 (m : MethodId) (x0 : Addr) (x2 : Int32) (x3 : Int32) (x4 : Int32) : entryFrame m #[(.ref x0), (.int (0 : Int32)), (.int x2), (.int x3), (.int x4)] 5 = mkF m 0 #[.val (.ref x0), .val (.int (0 : Int32)), .val (.int x2), .val (.int x3), .val (.int x4)] [] := by first | (simp [entryFrame, mkF, argsToLocals, Value.category]; done) | rfl
set_option maxRecDepth 65536 in
set_option maxHeartbeats 40000000 in
theorem rm1_113 (l : Launch) (Z : State) (a0 : Array Value) (hw : ∀ d ∈ tables_1, d.before a0 Z = true) (ws : List Jvm.Cond) (a1 : Addr) (p2 : Int32) (p3 : Int32) (p4 : Int32) (k5 : ClassId) (p6 : Int32) (p7 : Int32) (p8 : Int32) (p9 : Int32) (h0 : Heap) (n0 : Nat) (Z0 : n0 ≤ h0.size) (F0_0 : Arv Z h0 a1 k5 .byte (4 : Int32) [(.int p6), (.int p7), (.int p8), (.int p9)] (.int (0 : Int32))) :
    MetFree l (⟨"com/example/corella/corella/hl7/DelimitersIndexOfPinLaw", "hit", "([BIIII)Z"⟩ : MethodName) (head1 (Jvm.Cond.code (⟨"com/example/corella/corella/hl7/DelimitersIndexOfPinLaw", "hit", "([BIIII)Z"⟩ : MethodName) method_2_code 5 (some .boolean) :: ws) R1_113) (fun a U => a = #[(.ref a1), (.int (0 : Int32)), (.int p2), (.int p3), (.int p4)] ∧ Z.Warmed39 U.vm ∧ U.heap = h0) (fun _ _ _ _ _ => True) (fun _ U o U' => ∃ v L, o = .returned v ∧ Q1_113 Z a1 p2 p3 p4 k5 p6 p7 p8 p9 h0 n0 v U'.heap L ∧ FrameEnd U o U' L R1_113.cells R1_113.slots) := by
 refine MetFree.of_bodySF (plainFor_of_name pn_0) hisR ?_
 intro p e s m args below meth c s₁ Bd hml0 hP hK
 obtain ⟨rfl, hZ, hh⟩ := hP
 have hx := Bd.exec
 have hby := Bd.bytes
 have hml : c.maxLocals = 5 := hml0
 have hlk : meth.locks = false := Bd.notSynchronized
 have hown : s.vm.findClass "com/example/corella/corella/hl7/DelimitersIndexOfPinLaw" = some m.cls := findClass_of_methodNamed Bd.named
 have hnm := (name_of_methodNamed Bd.named Bd.method).1
 have X0 : Stand p l e R1_113 s m #[(.ref a1), (.int (0 : Int32)), (.int p2), (.int p3), (.int p4)] below meth c s₁ [] 0 0 := Stand.of_body Bd
 have e0 : s₁.heap = h0 := by rw [← hh, Bd.state]; rfl
 have N0 := Fr.nil n0
 rw [ef1_113 m a1 p2 p3 p4]
 show KEnds p e below s R1_113.cells R1_113.slots (Q1_113 Z a1 p2 p3 p4 k5 p6 p7 p8 p9 h0 n0) s₁ (mkF m 0 #[.val (.ref a1), .val (.int (0 : Int32)), .val (.int p2), .val (.int p3), .val (.int p4)] [])
 refine k_iloadN X0 hx (hb hby d1_0) rfl (pc' := 1) rfl ?_
 refine k_iloadN X0 hx (hb hby d1_1) rfl (pc' := 2) rfl ?_
 refine k_icmp_gt X0 hx (hb hby d1_2) (pn := 5) rfl (py := 26) (by decide) (fun hc114 => ?_) (fun hc114 => ?_)
 ·
  refine k_iconst X0 hx (hb hby d1_26) (pc' := 27) rfl (z := (0 : Int32)) rfl ?_
  exact k_retN X0 hx (t := .boolean) Bd.returns (by simp) (hb hby d1_27) hlk (by decide) (by decide) (z' := (0 : Int32)) rfl ⟨N0, e0, (Or.inl ⟨hc114, rfl⟩)⟩
 ·
  refine k_iloadN X0 hx (hb hby d1_5) rfl (pc' := 6) rfl ?_
  refine k_iloadN X0 hx (hb hby d1_6) rfl (pc' := 7) rfl ?_
  refine k_icmp_ge X0 hx (hb hby d1_7) (pn := 10) rfl (py := 26) (by decide) (fun hc115 => ?_) (fun hc115 => ?_)
  ·
   refine k_iconst X0 hx (hb hby d1_26) (pc' := 27) rfl (z := (0 : Int32)) rfl ?_
   exact k_retN X0 hx (t := .boolean) Bd.returns (by simp) (hb hby d1_27) hlk (by decide) (by decide) (z' := (0 : Int32)) rfl ⟨N0, e0, (Or.inr (Or.inl ⟨hc114, hc115, rfl⟩))⟩
  ·
   refine k_aloadN X0 hx (hb hby d1_10) rfl rfl (pc' := 11) rfl ?_
   refine k_iloadN X0 hx (hb hby d1_11) rfl (pc' := 12) rfl ?_
   refine k_baload X0 hx hZ e0 F0_0 ⟨by decide, by decide⟩ (v := (.int p6)) rfl (hb hby d1_12) (pc' := 13) rfl ?_
   refine k_sipush X0 hx (hb hby d1_13) (pc' := 16) rfl (z := (255 : Int32)) rfl ?_
   refine k_iand X0 hx (hb hby d1_16) (pc' := 17) rfl (fun v116 hv116 => ?_)
   refine k_iload X0 hx (hb hby d1_17) rfl (pc' := 19) rfl ?_
   refine k_icmp_ne X0 hx (hb hby d1_19) (pn := 22) rfl (py := 26) (by decide) (fun hc117 => ?_) (fun hc117 => ?_)
   ·
    refine k_iconst X0 hx (hb hby d1_26) (pc' := 27) rfl (z := (0 : Int32)) rfl ?_
    exact k_retN X0 hx (t := .boolean) Bd.returns (by simp) (hb hby d1_27) hlk (by decide) (by decide) (z' := (0 : Int32)) rfl ⟨N0, e0, (Or.inr (Or.inr (Or.inl ⟨v116, hv116, hc114, hc115, hc117, rfl⟩)))⟩
   ·
    refine k_iconst X0 hx (hb hby d1_22) (pc' := 23) rfl (z := (1 : Int32)) rfl ?_
    refine k_goto X0 hx (hb hby d1_23) (pc' := 27) (by decide) ?_
    exact k_retN X0 hx (t := .boolean) Bd.returns (by simp) (hb hby d1_27) hlk (by decide) (by decide) (z' := (1 : Int32)) rfl ⟨N0, e0, (Or.inr (Or.inr (Or.inr ⟨v116, hv116, hc114, hc115, hc117, rfl⟩)))⟩
abbrev R1_132 : Room := { frames := 0, cells := 0, slots := 0, locals := 0 }
def Q1_132 (Z : State) (a1 : Addr) (p2 : Int32) (p3 : Int32) (p4 : Int32) (k5 : ClassId) (p6 : Int32) (p7 : Int32) (p8 : Int32) (p9 : Int32) (h0 : Heap) (n0 : Nat) (v : Option Value) (h : Heap) (L : List Loc) : Prop := Fr n0 L ∧ h = h0 ∧ (((1 : Int32) < p2 ∧ v = some (.int (0 : Int32))) ∨ (¬ (1 : Int32) < p2 ∧ ¬ (1 : Int32) < p3 ∧ v = some (.int (0 : Int32))) ∨ (∃ (v135 : Int32), v135 = p7 &&& (255 : Int32) ∧ ¬ (1 : Int32) < p2 ∧ (1 : Int32) < p3 ∧ ¬ v135 = p4 ∧ v = some (.int (0 : Int32))) ∨ (∃ (v135 : Int32), v135 = p7 &&& (255 : Int32) ∧ ¬ (1 : Int32) < p2 ∧ (1 : Int32) < p3 ∧ v135 = p4 ∧ v = some (.int (1 : Int32))))
theorem ef1_132 (m : MethodId) (x0 : Addr) (x2 : Int32) (x3 : Int32) (x4 : Int32) : entryFrame m #[(.ref x0), (.int (1 : Int32)), (.int x2), (.int x3), (.int x4)] 5 = mkF m 0 #[.val (.ref x0), .val (.int (1 : Int32)), .val (.int x2), .val (.int x3), .val (.int x4)] [] := by first | (simp [entryFrame, mkF, argsToLocals, Value.category]; done) | rfl
set_option maxRecDepth 65536 in
set_option maxHeartbeats 40000000 in
theorem rm1_132 (l : Launch) (Z : State) (a0 : Array Value) (hw : ∀ d ∈ tables_1, d.before a0 Z = true) (ws : List Jvm.Cond) (a1 : Addr) (p2 : Int32) (p3 : Int32) (p4 : Int32) (k5 : ClassId) (p6 : Int32) (p7 : Int32) (p8 : Int32) (p9 : Int32) (h0 : Heap) (n0 : Nat) (Z0 : n0 ≤ h0.size) (F0_0 : Arv Z h0 a1 k5 .byte (4 : Int32) [(.int p6), (.int p7), (.int p8), (.int p9)] (.int (0 : Int32))) :
    MetFree l (⟨"com/example/corella/corella/hl7/DelimitersIndexOfPinLaw", "hit", "([BIIII)Z"⟩ : MethodName) (head1 (Jvm.Cond.code (⟨"com/example/corella/corella/hl7/DelimitersIndexOfPinLaw", "hit", "([BIIII)Z"⟩ : MethodName) method_2_code 5 (some .boolean) :: ws) R1_132) (fun a U => a = #[(.ref a1), (.int (1 : Int32)), (.int p2), (.int p3), (.int p4)] ∧ Z.Warmed39 U.vm ∧ U.heap = h0) (fun _ _ _ _ _ => True) (fun _ U o U' => ∃ v L, o = .returned v ∧ Q1_132 Z a1 p2 p3 p4 k5 p6 p7 p8 p9 h0 n0 v U'.heap L ∧ FrameEnd U o U' L R1_132.cells R1_132.slots) := by
 refine MetFree.of_bodySF (plainFor_of_name pn_0) hisR ?_
 intro p e s m args below meth c s₁ Bd hml0 hP hK
 obtain ⟨rfl, hZ, hh⟩ := hP
 have hx := Bd.exec
 have hby := Bd.bytes
 have hml : c.maxLocals = 5 := hml0
 have hlk : meth.locks = false := Bd.notSynchronized
 have hown : s.vm.findClass "com/example/corella/corella/hl7/DelimitersIndexOfPinLaw" = some m.cls := findClass_of_methodNamed Bd.named
 have hnm := (name_of_methodNamed Bd.named Bd.method).1
 have X0 : Stand p l e R1_132 s m #[(.ref a1), (.int (1 : Int32)), (.int p2), (.int p3), (.int p4)] below meth c s₁ [] 0 0 := Stand.of_body Bd
 have e0 : s₁.heap = h0 := by rw [← hh, Bd.state]; rfl
 have N0 := Fr.nil n0
 rw [ef1_132 m a1 p2 p3 p4]
 show KEnds p e below s R1_132.cells R1_132.slots (Q1_132 Z a1 p2 p3 p4 k5 p6 p7 p8 p9 h0 n0) s₁ (mkF m 0 #[.val (.ref a1), .val (.int (1 : Int32)), .val (.int p2), .val (.int p3), .val (.int p4)] [])
 refine k_iloadN X0 hx (hb hby d1_0) rfl (pc' := 1) rfl ?_
 refine k_iloadN X0 hx (hb hby d1_1) rfl (pc' := 2) rfl ?_
 refine k_icmp_gt X0 hx (hb hby d1_2) (pn := 5) rfl (py := 26) (by decide) (fun hc133 => ?_) (fun hc133 => ?_)
 ·
  refine k_iconst X0 hx (hb hby d1_26) (pc' := 27) rfl (z := (0 : Int32)) rfl ?_
  exact k_retN X0 hx (t := .boolean) Bd.returns (by simp) (hb hby d1_27) hlk (by decide) (by decide) (z' := (0 : Int32)) rfl ⟨N0, e0, (Or.inl ⟨hc133, rfl⟩)⟩
 ·
  refine k_iloadN X0 hx (hb hby d1_5) rfl (pc' := 6) rfl ?_
  refine k_iloadN X0 hx (hb hby d1_6) rfl (pc' := 7) rfl ?_
  refine k_icmp_ge X0 hx (hb hby d1_7) (pn := 10) rfl (py := 26) (by decide) (fun hc134 => ?_) (fun hc134 => ?_)
  ·
   refine k_iconst X0 hx (hb hby d1_26) (pc' := 27) rfl (z := (0 : Int32)) rfl ?_
   exact k_retN X0 hx (t := .boolean) Bd.returns (by simp) (hb hby d1_27) hlk (by decide) (by decide) (z' := (0 : Int32)) rfl ⟨N0, e0, (Or.inr (Or.inl ⟨hc133, hc134, rfl⟩))⟩
  ·
   refine k_aloadN X0 hx (hb hby d1_10) rfl rfl (pc' := 11) rfl ?_
   refine k_iloadN X0 hx (hb hby d1_11) rfl (pc' := 12) rfl ?_
   refine k_baload X0 hx hZ e0 F0_0 ⟨by decide, by decide⟩ (v := (.int p7)) rfl (hb hby d1_12) (pc' := 13) rfl ?_
   refine k_sipush X0 hx (hb hby d1_13) (pc' := 16) rfl (z := (255 : Int32)) rfl ?_
   refine k_iand X0 hx (hb hby d1_16) (pc' := 17) rfl (fun v135 hv135 => ?_)
   refine k_iload X0 hx (hb hby d1_17) rfl (pc' := 19) rfl ?_
   refine k_icmp_ne X0 hx (hb hby d1_19) (pn := 22) rfl (py := 26) (by decide) (fun hc136 => ?_) (fun hc136 => ?_)
   ·
    refine k_iconst X0 hx (hb hby d1_26) (pc' := 27) rfl (z := (0 : Int32)) rfl ?_
    exact k_retN X0 hx (t := .boolean) Bd.returns (by simp) (hb hby d1_27) hlk (by decide) (by decide) (z' := (0 : Int32)) rfl ⟨N0, e0, (Or.inr (Or.inr (Or.inl ⟨v135, hv135, hc133, hc134, hc136, rfl⟩)))⟩
   ·
    refine k_iconst X0 hx (hb hby d1_22) (pc' := 23) rfl (z := (1 : Int32)) rfl ?_
    refine k_goto X0 hx (hb hby d1_23) (pc' := 27) (by decide) ?_
    exact k_retN X0 hx (t := .boolean) Bd.returns (by simp) (hb hby d1_27) hlk (by decide) (by decide) (z' := (1 : Int32)) rfl ⟨N0, e0, (Or.inr (Or.inr (Or.inr ⟨v135, hv135, hc133, hc134, hc136, rfl⟩)))⟩
abbrev R1_151 : Room := { frames := 0, cells := 0, slots := 0, locals := 0 }
def Q1_151 (Z : State) (a1 : Addr) (p2 : Int32) (p3 : Int32) (p4 : Int32) (k5 : ClassId) (p6 : Int32) (p7 : Int32) (p8 : Int32) (p9 : Int32) (h0 : Heap) (n0 : Nat) (v : Option Value) (h : Heap) (L : List Loc) : Prop := Fr n0 L ∧ h = h0 ∧ (((2 : Int32) < p2 ∧ v = some (.int (0 : Int32))) ∨ (¬ (2 : Int32) < p2 ∧ ¬ (2 : Int32) < p3 ∧ v = some (.int (0 : Int32))) ∨ (∃ (v154 : Int32), v154 = p8 &&& (255 : Int32) ∧ ¬ (2 : Int32) < p2 ∧ (2 : Int32) < p3 ∧ ¬ v154 = p4 ∧ v = some (.int (0 : Int32))) ∨ (∃ (v154 : Int32), v154 = p8 &&& (255 : Int32) ∧ ¬ (2 : Int32) < p2 ∧ (2 : Int32) < p3 ∧ v154 = p4 ∧ v = some (.int (1 : Int32))))
theorem ef1_151 (m : MethodId) (x0 : Addr) (x2 : Int32) (x3 : Int32) (x4 : Int32) : entryFrame m #[(.ref x0), (.int (2 : Int32)), (.int x2), (.int x3), (.int x4)] 5 = mkF m 0 #[.val (.ref x0), .val (.int (2 : Int32)), .val (.int x2), .val (.int x3), .val (.int x4)] [] := by first | (simp [entryFrame, mkF, argsToLocals, Value.category]; done) | rfl
set_option maxRecDepth 65536 in
set_option maxHeartbeats 40000000 in
theorem rm1_151 (l : Launch) (Z : State) (a0 : Array Value) (hw : ∀ d ∈ tables_1, d.before a0 Z = true) (ws : List Jvm.Cond) (a1 : Addr) (p2 : Int32) (p3 : Int32) (p4 : Int32) (k5 : ClassId) (p6 : Int32) (p7 : Int32) (p8 : Int32) (p9 : Int32) (h0 : Heap) (n0 : Nat) (Z0 : n0 ≤ h0.size) (F0_0 : Arv Z h0 a1 k5 .byte (4 : Int32) [(.int p6), (.int p7), (.int p8), (.int p9)] (.int (0 : Int32))) :
    MetFree l (⟨"com/example/corella/corella/hl7/DelimitersIndexOfPinLaw", "hit", "([BIIII)Z"⟩ : MethodName) (head1 (Jvm.Cond.code (⟨"com/example/corella/corella/hl7/DelimitersIndexOfPinLaw", "hit", "([BIIII)Z"⟩ : MethodName) method_2_code 5 (some .boolean) :: ws) R1_151) (fun a U => a = #[(.ref a1), (.int (2 : Int32)), (.int p2), (.int p3), (.int p4)] ∧ Z.Warmed39 U.vm ∧ U.heap = h0) (fun _ _ _ _ _ => True) (fun _ U o U' => ∃ v L, o = .returned v ∧ Q1_151 Z a1 p2 p3 p4 k5 p6 p7 p8 p9 h0 n0 v U'.heap L ∧ FrameEnd U o U' L R1_151.cells R1_151.slots) := by
 refine MetFree.of_bodySF (plainFor_of_name pn_0) hisR ?_
 intro p e s m args below meth c s₁ Bd hml0 hP hK
 obtain ⟨rfl, hZ, hh⟩ := hP
 have hx := Bd.exec
 have hby := Bd.bytes
 have hml : c.maxLocals = 5 := hml0
 have hlk : meth.locks = false := Bd.notSynchronized
 have hown : s.vm.findClass "com/example/corella/corella/hl7/DelimitersIndexOfPinLaw" = some m.cls := findClass_of_methodNamed Bd.named
 have hnm := (name_of_methodNamed Bd.named Bd.method).1
 have X0 : Stand p l e R1_151 s m #[(.ref a1), (.int (2 : Int32)), (.int p2), (.int p3), (.int p4)] below meth c s₁ [] 0 0 := Stand.of_body Bd
 have e0 : s₁.heap = h0 := by rw [← hh, Bd.state]; rfl
 have N0 := Fr.nil n0
 rw [ef1_151 m a1 p2 p3 p4]
 show KEnds p e below s R1_151.cells R1_151.slots (Q1_151 Z a1 p2 p3 p4 k5 p6 p7 p8 p9 h0 n0) s₁ (mkF m 0 #[.val (.ref a1), .val (.int (2 : Int32)), .val (.int p2), .val (.int p3), .val (.int p4)] [])
 refine k_iloadN X0 hx (hb hby d1_0) rfl (pc' := 1) rfl ?_
 refine k_iloadN X0 hx (hb hby d1_1) rfl (pc' := 2) rfl ?_
 refine k_icmp_gt X0 hx (hb hby d1_2) (pn := 5) rfl (py := 26) (by decide) (fun hc152 => ?_) (fun hc152 => ?_)
 ·
  refine k_iconst X0 hx (hb hby d1_26) (pc' := 27) rfl (z := (0 : Int32)) rfl ?_
  exact k_retN X0 hx (t := .boolean) Bd.returns (by simp) (hb hby d1_27) hlk (by decide) (by decide) (z' := (0 : Int32)) rfl ⟨N0, e0, (Or.inl ⟨hc152, rfl⟩)⟩
 ·
  refine k_iloadN X0 hx (hb hby d1_5) rfl (pc' := 6) rfl ?_
  refine k_iloadN X0 hx (hb hby d1_6) rfl (pc' := 7) rfl ?_
  refine k_icmp_ge X0 hx (hb hby d1_7) (pn := 10) rfl (py := 26) (by decide) (fun hc153 => ?_) (fun hc153 => ?_)
  ·
   refine k_iconst X0 hx (hb hby d1_26) (pc' := 27) rfl (z := (0 : Int32)) rfl ?_
   exact k_retN X0 hx (t := .boolean) Bd.returns (by simp) (hb hby d1_27) hlk (by decide) (by decide) (z' := (0 : Int32)) rfl ⟨N0, e0, (Or.inr (Or.inl ⟨hc152, hc153, rfl⟩))⟩
  ·
   refine k_aloadN X0 hx (hb hby d1_10) rfl rfl (pc' := 11) rfl ?_
   refine k_iloadN X0 hx (hb hby d1_11) rfl (pc' := 12) rfl ?_
   refine k_baload X0 hx hZ e0 F0_0 ⟨by decide, by decide⟩ (v := (.int p8)) rfl (hb hby d1_12) (pc' := 13) rfl ?_
   refine k_sipush X0 hx (hb hby d1_13) (pc' := 16) rfl (z := (255 : Int32)) rfl ?_
   refine k_iand X0 hx (hb hby d1_16) (pc' := 17) rfl (fun v154 hv154 => ?_)
   refine k_iload X0 hx (hb hby d1_17) rfl (pc' := 19) rfl ?_
   refine k_icmp_ne X0 hx (hb hby d1_19) (pn := 22) rfl (py := 26) (by decide) (fun hc155 => ?_) (fun hc155 => ?_)
   ·
    refine k_iconst X0 hx (hb hby d1_26) (pc' := 27) rfl (z := (0 : Int32)) rfl ?_
    exact k_retN X0 hx (t := .boolean) Bd.returns (by simp) (hb hby d1_27) hlk (by decide) (by decide) (z' := (0 : Int32)) rfl ⟨N0, e0, (Or.inr (Or.inr (Or.inl ⟨v154, hv154, hc152, hc153, hc155, rfl⟩)))⟩
   ·
    refine k_iconst X0 hx (hb hby d1_22) (pc' := 23) rfl (z := (1 : Int32)) rfl ?_
    refine k_goto X0 hx (hb hby d1_23) (pc' := 27) (by decide) ?_
    exact k_retN X0 hx (t := .boolean) Bd.returns (by simp) (hb hby d1_27) hlk (by decide) (by decide) (z' := (1 : Int32)) rfl ⟨N0, e0, (Or.inr (Or.inr (Or.inr ⟨v154, hv154, hc152, hc153, hc155, rfl⟩)))⟩
abbrev R1_170 : Room := { frames := 0, cells := 0, slots := 0, locals := 0 }
def Q1_170 (Z : State) (a1 : Addr) (p2 : Int32) (p3 : Int32) (p4 : Int32) (k5 : ClassId) (p6 : Int32) (p7 : Int32) (p8 : Int32) (p9 : Int32) (h0 : Heap) (n0 : Nat) (v : Option Value) (h : Heap) (L : List Loc) : Prop := Fr n0 L ∧ h = h0 ∧ (((3 : Int32) < p2 ∧ v = some (.int (0 : Int32))) ∨ (¬ (3 : Int32) < p2 ∧ ¬ (3 : Int32) < p3 ∧ v = some (.int (0 : Int32))) ∨ (∃ (v173 : Int32), v173 = p9 &&& (255 : Int32) ∧ ¬ (3 : Int32) < p2 ∧ (3 : Int32) < p3 ∧ ¬ v173 = p4 ∧ v = some (.int (0 : Int32))) ∨ (∃ (v173 : Int32), v173 = p9 &&& (255 : Int32) ∧ ¬ (3 : Int32) < p2 ∧ (3 : Int32) < p3 ∧ v173 = p4 ∧ v = some (.int (1 : Int32))))
theorem ef1_170 (m : MethodId) (x0 : Addr) (x2 : Int32) (x3 : Int32) (x4 : Int32) : entryFrame m #[(.ref x0), (.int (3 : Int32)), (.int x2), (.int x3), (.int x4)] 5 = mkF m 0 #[.val (.ref x0), .val (.int (3 : Int32)), .val (.int x2), .val (.int x3), .val (.int x4)] [] := by first | (simp [entryFrame, mkF, argsToLocals, Value.category]; done) | rfl
set_option maxRecDepth 65536 in
set_option maxHeartbeats 40000000 in
theorem rm1_170 (l : Launch) (Z : State) (a0 : Array Value) (hw : ∀ d ∈ tables_1, d.before a0 Z = true) (ws : List Jvm.Cond) (a1 : Addr) (p2 : Int32) (p3 : Int32) (p4 : Int32) (k5 : ClassId) (p6 : Int32) (p7 : Int32) (p8 : Int32) (p9 : Int32) (h0 : Heap) (n0 : Nat) (Z0 : n0 ≤ h0.size) (F0_0 : Arv Z h0 a1 k5 .byte (4 : Int32) [(.int p6), (.int p7), (.int p8), (.int p9)] (.int (0 : Int32))) :
    MetFree l (⟨"com/example/corella/corella/hl7/DelimitersIndexOfPinLaw", "hit", "([BIIII)Z"⟩ : MethodName) (head1 (Jvm.Cond.code (⟨"com/example/corella/corella/hl7/DelimitersIndexOfPinLaw", "hit", "([BIIII)Z"⟩ : MethodName) method_2_code 5 (some .boolean) :: ws) R1_170) (fun a U => a = #[(.ref a1), (.int (3 : Int32)), (.int p2), (.int p3), (.int p4)] ∧ Z.Warmed39 U.vm ∧ U.heap = h0) (fun _ _ _ _ _ => True) (fun _ U o U' => ∃ v L, o = .returned v ∧ Q1_170 Z a1 p2 p3 p4 k5 p6 p7 p8 p9 h0 n0 v U'.heap L ∧ FrameEnd U o U' L R1_170.cells R1_170.slots) := by
 refine MetFree.of_bodySF (plainFor_of_name pn_0) hisR ?_
 intro p e s m args below meth c s₁ Bd hml0 hP hK
 obtain ⟨rfl, hZ, hh⟩ := hP
 have hx := Bd.exec
 have hby := Bd.bytes
 have hml : c.maxLocals = 5 := hml0
 have hlk : meth.locks = false := Bd.notSynchronized
 have hown : s.vm.findClass "com/example/corella/corella/hl7/DelimitersIndexOfPinLaw" = some m.cls := findClass_of_methodNamed Bd.named
 have hnm := (name_of_methodNamed Bd.named Bd.method).1
 have X0 : Stand p l e R1_170 s m #[(.ref a1), (.int (3 : Int32)), (.int p2), (.int p3), (.int p4)] below meth c s₁ [] 0 0 := Stand.of_body Bd
 have e0 : s₁.heap = h0 := by rw [← hh, Bd.state]; rfl
 have N0 := Fr.nil n0
 rw [ef1_170 m a1 p2 p3 p4]
 show KEnds p e below s R1_170.cells R1_170.slots (Q1_170 Z a1 p2 p3 p4 k5 p6 p7 p8 p9 h0 n0) s₁ (mkF m 0 #[.val (.ref a1), .val (.int (3 : Int32)), .val (.int p2), .val (.int p3), .val (.int p4)] [])
 refine k_iloadN X0 hx (hb hby d1_0) rfl (pc' := 1) rfl ?_
 refine k_iloadN X0 hx (hb hby d1_1) rfl (pc' := 2) rfl ?_
 refine k_icmp_gt X0 hx (hb hby d1_2) (pn := 5) rfl (py := 26) (by decide) (fun hc171 => ?_) (fun hc171 => ?_)
 ·
  refine k_iconst X0 hx (hb hby d1_26) (pc' := 27) rfl (z := (0 : Int32)) rfl ?_
  exact k_retN X0 hx (t := .boolean) Bd.returns (by simp) (hb hby d1_27) hlk (by decide) (by decide) (z' := (0 : Int32)) rfl ⟨N0, e0, (Or.inl ⟨hc171, rfl⟩)⟩
 ·
  refine k_iloadN X0 hx (hb hby d1_5) rfl (pc' := 6) rfl ?_
  refine k_iloadN X0 hx (hb hby d1_6) rfl (pc' := 7) rfl ?_
  refine k_icmp_ge X0 hx (hb hby d1_7) (pn := 10) rfl (py := 26) (by decide) (fun hc172 => ?_) (fun hc172 => ?_)
  ·
   refine k_iconst X0 hx (hb hby d1_26) (pc' := 27) rfl (z := (0 : Int32)) rfl ?_
   exact k_retN X0 hx (t := .boolean) Bd.returns (by simp) (hb hby d1_27) hlk (by decide) (by decide) (z' := (0 : Int32)) rfl ⟨N0, e0, (Or.inr (Or.inl ⟨hc171, hc172, rfl⟩))⟩
  ·
   refine k_aloadN X0 hx (hb hby d1_10) rfl rfl (pc' := 11) rfl ?_
   refine k_iloadN X0 hx (hb hby d1_11) rfl (pc' := 12) rfl ?_
   refine k_baload X0 hx hZ e0 F0_0 ⟨by decide, by decide⟩ (v := (.int p9)) rfl (hb hby d1_12) (pc' := 13) rfl ?_
   refine k_sipush X0 hx (hb hby d1_13) (pc' := 16) rfl (z := (255 : Int32)) rfl ?_
   refine k_iand X0 hx (hb hby d1_16) (pc' := 17) rfl (fun v173 hv173 => ?_)
   refine k_iload X0 hx (hb hby d1_17) rfl (pc' := 19) rfl ?_
   refine k_icmp_ne X0 hx (hb hby d1_19) (pn := 22) rfl (py := 26) (by decide) (fun hc174 => ?_) (fun hc174 => ?_)
   ·
    refine k_iconst X0 hx (hb hby d1_26) (pc' := 27) rfl (z := (0 : Int32)) rfl ?_
    exact k_retN X0 hx (t := .boolean) Bd.returns (by simp) (hb hby d1_27) hlk (by decide) (by decide) (z' := (0 : Int32)) rfl ⟨N0, e0, (Or.inr (Or.inr (Or.inl ⟨v173, hv173, hc171, hc172, hc174, rfl⟩)))⟩
   ·
    refine k_iconst X0 hx (hb hby d1_22) (pc' := 23) rfl (z := (1 : Int32)) rfl ?_
    refine k_goto X0 hx (hb hby d1_23) (pc' := 27) (by decide) ?_
    exact k_retN X0 hx (t := .boolean) Bd.returns (by simp) (hb hby d1_27) hlk (by decide) (by decide) (z' := (1 : Int32)) rfl ⟨N0, e0, (Or.inr (Or.inr (Or.inr ⟨v173, hv173, hc171, hc172, hc174, rfl⟩)))⟩
theorem d2_16 : decode prog_107_method_20_code 16 = .ok (.aload_n 0, 1) := by decide +kernel
theorem d2_17 : decode prog_107_method_20_code 17 = .ok (.iload 4, 2) := by decide +kernel
theorem d2_19 : decode prog_107_method_20_code 19 = .ok (.baload, 1) := by decide +kernel
theorem d2_20 : decode prog_107_method_20_code 20 = .ok (.sipush 255, 3) := by decide +kernel
theorem d2_23 : decode prog_107_method_20_code 23 = .ok (.iand, 1) := by decide +kernel
theorem d2_24 : decode prog_107_method_20_code 24 = .ok (.iload_n 3, 1) := by decide +kernel
theorem d2_25 : decode prog_107_method_20_code 25 = .ok (.if_icmp .ne 6, 3) := by decide +kernel
theorem d2_31 : decode prog_107_method_20_code 31 = .ok (.iinc 4 1, 3) := by decide +kernel
theorem d2_34 : decode prog_107_method_20_code 34 = .ok (.goto (-24), 3) := by decide +kernel
theorem d2_28 : decode prog_107_method_20_code 28 = .ok (.iload 4, 2) := by decide +kernel
theorem d2_30 : decode prog_107_method_20_code 30 = .ok (.ireturn, 1) := by decide +kernel
abbrev R2_189 : Room := { frames := 0, cells := 0, slots := 0, locals := 0 }
def Q2_189 (Z : State) (a1 : Addr) (p2 : Int32) (k3 : ClassId) (p4 : Int32) (p5 : Int32) (p6 : Int32) (p7 : Int32) (h0 : Heap) (n0 : Nat) (v : Option Value) (h : Heap) (L : List Loc) : Prop := Fr n0 L ∧ h = h0 ∧ ((∃ (v191 : Int32), v191 = p4 &&& (255 : Int32) ∧ ¬ p2 = (-1 : Int32) ∧ ¬ v191 = p2 ∧ v = some (.int (-1 : Int32))) ∨ (∃ (v191 : Int32), v191 = p4 &&& (255 : Int32) ∧ ¬ p2 = (-1 : Int32) ∧ v191 = p2 ∧ v = some (.int (0 : Int32))) ∨ (p2 = (-1 : Int32) ∧ v = some (.int (-1 : Int32))))
theorem ef2_189 (m : MethodId) (x0 : Addr) (x3 : Int32) : entryFrame m #[(.ref x0), (.int (0 : Int32)), (.int (1 : Int32)), (.int x3)] 5 = mkF m 0 #[.val (.ref x0), .val (.int (0 : Int32)), .val (.int (1 : Int32)), .val (.int x3), .unset] [] := by first | (simp [entryFrame, mkF, argsToLocals, Value.category]; done) | rfl
set_option maxRecDepth 65536 in
set_option maxHeartbeats 40000000 in
theorem rm2_189 (l : Launch) (Z : State) (a0 : Array Value) (hw : ∀ d ∈ tables_1, d.before a0 Z = true) (ws : List Jvm.Cond) (a1 : Addr) (p2 : Int32) (k3 : ClassId) (p4 : Int32) (p5 : Int32) (p6 : Int32) (p7 : Int32) (h0 : Heap) (n0 : Nat) (Z0 : n0 ≤ h0.size) (F0_0 : Arv Z h0 a1 k3 .byte (4 : Int32) [(.int p4), (.int p5), (.int p6), (.int p7)] (.int (0 : Int32))) :
    MetFree l (⟨"com/example/corella/corella/hl7/Delimiters", "indexOf", "([BIII)I"⟩ : MethodName) (head1 (Jvm.Cond.code (⟨"com/example/corella/corella/hl7/Delimiters", "indexOf", "([BIII)I"⟩ : MethodName) prog_107_method_20_code 5 (some .int) :: ws) R2_189) (fun a U => a = #[(.ref a1), (.int (0 : Int32)), (.int (1 : Int32)), (.int p2)] ∧ Z.Warmed39 U.vm ∧ U.heap = h0) (fun _ _ _ _ _ => True) (fun _ U o U' => ∃ v L, o = .returned v ∧ Q2_189 Z a1 p2 k3 p4 p5 p6 p7 h0 n0 v U'.heap L ∧ FrameEnd U o U' L R2_189.cells R2_189.slots) := by
 refine MetFree.of_bodySF (plainFor_of_name pn_1) hisR ?_
 intro p e s m args below meth c s₁ Bd hml0 hP hK
 obtain ⟨rfl, hZ, hh⟩ := hP
 have hx := Bd.exec
 have hby := Bd.bytes
 have hml : c.maxLocals = 5 := hml0
 have hlk : meth.locks = false := Bd.notSynchronized
 have hown : s.vm.findClass "com/example/corella/corella/hl7/Delimiters" = some m.cls := findClass_of_methodNamed Bd.named
 have hnm := (name_of_methodNamed Bd.named Bd.method).1
 have X0 : Stand p l e R2_189 s m #[(.ref a1), (.int (0 : Int32)), (.int (1 : Int32)), (.int p2)] below meth c s₁ [] 0 0 := Stand.of_body Bd
 have e0 : s₁.heap = h0 := by rw [← hh, Bd.state]; rfl
 have N0 := Fr.nil n0
 rw [ef2_189 m a1 p2]
 show KEnds p e below s R2_189.cells R2_189.slots (Q2_189 Z a1 p2 k3 p4 p5 p6 p7 h0 n0) s₁ (mkF m 0 #[.val (.ref a1), .val (.int (0 : Int32)), .val (.int (1 : Int32)), .val (.int p2), .unset] [])
 refine k_iloadN X0 hx (hb hby d2_0) rfl (pc' := 1) rfl ?_
 refine k_iconst X0 hx (hb hby d2_1) (pc' := 2) rfl (z := (-1 : Int32)) rfl ?_
 refine k_icmp_ne X0 hx (hb hby d2_2) (pn := 5) rfl (py := 7) (by decide) (fun hc190 => ?_) (fun hc190 => ?_)
 ·
  refine k_iloadN X0 hx (hb hby d2_7) rfl (pc' := 8) rfl ?_
  refine k_istore X0 hx (hb hby d2_8) (Ls' := #[.val (.ref a1), .val (.int (0 : Int32)), .val (.int (1 : Int32)), .val (.int p2), .val (.int (0 : Int32))]) rfl (pc' := 10) rfl ?_
  refine k_iload X0 hx (hb hby d2_10) rfl (pc' := 12) rfl ?_
  refine k_iloadN X0 hx (hb hby d2_12) rfl (pc' := 13) rfl ?_
  refine k_icmp_ge X0 hx (hb hby d2_13) (pn := 16) rfl (py := 37) (by decide) (fun hc => absurd (by decide) hc) (fun _ => ?_)
  refine k_aloadN X0 hx (hb hby d2_16) rfl rfl (pc' := 17) rfl ?_
  refine k_iload X0 hx (hb hby d2_17) rfl (pc' := 19) rfl ?_
  refine k_baload X0 hx hZ e0 F0_0 ⟨by decide, by decide⟩ (v := (.int p4)) rfl (hb hby d2_19) (pc' := 20) rfl ?_
  refine k_sipush X0 hx (hb hby d2_20) (pc' := 23) rfl (z := (255 : Int32)) rfl ?_
  refine k_iand X0 hx (hb hby d2_23) (pc' := 24) rfl (fun v191 hv191 => ?_)
  refine k_iloadN X0 hx (hb hby d2_24) rfl (pc' := 25) rfl ?_
  refine k_icmp_ne X0 hx (hb hby d2_25) (pn := 28) rfl (py := 31) (by decide) (fun hc192 => ?_) (fun hc192 => ?_)
  ·
   refine k_iinc X0 hx (hb hby d2_31) rfl (pc' := 34) rfl (z := (1 : Int32)) (by decide) (Ls' := #[.val (.ref a1), .val (.int (0 : Int32)), .val (.int (1 : Int32)), .val (.int p2), .val (.int (1 : Int32))]) rfl ?_
   refine k_goto X0 hx (hb hby d2_34) (pc' := 10) (by decide) ?_
   refine k_iload X0 hx (hb hby d2_10) rfl (pc' := 12) rfl ?_
   refine k_iloadN X0 hx (hb hby d2_12) rfl (pc' := 13) rfl ?_
   refine k_icmp_ge X0 hx (hb hby d2_13) (pn := 16) rfl (py := 37) (by decide) (fun _ => ?_) (fun hc => absurd hc (by decide))
   refine k_iconst X0 hx (hb hby d2_37) (pc' := 38) rfl (z := (-1 : Int32)) rfl ?_
   exact k_retI X0 hx Bd.returns (hb hby d2_38) hlk (by decide) (by decide) ⟨N0, e0, (Or.inl ⟨v191, hv191, hc190, hc192, rfl⟩)⟩
  ·
   refine k_iload X0 hx (hb hby d2_28) rfl (pc' := 30) rfl ?_
   exact k_retI X0 hx Bd.returns (hb hby d2_30) hlk (by decide) (by decide) ⟨N0, e0, (Or.inr (Or.inl ⟨v191, hv191, hc190, hc192, rfl⟩))⟩
 ·
  refine k_iconst X0 hx (hb hby d2_5) (pc' := 6) rfl (z := (-1 : Int32)) rfl ?_
  exact k_retI X0 hx Bd.returns (hb hby d2_6) hlk (by decide) (by decide) ⟨N0, e0, (Or.inr (Or.inr ⟨hc190, rfl⟩))⟩
abbrev R2_312 : Room := { frames := 0, cells := 0, slots := 0, locals := 0 }
def Q2_312 (Z : State) (a1 : Addr) (p2 : Int32) (k3 : ClassId) (p4 : Int32) (p5 : Int32) (p6 : Int32) (p7 : Int32) (h0 : Heap) (n0 : Nat) (v : Option Value) (h : Heap) (L : List Loc) : Prop := Fr n0 L ∧ h = h0 ∧ ((∃ (v314 : Int32) (v316 : Int32), v314 = p4 &&& (255 : Int32) ∧ v316 = p5 &&& (255 : Int32) ∧ ¬ p2 = (-1 : Int32) ∧ ¬ v314 = p2 ∧ ¬ v316 = p2 ∧ v = some (.int (-1 : Int32))) ∨ (∃ (v314 : Int32) (v316 : Int32), v314 = p4 &&& (255 : Int32) ∧ v316 = p5 &&& (255 : Int32) ∧ ¬ p2 = (-1 : Int32) ∧ ¬ v314 = p2 ∧ v316 = p2 ∧ v = some (.int (1 : Int32))) ∨ (∃ (v314 : Int32), v314 = p4 &&& (255 : Int32) ∧ ¬ p2 = (-1 : Int32) ∧ v314 = p2 ∧ v = some (.int (0 : Int32))) ∨ (p2 = (-1 : Int32) ∧ v = some (.int (-1 : Int32))))
theorem ef2_312 (m : MethodId) (x0 : Addr) (x3 : Int32) : entryFrame m #[(.ref x0), (.int (0 : Int32)), (.int (2 : Int32)), (.int x3)] 5 = mkF m 0 #[.val (.ref x0), .val (.int (0 : Int32)), .val (.int (2 : Int32)), .val (.int x3), .unset] [] := by first | (simp [entryFrame, mkF, argsToLocals, Value.category]; done) | rfl
set_option maxRecDepth 65536 in
set_option maxHeartbeats 40000000 in
theorem rm2_312 (l : Launch) (Z : State) (a0 : Array Value) (hw : ∀ d ∈ tables_1, d.before a0 Z = true) (ws : List Jvm.Cond) (a1 : Addr) (p2 : Int32) (k3 : ClassId) (p4 : Int32) (p5 : Int32) (p6 : Int32) (p7 : Int32) (h0 : Heap) (n0 : Nat) (Z0 : n0 ≤ h0.size) (F0_0 : Arv Z h0 a1 k3 .byte (4 : Int32) [(.int p4), (.int p5), (.int p6), (.int p7)] (.int (0 : Int32))) :
    MetFree l (⟨"com/example/corella/corella/hl7/Delimiters", "indexOf", "([BIII)I"⟩ : MethodName) (head1 (Jvm.Cond.code (⟨"com/example/corella/corella/hl7/Delimiters", "indexOf", "([BIII)I"⟩ : MethodName) prog_107_method_20_code 5 (some .int) :: ws) R2_312) (fun a U => a = #[(.ref a1), (.int (0 : Int32)), (.int (2 : Int32)), (.int p2)] ∧ Z.Warmed39 U.vm ∧ U.heap = h0) (fun _ _ _ _ _ => True) (fun _ U o U' => ∃ v L, o = .returned v ∧ Q2_312 Z a1 p2 k3 p4 p5 p6 p7 h0 n0 v U'.heap L ∧ FrameEnd U o U' L R2_312.cells R2_312.slots) := by
 refine MetFree.of_bodySF (plainFor_of_name pn_1) hisR ?_
 intro p e s m args below meth c s₁ Bd hml0 hP hK
 obtain ⟨rfl, hZ, hh⟩ := hP
 have hx := Bd.exec
 have hby := Bd.bytes
 have hml : c.maxLocals = 5 := hml0
 have hlk : meth.locks = false := Bd.notSynchronized
 have hown : s.vm.findClass "com/example/corella/corella/hl7/Delimiters" = some m.cls := findClass_of_methodNamed Bd.named
 have hnm := (name_of_methodNamed Bd.named Bd.method).1
 have X0 : Stand p l e R2_312 s m #[(.ref a1), (.int (0 : Int32)), (.int (2 : Int32)), (.int p2)] below meth c s₁ [] 0 0 := Stand.of_body Bd
 have e0 : s₁.heap = h0 := by rw [← hh, Bd.state]; rfl
 have N0 := Fr.nil n0
 rw [ef2_312 m a1 p2]
 show KEnds p e below s R2_312.cells R2_312.slots (Q2_312 Z a1 p2 k3 p4 p5 p6 p7 h0 n0) s₁ (mkF m 0 #[.val (.ref a1), .val (.int (0 : Int32)), .val (.int (2 : Int32)), .val (.int p2), .unset] [])
 refine k_iloadN X0 hx (hb hby d2_0) rfl (pc' := 1) rfl ?_
 refine k_iconst X0 hx (hb hby d2_1) (pc' := 2) rfl (z := (-1 : Int32)) rfl ?_
 refine k_icmp_ne X0 hx (hb hby d2_2) (pn := 5) rfl (py := 7) (by decide) (fun hc313 => ?_) (fun hc313 => ?_)
 ·
  refine k_iloadN X0 hx (hb hby d2_7) rfl (pc' := 8) rfl ?_
  refine k_istore X0 hx (hb hby d2_8) (Ls' := #[.val (.ref a1), .val (.int (0 : Int32)), .val (.int (2 : Int32)), .val (.int p2), .val (.int (0 : Int32))]) rfl (pc' := 10) rfl ?_
  refine k_iload X0 hx (hb hby d2_10) rfl (pc' := 12) rfl ?_
  refine k_iloadN X0 hx (hb hby d2_12) rfl (pc' := 13) rfl ?_
  refine k_icmp_ge X0 hx (hb hby d2_13) (pn := 16) rfl (py := 37) (by decide) (fun hc => absurd (by decide) hc) (fun _ => ?_)
  refine k_aloadN X0 hx (hb hby d2_16) rfl rfl (pc' := 17) rfl ?_
  refine k_iload X0 hx (hb hby d2_17) rfl (pc' := 19) rfl ?_
  refine k_baload X0 hx hZ e0 F0_0 ⟨by decide, by decide⟩ (v := (.int p4)) rfl (hb hby d2_19) (pc' := 20) rfl ?_
  refine k_sipush X0 hx (hb hby d2_20) (pc' := 23) rfl (z := (255 : Int32)) rfl ?_
  refine k_iand X0 hx (hb hby d2_23) (pc' := 24) rfl (fun v314 hv314 => ?_)
  refine k_iloadN X0 hx (hb hby d2_24) rfl (pc' := 25) rfl ?_
  refine k_icmp_ne X0 hx (hb hby d2_25) (pn := 28) rfl (py := 31) (by decide) (fun hc315 => ?_) (fun hc315 => ?_)
  ·
   refine k_iinc X0 hx (hb hby d2_31) rfl (pc' := 34) rfl (z := (1 : Int32)) (by decide) (Ls' := #[.val (.ref a1), .val (.int (0 : Int32)), .val (.int (2 : Int32)), .val (.int p2), .val (.int (1 : Int32))]) rfl ?_
   refine k_goto X0 hx (hb hby d2_34) (pc' := 10) (by decide) ?_
   refine k_iload X0 hx (hb hby d2_10) rfl (pc' := 12) rfl ?_
   refine k_iloadN X0 hx (hb hby d2_12) rfl (pc' := 13) rfl ?_
   refine k_icmp_ge X0 hx (hb hby d2_13) (pn := 16) rfl (py := 37) (by decide) (fun hc => absurd (by decide) hc) (fun _ => ?_)
   refine k_aloadN X0 hx (hb hby d2_16) rfl rfl (pc' := 17) rfl ?_
   refine k_iload X0 hx (hb hby d2_17) rfl (pc' := 19) rfl ?_
   refine k_baload X0 hx hZ e0 F0_0 ⟨by decide, by decide⟩ (v := (.int p5)) rfl (hb hby d2_19) (pc' := 20) rfl ?_
   refine k_sipush X0 hx (hb hby d2_20) (pc' := 23) rfl (z := (255 : Int32)) rfl ?_
   refine k_iand X0 hx (hb hby d2_23) (pc' := 24) rfl (fun v316 hv316 => ?_)
   refine k_iloadN X0 hx (hb hby d2_24) rfl (pc' := 25) rfl ?_
   refine k_icmp_ne X0 hx (hb hby d2_25) (pn := 28) rfl (py := 31) (by decide) (fun hc317 => ?_) (fun hc317 => ?_)
   ·
    refine k_iinc X0 hx (hb hby d2_31) rfl (pc' := 34) rfl (z := (2 : Int32)) (by decide) (Ls' := #[.val (.ref a1), .val (.int (0 : Int32)), .val (.int (2 : Int32)), .val (.int p2), .val (.int (2 : Int32))]) rfl ?_
    refine k_goto X0 hx (hb hby d2_34) (pc' := 10) (by decide) ?_
    refine k_iload X0 hx (hb hby d2_10) rfl (pc' := 12) rfl ?_
    refine k_iloadN X0 hx (hb hby d2_12) rfl (pc' := 13) rfl ?_
    refine k_icmp_ge X0 hx (hb hby d2_13) (pn := 16) rfl (py := 37) (by decide) (fun _ => ?_) (fun hc => absurd hc (by decide))
    refine k_iconst X0 hx (hb hby d2_37) (pc' := 38) rfl (z := (-1 : Int32)) rfl ?_
    exact k_retI X0 hx Bd.returns (hb hby d2_38) hlk (by decide) (by decide) ⟨N0, e0, (Or.inl ⟨v314, v316, hv314, hv316, hc313, hc315, hc317, rfl⟩)⟩
   ·
    refine k_iload X0 hx (hb hby d2_28) rfl (pc' := 30) rfl ?_
    exact k_retI X0 hx Bd.returns (hb hby d2_30) hlk (by decide) (by decide) ⟨N0, e0, (Or.inr (Or.inl ⟨v314, v316, hv314, hv316, hc313, hc315, hc317, rfl⟩))⟩
  ·
   refine k_iload X0 hx (hb hby d2_28) rfl (pc' := 30) rfl ?_
   exact k_retI X0 hx Bd.returns (hb hby d2_30) hlk (by decide) (by decide) ⟨N0, e0, (Or.inr (Or.inr (Or.inl ⟨v314, hv314, hc313, hc315, rfl⟩)))⟩
 ·
  refine k_iconst X0 hx (hb hby d2_5) (pc' := 6) rfl (z := (-1 : Int32)) rfl ?_
  exact k_retI X0 hx Bd.returns (hb hby d2_6) hlk (by decide) (by decide) ⟨N0, e0, (Or.inr (Or.inr (Or.inr ⟨hc313, rfl⟩)))⟩
abbrev R2_496 : Room := { frames := 0, cells := 0, slots := 0, locals := 0 }
def Q2_496 (Z : State) (a1 : Addr) (p2 : Int32) (k3 : ClassId) (p4 : Int32) (p5 : Int32) (p6 : Int32) (p7 : Int32) (h0 : Heap) (n0 : Nat) (v : Option Value) (h : Heap) (L : List Loc) : Prop := Fr n0 L ∧ h = h0 ∧ ((∃ (v498 : Int32) (v500 : Int32) (v502 : Int32), v498 = p4 &&& (255 : Int32) ∧ v500 = p5 &&& (255 : Int32) ∧ v502 = p6 &&& (255 : Int32) ∧ ¬ p2 = (-1 : Int32) ∧ ¬ v498 = p2 ∧ ¬ v500 = p2 ∧ ¬ v502 = p2 ∧ v = some (.int (-1 : Int32))) ∨ (∃ (v498 : Int32) (v500 : Int32) (v502 : Int32), v498 = p4 &&& (255 : Int32) ∧ v500 = p5 &&& (255 : Int32) ∧ v502 = p6 &&& (255 : Int32) ∧ ¬ p2 = (-1 : Int32) ∧ ¬ v498 = p2 ∧ ¬ v500 = p2 ∧ v502 = p2 ∧ v = some (.int (2 : Int32))) ∨ (∃ (v498 : Int32) (v500 : Int32), v498 = p4 &&& (255 : Int32) ∧ v500 = p5 &&& (255 : Int32) ∧ ¬ p2 = (-1 : Int32) ∧ ¬ v498 = p2 ∧ v500 = p2 ∧ v = some (.int (1 : Int32))) ∨ (∃ (v498 : Int32), v498 = p4 &&& (255 : Int32) ∧ ¬ p2 = (-1 : Int32) ∧ v498 = p2 ∧ v = some (.int (0 : Int32))) ∨ (p2 = (-1 : Int32) ∧ v = some (.int (-1 : Int32))))
theorem ef2_496 (m : MethodId) (x0 : Addr) (x3 : Int32) : entryFrame m #[(.ref x0), (.int (0 : Int32)), (.int (3 : Int32)), (.int x3)] 5 = mkF m 0 #[.val (.ref x0), .val (.int (0 : Int32)), .val (.int (3 : Int32)), .val (.int x3), .unset] [] := by first | (simp [entryFrame, mkF, argsToLocals, Value.category]; done) | rfl
set_option maxRecDepth 65536 in
set_option maxHeartbeats 40000000 in
theorem rm2_496 (l : Launch) (Z : State) (a0 : Array Value) (hw : ∀ d ∈ tables_1, d.before a0 Z = true) (ws : List Jvm.Cond) (a1 : Addr) (p2 : Int32) (k3 : ClassId) (p4 : Int32) (p5 : Int32) (p6 : Int32) (p7 : Int32) (h0 : Heap) (n0 : Nat) (Z0 : n0 ≤ h0.size) (F0_0 : Arv Z h0 a1 k3 .byte (4 : Int32) [(.int p4), (.int p5), (.int p6), (.int p7)] (.int (0 : Int32))) :
    MetFree l (⟨"com/example/corella/corella/hl7/Delimiters", "indexOf", "([BIII)I"⟩ : MethodName) (head1 (Jvm.Cond.code (⟨"com/example/corella/corella/hl7/Delimiters", "indexOf", "([BIII)I"⟩ : MethodName) prog_107_method_20_code 5 (some .int) :: ws) R2_496) (fun a U => a = #[(.ref a1), (.int (0 : Int32)), (.int (3 : Int32)), (.int p2)] ∧ Z.Warmed39 U.vm ∧ U.heap = h0) (fun _ _ _ _ _ => True) (fun _ U o U' => ∃ v L, o = .returned v ∧ Q2_496 Z a1 p2 k3 p4 p5 p6 p7 h0 n0 v U'.heap L ∧ FrameEnd U o U' L R2_496.cells R2_496.slots) := by
 refine MetFree.of_bodySF (plainFor_of_name pn_1) hisR ?_
 intro p e s m args below meth c s₁ Bd hml0 hP hK
 obtain ⟨rfl, hZ, hh⟩ := hP
 have hx := Bd.exec
 have hby := Bd.bytes
 have hml : c.maxLocals = 5 := hml0
 have hlk : meth.locks = false := Bd.notSynchronized
 have hown : s.vm.findClass "com/example/corella/corella/hl7/Delimiters" = some m.cls := findClass_of_methodNamed Bd.named
 have hnm := (name_of_methodNamed Bd.named Bd.method).1
 have X0 : Stand p l e R2_496 s m #[(.ref a1), (.int (0 : Int32)), (.int (3 : Int32)), (.int p2)] below meth c s₁ [] 0 0 := Stand.of_body Bd
 have e0 : s₁.heap = h0 := by rw [← hh, Bd.state]; rfl
 have N0 := Fr.nil n0
 rw [ef2_496 m a1 p2]
 show KEnds p e below s R2_496.cells R2_496.slots (Q2_496 Z a1 p2 k3 p4 p5 p6 p7 h0 n0) s₁ (mkF m 0 #[.val (.ref a1), .val (.int (0 : Int32)), .val (.int (3 : Int32)), .val (.int p2), .unset] [])
 refine k_iloadN X0 hx (hb hby d2_0) rfl (pc' := 1) rfl ?_
 refine k_iconst X0 hx (hb hby d2_1) (pc' := 2) rfl (z := (-1 : Int32)) rfl ?_
 refine k_icmp_ne X0 hx (hb hby d2_2) (pn := 5) rfl (py := 7) (by decide) (fun hc497 => ?_) (fun hc497 => ?_)
 ·
  refine k_iloadN X0 hx (hb hby d2_7) rfl (pc' := 8) rfl ?_
  refine k_istore X0 hx (hb hby d2_8) (Ls' := #[.val (.ref a1), .val (.int (0 : Int32)), .val (.int (3 : Int32)), .val (.int p2), .val (.int (0 : Int32))]) rfl (pc' := 10) rfl ?_
  refine k_iload X0 hx (hb hby d2_10) rfl (pc' := 12) rfl ?_
  refine k_iloadN X0 hx (hb hby d2_12) rfl (pc' := 13) rfl ?_
  refine k_icmp_ge X0 hx (hb hby d2_13) (pn := 16) rfl (py := 37) (by decide) (fun hc => absurd (by decide) hc) (fun _ => ?_)
  refine k_aloadN X0 hx (hb hby d2_16) rfl rfl (pc' := 17) rfl ?_
  refine k_iload X0 hx (hb hby d2_17) rfl (pc' := 19) rfl ?_
  refine k_baload X0 hx hZ e0 F0_0 ⟨by decide, by decide⟩ (v := (.int p4)) rfl (hb hby d2_19) (pc' := 20) rfl ?_
  refine k_sipush X0 hx (hb hby d2_20) (pc' := 23) rfl (z := (255 : Int32)) rfl ?_
  refine k_iand X0 hx (hb hby d2_23) (pc' := 24) rfl (fun v498 hv498 => ?_)
  refine k_iloadN X0 hx (hb hby d2_24) rfl (pc' := 25) rfl ?_
  refine k_icmp_ne X0 hx (hb hby d2_25) (pn := 28) rfl (py := 31) (by decide) (fun hc499 => ?_) (fun hc499 => ?_)
  ·
   refine k_iinc X0 hx (hb hby d2_31) rfl (pc' := 34) rfl (z := (1 : Int32)) (by decide) (Ls' := #[.val (.ref a1), .val (.int (0 : Int32)), .val (.int (3 : Int32)), .val (.int p2), .val (.int (1 : Int32))]) rfl ?_
   refine k_goto X0 hx (hb hby d2_34) (pc' := 10) (by decide) ?_
   refine k_iload X0 hx (hb hby d2_10) rfl (pc' := 12) rfl ?_
   refine k_iloadN X0 hx (hb hby d2_12) rfl (pc' := 13) rfl ?_
   refine k_icmp_ge X0 hx (hb hby d2_13) (pn := 16) rfl (py := 37) (by decide) (fun hc => absurd (by decide) hc) (fun _ => ?_)
   refine k_aloadN X0 hx (hb hby d2_16) rfl rfl (pc' := 17) rfl ?_
   refine k_iload X0 hx (hb hby d2_17) rfl (pc' := 19) rfl ?_
   refine k_baload X0 hx hZ e0 F0_0 ⟨by decide, by decide⟩ (v := (.int p5)) rfl (hb hby d2_19) (pc' := 20) rfl ?_
   refine k_sipush X0 hx (hb hby d2_20) (pc' := 23) rfl (z := (255 : Int32)) rfl ?_
   refine k_iand X0 hx (hb hby d2_23) (pc' := 24) rfl (fun v500 hv500 => ?_)
   refine k_iloadN X0 hx (hb hby d2_24) rfl (pc' := 25) rfl ?_
   refine k_icmp_ne X0 hx (hb hby d2_25) (pn := 28) rfl (py := 31) (by decide) (fun hc501 => ?_) (fun hc501 => ?_)
   ·
    refine k_iinc X0 hx (hb hby d2_31) rfl (pc' := 34) rfl (z := (2 : Int32)) (by decide) (Ls' := #[.val (.ref a1), .val (.int (0 : Int32)), .val (.int (3 : Int32)), .val (.int p2), .val (.int (2 : Int32))]) rfl ?_
    refine k_goto X0 hx (hb hby d2_34) (pc' := 10) (by decide) ?_
    refine k_iload X0 hx (hb hby d2_10) rfl (pc' := 12) rfl ?_
    refine k_iloadN X0 hx (hb hby d2_12) rfl (pc' := 13) rfl ?_
    refine k_icmp_ge X0 hx (hb hby d2_13) (pn := 16) rfl (py := 37) (by decide) (fun hc => absurd (by decide) hc) (fun _ => ?_)
    refine k_aloadN X0 hx (hb hby d2_16) rfl rfl (pc' := 17) rfl ?_
    refine k_iload X0 hx (hb hby d2_17) rfl (pc' := 19) rfl ?_
    refine k_baload X0 hx hZ e0 F0_0 ⟨by decide, by decide⟩ (v := (.int p6)) rfl (hb hby d2_19) (pc' := 20) rfl ?_
    refine k_sipush X0 hx (hb hby d2_20) (pc' := 23) rfl (z := (255 : Int32)) rfl ?_
    refine k_iand X0 hx (hb hby d2_23) (pc' := 24) rfl (fun v502 hv502 => ?_)
    refine k_iloadN X0 hx (hb hby d2_24) rfl (pc' := 25) rfl ?_
    refine k_icmp_ne X0 hx (hb hby d2_25) (pn := 28) rfl (py := 31) (by decide) (fun hc503 => ?_) (fun hc503 => ?_)
    ·
     refine k_iinc X0 hx (hb hby d2_31) rfl (pc' := 34) rfl (z := (3 : Int32)) (by decide) (Ls' := #[.val (.ref a1), .val (.int (0 : Int32)), .val (.int (3 : Int32)), .val (.int p2), .val (.int (3 : Int32))]) rfl ?_
     refine k_goto X0 hx (hb hby d2_34) (pc' := 10) (by decide) ?_
     refine k_iload X0 hx (hb hby d2_10) rfl (pc' := 12) rfl ?_
     refine k_iloadN X0 hx (hb hby d2_12) rfl (pc' := 13) rfl ?_
     refine k_icmp_ge X0 hx (hb hby d2_13) (pn := 16) rfl (py := 37) (by decide) (fun _ => ?_) (fun hc => absurd hc (by decide))
     refine k_iconst X0 hx (hb hby d2_37) (pc' := 38) rfl (z := (-1 : Int32)) rfl ?_
     exact k_retI X0 hx Bd.returns (hb hby d2_38) hlk (by decide) (by decide) ⟨N0, e0, (Or.inl ⟨v498, v500, v502, hv498, hv500, hv502, hc497, hc499, hc501, hc503, rfl⟩)⟩
    ·
     refine k_iload X0 hx (hb hby d2_28) rfl (pc' := 30) rfl ?_
     exact k_retI X0 hx Bd.returns (hb hby d2_30) hlk (by decide) (by decide) ⟨N0, e0, (Or.inr (Or.inl ⟨v498, v500, v502, hv498, hv500, hv502, hc497, hc499, hc501, hc503, rfl⟩))⟩
   ·
    refine k_iload X0 hx (hb hby d2_28) rfl (pc' := 30) rfl ?_
    exact k_retI X0 hx Bd.returns (hb hby d2_30) hlk (by decide) (by decide) ⟨N0, e0, (Or.inr (Or.inr (Or.inl ⟨v498, v500, hv498, hv500, hc497, hc499, hc501, rfl⟩)))⟩
  ·
   refine k_iload X0 hx (hb hby d2_28) rfl (pc' := 30) rfl ?_
   exact k_retI X0 hx Bd.returns (hb hby d2_30) hlk (by decide) (by decide) ⟨N0, e0, (Or.inr (Or.inr (Or.inr (Or.inl ⟨v498, hv498, hc497, hc499, rfl⟩))))⟩
 ·
  refine k_iconst X0 hx (hb hby d2_5) (pc' := 6) rfl (z := (-1 : Int32)) rfl ?_
  exact k_retI X0 hx Bd.returns (hb hby d2_6) hlk (by decide) (by decide) ⟨N0, e0, (Or.inr (Or.inr (Or.inr (Or.inr ⟨hc497, rfl⟩))))⟩
abbrev R2_783 : Room := { frames := 0, cells := 0, slots := 0, locals := 0 }
def Q2_783 (Z : State) (a1 : Addr) (p2 : Int32) (k3 : ClassId) (p4 : Int32) (p5 : Int32) (p6 : Int32) (p7 : Int32) (h0 : Heap) (n0 : Nat) (v : Option Value) (h : Heap) (L : List Loc) : Prop := Fr n0 L ∧ h = h0 ∧ ((∃ (v785 : Int32) (v787 : Int32) (v789 : Int32) (v791 : Int32), v785 = p4 &&& (255 : Int32) ∧ v787 = p5 &&& (255 : Int32) ∧ v789 = p6 &&& (255 : Int32) ∧ v791 = p7 &&& (255 : Int32) ∧ ¬ p2 = (-1 : Int32) ∧ ¬ v785 = p2 ∧ ¬ v787 = p2 ∧ ¬ v789 = p2 ∧ ¬ v791 = p2 ∧ v = some (.int (-1 : Int32))) ∨ (∃ (v785 : Int32) (v787 : Int32) (v789 : Int32) (v791 : Int32), v785 = p4 &&& (255 : Int32) ∧ v787 = p5 &&& (255 : Int32) ∧ v789 = p6 &&& (255 : Int32) ∧ v791 = p7 &&& (255 : Int32) ∧ ¬ p2 = (-1 : Int32) ∧ ¬ v785 = p2 ∧ ¬ v787 = p2 ∧ ¬ v789 = p2 ∧ v791 = p2 ∧ v = some (.int (3 : Int32))) ∨ (∃ (v785 : Int32) (v787 : Int32) (v789 : Int32), v785 = p4 &&& (255 : Int32) ∧ v787 = p5 &&& (255 : Int32) ∧ v789 = p6 &&& (255 : Int32) ∧ ¬ p2 = (-1 : Int32) ∧ ¬ v785 = p2 ∧ ¬ v787 = p2 ∧ v789 = p2 ∧ v = some (.int (2 : Int32))) ∨ (∃ (v785 : Int32) (v787 : Int32), v785 = p4 &&& (255 : Int32) ∧ v787 = p5 &&& (255 : Int32) ∧ ¬ p2 = (-1 : Int32) ∧ ¬ v785 = p2 ∧ v787 = p2 ∧ v = some (.int (1 : Int32))) ∨ (∃ (v785 : Int32), v785 = p4 &&& (255 : Int32) ∧ ¬ p2 = (-1 : Int32) ∧ v785 = p2 ∧ v = some (.int (0 : Int32))) ∨ (p2 = (-1 : Int32) ∧ v = some (.int (-1 : Int32))))
theorem ef2_783 (m : MethodId) (x0 : Addr) (x3 : Int32) : entryFrame m #[(.ref x0), (.int (0 : Int32)), (.int (4 : Int32)), (.int x3)] 5 = mkF m 0 #[.val (.ref x0), .val (.int (0 : Int32)), .val (.int (4 : Int32)), .val (.int x3), .unset] [] := by first | (simp [entryFrame, mkF, argsToLocals, Value.category]; done) | rfl
set_option maxRecDepth 65536 in
set_option maxHeartbeats 40000000 in
theorem rm2_783 (l : Launch) (Z : State) (a0 : Array Value) (hw : ∀ d ∈ tables_1, d.before a0 Z = true) (ws : List Jvm.Cond) (a1 : Addr) (p2 : Int32) (k3 : ClassId) (p4 : Int32) (p5 : Int32) (p6 : Int32) (p7 : Int32) (h0 : Heap) (n0 : Nat) (Z0 : n0 ≤ h0.size) (F0_0 : Arv Z h0 a1 k3 .byte (4 : Int32) [(.int p4), (.int p5), (.int p6), (.int p7)] (.int (0 : Int32))) :
    MetFree l (⟨"com/example/corella/corella/hl7/Delimiters", "indexOf", "([BIII)I"⟩ : MethodName) (head1 (Jvm.Cond.code (⟨"com/example/corella/corella/hl7/Delimiters", "indexOf", "([BIII)I"⟩ : MethodName) prog_107_method_20_code 5 (some .int) :: ws) R2_783) (fun a U => a = #[(.ref a1), (.int (0 : Int32)), (.int (4 : Int32)), (.int p2)] ∧ Z.Warmed39 U.vm ∧ U.heap = h0) (fun _ _ _ _ _ => True) (fun _ U o U' => ∃ v L, o = .returned v ∧ Q2_783 Z a1 p2 k3 p4 p5 p6 p7 h0 n0 v U'.heap L ∧ FrameEnd U o U' L R2_783.cells R2_783.slots) := by
 refine MetFree.of_bodySF (plainFor_of_name pn_1) hisR ?_
 intro p e s m args below meth c s₁ Bd hml0 hP hK
 obtain ⟨rfl, hZ, hh⟩ := hP
 have hx := Bd.exec
 have hby := Bd.bytes
 have hml : c.maxLocals = 5 := hml0
 have hlk : meth.locks = false := Bd.notSynchronized
 have hown : s.vm.findClass "com/example/corella/corella/hl7/Delimiters" = some m.cls := findClass_of_methodNamed Bd.named
 have hnm := (name_of_methodNamed Bd.named Bd.method).1
 have X0 : Stand p l e R2_783 s m #[(.ref a1), (.int (0 : Int32)), (.int (4 : Int32)), (.int p2)] below meth c s₁ [] 0 0 := Stand.of_body Bd
 have e0 : s₁.heap = h0 := by rw [← hh, Bd.state]; rfl
 have N0 := Fr.nil n0
 rw [ef2_783 m a1 p2]
 show KEnds p e below s R2_783.cells R2_783.slots (Q2_783 Z a1 p2 k3 p4 p5 p6 p7 h0 n0) s₁ (mkF m 0 #[.val (.ref a1), .val (.int (0 : Int32)), .val (.int (4 : Int32)), .val (.int p2), .unset] [])
 refine k_iloadN X0 hx (hb hby d2_0) rfl (pc' := 1) rfl ?_
 refine k_iconst X0 hx (hb hby d2_1) (pc' := 2) rfl (z := (-1 : Int32)) rfl ?_
 refine k_icmp_ne X0 hx (hb hby d2_2) (pn := 5) rfl (py := 7) (by decide) (fun hc784 => ?_) (fun hc784 => ?_)
 ·
  refine k_iloadN X0 hx (hb hby d2_7) rfl (pc' := 8) rfl ?_
  refine k_istore X0 hx (hb hby d2_8) (Ls' := #[.val (.ref a1), .val (.int (0 : Int32)), .val (.int (4 : Int32)), .val (.int p2), .val (.int (0 : Int32))]) rfl (pc' := 10) rfl ?_
  refine k_iload X0 hx (hb hby d2_10) rfl (pc' := 12) rfl ?_
  refine k_iloadN X0 hx (hb hby d2_12) rfl (pc' := 13) rfl ?_
  refine k_icmp_ge X0 hx (hb hby d2_13) (pn := 16) rfl (py := 37) (by decide) (fun hc => absurd (by decide) hc) (fun _ => ?_)
  refine k_aloadN X0 hx (hb hby d2_16) rfl rfl (pc' := 17) rfl ?_
  refine k_iload X0 hx (hb hby d2_17) rfl (pc' := 19) rfl ?_
  refine k_baload X0 hx hZ e0 F0_0 ⟨by decide, by decide⟩ (v := (.int p4)) rfl (hb hby d2_19) (pc' := 20) rfl ?_
  refine k_sipush X0 hx (hb hby d2_20) (pc' := 23) rfl (z := (255 : Int32)) rfl ?_
  refine k_iand X0 hx (hb hby d2_23) (pc' := 24) rfl (fun v785 hv785 => ?_)
  refine k_iloadN X0 hx (hb hby d2_24) rfl (pc' := 25) rfl ?_
  refine k_icmp_ne X0 hx (hb hby d2_25) (pn := 28) rfl (py := 31) (by decide) (fun hc786 => ?_) (fun hc786 => ?_)
  ·
   refine k_iinc X0 hx (hb hby d2_31) rfl (pc' := 34) rfl (z := (1 : Int32)) (by decide) (Ls' := #[.val (.ref a1), .val (.int (0 : Int32)), .val (.int (4 : Int32)), .val (.int p2), .val (.int (1 : Int32))]) rfl ?_
   refine k_goto X0 hx (hb hby d2_34) (pc' := 10) (by decide) ?_
   refine k_iload X0 hx (hb hby d2_10) rfl (pc' := 12) rfl ?_
   refine k_iloadN X0 hx (hb hby d2_12) rfl (pc' := 13) rfl ?_
   refine k_icmp_ge X0 hx (hb hby d2_13) (pn := 16) rfl (py := 37) (by decide) (fun hc => absurd (by decide) hc) (fun _ => ?_)
   refine k_aloadN X0 hx (hb hby d2_16) rfl rfl (pc' := 17) rfl ?_
   refine k_iload X0 hx (hb hby d2_17) rfl (pc' := 19) rfl ?_
   refine k_baload X0 hx hZ e0 F0_0 ⟨by decide, by decide⟩ (v := (.int p5)) rfl (hb hby d2_19) (pc' := 20) rfl ?_
   refine k_sipush X0 hx (hb hby d2_20) (pc' := 23) rfl (z := (255 : Int32)) rfl ?_
   refine k_iand X0 hx (hb hby d2_23) (pc' := 24) rfl (fun v787 hv787 => ?_)
   refine k_iloadN X0 hx (hb hby d2_24) rfl (pc' := 25) rfl ?_
   refine k_icmp_ne X0 hx (hb hby d2_25) (pn := 28) rfl (py := 31) (by decide) (fun hc788 => ?_) (fun hc788 => ?_)
   ·
    refine k_iinc X0 hx (hb hby d2_31) rfl (pc' := 34) rfl (z := (2 : Int32)) (by decide) (Ls' := #[.val (.ref a1), .val (.int (0 : Int32)), .val (.int (4 : Int32)), .val (.int p2), .val (.int (2 : Int32))]) rfl ?_
    refine k_goto X0 hx (hb hby d2_34) (pc' := 10) (by decide) ?_
    refine k_iload X0 hx (hb hby d2_10) rfl (pc' := 12) rfl ?_
    refine k_iloadN X0 hx (hb hby d2_12) rfl (pc' := 13) rfl ?_
    refine k_icmp_ge X0 hx (hb hby d2_13) (pn := 16) rfl (py := 37) (by decide) (fun hc => absurd (by decide) hc) (fun _ => ?_)
    refine k_aloadN X0 hx (hb hby d2_16) rfl rfl (pc' := 17) rfl ?_
    refine k_iload X0 hx (hb hby d2_17) rfl (pc' := 19) rfl ?_
    refine k_baload X0 hx hZ e0 F0_0 ⟨by decide, by decide⟩ (v := (.int p6)) rfl (hb hby d2_19) (pc' := 20) rfl ?_
    refine k_sipush X0 hx (hb hby d2_20) (pc' := 23) rfl (z := (255 : Int32)) rfl ?_
    refine k_iand X0 hx (hb hby d2_23) (pc' := 24) rfl (fun v789 hv789 => ?_)
    refine k_iloadN X0 hx (hb hby d2_24) rfl (pc' := 25) rfl ?_
    refine k_icmp_ne X0 hx (hb hby d2_25) (pn := 28) rfl (py := 31) (by decide) (fun hc790 => ?_) (fun hc790 => ?_)
    ·
     refine k_iinc X0 hx (hb hby d2_31) rfl (pc' := 34) rfl (z := (3 : Int32)) (by decide) (Ls' := #[.val (.ref a1), .val (.int (0 : Int32)), .val (.int (4 : Int32)), .val (.int p2), .val (.int (3 : Int32))]) rfl ?_
     refine k_goto X0 hx (hb hby d2_34) (pc' := 10) (by decide) ?_
     refine k_iload X0 hx (hb hby d2_10) rfl (pc' := 12) rfl ?_
     refine k_iloadN X0 hx (hb hby d2_12) rfl (pc' := 13) rfl ?_
     refine k_icmp_ge X0 hx (hb hby d2_13) (pn := 16) rfl (py := 37) (by decide) (fun hc => absurd (by decide) hc) (fun _ => ?_)
     refine k_aloadN X0 hx (hb hby d2_16) rfl rfl (pc' := 17) rfl ?_
     refine k_iload X0 hx (hb hby d2_17) rfl (pc' := 19) rfl ?_
     refine k_baload X0 hx hZ e0 F0_0 ⟨by decide, by decide⟩ (v := (.int p7)) rfl (hb hby d2_19) (pc' := 20) rfl ?_
     refine k_sipush X0 hx (hb hby d2_20) (pc' := 23) rfl (z := (255 : Int32)) rfl ?_
     refine k_iand X0 hx (hb hby d2_23) (pc' := 24) rfl (fun v791 hv791 => ?_)
     refine k_iloadN X0 hx (hb hby d2_24) rfl (pc' := 25) rfl ?_
     refine k_icmp_ne X0 hx (hb hby d2_25) (pn := 28) rfl (py := 31) (by decide) (fun hc792 => ?_) (fun hc792 => ?_)
     ·
      refine k_iinc X0 hx (hb hby d2_31) rfl (pc' := 34) rfl (z := (4 : Int32)) (by decide) (Ls' := #[.val (.ref a1), .val (.int (0 : Int32)), .val (.int (4 : Int32)), .val (.int p2), .val (.int (4 : Int32))]) rfl ?_
      refine k_goto X0 hx (hb hby d2_34) (pc' := 10) (by decide) ?_
      refine k_iload X0 hx (hb hby d2_10) rfl (pc' := 12) rfl ?_
      refine k_iloadN X0 hx (hb hby d2_12) rfl (pc' := 13) rfl ?_
      refine k_icmp_ge X0 hx (hb hby d2_13) (pn := 16) rfl (py := 37) (by decide) (fun _ => ?_) (fun hc => absurd hc (by decide))
      refine k_iconst X0 hx (hb hby d2_37) (pc' := 38) rfl (z := (-1 : Int32)) rfl ?_
      exact k_retI X0 hx Bd.returns (hb hby d2_38) hlk (by decide) (by decide) ⟨N0, e0, (Or.inl ⟨v785, v787, v789, v791, hv785, hv787, hv789, hv791, hc784, hc786, hc788, hc790, hc792, rfl⟩)⟩
     ·
      refine k_iload X0 hx (hb hby d2_28) rfl (pc' := 30) rfl ?_
      exact k_retI X0 hx Bd.returns (hb hby d2_30) hlk (by decide) (by decide) ⟨N0, e0, (Or.inr (Or.inl ⟨v785, v787, v789, v791, hv785, hv787, hv789, hv791, hc784, hc786, hc788, hc790, hc792, rfl⟩))⟩
    ·
     refine k_iload X0 hx (hb hby d2_28) rfl (pc' := 30) rfl ?_
     exact k_retI X0 hx Bd.returns (hb hby d2_30) hlk (by decide) (by decide) ⟨N0, e0, (Or.inr (Or.inr (Or.inl ⟨v785, v787, v789, hv785, hv787, hv789, hc784, hc786, hc788, hc790, rfl⟩)))⟩
   ·
    refine k_iload X0 hx (hb hby d2_28) rfl (pc' := 30) rfl ?_
    exact k_retI X0 hx Bd.returns (hb hby d2_30) hlk (by decide) (by decide) ⟨N0, e0, (Or.inr (Or.inr (Or.inr (Or.inl ⟨v785, v787, hv785, hv787, hc784, hc786, hc788, rfl⟩))))⟩
  ·
   refine k_iload X0 hx (hb hby d2_28) rfl (pc' := 30) rfl ?_
   exact k_retI X0 hx Bd.returns (hb hby d2_30) hlk (by decide) (by decide) ⟨N0, e0, (Or.inr (Or.inr (Or.inr (Or.inr (Or.inl ⟨v785, hv785, hc784, hc786, rfl⟩)))))⟩
 ·
  refine k_iconst X0 hx (hb hby d2_5) (pc' := 6) rfl (z := (-1 : Int32)) rfl ?_
  exact k_retI X0 hx Bd.returns (hb hby d2_6) hlk (by decide) (by decide) ⟨N0, e0, (Or.inr (Or.inr (Or.inr (Or.inr (Or.inr ⟨hc784, rfl⟩)))))⟩
abbrev R2_1234 : Room := { frames := 0, cells := 0, slots := 0, locals := 0 }
def Q2_1234 (Z : State) (a1 : Addr) (p2 : Int32) (k3 : ClassId) (p4 : Int32) (p5 : Int32) (p6 : Int32) (p7 : Int32) (h0 : Heap) (n0 : Nat) (v : Option Value) (h : Heap) (L : List Loc) : Prop := Fr n0 L ∧ h = h0 ∧ ((¬ p2 = (-1 : Int32) ∧ v = some (.int (-1 : Int32))) ∨ (p2 = (-1 : Int32) ∧ v = some (.int (-1 : Int32))))
theorem ef2_1234 (m : MethodId) (x0 : Addr) (x3 : Int32) : entryFrame m #[(.ref x0), (.int (1 : Int32)), (.int (0 : Int32)), (.int x3)] 5 = mkF m 0 #[.val (.ref x0), .val (.int (1 : Int32)), .val (.int (0 : Int32)), .val (.int x3), .unset] [] := by first | (simp [entryFrame, mkF, argsToLocals, Value.category]; done) | rfl
set_option maxRecDepth 65536 in
set_option maxHeartbeats 40000000 in
theorem rm2_1234 (l : Launch) (Z : State) (a0 : Array Value) (hw : ∀ d ∈ tables_1, d.before a0 Z = true) (ws : List Jvm.Cond) (a1 : Addr) (p2 : Int32) (k3 : ClassId) (p4 : Int32) (p5 : Int32) (p6 : Int32) (p7 : Int32) (h0 : Heap) (n0 : Nat) (Z0 : n0 ≤ h0.size) (F0_0 : Arv Z h0 a1 k3 .byte (4 : Int32) [(.int p4), (.int p5), (.int p6), (.int p7)] (.int (0 : Int32))) :
    MetFree l (⟨"com/example/corella/corella/hl7/Delimiters", "indexOf", "([BIII)I"⟩ : MethodName) (head1 (Jvm.Cond.code (⟨"com/example/corella/corella/hl7/Delimiters", "indexOf", "([BIII)I"⟩ : MethodName) prog_107_method_20_code 5 (some .int) :: ws) R2_1234) (fun a U => a = #[(.ref a1), (.int (1 : Int32)), (.int (0 : Int32)), (.int p2)] ∧ Z.Warmed39 U.vm ∧ U.heap = h0) (fun _ _ _ _ _ => True) (fun _ U o U' => ∃ v L, o = .returned v ∧ Q2_1234 Z a1 p2 k3 p4 p5 p6 p7 h0 n0 v U'.heap L ∧ FrameEnd U o U' L R2_1234.cells R2_1234.slots) := by
 refine MetFree.of_bodySF (plainFor_of_name pn_1) hisR ?_
 intro p e s m args below meth c s₁ Bd hml0 hP hK
 obtain ⟨rfl, hZ, hh⟩ := hP
 have hx := Bd.exec
 have hby := Bd.bytes
 have hml : c.maxLocals = 5 := hml0
 have hlk : meth.locks = false := Bd.notSynchronized
 have hown : s.vm.findClass "com/example/corella/corella/hl7/Delimiters" = some m.cls := findClass_of_methodNamed Bd.named
 have hnm := (name_of_methodNamed Bd.named Bd.method).1
 have X0 : Stand p l e R2_1234 s m #[(.ref a1), (.int (1 : Int32)), (.int (0 : Int32)), (.int p2)] below meth c s₁ [] 0 0 := Stand.of_body Bd
 have e0 : s₁.heap = h0 := by rw [← hh, Bd.state]; rfl
 have N0 := Fr.nil n0
 rw [ef2_1234 m a1 p2]
 show KEnds p e below s R2_1234.cells R2_1234.slots (Q2_1234 Z a1 p2 k3 p4 p5 p6 p7 h0 n0) s₁ (mkF m 0 #[.val (.ref a1), .val (.int (1 : Int32)), .val (.int (0 : Int32)), .val (.int p2), .unset] [])
 refine k_iloadN X0 hx (hb hby d2_0) rfl (pc' := 1) rfl ?_
 refine k_iconst X0 hx (hb hby d2_1) (pc' := 2) rfl (z := (-1 : Int32)) rfl ?_
 refine k_icmp_ne X0 hx (hb hby d2_2) (pn := 5) rfl (py := 7) (by decide) (fun hc1235 => ?_) (fun hc1235 => ?_)
 ·
  refine k_iloadN X0 hx (hb hby d2_7) rfl (pc' := 8) rfl ?_
  refine k_istore X0 hx (hb hby d2_8) (Ls' := #[.val (.ref a1), .val (.int (1 : Int32)), .val (.int (0 : Int32)), .val (.int p2), .val (.int (1 : Int32))]) rfl (pc' := 10) rfl ?_
  refine k_iload X0 hx (hb hby d2_10) rfl (pc' := 12) rfl ?_
  refine k_iloadN X0 hx (hb hby d2_12) rfl (pc' := 13) rfl ?_
  refine k_icmp_ge X0 hx (hb hby d2_13) (pn := 16) rfl (py := 37) (by decide) (fun _ => ?_) (fun hc => absurd hc (by decide))
  refine k_iconst X0 hx (hb hby d2_37) (pc' := 38) rfl (z := (-1 : Int32)) rfl ?_
  exact k_retI X0 hx Bd.returns (hb hby d2_38) hlk (by decide) (by decide) ⟨N0, e0, (Or.inl ⟨hc1235, rfl⟩)⟩
 ·
  refine k_iconst X0 hx (hb hby d2_5) (pc' := 6) rfl (z := (-1 : Int32)) rfl ?_
  exact k_retI X0 hx Bd.returns (hb hby d2_6) hlk (by decide) (by decide) ⟨N0, e0, (Or.inr ⟨hc1235, rfl⟩)⟩
abbrev R2_1283 : Room := { frames := 0, cells := 0, slots := 0, locals := 0 }
def Q2_1283 (Z : State) (a1 : Addr) (p2 : Int32) (k3 : ClassId) (p4 : Int32) (p5 : Int32) (p6 : Int32) (p7 : Int32) (h0 : Heap) (n0 : Nat) (v : Option Value) (h : Heap) (L : List Loc) : Prop := Fr n0 L ∧ h = h0 ∧ ((¬ p2 = (-1 : Int32) ∧ v = some (.int (-1 : Int32))) ∨ (p2 = (-1 : Int32) ∧ v = some (.int (-1 : Int32))))
theorem ef2_1283 (m : MethodId) (x0 : Addr) (x3 : Int32) : entryFrame m #[(.ref x0), (.int (1 : Int32)), (.int (1 : Int32)), (.int x3)] 5 = mkF m 0 #[.val (.ref x0), .val (.int (1 : Int32)), .val (.int (1 : Int32)), .val (.int x3), .unset] [] := by first | (simp [entryFrame, mkF, argsToLocals, Value.category]; done) | rfl
set_option maxRecDepth 65536 in
set_option maxHeartbeats 40000000 in
theorem rm2_1283 (l : Launch) (Z : State) (a0 : Array Value) (hw : ∀ d ∈ tables_1, d.before a0 Z = true) (ws : List Jvm.Cond) (a1 : Addr) (p2 : Int32) (k3 : ClassId) (p4 : Int32) (p5 : Int32) (p6 : Int32) (p7 : Int32) (h0 : Heap) (n0 : Nat) (Z0 : n0 ≤ h0.size) (F0_0 : Arv Z h0 a1 k3 .byte (4 : Int32) [(.int p4), (.int p5), (.int p6), (.int p7)] (.int (0 : Int32))) :
    MetFree l (⟨"com/example/corella/corella/hl7/Delimiters", "indexOf", "([BIII)I"⟩ : MethodName) (head1 (Jvm.Cond.code (⟨"com/example/corella/corella/hl7/Delimiters", "indexOf", "([BIII)I"⟩ : MethodName) prog_107_method_20_code 5 (some .int) :: ws) R2_1283) (fun a U => a = #[(.ref a1), (.int (1 : Int32)), (.int (1 : Int32)), (.int p2)] ∧ Z.Warmed39 U.vm ∧ U.heap = h0) (fun _ _ _ _ _ => True) (fun _ U o U' => ∃ v L, o = .returned v ∧ Q2_1283 Z a1 p2 k3 p4 p5 p6 p7 h0 n0 v U'.heap L ∧ FrameEnd U o U' L R2_1283.cells R2_1283.slots) := by
 refine MetFree.of_bodySF (plainFor_of_name pn_1) hisR ?_
 intro p e s m args below meth c s₁ Bd hml0 hP hK
 obtain ⟨rfl, hZ, hh⟩ := hP
 have hx := Bd.exec
 have hby := Bd.bytes
 have hml : c.maxLocals = 5 := hml0
 have hlk : meth.locks = false := Bd.notSynchronized
 have hown : s.vm.findClass "com/example/corella/corella/hl7/Delimiters" = some m.cls := findClass_of_methodNamed Bd.named
 have hnm := (name_of_methodNamed Bd.named Bd.method).1
 have X0 : Stand p l e R2_1283 s m #[(.ref a1), (.int (1 : Int32)), (.int (1 : Int32)), (.int p2)] below meth c s₁ [] 0 0 := Stand.of_body Bd
 have e0 : s₁.heap = h0 := by rw [← hh, Bd.state]; rfl
 have N0 := Fr.nil n0
 rw [ef2_1283 m a1 p2]
 show KEnds p e below s R2_1283.cells R2_1283.slots (Q2_1283 Z a1 p2 k3 p4 p5 p6 p7 h0 n0) s₁ (mkF m 0 #[.val (.ref a1), .val (.int (1 : Int32)), .val (.int (1 : Int32)), .val (.int p2), .unset] [])
 refine k_iloadN X0 hx (hb hby d2_0) rfl (pc' := 1) rfl ?_
 refine k_iconst X0 hx (hb hby d2_1) (pc' := 2) rfl (z := (-1 : Int32)) rfl ?_
 refine k_icmp_ne X0 hx (hb hby d2_2) (pn := 5) rfl (py := 7) (by decide) (fun hc1284 => ?_) (fun hc1284 => ?_)
 ·
  refine k_iloadN X0 hx (hb hby d2_7) rfl (pc' := 8) rfl ?_
  refine k_istore X0 hx (hb hby d2_8) (Ls' := #[.val (.ref a1), .val (.int (1 : Int32)), .val (.int (1 : Int32)), .val (.int p2), .val (.int (1 : Int32))]) rfl (pc' := 10) rfl ?_
  refine k_iload X0 hx (hb hby d2_10) rfl (pc' := 12) rfl ?_
  refine k_iloadN X0 hx (hb hby d2_12) rfl (pc' := 13) rfl ?_
  refine k_icmp_ge X0 hx (hb hby d2_13) (pn := 16) rfl (py := 37) (by decide) (fun _ => ?_) (fun hc => absurd hc (by decide))
  refine k_iconst X0 hx (hb hby d2_37) (pc' := 38) rfl (z := (-1 : Int32)) rfl ?_
  exact k_retI X0 hx Bd.returns (hb hby d2_38) hlk (by decide) (by decide) ⟨N0, e0, (Or.inl ⟨hc1284, rfl⟩)⟩
 ·
  refine k_iconst X0 hx (hb hby d2_5) (pc' := 6) rfl (z := (-1 : Int32)) rfl ?_
  exact k_retI X0 hx Bd.returns (hb hby d2_6) hlk (by decide) (by decide) ⟨N0, e0, (Or.inr ⟨hc1284, rfl⟩)⟩
abbrev R2_1376 : Room := { frames := 0, cells := 0, slots := 0, locals := 0 }
def Q2_1376 (Z : State) (a1 : Addr) (p2 : Int32) (k3 : ClassId) (p4 : Int32) (p5 : Int32) (p6 : Int32) (p7 : Int32) (h0 : Heap) (n0 : Nat) (v : Option Value) (h : Heap) (L : List Loc) : Prop := Fr n0 L ∧ h = h0 ∧ ((∃ (v1378 : Int32), v1378 = p5 &&& (255 : Int32) ∧ ¬ p2 = (-1 : Int32) ∧ ¬ v1378 = p2 ∧ v = some (.int (-1 : Int32))) ∨ (∃ (v1378 : Int32), v1378 = p5 &&& (255 : Int32) ∧ ¬ p2 = (-1 : Int32) ∧ v1378 = p2 ∧ v = some (.int (1 : Int32))) ∨ (p2 = (-1 : Int32) ∧ v = some (.int (-1 : Int32))))
theorem ef2_1376 (m : MethodId) (x0 : Addr) (x3 : Int32) : entryFrame m #[(.ref x0), (.int (1 : Int32)), (.int (2 : Int32)), (.int x3)] 5 = mkF m 0 #[.val (.ref x0), .val (.int (1 : Int32)), .val (.int (2 : Int32)), .val (.int x3), .unset] [] := by first | (simp [entryFrame, mkF, argsToLocals, Value.category]; done) | rfl
set_option maxRecDepth 65536 in
set_option maxHeartbeats 40000000 in
theorem rm2_1376 (l : Launch) (Z : State) (a0 : Array Value) (hw : ∀ d ∈ tables_1, d.before a0 Z = true) (ws : List Jvm.Cond) (a1 : Addr) (p2 : Int32) (k3 : ClassId) (p4 : Int32) (p5 : Int32) (p6 : Int32) (p7 : Int32) (h0 : Heap) (n0 : Nat) (Z0 : n0 ≤ h0.size) (F0_0 : Arv Z h0 a1 k3 .byte (4 : Int32) [(.int p4), (.int p5), (.int p6), (.int p7)] (.int (0 : Int32))) :
    MetFree l (⟨"com/example/corella/corella/hl7/Delimiters", "indexOf", "([BIII)I"⟩ : MethodName) (head1 (Jvm.Cond.code (⟨"com/example/corella/corella/hl7/Delimiters", "indexOf", "([BIII)I"⟩ : MethodName) prog_107_method_20_code 5 (some .int) :: ws) R2_1376) (fun a U => a = #[(.ref a1), (.int (1 : Int32)), (.int (2 : Int32)), (.int p2)] ∧ Z.Warmed39 U.vm ∧ U.heap = h0) (fun _ _ _ _ _ => True) (fun _ U o U' => ∃ v L, o = .returned v ∧ Q2_1376 Z a1 p2 k3 p4 p5 p6 p7 h0 n0 v U'.heap L ∧ FrameEnd U o U' L R2_1376.cells R2_1376.slots) := by
 refine MetFree.of_bodySF (plainFor_of_name pn_1) hisR ?_
 intro p e s m args below meth c s₁ Bd hml0 hP hK
 obtain ⟨rfl, hZ, hh⟩ := hP
 have hx := Bd.exec
 have hby := Bd.bytes
 have hml : c.maxLocals = 5 := hml0
 have hlk : meth.locks = false := Bd.notSynchronized
 have hown : s.vm.findClass "com/example/corella/corella/hl7/Delimiters" = some m.cls := findClass_of_methodNamed Bd.named
 have hnm := (name_of_methodNamed Bd.named Bd.method).1
 have X0 : Stand p l e R2_1376 s m #[(.ref a1), (.int (1 : Int32)), (.int (2 : Int32)), (.int p2)] below meth c s₁ [] 0 0 := Stand.of_body Bd
 have e0 : s₁.heap = h0 := by rw [← hh, Bd.state]; rfl
 have N0 := Fr.nil n0
 rw [ef2_1376 m a1 p2]
 show KEnds p e below s R2_1376.cells R2_1376.slots (Q2_1376 Z a1 p2 k3 p4 p5 p6 p7 h0 n0) s₁ (mkF m 0 #[.val (.ref a1), .val (.int (1 : Int32)), .val (.int (2 : Int32)), .val (.int p2), .unset] [])
 refine k_iloadN X0 hx (hb hby d2_0) rfl (pc' := 1) rfl ?_
 refine k_iconst X0 hx (hb hby d2_1) (pc' := 2) rfl (z := (-1 : Int32)) rfl ?_
 refine k_icmp_ne X0 hx (hb hby d2_2) (pn := 5) rfl (py := 7) (by decide) (fun hc1377 => ?_) (fun hc1377 => ?_)
 ·
  refine k_iloadN X0 hx (hb hby d2_7) rfl (pc' := 8) rfl ?_
  refine k_istore X0 hx (hb hby d2_8) (Ls' := #[.val (.ref a1), .val (.int (1 : Int32)), .val (.int (2 : Int32)), .val (.int p2), .val (.int (1 : Int32))]) rfl (pc' := 10) rfl ?_
  refine k_iload X0 hx (hb hby d2_10) rfl (pc' := 12) rfl ?_
  refine k_iloadN X0 hx (hb hby d2_12) rfl (pc' := 13) rfl ?_
  refine k_icmp_ge X0 hx (hb hby d2_13) (pn := 16) rfl (py := 37) (by decide) (fun hc => absurd (by decide) hc) (fun _ => ?_)
  refine k_aloadN X0 hx (hb hby d2_16) rfl rfl (pc' := 17) rfl ?_
  refine k_iload X0 hx (hb hby d2_17) rfl (pc' := 19) rfl ?_
  refine k_baload X0 hx hZ e0 F0_0 ⟨by decide, by decide⟩ (v := (.int p5)) rfl (hb hby d2_19) (pc' := 20) rfl ?_
  refine k_sipush X0 hx (hb hby d2_20) (pc' := 23) rfl (z := (255 : Int32)) rfl ?_
  refine k_iand X0 hx (hb hby d2_23) (pc' := 24) rfl (fun v1378 hv1378 => ?_)
  refine k_iloadN X0 hx (hb hby d2_24) rfl (pc' := 25) rfl ?_
  refine k_icmp_ne X0 hx (hb hby d2_25) (pn := 28) rfl (py := 31) (by decide) (fun hc1379 => ?_) (fun hc1379 => ?_)
  ·
   refine k_iinc X0 hx (hb hby d2_31) rfl (pc' := 34) rfl (z := (2 : Int32)) (by decide) (Ls' := #[.val (.ref a1), .val (.int (1 : Int32)), .val (.int (2 : Int32)), .val (.int p2), .val (.int (2 : Int32))]) rfl ?_
   refine k_goto X0 hx (hb hby d2_34) (pc' := 10) (by decide) ?_
   refine k_iload X0 hx (hb hby d2_10) rfl (pc' := 12) rfl ?_
   refine k_iloadN X0 hx (hb hby d2_12) rfl (pc' := 13) rfl ?_
   refine k_icmp_ge X0 hx (hb hby d2_13) (pn := 16) rfl (py := 37) (by decide) (fun _ => ?_) (fun hc => absurd hc (by decide))
   refine k_iconst X0 hx (hb hby d2_37) (pc' := 38) rfl (z := (-1 : Int32)) rfl ?_
   exact k_retI X0 hx Bd.returns (hb hby d2_38) hlk (by decide) (by decide) ⟨N0, e0, (Or.inl ⟨v1378, hv1378, hc1377, hc1379, rfl⟩)⟩
  ·
   refine k_iload X0 hx (hb hby d2_28) rfl (pc' := 30) rfl ?_
   exact k_retI X0 hx Bd.returns (hb hby d2_30) hlk (by decide) (by decide) ⟨N0, e0, (Or.inr (Or.inl ⟨v1378, hv1378, hc1377, hc1379, rfl⟩))⟩
 ·
  refine k_iconst X0 hx (hb hby d2_5) (pc' := 6) rfl (z := (-1 : Int32)) rfl ?_
  exact k_retI X0 hx Bd.returns (hb hby d2_6) hlk (by decide) (by decide) ⟨N0, e0, (Or.inr (Or.inr ⟨hc1377, rfl⟩))⟩
abbrev R2_1499 : Room := { frames := 0, cells := 0, slots := 0, locals := 0 }
def Q2_1499 (Z : State) (a1 : Addr) (p2 : Int32) (k3 : ClassId) (p4 : Int32) (p5 : Int32) (p6 : Int32) (p7 : Int32) (h0 : Heap) (n0 : Nat) (v : Option Value) (h : Heap) (L : List Loc) : Prop := Fr n0 L ∧ h = h0 ∧ ((∃ (v1501 : Int32) (v1503 : Int32), v1501 = p5 &&& (255 : Int32) ∧ v1503 = p6 &&& (255 : Int32) ∧ ¬ p2 = (-1 : Int32) ∧ ¬ v1501 = p2 ∧ ¬ v1503 = p2 ∧ v = some (.int (-1 : Int32))) ∨ (∃ (v1501 : Int32) (v1503 : Int32), v1501 = p5 &&& (255 : Int32) ∧ v1503 = p6 &&& (255 : Int32) ∧ ¬ p2 = (-1 : Int32) ∧ ¬ v1501 = p2 ∧ v1503 = p2 ∧ v = some (.int (2 : Int32))) ∨ (∃ (v1501 : Int32), v1501 = p5 &&& (255 : Int32) ∧ ¬ p2 = (-1 : Int32) ∧ v1501 = p2 ∧ v = some (.int (1 : Int32))) ∨ (p2 = (-1 : Int32) ∧ v = some (.int (-1 : Int32))))
theorem ef2_1499 (m : MethodId) (x0 : Addr) (x3 : Int32) : entryFrame m #[(.ref x0), (.int (1 : Int32)), (.int (3 : Int32)), (.int x3)] 5 = mkF m 0 #[.val (.ref x0), .val (.int (1 : Int32)), .val (.int (3 : Int32)), .val (.int x3), .unset] [] := by first | (simp [entryFrame, mkF, argsToLocals, Value.category]; done) | rfl
set_option maxRecDepth 65536 in
set_option maxHeartbeats 40000000 in
theorem rm2_1499 (l : Launch) (Z : State) (a0 : Array Value) (hw : ∀ d ∈ tables_1, d.before a0 Z = true) (ws : List Jvm.Cond) (a1 : Addr) (p2 : Int32) (k3 : ClassId) (p4 : Int32) (p5 : Int32) (p6 : Int32) (p7 : Int32) (h0 : Heap) (n0 : Nat) (Z0 : n0 ≤ h0.size) (F0_0 : Arv Z h0 a1 k3 .byte (4 : Int32) [(.int p4), (.int p5), (.int p6), (.int p7)] (.int (0 : Int32))) :
    MetFree l (⟨"com/example/corella/corella/hl7/Delimiters", "indexOf", "([BIII)I"⟩ : MethodName) (head1 (Jvm.Cond.code (⟨"com/example/corella/corella/hl7/Delimiters", "indexOf", "([BIII)I"⟩ : MethodName) prog_107_method_20_code 5 (some .int) :: ws) R2_1499) (fun a U => a = #[(.ref a1), (.int (1 : Int32)), (.int (3 : Int32)), (.int p2)] ∧ Z.Warmed39 U.vm ∧ U.heap = h0) (fun _ _ _ _ _ => True) (fun _ U o U' => ∃ v L, o = .returned v ∧ Q2_1499 Z a1 p2 k3 p4 p5 p6 p7 h0 n0 v U'.heap L ∧ FrameEnd U o U' L R2_1499.cells R2_1499.slots) := by
 refine MetFree.of_bodySF (plainFor_of_name pn_1) hisR ?_
 intro p e s m args below meth c s₁ Bd hml0 hP hK
 obtain ⟨rfl, hZ, hh⟩ := hP
 have hx := Bd.exec
 have hby := Bd.bytes
 have hml : c.maxLocals = 5 := hml0
 have hlk : meth.locks = false := Bd.notSynchronized
 have hown : s.vm.findClass "com/example/corella/corella/hl7/Delimiters" = some m.cls := findClass_of_methodNamed Bd.named
 have hnm := (name_of_methodNamed Bd.named Bd.method).1
 have X0 : Stand p l e R2_1499 s m #[(.ref a1), (.int (1 : Int32)), (.int (3 : Int32)), (.int p2)] below meth c s₁ [] 0 0 := Stand.of_body Bd
 have e0 : s₁.heap = h0 := by rw [← hh, Bd.state]; rfl
 have N0 := Fr.nil n0
 rw [ef2_1499 m a1 p2]
 show KEnds p e below s R2_1499.cells R2_1499.slots (Q2_1499 Z a1 p2 k3 p4 p5 p6 p7 h0 n0) s₁ (mkF m 0 #[.val (.ref a1), .val (.int (1 : Int32)), .val (.int (3 : Int32)), .val (.int p2), .unset] [])
 refine k_iloadN X0 hx (hb hby d2_0) rfl (pc' := 1) rfl ?_
 refine k_iconst X0 hx (hb hby d2_1) (pc' := 2) rfl (z := (-1 : Int32)) rfl ?_
 refine k_icmp_ne X0 hx (hb hby d2_2) (pn := 5) rfl (py := 7) (by decide) (fun hc1500 => ?_) (fun hc1500 => ?_)
 ·
  refine k_iloadN X0 hx (hb hby d2_7) rfl (pc' := 8) rfl ?_
  refine k_istore X0 hx (hb hby d2_8) (Ls' := #[.val (.ref a1), .val (.int (1 : Int32)), .val (.int (3 : Int32)), .val (.int p2), .val (.int (1 : Int32))]) rfl (pc' := 10) rfl ?_
  refine k_iload X0 hx (hb hby d2_10) rfl (pc' := 12) rfl ?_
  refine k_iloadN X0 hx (hb hby d2_12) rfl (pc' := 13) rfl ?_
  refine k_icmp_ge X0 hx (hb hby d2_13) (pn := 16) rfl (py := 37) (by decide) (fun hc => absurd (by decide) hc) (fun _ => ?_)
  refine k_aloadN X0 hx (hb hby d2_16) rfl rfl (pc' := 17) rfl ?_
  refine k_iload X0 hx (hb hby d2_17) rfl (pc' := 19) rfl ?_
  refine k_baload X0 hx hZ e0 F0_0 ⟨by decide, by decide⟩ (v := (.int p5)) rfl (hb hby d2_19) (pc' := 20) rfl ?_
  refine k_sipush X0 hx (hb hby d2_20) (pc' := 23) rfl (z := (255 : Int32)) rfl ?_
  refine k_iand X0 hx (hb hby d2_23) (pc' := 24) rfl (fun v1501 hv1501 => ?_)
  refine k_iloadN X0 hx (hb hby d2_24) rfl (pc' := 25) rfl ?_
  refine k_icmp_ne X0 hx (hb hby d2_25) (pn := 28) rfl (py := 31) (by decide) (fun hc1502 => ?_) (fun hc1502 => ?_)
  ·
   refine k_iinc X0 hx (hb hby d2_31) rfl (pc' := 34) rfl (z := (2 : Int32)) (by decide) (Ls' := #[.val (.ref a1), .val (.int (1 : Int32)), .val (.int (3 : Int32)), .val (.int p2), .val (.int (2 : Int32))]) rfl ?_
   refine k_goto X0 hx (hb hby d2_34) (pc' := 10) (by decide) ?_
   refine k_iload X0 hx (hb hby d2_10) rfl (pc' := 12) rfl ?_
   refine k_iloadN X0 hx (hb hby d2_12) rfl (pc' := 13) rfl ?_
   refine k_icmp_ge X0 hx (hb hby d2_13) (pn := 16) rfl (py := 37) (by decide) (fun hc => absurd (by decide) hc) (fun _ => ?_)
   refine k_aloadN X0 hx (hb hby d2_16) rfl rfl (pc' := 17) rfl ?_
   refine k_iload X0 hx (hb hby d2_17) rfl (pc' := 19) rfl ?_
   refine k_baload X0 hx hZ e0 F0_0 ⟨by decide, by decide⟩ (v := (.int p6)) rfl (hb hby d2_19) (pc' := 20) rfl ?_
   refine k_sipush X0 hx (hb hby d2_20) (pc' := 23) rfl (z := (255 : Int32)) rfl ?_
   refine k_iand X0 hx (hb hby d2_23) (pc' := 24) rfl (fun v1503 hv1503 => ?_)
   refine k_iloadN X0 hx (hb hby d2_24) rfl (pc' := 25) rfl ?_
   refine k_icmp_ne X0 hx (hb hby d2_25) (pn := 28) rfl (py := 31) (by decide) (fun hc1504 => ?_) (fun hc1504 => ?_)
   ·
    refine k_iinc X0 hx (hb hby d2_31) rfl (pc' := 34) rfl (z := (3 : Int32)) (by decide) (Ls' := #[.val (.ref a1), .val (.int (1 : Int32)), .val (.int (3 : Int32)), .val (.int p2), .val (.int (3 : Int32))]) rfl ?_
    refine k_goto X0 hx (hb hby d2_34) (pc' := 10) (by decide) ?_
    refine k_iload X0 hx (hb hby d2_10) rfl (pc' := 12) rfl ?_
    refine k_iloadN X0 hx (hb hby d2_12) rfl (pc' := 13) rfl ?_
    refine k_icmp_ge X0 hx (hb hby d2_13) (pn := 16) rfl (py := 37) (by decide) (fun _ => ?_) (fun hc => absurd hc (by decide))
    refine k_iconst X0 hx (hb hby d2_37) (pc' := 38) rfl (z := (-1 : Int32)) rfl ?_
    exact k_retI X0 hx Bd.returns (hb hby d2_38) hlk (by decide) (by decide) ⟨N0, e0, (Or.inl ⟨v1501, v1503, hv1501, hv1503, hc1500, hc1502, hc1504, rfl⟩)⟩
   ·
    refine k_iload X0 hx (hb hby d2_28) rfl (pc' := 30) rfl ?_
    exact k_retI X0 hx Bd.returns (hb hby d2_30) hlk (by decide) (by decide) ⟨N0, e0, (Or.inr (Or.inl ⟨v1501, v1503, hv1501, hv1503, hc1500, hc1502, hc1504, rfl⟩))⟩
  ·
   refine k_iload X0 hx (hb hby d2_28) rfl (pc' := 30) rfl ?_
   exact k_retI X0 hx Bd.returns (hb hby d2_30) hlk (by decide) (by decide) ⟨N0, e0, (Or.inr (Or.inr (Or.inl ⟨v1501, hv1501, hc1500, hc1502, rfl⟩)))⟩
 ·
  refine k_iconst X0 hx (hb hby d2_5) (pc' := 6) rfl (z := (-1 : Int32)) rfl ?_
  exact k_retI X0 hx Bd.returns (hb hby d2_6) hlk (by decide) (by decide) ⟨N0, e0, (Or.inr (Or.inr (Or.inr ⟨hc1500, rfl⟩)))⟩
abbrev R2_1683 : Room := { frames := 0, cells := 0, slots := 0, locals := 0 }
def Q2_1683 (Z : State) (a1 : Addr) (p2 : Int32) (k3 : ClassId) (p4 : Int32) (p5 : Int32) (p6 : Int32) (p7 : Int32) (h0 : Heap) (n0 : Nat) (v : Option Value) (h : Heap) (L : List Loc) : Prop := Fr n0 L ∧ h = h0 ∧ ((∃ (v1685 : Int32) (v1687 : Int32) (v1689 : Int32), v1685 = p5 &&& (255 : Int32) ∧ v1687 = p6 &&& (255 : Int32) ∧ v1689 = p7 &&& (255 : Int32) ∧ ¬ p2 = (-1 : Int32) ∧ ¬ v1685 = p2 ∧ ¬ v1687 = p2 ∧ ¬ v1689 = p2 ∧ v = some (.int (-1 : Int32))) ∨ (∃ (v1685 : Int32) (v1687 : Int32) (v1689 : Int32), v1685 = p5 &&& (255 : Int32) ∧ v1687 = p6 &&& (255 : Int32) ∧ v1689 = p7 &&& (255 : Int32) ∧ ¬ p2 = (-1 : Int32) ∧ ¬ v1685 = p2 ∧ ¬ v1687 = p2 ∧ v1689 = p2 ∧ v = some (.int (3 : Int32))) ∨ (∃ (v1685 : Int32) (v1687 : Int32), v1685 = p5 &&& (255 : Int32) ∧ v1687 = p6 &&& (255 : Int32) ∧ ¬ p2 = (-1 : Int32) ∧ ¬ v1685 = p2 ∧ v1687 = p2 ∧ v = some (.int (2 : Int32))) ∨ (∃ (v1685 : Int32), v1685 = p5 &&& (255 : Int32) ∧ ¬ p2 = (-1 : Int32) ∧ v1685 = p2 ∧ v = some (.int (1 : Int32))) ∨ (p2 = (-1 : Int32) ∧ v = some (.int (-1 : Int32))))
theorem ef2_1683 (m : MethodId) (x0 : Addr) (x3 : Int32) : entryFrame m #[(.ref x0), (.int (1 : Int32)), (.int (4 : Int32)), (.int x3)] 5 = mkF m 0 #[.val (.ref x0), .val (.int (1 : Int32)), .val (.int (4 : Int32)), .val (.int x3), .unset] [] := by first | (simp [entryFrame, mkF, argsToLocals, Value.category]; done) | rfl
set_option maxRecDepth 65536 in
set_option maxHeartbeats 40000000 in
theorem rm2_1683 (l : Launch) (Z : State) (a0 : Array Value) (hw : ∀ d ∈ tables_1, d.before a0 Z = true) (ws : List Jvm.Cond) (a1 : Addr) (p2 : Int32) (k3 : ClassId) (p4 : Int32) (p5 : Int32) (p6 : Int32) (p7 : Int32) (h0 : Heap) (n0 : Nat) (Z0 : n0 ≤ h0.size) (F0_0 : Arv Z h0 a1 k3 .byte (4 : Int32) [(.int p4), (.int p5), (.int p6), (.int p7)] (.int (0 : Int32))) :
    MetFree l (⟨"com/example/corella/corella/hl7/Delimiters", "indexOf", "([BIII)I"⟩ : MethodName) (head1 (Jvm.Cond.code (⟨"com/example/corella/corella/hl7/Delimiters", "indexOf", "([BIII)I"⟩ : MethodName) prog_107_method_20_code 5 (some .int) :: ws) R2_1683) (fun a U => a = #[(.ref a1), (.int (1 : Int32)), (.int (4 : Int32)), (.int p2)] ∧ Z.Warmed39 U.vm ∧ U.heap = h0) (fun _ _ _ _ _ => True) (fun _ U o U' => ∃ v L, o = .returned v ∧ Q2_1683 Z a1 p2 k3 p4 p5 p6 p7 h0 n0 v U'.heap L ∧ FrameEnd U o U' L R2_1683.cells R2_1683.slots) := by
 refine MetFree.of_bodySF (plainFor_of_name pn_1) hisR ?_
 intro p e s m args below meth c s₁ Bd hml0 hP hK
 obtain ⟨rfl, hZ, hh⟩ := hP
 have hx := Bd.exec
 have hby := Bd.bytes
 have hml : c.maxLocals = 5 := hml0
 have hlk : meth.locks = false := Bd.notSynchronized
 have hown : s.vm.findClass "com/example/corella/corella/hl7/Delimiters" = some m.cls := findClass_of_methodNamed Bd.named
 have hnm := (name_of_methodNamed Bd.named Bd.method).1
 have X0 : Stand p l e R2_1683 s m #[(.ref a1), (.int (1 : Int32)), (.int (4 : Int32)), (.int p2)] below meth c s₁ [] 0 0 := Stand.of_body Bd
 have e0 : s₁.heap = h0 := by rw [← hh, Bd.state]; rfl
 have N0 := Fr.nil n0
 rw [ef2_1683 m a1 p2]
 show KEnds p e below s R2_1683.cells R2_1683.slots (Q2_1683 Z a1 p2 k3 p4 p5 p6 p7 h0 n0) s₁ (mkF m 0 #[.val (.ref a1), .val (.int (1 : Int32)), .val (.int (4 : Int32)), .val (.int p2), .unset] [])
 refine k_iloadN X0 hx (hb hby d2_0) rfl (pc' := 1) rfl ?_
 refine k_iconst X0 hx (hb hby d2_1) (pc' := 2) rfl (z := (-1 : Int32)) rfl ?_
 refine k_icmp_ne X0 hx (hb hby d2_2) (pn := 5) rfl (py := 7) (by decide) (fun hc1684 => ?_) (fun hc1684 => ?_)
 ·
  refine k_iloadN X0 hx (hb hby d2_7) rfl (pc' := 8) rfl ?_
  refine k_istore X0 hx (hb hby d2_8) (Ls' := #[.val (.ref a1), .val (.int (1 : Int32)), .val (.int (4 : Int32)), .val (.int p2), .val (.int (1 : Int32))]) rfl (pc' := 10) rfl ?_
  refine k_iload X0 hx (hb hby d2_10) rfl (pc' := 12) rfl ?_
  refine k_iloadN X0 hx (hb hby d2_12) rfl (pc' := 13) rfl ?_
  refine k_icmp_ge X0 hx (hb hby d2_13) (pn := 16) rfl (py := 37) (by decide) (fun hc => absurd (by decide) hc) (fun _ => ?_)
  refine k_aloadN X0 hx (hb hby d2_16) rfl rfl (pc' := 17) rfl ?_
  refine k_iload X0 hx (hb hby d2_17) rfl (pc' := 19) rfl ?_
  refine k_baload X0 hx hZ e0 F0_0 ⟨by decide, by decide⟩ (v := (.int p5)) rfl (hb hby d2_19) (pc' := 20) rfl ?_
  refine k_sipush X0 hx (hb hby d2_20) (pc' := 23) rfl (z := (255 : Int32)) rfl ?_
  refine k_iand X0 hx (hb hby d2_23) (pc' := 24) rfl (fun v1685 hv1685 => ?_)
  refine k_iloadN X0 hx (hb hby d2_24) rfl (pc' := 25) rfl ?_
  refine k_icmp_ne X0 hx (hb hby d2_25) (pn := 28) rfl (py := 31) (by decide) (fun hc1686 => ?_) (fun hc1686 => ?_)
  ·
   refine k_iinc X0 hx (hb hby d2_31) rfl (pc' := 34) rfl (z := (2 : Int32)) (by decide) (Ls' := #[.val (.ref a1), .val (.int (1 : Int32)), .val (.int (4 : Int32)), .val (.int p2), .val (.int (2 : Int32))]) rfl ?_
   refine k_goto X0 hx (hb hby d2_34) (pc' := 10) (by decide) ?_
   refine k_iload X0 hx (hb hby d2_10) rfl (pc' := 12) rfl ?_
   refine k_iloadN X0 hx (hb hby d2_12) rfl (pc' := 13) rfl ?_
   refine k_icmp_ge X0 hx (hb hby d2_13) (pn := 16) rfl (py := 37) (by decide) (fun hc => absurd (by decide) hc) (fun _ => ?_)
   refine k_aloadN X0 hx (hb hby d2_16) rfl rfl (pc' := 17) rfl ?_
   refine k_iload X0 hx (hb hby d2_17) rfl (pc' := 19) rfl ?_
   refine k_baload X0 hx hZ e0 F0_0 ⟨by decide, by decide⟩ (v := (.int p6)) rfl (hb hby d2_19) (pc' := 20) rfl ?_
   refine k_sipush X0 hx (hb hby d2_20) (pc' := 23) rfl (z := (255 : Int32)) rfl ?_
   refine k_iand X0 hx (hb hby d2_23) (pc' := 24) rfl (fun v1687 hv1687 => ?_)
   refine k_iloadN X0 hx (hb hby d2_24) rfl (pc' := 25) rfl ?_
   refine k_icmp_ne X0 hx (hb hby d2_25) (pn := 28) rfl (py := 31) (by decide) (fun hc1688 => ?_) (fun hc1688 => ?_)
   ·
    refine k_iinc X0 hx (hb hby d2_31) rfl (pc' := 34) rfl (z := (3 : Int32)) (by decide) (Ls' := #[.val (.ref a1), .val (.int (1 : Int32)), .val (.int (4 : Int32)), .val (.int p2), .val (.int (3 : Int32))]) rfl ?_
    refine k_goto X0 hx (hb hby d2_34) (pc' := 10) (by decide) ?_
    refine k_iload X0 hx (hb hby d2_10) rfl (pc' := 12) rfl ?_
    refine k_iloadN X0 hx (hb hby d2_12) rfl (pc' := 13) rfl ?_
    refine k_icmp_ge X0 hx (hb hby d2_13) (pn := 16) rfl (py := 37) (by decide) (fun hc => absurd (by decide) hc) (fun _ => ?_)
    refine k_aloadN X0 hx (hb hby d2_16) rfl rfl (pc' := 17) rfl ?_
    refine k_iload X0 hx (hb hby d2_17) rfl (pc' := 19) rfl ?_
    refine k_baload X0 hx hZ e0 F0_0 ⟨by decide, by decide⟩ (v := (.int p7)) rfl (hb hby d2_19) (pc' := 20) rfl ?_
    refine k_sipush X0 hx (hb hby d2_20) (pc' := 23) rfl (z := (255 : Int32)) rfl ?_
    refine k_iand X0 hx (hb hby d2_23) (pc' := 24) rfl (fun v1689 hv1689 => ?_)
    refine k_iloadN X0 hx (hb hby d2_24) rfl (pc' := 25) rfl ?_
    refine k_icmp_ne X0 hx (hb hby d2_25) (pn := 28) rfl (py := 31) (by decide) (fun hc1690 => ?_) (fun hc1690 => ?_)
    ·
     refine k_iinc X0 hx (hb hby d2_31) rfl (pc' := 34) rfl (z := (4 : Int32)) (by decide) (Ls' := #[.val (.ref a1), .val (.int (1 : Int32)), .val (.int (4 : Int32)), .val (.int p2), .val (.int (4 : Int32))]) rfl ?_
     refine k_goto X0 hx (hb hby d2_34) (pc' := 10) (by decide) ?_
     refine k_iload X0 hx (hb hby d2_10) rfl (pc' := 12) rfl ?_
     refine k_iloadN X0 hx (hb hby d2_12) rfl (pc' := 13) rfl ?_
     refine k_icmp_ge X0 hx (hb hby d2_13) (pn := 16) rfl (py := 37) (by decide) (fun _ => ?_) (fun hc => absurd hc (by decide))
     refine k_iconst X0 hx (hb hby d2_37) (pc' := 38) rfl (z := (-1 : Int32)) rfl ?_
     exact k_retI X0 hx Bd.returns (hb hby d2_38) hlk (by decide) (by decide) ⟨N0, e0, (Or.inl ⟨v1685, v1687, v1689, hv1685, hv1687, hv1689, hc1684, hc1686, hc1688, hc1690, rfl⟩)⟩
    ·
     refine k_iload X0 hx (hb hby d2_28) rfl (pc' := 30) rfl ?_
     exact k_retI X0 hx Bd.returns (hb hby d2_30) hlk (by decide) (by decide) ⟨N0, e0, (Or.inr (Or.inl ⟨v1685, v1687, v1689, hv1685, hv1687, hv1689, hc1684, hc1686, hc1688, hc1690, rfl⟩))⟩
   ·
    refine k_iload X0 hx (hb hby d2_28) rfl (pc' := 30) rfl ?_
    exact k_retI X0 hx Bd.returns (hb hby d2_30) hlk (by decide) (by decide) ⟨N0, e0, (Or.inr (Or.inr (Or.inl ⟨v1685, v1687, hv1685, hv1687, hc1684, hc1686, hc1688, rfl⟩)))⟩
  ·
   refine k_iload X0 hx (hb hby d2_28) rfl (pc' := 30) rfl ?_
   exact k_retI X0 hx Bd.returns (hb hby d2_30) hlk (by decide) (by decide) ⟨N0, e0, (Or.inr (Or.inr (Or.inr (Or.inl ⟨v1685, hv1685, hc1684, hc1686, rfl⟩))))⟩
 ·
  refine k_iconst X0 hx (hb hby d2_5) (pc' := 6) rfl (z := (-1 : Int32)) rfl ?_
  exact k_retI X0 hx Bd.returns (hb hby d2_6) hlk (by decide) (by decide) ⟨N0, e0, (Or.inr (Or.inr (Or.inr (Or.inr ⟨hc1684, rfl⟩))))⟩
abbrev R2_1978 : Room := { frames := 0, cells := 0, slots := 0, locals := 0 }
def Q2_1978 (Z : State) (a1 : Addr) (p2 : Int32) (k3 : ClassId) (p4 : Int32) (p5 : Int32) (p6 : Int32) (p7 : Int32) (h0 : Heap) (n0 : Nat) (v : Option Value) (h : Heap) (L : List Loc) : Prop := Fr n0 L ∧ h = h0 ∧ ((¬ p2 = (-1 : Int32) ∧ v = some (.int (-1 : Int32))) ∨ (p2 = (-1 : Int32) ∧ v = some (.int (-1 : Int32))))
theorem ef2_1978 (m : MethodId) (x0 : Addr) (x3 : Int32) : entryFrame m #[(.ref x0), (.int (2 : Int32)), (.int (0 : Int32)), (.int x3)] 5 = mkF m 0 #[.val (.ref x0), .val (.int (2 : Int32)), .val (.int (0 : Int32)), .val (.int x3), .unset] [] := by first | (simp [entryFrame, mkF, argsToLocals, Value.category]; done) | rfl
set_option maxRecDepth 65536 in
set_option maxHeartbeats 40000000 in
theorem rm2_1978 (l : Launch) (Z : State) (a0 : Array Value) (hw : ∀ d ∈ tables_1, d.before a0 Z = true) (ws : List Jvm.Cond) (a1 : Addr) (p2 : Int32) (k3 : ClassId) (p4 : Int32) (p5 : Int32) (p6 : Int32) (p7 : Int32) (h0 : Heap) (n0 : Nat) (Z0 : n0 ≤ h0.size) (F0_0 : Arv Z h0 a1 k3 .byte (4 : Int32) [(.int p4), (.int p5), (.int p6), (.int p7)] (.int (0 : Int32))) :
    MetFree l (⟨"com/example/corella/corella/hl7/Delimiters", "indexOf", "([BIII)I"⟩ : MethodName) (head1 (Jvm.Cond.code (⟨"com/example/corella/corella/hl7/Delimiters", "indexOf", "([BIII)I"⟩ : MethodName) prog_107_method_20_code 5 (some .int) :: ws) R2_1978) (fun a U => a = #[(.ref a1), (.int (2 : Int32)), (.int (0 : Int32)), (.int p2)] ∧ Z.Warmed39 U.vm ∧ U.heap = h0) (fun _ _ _ _ _ => True) (fun _ U o U' => ∃ v L, o = .returned v ∧ Q2_1978 Z a1 p2 k3 p4 p5 p6 p7 h0 n0 v U'.heap L ∧ FrameEnd U o U' L R2_1978.cells R2_1978.slots) := by
 refine MetFree.of_bodySF (plainFor_of_name pn_1) hisR ?_
 intro p e s m args below meth c s₁ Bd hml0 hP hK
 obtain ⟨rfl, hZ, hh⟩ := hP
 have hx := Bd.exec
 have hby := Bd.bytes
 have hml : c.maxLocals = 5 := hml0
 have hlk : meth.locks = false := Bd.notSynchronized
 have hown : s.vm.findClass "com/example/corella/corella/hl7/Delimiters" = some m.cls := findClass_of_methodNamed Bd.named
 have hnm := (name_of_methodNamed Bd.named Bd.method).1
 have X0 : Stand p l e R2_1978 s m #[(.ref a1), (.int (2 : Int32)), (.int (0 : Int32)), (.int p2)] below meth c s₁ [] 0 0 := Stand.of_body Bd
 have e0 : s₁.heap = h0 := by rw [← hh, Bd.state]; rfl
 have N0 := Fr.nil n0
 rw [ef2_1978 m a1 p2]
 show KEnds p e below s R2_1978.cells R2_1978.slots (Q2_1978 Z a1 p2 k3 p4 p5 p6 p7 h0 n0) s₁ (mkF m 0 #[.val (.ref a1), .val (.int (2 : Int32)), .val (.int (0 : Int32)), .val (.int p2), .unset] [])
 refine k_iloadN X0 hx (hb hby d2_0) rfl (pc' := 1) rfl ?_
 refine k_iconst X0 hx (hb hby d2_1) (pc' := 2) rfl (z := (-1 : Int32)) rfl ?_
 refine k_icmp_ne X0 hx (hb hby d2_2) (pn := 5) rfl (py := 7) (by decide) (fun hc1979 => ?_) (fun hc1979 => ?_)
 ·
  refine k_iloadN X0 hx (hb hby d2_7) rfl (pc' := 8) rfl ?_
  refine k_istore X0 hx (hb hby d2_8) (Ls' := #[.val (.ref a1), .val (.int (2 : Int32)), .val (.int (0 : Int32)), .val (.int p2), .val (.int (2 : Int32))]) rfl (pc' := 10) rfl ?_
  refine k_iload X0 hx (hb hby d2_10) rfl (pc' := 12) rfl ?_
  refine k_iloadN X0 hx (hb hby d2_12) rfl (pc' := 13) rfl ?_
  refine k_icmp_ge X0 hx (hb hby d2_13) (pn := 16) rfl (py := 37) (by decide) (fun _ => ?_) (fun hc => absurd hc (by decide))
  refine k_iconst X0 hx (hb hby d2_37) (pc' := 38) rfl (z := (-1 : Int32)) rfl ?_
  exact k_retI X0 hx Bd.returns (hb hby d2_38) hlk (by decide) (by decide) ⟨N0, e0, (Or.inl ⟨hc1979, rfl⟩)⟩
 ·
  refine k_iconst X0 hx (hb hby d2_5) (pc' := 6) rfl (z := (-1 : Int32)) rfl ?_
  exact k_retI X0 hx Bd.returns (hb hby d2_6) hlk (by decide) (by decide) ⟨N0, e0, (Or.inr ⟨hc1979, rfl⟩)⟩
abbrev R2_2071 : Room := { frames := 0, cells := 0, slots := 0, locals := 0 }
def Q2_2071 (Z : State) (a1 : Addr) (p2 : Int32) (k3 : ClassId) (p4 : Int32) (p5 : Int32) (p6 : Int32) (p7 : Int32) (h0 : Heap) (n0 : Nat) (v : Option Value) (h : Heap) (L : List Loc) : Prop := Fr n0 L ∧ h = h0 ∧ ((¬ p2 = (-1 : Int32) ∧ v = some (.int (-1 : Int32))) ∨ (p2 = (-1 : Int32) ∧ v = some (.int (-1 : Int32))))
theorem ef2_2071 (m : MethodId) (x0 : Addr) (x3 : Int32) : entryFrame m #[(.ref x0), (.int (2 : Int32)), (.int (1 : Int32)), (.int x3)] 5 = mkF m 0 #[.val (.ref x0), .val (.int (2 : Int32)), .val (.int (1 : Int32)), .val (.int x3), .unset] [] := by first | (simp [entryFrame, mkF, argsToLocals, Value.category]; done) | rfl
set_option maxRecDepth 65536 in
set_option maxHeartbeats 40000000 in
theorem rm2_2071 (l : Launch) (Z : State) (a0 : Array Value) (hw : ∀ d ∈ tables_1, d.before a0 Z = true) (ws : List Jvm.Cond) (a1 : Addr) (p2 : Int32) (k3 : ClassId) (p4 : Int32) (p5 : Int32) (p6 : Int32) (p7 : Int32) (h0 : Heap) (n0 : Nat) (Z0 : n0 ≤ h0.size) (F0_0 : Arv Z h0 a1 k3 .byte (4 : Int32) [(.int p4), (.int p5), (.int p6), (.int p7)] (.int (0 : Int32))) :
    MetFree l (⟨"com/example/corella/corella/hl7/Delimiters", "indexOf", "([BIII)I"⟩ : MethodName) (head1 (Jvm.Cond.code (⟨"com/example/corella/corella/hl7/Delimiters", "indexOf", "([BIII)I"⟩ : MethodName) prog_107_method_20_code 5 (some .int) :: ws) R2_2071) (fun a U => a = #[(.ref a1), (.int (2 : Int32)), (.int (1 : Int32)), (.int p2)] ∧ Z.Warmed39 U.vm ∧ U.heap = h0) (fun _ _ _ _ _ => True) (fun _ U o U' => ∃ v L, o = .returned v ∧ Q2_2071 Z a1 p2 k3 p4 p5 p6 p7 h0 n0 v U'.heap L ∧ FrameEnd U o U' L R2_2071.cells R2_2071.slots) := by
 refine MetFree.of_bodySF (plainFor_of_name pn_1) hisR ?_
 intro p e s m args below meth c s₁ Bd hml0 hP hK
 obtain ⟨rfl, hZ, hh⟩ := hP
 have hx := Bd.exec
 have hby := Bd.bytes
 have hml : c.maxLocals = 5 := hml0
 have hlk : meth.locks = false := Bd.notSynchronized
 have hown : s.vm.findClass "com/example/corella/corella/hl7/Delimiters" = some m.cls := findClass_of_methodNamed Bd.named
 have hnm := (name_of_methodNamed Bd.named Bd.method).1
 have X0 : Stand p l e R2_2071 s m #[(.ref a1), (.int (2 : Int32)), (.int (1 : Int32)), (.int p2)] below meth c s₁ [] 0 0 := Stand.of_body Bd
 have e0 : s₁.heap = h0 := by rw [← hh, Bd.state]; rfl
 have N0 := Fr.nil n0
 rw [ef2_2071 m a1 p2]
 show KEnds p e below s R2_2071.cells R2_2071.slots (Q2_2071 Z a1 p2 k3 p4 p5 p6 p7 h0 n0) s₁ (mkF m 0 #[.val (.ref a1), .val (.int (2 : Int32)), .val (.int (1 : Int32)), .val (.int p2), .unset] [])
 refine k_iloadN X0 hx (hb hby d2_0) rfl (pc' := 1) rfl ?_
 refine k_iconst X0 hx (hb hby d2_1) (pc' := 2) rfl (z := (-1 : Int32)) rfl ?_
 refine k_icmp_ne X0 hx (hb hby d2_2) (pn := 5) rfl (py := 7) (by decide) (fun hc2072 => ?_) (fun hc2072 => ?_)
 ·
  refine k_iloadN X0 hx (hb hby d2_7) rfl (pc' := 8) rfl ?_
  refine k_istore X0 hx (hb hby d2_8) (Ls' := #[.val (.ref a1), .val (.int (2 : Int32)), .val (.int (1 : Int32)), .val (.int p2), .val (.int (2 : Int32))]) rfl (pc' := 10) rfl ?_
  refine k_iload X0 hx (hb hby d2_10) rfl (pc' := 12) rfl ?_
  refine k_iloadN X0 hx (hb hby d2_12) rfl (pc' := 13) rfl ?_
  refine k_icmp_ge X0 hx (hb hby d2_13) (pn := 16) rfl (py := 37) (by decide) (fun _ => ?_) (fun hc => absurd hc (by decide))
  refine k_iconst X0 hx (hb hby d2_37) (pc' := 38) rfl (z := (-1 : Int32)) rfl ?_
  exact k_retI X0 hx Bd.returns (hb hby d2_38) hlk (by decide) (by decide) ⟨N0, e0, (Or.inl ⟨hc2072, rfl⟩)⟩
 ·
  refine k_iconst X0 hx (hb hby d2_5) (pc' := 6) rfl (z := (-1 : Int32)) rfl ?_
  exact k_retI X0 hx Bd.returns (hb hby d2_6) hlk (by decide) (by decide) ⟨N0, e0, (Or.inr ⟨hc2072, rfl⟩)⟩
abbrev R2_2120 : Room := { frames := 0, cells := 0, slots := 0, locals := 0 }
def Q2_2120 (Z : State) (a1 : Addr) (p2 : Int32) (k3 : ClassId) (p4 : Int32) (p5 : Int32) (p6 : Int32) (p7 : Int32) (h0 : Heap) (n0 : Nat) (v : Option Value) (h : Heap) (L : List Loc) : Prop := Fr n0 L ∧ h = h0 ∧ ((¬ p2 = (-1 : Int32) ∧ v = some (.int (-1 : Int32))) ∨ (p2 = (-1 : Int32) ∧ v = some (.int (-1 : Int32))))
theorem ef2_2120 (m : MethodId) (x0 : Addr) (x3 : Int32) : entryFrame m #[(.ref x0), (.int (2 : Int32)), (.int (2 : Int32)), (.int x3)] 5 = mkF m 0 #[.val (.ref x0), .val (.int (2 : Int32)), .val (.int (2 : Int32)), .val (.int x3), .unset] [] := by first | (simp [entryFrame, mkF, argsToLocals, Value.category]; done) | rfl
set_option maxRecDepth 65536 in
set_option maxHeartbeats 40000000 in
theorem rm2_2120 (l : Launch) (Z : State) (a0 : Array Value) (hw : ∀ d ∈ tables_1, d.before a0 Z = true) (ws : List Jvm.Cond) (a1 : Addr) (p2 : Int32) (k3 : ClassId) (p4 : Int32) (p5 : Int32) (p6 : Int32) (p7 : Int32) (h0 : Heap) (n0 : Nat) (Z0 : n0 ≤ h0.size) (F0_0 : Arv Z h0 a1 k3 .byte (4 : Int32) [(.int p4), (.int p5), (.int p6), (.int p7)] (.int (0 : Int32))) :
    MetFree l (⟨"com/example/corella/corella/hl7/Delimiters", "indexOf", "([BIII)I"⟩ : MethodName) (head1 (Jvm.Cond.code (⟨"com/example/corella/corella/hl7/Delimiters", "indexOf", "([BIII)I"⟩ : MethodName) prog_107_method_20_code 5 (some .int) :: ws) R2_2120) (fun a U => a = #[(.ref a1), (.int (2 : Int32)), (.int (2 : Int32)), (.int p2)] ∧ Z.Warmed39 U.vm ∧ U.heap = h0) (fun _ _ _ _ _ => True) (fun _ U o U' => ∃ v L, o = .returned v ∧ Q2_2120 Z a1 p2 k3 p4 p5 p6 p7 h0 n0 v U'.heap L ∧ FrameEnd U o U' L R2_2120.cells R2_2120.slots) := by
 refine MetFree.of_bodySF (plainFor_of_name pn_1) hisR ?_
 intro p e s m args below meth c s₁ Bd hml0 hP hK
 obtain ⟨rfl, hZ, hh⟩ := hP
 have hx := Bd.exec
 have hby := Bd.bytes
 have hml : c.maxLocals = 5 := hml0
 have hlk : meth.locks = false := Bd.notSynchronized
 have hown : s.vm.findClass "com/example/corella/corella/hl7/Delimiters" = some m.cls := findClass_of_methodNamed Bd.named
 have hnm := (name_of_methodNamed Bd.named Bd.method).1
 have X0 : Stand p l e R2_2120 s m #[(.ref a1), (.int (2 : Int32)), (.int (2 : Int32)), (.int p2)] below meth c s₁ [] 0 0 := Stand.of_body Bd
 have e0 : s₁.heap = h0 := by rw [← hh, Bd.state]; rfl
 have N0 := Fr.nil n0
 rw [ef2_2120 m a1 p2]
 show KEnds p e below s R2_2120.cells R2_2120.slots (Q2_2120 Z a1 p2 k3 p4 p5 p6 p7 h0 n0) s₁ (mkF m 0 #[.val (.ref a1), .val (.int (2 : Int32)), .val (.int (2 : Int32)), .val (.int p2), .unset] [])
 refine k_iloadN X0 hx (hb hby d2_0) rfl (pc' := 1) rfl ?_
 refine k_iconst X0 hx (hb hby d2_1) (pc' := 2) rfl (z := (-1 : Int32)) rfl ?_
 refine k_icmp_ne X0 hx (hb hby d2_2) (pn := 5) rfl (py := 7) (by decide) (fun hc2121 => ?_) (fun hc2121 => ?_)
 ·
  refine k_iloadN X0 hx (hb hby d2_7) rfl (pc' := 8) rfl ?_
  refine k_istore X0 hx (hb hby d2_8) (Ls' := #[.val (.ref a1), .val (.int (2 : Int32)), .val (.int (2 : Int32)), .val (.int p2), .val (.int (2 : Int32))]) rfl (pc' := 10) rfl ?_
  refine k_iload X0 hx (hb hby d2_10) rfl (pc' := 12) rfl ?_
  refine k_iloadN X0 hx (hb hby d2_12) rfl (pc' := 13) rfl ?_
  refine k_icmp_ge X0 hx (hb hby d2_13) (pn := 16) rfl (py := 37) (by decide) (fun _ => ?_) (fun hc => absurd hc (by decide))
  refine k_iconst X0 hx (hb hby d2_37) (pc' := 38) rfl (z := (-1 : Int32)) rfl ?_
  exact k_retI X0 hx Bd.returns (hb hby d2_38) hlk (by decide) (by decide) ⟨N0, e0, (Or.inl ⟨hc2121, rfl⟩)⟩
 ·
  refine k_iconst X0 hx (hb hby d2_5) (pc' := 6) rfl (z := (-1 : Int32)) rfl ?_
  exact k_retI X0 hx Bd.returns (hb hby d2_6) hlk (by decide) (by decide) ⟨N0, e0, (Or.inr ⟨hc2121, rfl⟩)⟩
abbrev R2_2213 : Room := { frames := 0, cells := 0, slots := 0, locals := 0 }
def Q2_2213 (Z : State) (a1 : Addr) (p2 : Int32) (k3 : ClassId) (p4 : Int32) (p5 : Int32) (p6 : Int32) (p7 : Int32) (h0 : Heap) (n0 : Nat) (v : Option Value) (h : Heap) (L : List Loc) : Prop := Fr n0 L ∧ h = h0 ∧ ((∃ (v2215 : Int32), v2215 = p6 &&& (255 : Int32) ∧ ¬ p2 = (-1 : Int32) ∧ ¬ v2215 = p2 ∧ v = some (.int (-1 : Int32))) ∨ (∃ (v2215 : Int32), v2215 = p6 &&& (255 : Int32) ∧ ¬ p2 = (-1 : Int32) ∧ v2215 = p2 ∧ v = some (.int (2 : Int32))) ∨ (p2 = (-1 : Int32) ∧ v = some (.int (-1 : Int32))))
theorem ef2_2213 (m : MethodId) (x0 : Addr) (x3 : Int32) : entryFrame m #[(.ref x0), (.int (2 : Int32)), (.int (3 : Int32)), (.int x3)] 5 = mkF m 0 #[.val (.ref x0), .val (.int (2 : Int32)), .val (.int (3 : Int32)), .val (.int x3), .unset] [] := by first | (simp [entryFrame, mkF, argsToLocals, Value.category]; done) | rfl
set_option maxRecDepth 65536 in
set_option maxHeartbeats 40000000 in
theorem rm2_2213 (l : Launch) (Z : State) (a0 : Array Value) (hw : ∀ d ∈ tables_1, d.before a0 Z = true) (ws : List Jvm.Cond) (a1 : Addr) (p2 : Int32) (k3 : ClassId) (p4 : Int32) (p5 : Int32) (p6 : Int32) (p7 : Int32) (h0 : Heap) (n0 : Nat) (Z0 : n0 ≤ h0.size) (F0_0 : Arv Z h0 a1 k3 .byte (4 : Int32) [(.int p4), (.int p5), (.int p6), (.int p7)] (.int (0 : Int32))) :
    MetFree l (⟨"com/example/corella/corella/hl7/Delimiters", "indexOf", "([BIII)I"⟩ : MethodName) (head1 (Jvm.Cond.code (⟨"com/example/corella/corella/hl7/Delimiters", "indexOf", "([BIII)I"⟩ : MethodName) prog_107_method_20_code 5 (some .int) :: ws) R2_2213) (fun a U => a = #[(.ref a1), (.int (2 : Int32)), (.int (3 : Int32)), (.int p2)] ∧ Z.Warmed39 U.vm ∧ U.heap = h0) (fun _ _ _ _ _ => True) (fun _ U o U' => ∃ v L, o = .returned v ∧ Q2_2213 Z a1 p2 k3 p4 p5 p6 p7 h0 n0 v U'.heap L ∧ FrameEnd U o U' L R2_2213.cells R2_2213.slots) := by
 refine MetFree.of_bodySF (plainFor_of_name pn_1) hisR ?_
 intro p e s m args below meth c s₁ Bd hml0 hP hK
 obtain ⟨rfl, hZ, hh⟩ := hP
 have hx := Bd.exec
 have hby := Bd.bytes
 have hml : c.maxLocals = 5 := hml0
 have hlk : meth.locks = false := Bd.notSynchronized
 have hown : s.vm.findClass "com/example/corella/corella/hl7/Delimiters" = some m.cls := findClass_of_methodNamed Bd.named
 have hnm := (name_of_methodNamed Bd.named Bd.method).1
 have X0 : Stand p l e R2_2213 s m #[(.ref a1), (.int (2 : Int32)), (.int (3 : Int32)), (.int p2)] below meth c s₁ [] 0 0 := Stand.of_body Bd
 have e0 : s₁.heap = h0 := by rw [← hh, Bd.state]; rfl
 have N0 := Fr.nil n0
 rw [ef2_2213 m a1 p2]
 show KEnds p e below s R2_2213.cells R2_2213.slots (Q2_2213 Z a1 p2 k3 p4 p5 p6 p7 h0 n0) s₁ (mkF m 0 #[.val (.ref a1), .val (.int (2 : Int32)), .val (.int (3 : Int32)), .val (.int p2), .unset] [])
 refine k_iloadN X0 hx (hb hby d2_0) rfl (pc' := 1) rfl ?_
 refine k_iconst X0 hx (hb hby d2_1) (pc' := 2) rfl (z := (-1 : Int32)) rfl ?_
 refine k_icmp_ne X0 hx (hb hby d2_2) (pn := 5) rfl (py := 7) (by decide) (fun hc2214 => ?_) (fun hc2214 => ?_)
 ·
  refine k_iloadN X0 hx (hb hby d2_7) rfl (pc' := 8) rfl ?_
  refine k_istore X0 hx (hb hby d2_8) (Ls' := #[.val (.ref a1), .val (.int (2 : Int32)), .val (.int (3 : Int32)), .val (.int p2), .val (.int (2 : Int32))]) rfl (pc' := 10) rfl ?_
  refine k_iload X0 hx (hb hby d2_10) rfl (pc' := 12) rfl ?_
  refine k_iloadN X0 hx (hb hby d2_12) rfl (pc' := 13) rfl ?_
  refine k_icmp_ge X0 hx (hb hby d2_13) (pn := 16) rfl (py := 37) (by decide) (fun hc => absurd (by decide) hc) (fun _ => ?_)
  refine k_aloadN X0 hx (hb hby d2_16) rfl rfl (pc' := 17) rfl ?_
  refine k_iload X0 hx (hb hby d2_17) rfl (pc' := 19) rfl ?_
  refine k_baload X0 hx hZ e0 F0_0 ⟨by decide, by decide⟩ (v := (.int p6)) rfl (hb hby d2_19) (pc' := 20) rfl ?_
  refine k_sipush X0 hx (hb hby d2_20) (pc' := 23) rfl (z := (255 : Int32)) rfl ?_
  refine k_iand X0 hx (hb hby d2_23) (pc' := 24) rfl (fun v2215 hv2215 => ?_)
  refine k_iloadN X0 hx (hb hby d2_24) rfl (pc' := 25) rfl ?_
  refine k_icmp_ne X0 hx (hb hby d2_25) (pn := 28) rfl (py := 31) (by decide) (fun hc2216 => ?_) (fun hc2216 => ?_)
  ·
   refine k_iinc X0 hx (hb hby d2_31) rfl (pc' := 34) rfl (z := (3 : Int32)) (by decide) (Ls' := #[.val (.ref a1), .val (.int (2 : Int32)), .val (.int (3 : Int32)), .val (.int p2), .val (.int (3 : Int32))]) rfl ?_
   refine k_goto X0 hx (hb hby d2_34) (pc' := 10) (by decide) ?_
   refine k_iload X0 hx (hb hby d2_10) rfl (pc' := 12) rfl ?_
   refine k_iloadN X0 hx (hb hby d2_12) rfl (pc' := 13) rfl ?_
   refine k_icmp_ge X0 hx (hb hby d2_13) (pn := 16) rfl (py := 37) (by decide) (fun _ => ?_) (fun hc => absurd hc (by decide))
   refine k_iconst X0 hx (hb hby d2_37) (pc' := 38) rfl (z := (-1 : Int32)) rfl ?_
   exact k_retI X0 hx Bd.returns (hb hby d2_38) hlk (by decide) (by decide) ⟨N0, e0, (Or.inl ⟨v2215, hv2215, hc2214, hc2216, rfl⟩)⟩
  ·
   refine k_iload X0 hx (hb hby d2_28) rfl (pc' := 30) rfl ?_
   exact k_retI X0 hx Bd.returns (hb hby d2_30) hlk (by decide) (by decide) ⟨N0, e0, (Or.inr (Or.inl ⟨v2215, hv2215, hc2214, hc2216, rfl⟩))⟩
 ·
  refine k_iconst X0 hx (hb hby d2_5) (pc' := 6) rfl (z := (-1 : Int32)) rfl ?_
  exact k_retI X0 hx Bd.returns (hb hby d2_6) hlk (by decide) (by decide) ⟨N0, e0, (Or.inr (Or.inr ⟨hc2214, rfl⟩))⟩
abbrev R2_2336 : Room := { frames := 0, cells := 0, slots := 0, locals := 0 }
def Q2_2336 (Z : State) (a1 : Addr) (p2 : Int32) (k3 : ClassId) (p4 : Int32) (p5 : Int32) (p6 : Int32) (p7 : Int32) (h0 : Heap) (n0 : Nat) (v : Option Value) (h : Heap) (L : List Loc) : Prop := Fr n0 L ∧ h = h0 ∧ ((∃ (v2338 : Int32) (v2340 : Int32), v2338 = p6 &&& (255 : Int32) ∧ v2340 = p7 &&& (255 : Int32) ∧ ¬ p2 = (-1 : Int32) ∧ ¬ v2338 = p2 ∧ ¬ v2340 = p2 ∧ v = some (.int (-1 : Int32))) ∨ (∃ (v2338 : Int32) (v2340 : Int32), v2338 = p6 &&& (255 : Int32) ∧ v2340 = p7 &&& (255 : Int32) ∧ ¬ p2 = (-1 : Int32) ∧ ¬ v2338 = p2 ∧ v2340 = p2 ∧ v = some (.int (3 : Int32))) ∨ (∃ (v2338 : Int32), v2338 = p6 &&& (255 : Int32) ∧ ¬ p2 = (-1 : Int32) ∧ v2338 = p2 ∧ v = some (.int (2 : Int32))) ∨ (p2 = (-1 : Int32) ∧ v = some (.int (-1 : Int32))))
theorem ef2_2336 (m : MethodId) (x0 : Addr) (x3 : Int32) : entryFrame m #[(.ref x0), (.int (2 : Int32)), (.int (4 : Int32)), (.int x3)] 5 = mkF m 0 #[.val (.ref x0), .val (.int (2 : Int32)), .val (.int (4 : Int32)), .val (.int x3), .unset] [] := by first | (simp [entryFrame, mkF, argsToLocals, Value.category]; done) | rfl
set_option maxRecDepth 65536 in
set_option maxHeartbeats 40000000 in
theorem rm2_2336 (l : Launch) (Z : State) (a0 : Array Value) (hw : ∀ d ∈ tables_1, d.before a0 Z = true) (ws : List Jvm.Cond) (a1 : Addr) (p2 : Int32) (k3 : ClassId) (p4 : Int32) (p5 : Int32) (p6 : Int32) (p7 : Int32) (h0 : Heap) (n0 : Nat) (Z0 : n0 ≤ h0.size) (F0_0 : Arv Z h0 a1 k3 .byte (4 : Int32) [(.int p4), (.int p5), (.int p6), (.int p7)] (.int (0 : Int32))) :
    MetFree l (⟨"com/example/corella/corella/hl7/Delimiters", "indexOf", "([BIII)I"⟩ : MethodName) (head1 (Jvm.Cond.code (⟨"com/example/corella/corella/hl7/Delimiters", "indexOf", "([BIII)I"⟩ : MethodName) prog_107_method_20_code 5 (some .int) :: ws) R2_2336) (fun a U => a = #[(.ref a1), (.int (2 : Int32)), (.int (4 : Int32)), (.int p2)] ∧ Z.Warmed39 U.vm ∧ U.heap = h0) (fun _ _ _ _ _ => True) (fun _ U o U' => ∃ v L, o = .returned v ∧ Q2_2336 Z a1 p2 k3 p4 p5 p6 p7 h0 n0 v U'.heap L ∧ FrameEnd U o U' L R2_2336.cells R2_2336.slots) := by
 refine MetFree.of_bodySF (plainFor_of_name pn_1) hisR ?_
 intro p e s m args below meth c s₁ Bd hml0 hP hK
 obtain ⟨rfl, hZ, hh⟩ := hP
 have hx := Bd.exec
 have hby := Bd.bytes
 have hml : c.maxLocals = 5 := hml0
 have hlk : meth.locks = false := Bd.notSynchronized
 have hown : s.vm.findClass "com/example/corella/corella/hl7/Delimiters" = some m.cls := findClass_of_methodNamed Bd.named
 have hnm := (name_of_methodNamed Bd.named Bd.method).1
 have X0 : Stand p l e R2_2336 s m #[(.ref a1), (.int (2 : Int32)), (.int (4 : Int32)), (.int p2)] below meth c s₁ [] 0 0 := Stand.of_body Bd
 have e0 : s₁.heap = h0 := by rw [← hh, Bd.state]; rfl
 have N0 := Fr.nil n0
 rw [ef2_2336 m a1 p2]
 show KEnds p e below s R2_2336.cells R2_2336.slots (Q2_2336 Z a1 p2 k3 p4 p5 p6 p7 h0 n0) s₁ (mkF m 0 #[.val (.ref a1), .val (.int (2 : Int32)), .val (.int (4 : Int32)), .val (.int p2), .unset] [])
 refine k_iloadN X0 hx (hb hby d2_0) rfl (pc' := 1) rfl ?_
 refine k_iconst X0 hx (hb hby d2_1) (pc' := 2) rfl (z := (-1 : Int32)) rfl ?_
 refine k_icmp_ne X0 hx (hb hby d2_2) (pn := 5) rfl (py := 7) (by decide) (fun hc2337 => ?_) (fun hc2337 => ?_)
 ·
  refine k_iloadN X0 hx (hb hby d2_7) rfl (pc' := 8) rfl ?_
  refine k_istore X0 hx (hb hby d2_8) (Ls' := #[.val (.ref a1), .val (.int (2 : Int32)), .val (.int (4 : Int32)), .val (.int p2), .val (.int (2 : Int32))]) rfl (pc' := 10) rfl ?_
  refine k_iload X0 hx (hb hby d2_10) rfl (pc' := 12) rfl ?_
  refine k_iloadN X0 hx (hb hby d2_12) rfl (pc' := 13) rfl ?_
  refine k_icmp_ge X0 hx (hb hby d2_13) (pn := 16) rfl (py := 37) (by decide) (fun hc => absurd (by decide) hc) (fun _ => ?_)
  refine k_aloadN X0 hx (hb hby d2_16) rfl rfl (pc' := 17) rfl ?_
  refine k_iload X0 hx (hb hby d2_17) rfl (pc' := 19) rfl ?_
  refine k_baload X0 hx hZ e0 F0_0 ⟨by decide, by decide⟩ (v := (.int p6)) rfl (hb hby d2_19) (pc' := 20) rfl ?_
  refine k_sipush X0 hx (hb hby d2_20) (pc' := 23) rfl (z := (255 : Int32)) rfl ?_
  refine k_iand X0 hx (hb hby d2_23) (pc' := 24) rfl (fun v2338 hv2338 => ?_)
  refine k_iloadN X0 hx (hb hby d2_24) rfl (pc' := 25) rfl ?_
  refine k_icmp_ne X0 hx (hb hby d2_25) (pn := 28) rfl (py := 31) (by decide) (fun hc2339 => ?_) (fun hc2339 => ?_)
  ·
   refine k_iinc X0 hx (hb hby d2_31) rfl (pc' := 34) rfl (z := (3 : Int32)) (by decide) (Ls' := #[.val (.ref a1), .val (.int (2 : Int32)), .val (.int (4 : Int32)), .val (.int p2), .val (.int (3 : Int32))]) rfl ?_
   refine k_goto X0 hx (hb hby d2_34) (pc' := 10) (by decide) ?_
   refine k_iload X0 hx (hb hby d2_10) rfl (pc' := 12) rfl ?_
   refine k_iloadN X0 hx (hb hby d2_12) rfl (pc' := 13) rfl ?_
   refine k_icmp_ge X0 hx (hb hby d2_13) (pn := 16) rfl (py := 37) (by decide) (fun hc => absurd (by decide) hc) (fun _ => ?_)
   refine k_aloadN X0 hx (hb hby d2_16) rfl rfl (pc' := 17) rfl ?_
   refine k_iload X0 hx (hb hby d2_17) rfl (pc' := 19) rfl ?_
   refine k_baload X0 hx hZ e0 F0_0 ⟨by decide, by decide⟩ (v := (.int p7)) rfl (hb hby d2_19) (pc' := 20) rfl ?_
   refine k_sipush X0 hx (hb hby d2_20) (pc' := 23) rfl (z := (255 : Int32)) rfl ?_
   refine k_iand X0 hx (hb hby d2_23) (pc' := 24) rfl (fun v2340 hv2340 => ?_)
   refine k_iloadN X0 hx (hb hby d2_24) rfl (pc' := 25) rfl ?_
   refine k_icmp_ne X0 hx (hb hby d2_25) (pn := 28) rfl (py := 31) (by decide) (fun hc2341 => ?_) (fun hc2341 => ?_)
   ·
    refine k_iinc X0 hx (hb hby d2_31) rfl (pc' := 34) rfl (z := (4 : Int32)) (by decide) (Ls' := #[.val (.ref a1), .val (.int (2 : Int32)), .val (.int (4 : Int32)), .val (.int p2), .val (.int (4 : Int32))]) rfl ?_
    refine k_goto X0 hx (hb hby d2_34) (pc' := 10) (by decide) ?_
    refine k_iload X0 hx (hb hby d2_10) rfl (pc' := 12) rfl ?_
    refine k_iloadN X0 hx (hb hby d2_12) rfl (pc' := 13) rfl ?_
    refine k_icmp_ge X0 hx (hb hby d2_13) (pn := 16) rfl (py := 37) (by decide) (fun _ => ?_) (fun hc => absurd hc (by decide))
    refine k_iconst X0 hx (hb hby d2_37) (pc' := 38) rfl (z := (-1 : Int32)) rfl ?_
    exact k_retI X0 hx Bd.returns (hb hby d2_38) hlk (by decide) (by decide) ⟨N0, e0, (Or.inl ⟨v2338, v2340, hv2338, hv2340, hc2337, hc2339, hc2341, rfl⟩)⟩
   ·
    refine k_iload X0 hx (hb hby d2_28) rfl (pc' := 30) rfl ?_
    exact k_retI X0 hx Bd.returns (hb hby d2_30) hlk (by decide) (by decide) ⟨N0, e0, (Or.inr (Or.inl ⟨v2338, v2340, hv2338, hv2340, hc2337, hc2339, hc2341, rfl⟩))⟩
  ·
   refine k_iload X0 hx (hb hby d2_28) rfl (pc' := 30) rfl ?_
   exact k_retI X0 hx Bd.returns (hb hby d2_30) hlk (by decide) (by decide) ⟨N0, e0, (Or.inr (Or.inr (Or.inl ⟨v2338, hv2338, hc2337, hc2339, rfl⟩)))⟩
 ·
  refine k_iconst X0 hx (hb hby d2_5) (pc' := 6) rfl (z := (-1 : Int32)) rfl ?_
  exact k_retI X0 hx Bd.returns (hb hby d2_6) hlk (by decide) (by decide) ⟨N0, e0, (Or.inr (Or.inr (Or.inr ⟨hc2337, rfl⟩)))⟩
abbrev R2_2528 : Room := { frames := 0, cells := 0, slots := 0, locals := 0 }
def Q2_2528 (Z : State) (a1 : Addr) (p2 : Int32) (k3 : ClassId) (p4 : Int32) (p5 : Int32) (p6 : Int32) (p7 : Int32) (h0 : Heap) (n0 : Nat) (v : Option Value) (h : Heap) (L : List Loc) : Prop := Fr n0 L ∧ h = h0 ∧ ((¬ p2 = (-1 : Int32) ∧ v = some (.int (-1 : Int32))) ∨ (p2 = (-1 : Int32) ∧ v = some (.int (-1 : Int32))))
theorem ef2_2528 (m : MethodId) (x0 : Addr) (x3 : Int32) : entryFrame m #[(.ref x0), (.int (3 : Int32)), (.int (0 : Int32)), (.int x3)] 5 = mkF m 0 #[.val (.ref x0), .val (.int (3 : Int32)), .val (.int (0 : Int32)), .val (.int x3), .unset] [] := by first | (simp [entryFrame, mkF, argsToLocals, Value.category]; done) | rfl
set_option maxRecDepth 65536 in
set_option maxHeartbeats 40000000 in
theorem rm2_2528 (l : Launch) (Z : State) (a0 : Array Value) (hw : ∀ d ∈ tables_1, d.before a0 Z = true) (ws : List Jvm.Cond) (a1 : Addr) (p2 : Int32) (k3 : ClassId) (p4 : Int32) (p5 : Int32) (p6 : Int32) (p7 : Int32) (h0 : Heap) (n0 : Nat) (Z0 : n0 ≤ h0.size) (F0_0 : Arv Z h0 a1 k3 .byte (4 : Int32) [(.int p4), (.int p5), (.int p6), (.int p7)] (.int (0 : Int32))) :
    MetFree l (⟨"com/example/corella/corella/hl7/Delimiters", "indexOf", "([BIII)I"⟩ : MethodName) (head1 (Jvm.Cond.code (⟨"com/example/corella/corella/hl7/Delimiters", "indexOf", "([BIII)I"⟩ : MethodName) prog_107_method_20_code 5 (some .int) :: ws) R2_2528) (fun a U => a = #[(.ref a1), (.int (3 : Int32)), (.int (0 : Int32)), (.int p2)] ∧ Z.Warmed39 U.vm ∧ U.heap = h0) (fun _ _ _ _ _ => True) (fun _ U o U' => ∃ v L, o = .returned v ∧ Q2_2528 Z a1 p2 k3 p4 p5 p6 p7 h0 n0 v U'.heap L ∧ FrameEnd U o U' L R2_2528.cells R2_2528.slots) := by
 refine MetFree.of_bodySF (plainFor_of_name pn_1) hisR ?_
 intro p e s m args below meth c s₁ Bd hml0 hP hK
 obtain ⟨rfl, hZ, hh⟩ := hP
 have hx := Bd.exec
 have hby := Bd.bytes
 have hml : c.maxLocals = 5 := hml0
 have hlk : meth.locks = false := Bd.notSynchronized
 have hown : s.vm.findClass "com/example/corella/corella/hl7/Delimiters" = some m.cls := findClass_of_methodNamed Bd.named
 have hnm := (name_of_methodNamed Bd.named Bd.method).1
 have X0 : Stand p l e R2_2528 s m #[(.ref a1), (.int (3 : Int32)), (.int (0 : Int32)), (.int p2)] below meth c s₁ [] 0 0 := Stand.of_body Bd
 have e0 : s₁.heap = h0 := by rw [← hh, Bd.state]; rfl
 have N0 := Fr.nil n0
 rw [ef2_2528 m a1 p2]
 show KEnds p e below s R2_2528.cells R2_2528.slots (Q2_2528 Z a1 p2 k3 p4 p5 p6 p7 h0 n0) s₁ (mkF m 0 #[.val (.ref a1), .val (.int (3 : Int32)), .val (.int (0 : Int32)), .val (.int p2), .unset] [])
 refine k_iloadN X0 hx (hb hby d2_0) rfl (pc' := 1) rfl ?_
 refine k_iconst X0 hx (hb hby d2_1) (pc' := 2) rfl (z := (-1 : Int32)) rfl ?_
 refine k_icmp_ne X0 hx (hb hby d2_2) (pn := 5) rfl (py := 7) (by decide) (fun hc2529 => ?_) (fun hc2529 => ?_)
 ·
  refine k_iloadN X0 hx (hb hby d2_7) rfl (pc' := 8) rfl ?_
  refine k_istore X0 hx (hb hby d2_8) (Ls' := #[.val (.ref a1), .val (.int (3 : Int32)), .val (.int (0 : Int32)), .val (.int p2), .val (.int (3 : Int32))]) rfl (pc' := 10) rfl ?_
  refine k_iload X0 hx (hb hby d2_10) rfl (pc' := 12) rfl ?_
  refine k_iloadN X0 hx (hb hby d2_12) rfl (pc' := 13) rfl ?_
  refine k_icmp_ge X0 hx (hb hby d2_13) (pn := 16) rfl (py := 37) (by decide) (fun _ => ?_) (fun hc => absurd hc (by decide))
  refine k_iconst X0 hx (hb hby d2_37) (pc' := 38) rfl (z := (-1 : Int32)) rfl ?_
  exact k_retI X0 hx Bd.returns (hb hby d2_38) hlk (by decide) (by decide) ⟨N0, e0, (Or.inl ⟨hc2529, rfl⟩)⟩
 ·
  refine k_iconst X0 hx (hb hby d2_5) (pc' := 6) rfl (z := (-1 : Int32)) rfl ?_
  exact k_retI X0 hx Bd.returns (hb hby d2_6) hlk (by decide) (by decide) ⟨N0, e0, (Or.inr ⟨hc2529, rfl⟩)⟩
abbrev R2_2621 : Room := { frames := 0, cells := 0, slots := 0, locals := 0 }
def Q2_2621 (Z : State) (a1 : Addr) (p2 : Int32) (k3 : ClassId) (p4 : Int32) (p5 : Int32) (p6 : Int32) (p7 : Int32) (h0 : Heap) (n0 : Nat) (v : Option Value) (h : Heap) (L : List Loc) : Prop := Fr n0 L ∧ h = h0 ∧ ((¬ p2 = (-1 : Int32) ∧ v = some (.int (-1 : Int32))) ∨ (p2 = (-1 : Int32) ∧ v = some (.int (-1 : Int32))))
theorem ef2_2621 (m : MethodId) (x0 : Addr) (x3 : Int32) : entryFrame m #[(.ref x0), (.int (3 : Int32)), (.int (1 : Int32)), (.int x3)] 5 = mkF m 0 #[.val (.ref x0), .val (.int (3 : Int32)), .val (.int (1 : Int32)), .val (.int x3), .unset] [] := by first | (simp [entryFrame, mkF, argsToLocals, Value.category]; done) | rfl
set_option maxRecDepth 65536 in
set_option maxHeartbeats 40000000 in
theorem rm2_2621 (l : Launch) (Z : State) (a0 : Array Value) (hw : ∀ d ∈ tables_1, d.before a0 Z = true) (ws : List Jvm.Cond) (a1 : Addr) (p2 : Int32) (k3 : ClassId) (p4 : Int32) (p5 : Int32) (p6 : Int32) (p7 : Int32) (h0 : Heap) (n0 : Nat) (Z0 : n0 ≤ h0.size) (F0_0 : Arv Z h0 a1 k3 .byte (4 : Int32) [(.int p4), (.int p5), (.int p6), (.int p7)] (.int (0 : Int32))) :
    MetFree l (⟨"com/example/corella/corella/hl7/Delimiters", "indexOf", "([BIII)I"⟩ : MethodName) (head1 (Jvm.Cond.code (⟨"com/example/corella/corella/hl7/Delimiters", "indexOf", "([BIII)I"⟩ : MethodName) prog_107_method_20_code 5 (some .int) :: ws) R2_2621) (fun a U => a = #[(.ref a1), (.int (3 : Int32)), (.int (1 : Int32)), (.int p2)] ∧ Z.Warmed39 U.vm ∧ U.heap = h0) (fun _ _ _ _ _ => True) (fun _ U o U' => ∃ v L, o = .returned v ∧ Q2_2621 Z a1 p2 k3 p4 p5 p6 p7 h0 n0 v U'.heap L ∧ FrameEnd U o U' L R2_2621.cells R2_2621.slots) := by
 refine MetFree.of_bodySF (plainFor_of_name pn_1) hisR ?_
 intro p e s m args below meth c s₁ Bd hml0 hP hK
 obtain ⟨rfl, hZ, hh⟩ := hP
 have hx := Bd.exec
 have hby := Bd.bytes
 have hml : c.maxLocals = 5 := hml0
 have hlk : meth.locks = false := Bd.notSynchronized
 have hown : s.vm.findClass "com/example/corella/corella/hl7/Delimiters" = some m.cls := findClass_of_methodNamed Bd.named
 have hnm := (name_of_methodNamed Bd.named Bd.method).1
 have X0 : Stand p l e R2_2621 s m #[(.ref a1), (.int (3 : Int32)), (.int (1 : Int32)), (.int p2)] below meth c s₁ [] 0 0 := Stand.of_body Bd
 have e0 : s₁.heap = h0 := by rw [← hh, Bd.state]; rfl
 have N0 := Fr.nil n0
 rw [ef2_2621 m a1 p2]
 show KEnds p e below s R2_2621.cells R2_2621.slots (Q2_2621 Z a1 p2 k3 p4 p5 p6 p7 h0 n0) s₁ (mkF m 0 #[.val (.ref a1), .val (.int (3 : Int32)), .val (.int (1 : Int32)), .val (.int p2), .unset] [])
 refine k_iloadN X0 hx (hb hby d2_0) rfl (pc' := 1) rfl ?_
 refine k_iconst X0 hx (hb hby d2_1) (pc' := 2) rfl (z := (-1 : Int32)) rfl ?_
 refine k_icmp_ne X0 hx (hb hby d2_2) (pn := 5) rfl (py := 7) (by decide) (fun hc2622 => ?_) (fun hc2622 => ?_)
 ·
  refine k_iloadN X0 hx (hb hby d2_7) rfl (pc' := 8) rfl ?_
  refine k_istore X0 hx (hb hby d2_8) (Ls' := #[.val (.ref a1), .val (.int (3 : Int32)), .val (.int (1 : Int32)), .val (.int p2), .val (.int (3 : Int32))]) rfl (pc' := 10) rfl ?_
  refine k_iload X0 hx (hb hby d2_10) rfl (pc' := 12) rfl ?_
  refine k_iloadN X0 hx (hb hby d2_12) rfl (pc' := 13) rfl ?_
  refine k_icmp_ge X0 hx (hb hby d2_13) (pn := 16) rfl (py := 37) (by decide) (fun _ => ?_) (fun hc => absurd hc (by decide))
  refine k_iconst X0 hx (hb hby d2_37) (pc' := 38) rfl (z := (-1 : Int32)) rfl ?_
  exact k_retI X0 hx Bd.returns (hb hby d2_38) hlk (by decide) (by decide) ⟨N0, e0, (Or.inl ⟨hc2622, rfl⟩)⟩
 ·
  refine k_iconst X0 hx (hb hby d2_5) (pc' := 6) rfl (z := (-1 : Int32)) rfl ?_
  exact k_retI X0 hx Bd.returns (hb hby d2_6) hlk (by decide) (by decide) ⟨N0, e0, (Or.inr ⟨hc2622, rfl⟩)⟩
abbrev R2_2714 : Room := { frames := 0, cells := 0, slots := 0, locals := 0 }
def Q2_2714 (Z : State) (a1 : Addr) (p2 : Int32) (k3 : ClassId) (p4 : Int32) (p5 : Int32) (p6 : Int32) (p7 : Int32) (h0 : Heap) (n0 : Nat) (v : Option Value) (h : Heap) (L : List Loc) : Prop := Fr n0 L ∧ h = h0 ∧ ((¬ p2 = (-1 : Int32) ∧ v = some (.int (-1 : Int32))) ∨ (p2 = (-1 : Int32) ∧ v = some (.int (-1 : Int32))))
theorem ef2_2714 (m : MethodId) (x0 : Addr) (x3 : Int32) : entryFrame m #[(.ref x0), (.int (3 : Int32)), (.int (2 : Int32)), (.int x3)] 5 = mkF m 0 #[.val (.ref x0), .val (.int (3 : Int32)), .val (.int (2 : Int32)), .val (.int x3), .unset] [] := by first | (simp [entryFrame, mkF, argsToLocals, Value.category]; done) | rfl
set_option maxRecDepth 65536 in
set_option maxHeartbeats 40000000 in
theorem rm2_2714 (l : Launch) (Z : State) (a0 : Array Value) (hw : ∀ d ∈ tables_1, d.before a0 Z = true) (ws : List Jvm.Cond) (a1 : Addr) (p2 : Int32) (k3 : ClassId) (p4 : Int32) (p5 : Int32) (p6 : Int32) (p7 : Int32) (h0 : Heap) (n0 : Nat) (Z0 : n0 ≤ h0.size) (F0_0 : Arv Z h0 a1 k3 .byte (4 : Int32) [(.int p4), (.int p5), (.int p6), (.int p7)] (.int (0 : Int32))) :
    MetFree l (⟨"com/example/corella/corella/hl7/Delimiters", "indexOf", "([BIII)I"⟩ : MethodName) (head1 (Jvm.Cond.code (⟨"com/example/corella/corella/hl7/Delimiters", "indexOf", "([BIII)I"⟩ : MethodName) prog_107_method_20_code 5 (some .int) :: ws) R2_2714) (fun a U => a = #[(.ref a1), (.int (3 : Int32)), (.int (2 : Int32)), (.int p2)] ∧ Z.Warmed39 U.vm ∧ U.heap = h0) (fun _ _ _ _ _ => True) (fun _ U o U' => ∃ v L, o = .returned v ∧ Q2_2714 Z a1 p2 k3 p4 p5 p6 p7 h0 n0 v U'.heap L ∧ FrameEnd U o U' L R2_2714.cells R2_2714.slots) := by
 refine MetFree.of_bodySF (plainFor_of_name pn_1) hisR ?_
 intro p e s m args below meth c s₁ Bd hml0 hP hK
 obtain ⟨rfl, hZ, hh⟩ := hP
 have hx := Bd.exec
 have hby := Bd.bytes
 have hml : c.maxLocals = 5 := hml0
 have hlk : meth.locks = false := Bd.notSynchronized
 have hown : s.vm.findClass "com/example/corella/corella/hl7/Delimiters" = some m.cls := findClass_of_methodNamed Bd.named
 have hnm := (name_of_methodNamed Bd.named Bd.method).1
 have X0 : Stand p l e R2_2714 s m #[(.ref a1), (.int (3 : Int32)), (.int (2 : Int32)), (.int p2)] below meth c s₁ [] 0 0 := Stand.of_body Bd
 have e0 : s₁.heap = h0 := by rw [← hh, Bd.state]; rfl
 have N0 := Fr.nil n0
 rw [ef2_2714 m a1 p2]
 show KEnds p e below s R2_2714.cells R2_2714.slots (Q2_2714 Z a1 p2 k3 p4 p5 p6 p7 h0 n0) s₁ (mkF m 0 #[.val (.ref a1), .val (.int (3 : Int32)), .val (.int (2 : Int32)), .val (.int p2), .unset] [])
 refine k_iloadN X0 hx (hb hby d2_0) rfl (pc' := 1) rfl ?_
 refine k_iconst X0 hx (hb hby d2_1) (pc' := 2) rfl (z := (-1 : Int32)) rfl ?_
 refine k_icmp_ne X0 hx (hb hby d2_2) (pn := 5) rfl (py := 7) (by decide) (fun hc2715 => ?_) (fun hc2715 => ?_)
 ·
  refine k_iloadN X0 hx (hb hby d2_7) rfl (pc' := 8) rfl ?_
  refine k_istore X0 hx (hb hby d2_8) (Ls' := #[.val (.ref a1), .val (.int (3 : Int32)), .val (.int (2 : Int32)), .val (.int p2), .val (.int (3 : Int32))]) rfl (pc' := 10) rfl ?_
  refine k_iload X0 hx (hb hby d2_10) rfl (pc' := 12) rfl ?_
  refine k_iloadN X0 hx (hb hby d2_12) rfl (pc' := 13) rfl ?_
  refine k_icmp_ge X0 hx (hb hby d2_13) (pn := 16) rfl (py := 37) (by decide) (fun _ => ?_) (fun hc => absurd hc (by decide))
  refine k_iconst X0 hx (hb hby d2_37) (pc' := 38) rfl (z := (-1 : Int32)) rfl ?_
  exact k_retI X0 hx Bd.returns (hb hby d2_38) hlk (by decide) (by decide) ⟨N0, e0, (Or.inl ⟨hc2715, rfl⟩)⟩
 ·
  refine k_iconst X0 hx (hb hby d2_5) (pc' := 6) rfl (z := (-1 : Int32)) rfl ?_
  exact k_retI X0 hx Bd.returns (hb hby d2_6) hlk (by decide) (by decide) ⟨N0, e0, (Or.inr ⟨hc2715, rfl⟩)⟩
abbrev R2_2763 : Room := { frames := 0, cells := 0, slots := 0, locals := 0 }
def Q2_2763 (Z : State) (a1 : Addr) (p2 : Int32) (k3 : ClassId) (p4 : Int32) (p5 : Int32) (p6 : Int32) (p7 : Int32) (h0 : Heap) (n0 : Nat) (v : Option Value) (h : Heap) (L : List Loc) : Prop := Fr n0 L ∧ h = h0 ∧ ((¬ p2 = (-1 : Int32) ∧ v = some (.int (-1 : Int32))) ∨ (p2 = (-1 : Int32) ∧ v = some (.int (-1 : Int32))))
theorem ef2_2763 (m : MethodId) (x0 : Addr) (x3 : Int32) : entryFrame m #[(.ref x0), (.int (3 : Int32)), (.int (3 : Int32)), (.int x3)] 5 = mkF m 0 #[.val (.ref x0), .val (.int (3 : Int32)), .val (.int (3 : Int32)), .val (.int x3), .unset] [] := by first | (simp [entryFrame, mkF, argsToLocals, Value.category]; done) | rfl
set_option maxRecDepth 65536 in
set_option maxHeartbeats 40000000 in
theorem rm2_2763 (l : Launch) (Z : State) (a0 : Array Value) (hw : ∀ d ∈ tables_1, d.before a0 Z = true) (ws : List Jvm.Cond) (a1 : Addr) (p2 : Int32) (k3 : ClassId) (p4 : Int32) (p5 : Int32) (p6 : Int32) (p7 : Int32) (h0 : Heap) (n0 : Nat) (Z0 : n0 ≤ h0.size) (F0_0 : Arv Z h0 a1 k3 .byte (4 : Int32) [(.int p4), (.int p5), (.int p6), (.int p7)] (.int (0 : Int32))) :
    MetFree l (⟨"com/example/corella/corella/hl7/Delimiters", "indexOf", "([BIII)I"⟩ : MethodName) (head1 (Jvm.Cond.code (⟨"com/example/corella/corella/hl7/Delimiters", "indexOf", "([BIII)I"⟩ : MethodName) prog_107_method_20_code 5 (some .int) :: ws) R2_2763) (fun a U => a = #[(.ref a1), (.int (3 : Int32)), (.int (3 : Int32)), (.int p2)] ∧ Z.Warmed39 U.vm ∧ U.heap = h0) (fun _ _ _ _ _ => True) (fun _ U o U' => ∃ v L, o = .returned v ∧ Q2_2763 Z a1 p2 k3 p4 p5 p6 p7 h0 n0 v U'.heap L ∧ FrameEnd U o U' L R2_2763.cells R2_2763.slots) := by
 refine MetFree.of_bodySF (plainFor_of_name pn_1) hisR ?_
 intro p e s m args below meth c s₁ Bd hml0 hP hK
 obtain ⟨rfl, hZ, hh⟩ := hP
 have hx := Bd.exec
 have hby := Bd.bytes
 have hml : c.maxLocals = 5 := hml0
 have hlk : meth.locks = false := Bd.notSynchronized
 have hown : s.vm.findClass "com/example/corella/corella/hl7/Delimiters" = some m.cls := findClass_of_methodNamed Bd.named
 have hnm := (name_of_methodNamed Bd.named Bd.method).1
 have X0 : Stand p l e R2_2763 s m #[(.ref a1), (.int (3 : Int32)), (.int (3 : Int32)), (.int p2)] below meth c s₁ [] 0 0 := Stand.of_body Bd
 have e0 : s₁.heap = h0 := by rw [← hh, Bd.state]; rfl
 have N0 := Fr.nil n0
 rw [ef2_2763 m a1 p2]
 show KEnds p e below s R2_2763.cells R2_2763.slots (Q2_2763 Z a1 p2 k3 p4 p5 p6 p7 h0 n0) s₁ (mkF m 0 #[.val (.ref a1), .val (.int (3 : Int32)), .val (.int (3 : Int32)), .val (.int p2), .unset] [])
 refine k_iloadN X0 hx (hb hby d2_0) rfl (pc' := 1) rfl ?_
 refine k_iconst X0 hx (hb hby d2_1) (pc' := 2) rfl (z := (-1 : Int32)) rfl ?_
 refine k_icmp_ne X0 hx (hb hby d2_2) (pn := 5) rfl (py := 7) (by decide) (fun hc2764 => ?_) (fun hc2764 => ?_)
 ·
  refine k_iloadN X0 hx (hb hby d2_7) rfl (pc' := 8) rfl ?_
  refine k_istore X0 hx (hb hby d2_8) (Ls' := #[.val (.ref a1), .val (.int (3 : Int32)), .val (.int (3 : Int32)), .val (.int p2), .val (.int (3 : Int32))]) rfl (pc' := 10) rfl ?_
  refine k_iload X0 hx (hb hby d2_10) rfl (pc' := 12) rfl ?_
  refine k_iloadN X0 hx (hb hby d2_12) rfl (pc' := 13) rfl ?_
  refine k_icmp_ge X0 hx (hb hby d2_13) (pn := 16) rfl (py := 37) (by decide) (fun _ => ?_) (fun hc => absurd hc (by decide))
  refine k_iconst X0 hx (hb hby d2_37) (pc' := 38) rfl (z := (-1 : Int32)) rfl ?_
  exact k_retI X0 hx Bd.returns (hb hby d2_38) hlk (by decide) (by decide) ⟨N0, e0, (Or.inl ⟨hc2764, rfl⟩)⟩
 ·
  refine k_iconst X0 hx (hb hby d2_5) (pc' := 6) rfl (z := (-1 : Int32)) rfl ?_
  exact k_retI X0 hx Bd.returns (hb hby d2_6) hlk (by decide) (by decide) ⟨N0, e0, (Or.inr ⟨hc2764, rfl⟩)⟩
abbrev R2_2856 : Room := { frames := 0, cells := 0, slots := 0, locals := 0 }
def Q2_2856 (Z : State) (a1 : Addr) (p2 : Int32) (k3 : ClassId) (p4 : Int32) (p5 : Int32) (p6 : Int32) (p7 : Int32) (h0 : Heap) (n0 : Nat) (v : Option Value) (h : Heap) (L : List Loc) : Prop := Fr n0 L ∧ h = h0 ∧ ((∃ (v2858 : Int32), v2858 = p7 &&& (255 : Int32) ∧ ¬ p2 = (-1 : Int32) ∧ ¬ v2858 = p2 ∧ v = some (.int (-1 : Int32))) ∨ (∃ (v2858 : Int32), v2858 = p7 &&& (255 : Int32) ∧ ¬ p2 = (-1 : Int32) ∧ v2858 = p2 ∧ v = some (.int (3 : Int32))) ∨ (p2 = (-1 : Int32) ∧ v = some (.int (-1 : Int32))))
theorem ef2_2856 (m : MethodId) (x0 : Addr) (x3 : Int32) : entryFrame m #[(.ref x0), (.int (3 : Int32)), (.int (4 : Int32)), (.int x3)] 5 = mkF m 0 #[.val (.ref x0), .val (.int (3 : Int32)), .val (.int (4 : Int32)), .val (.int x3), .unset] [] := by first | (simp [entryFrame, mkF, argsToLocals, Value.category]; done) | rfl
set_option maxRecDepth 65536 in
set_option maxHeartbeats 40000000 in
theorem rm2_2856 (l : Launch) (Z : State) (a0 : Array Value) (hw : ∀ d ∈ tables_1, d.before a0 Z = true) (ws : List Jvm.Cond) (a1 : Addr) (p2 : Int32) (k3 : ClassId) (p4 : Int32) (p5 : Int32) (p6 : Int32) (p7 : Int32) (h0 : Heap) (n0 : Nat) (Z0 : n0 ≤ h0.size) (F0_0 : Arv Z h0 a1 k3 .byte (4 : Int32) [(.int p4), (.int p5), (.int p6), (.int p7)] (.int (0 : Int32))) :
    MetFree l (⟨"com/example/corella/corella/hl7/Delimiters", "indexOf", "([BIII)I"⟩ : MethodName) (head1 (Jvm.Cond.code (⟨"com/example/corella/corella/hl7/Delimiters", "indexOf", "([BIII)I"⟩ : MethodName) prog_107_method_20_code 5 (some .int) :: ws) R2_2856) (fun a U => a = #[(.ref a1), (.int (3 : Int32)), (.int (4 : Int32)), (.int p2)] ∧ Z.Warmed39 U.vm ∧ U.heap = h0) (fun _ _ _ _ _ => True) (fun _ U o U' => ∃ v L, o = .returned v ∧ Q2_2856 Z a1 p2 k3 p4 p5 p6 p7 h0 n0 v U'.heap L ∧ FrameEnd U o U' L R2_2856.cells R2_2856.slots) := by
 refine MetFree.of_bodySF (plainFor_of_name pn_1) hisR ?_
 intro p e s m args below meth c s₁ Bd hml0 hP hK
 obtain ⟨rfl, hZ, hh⟩ := hP
 have hx := Bd.exec
 have hby := Bd.bytes
 have hml : c.maxLocals = 5 := hml0
 have hlk : meth.locks = false := Bd.notSynchronized
 have hown : s.vm.findClass "com/example/corella/corella/hl7/Delimiters" = some m.cls := findClass_of_methodNamed Bd.named
 have hnm := (name_of_methodNamed Bd.named Bd.method).1
 have X0 : Stand p l e R2_2856 s m #[(.ref a1), (.int (3 : Int32)), (.int (4 : Int32)), (.int p2)] below meth c s₁ [] 0 0 := Stand.of_body Bd
 have e0 : s₁.heap = h0 := by rw [← hh, Bd.state]; rfl
 have N0 := Fr.nil n0
 rw [ef2_2856 m a1 p2]
 show KEnds p e below s R2_2856.cells R2_2856.slots (Q2_2856 Z a1 p2 k3 p4 p5 p6 p7 h0 n0) s₁ (mkF m 0 #[.val (.ref a1), .val (.int (3 : Int32)), .val (.int (4 : Int32)), .val (.int p2), .unset] [])
 refine k_iloadN X0 hx (hb hby d2_0) rfl (pc' := 1) rfl ?_
 refine k_iconst X0 hx (hb hby d2_1) (pc' := 2) rfl (z := (-1 : Int32)) rfl ?_
 refine k_icmp_ne X0 hx (hb hby d2_2) (pn := 5) rfl (py := 7) (by decide) (fun hc2857 => ?_) (fun hc2857 => ?_)
 ·
  refine k_iloadN X0 hx (hb hby d2_7) rfl (pc' := 8) rfl ?_
  refine k_istore X0 hx (hb hby d2_8) (Ls' := #[.val (.ref a1), .val (.int (3 : Int32)), .val (.int (4 : Int32)), .val (.int p2), .val (.int (3 : Int32))]) rfl (pc' := 10) rfl ?_
  refine k_iload X0 hx (hb hby d2_10) rfl (pc' := 12) rfl ?_
  refine k_iloadN X0 hx (hb hby d2_12) rfl (pc' := 13) rfl ?_
  refine k_icmp_ge X0 hx (hb hby d2_13) (pn := 16) rfl (py := 37) (by decide) (fun hc => absurd (by decide) hc) (fun _ => ?_)
  refine k_aloadN X0 hx (hb hby d2_16) rfl rfl (pc' := 17) rfl ?_
  refine k_iload X0 hx (hb hby d2_17) rfl (pc' := 19) rfl ?_
  refine k_baload X0 hx hZ e0 F0_0 ⟨by decide, by decide⟩ (v := (.int p7)) rfl (hb hby d2_19) (pc' := 20) rfl ?_
  refine k_sipush X0 hx (hb hby d2_20) (pc' := 23) rfl (z := (255 : Int32)) rfl ?_
  refine k_iand X0 hx (hb hby d2_23) (pc' := 24) rfl (fun v2858 hv2858 => ?_)
  refine k_iloadN X0 hx (hb hby d2_24) rfl (pc' := 25) rfl ?_
  refine k_icmp_ne X0 hx (hb hby d2_25) (pn := 28) rfl (py := 31) (by decide) (fun hc2859 => ?_) (fun hc2859 => ?_)
  ·
   refine k_iinc X0 hx (hb hby d2_31) rfl (pc' := 34) rfl (z := (4 : Int32)) (by decide) (Ls' := #[.val (.ref a1), .val (.int (3 : Int32)), .val (.int (4 : Int32)), .val (.int p2), .val (.int (4 : Int32))]) rfl ?_
   refine k_goto X0 hx (hb hby d2_34) (pc' := 10) (by decide) ?_
   refine k_iload X0 hx (hb hby d2_10) rfl (pc' := 12) rfl ?_
   refine k_iloadN X0 hx (hb hby d2_12) rfl (pc' := 13) rfl ?_
   refine k_icmp_ge X0 hx (hb hby d2_13) (pn := 16) rfl (py := 37) (by decide) (fun _ => ?_) (fun hc => absurd hc (by decide))
   refine k_iconst X0 hx (hb hby d2_37) (pc' := 38) rfl (z := (-1 : Int32)) rfl ?_
   exact k_retI X0 hx Bd.returns (hb hby d2_38) hlk (by decide) (by decide) ⟨N0, e0, (Or.inl ⟨v2858, hv2858, hc2857, hc2859, rfl⟩)⟩
  ·
   refine k_iload X0 hx (hb hby d2_28) rfl (pc' := 30) rfl ?_
   exact k_retI X0 hx Bd.returns (hb hby d2_30) hlk (by decide) (by decide) ⟨N0, e0, (Or.inr (Or.inl ⟨v2858, hv2858, hc2857, hc2859, rfl⟩))⟩
 ·
  refine k_iconst X0 hx (hb hby d2_5) (pc' := 6) rfl (z := (-1 : Int32)) rfl ?_
  exact k_retI X0 hx Bd.returns (hb hby d2_6) hlk (by decide) (by decide) ⟨N0, e0, (Or.inr (Or.inr ⟨hc2857, rfl⟩))⟩
abbrev R2_2987 : Room := { frames := 0, cells := 0, slots := 0, locals := 0 }
def Q2_2987 (Z : State) (a1 : Addr) (p2 : Int32) (k3 : ClassId) (p4 : Int32) (p5 : Int32) (p6 : Int32) (p7 : Int32) (h0 : Heap) (n0 : Nat) (v : Option Value) (h : Heap) (L : List Loc) : Prop := Fr n0 L ∧ h = h0 ∧ ((¬ p2 = (-1 : Int32) ∧ v = some (.int (-1 : Int32))) ∨ (p2 = (-1 : Int32) ∧ v = some (.int (-1 : Int32))))
theorem ef2_2987 (m : MethodId) (x0 : Addr) (x3 : Int32) : entryFrame m #[(.ref x0), (.int (4 : Int32)), (.int (0 : Int32)), (.int x3)] 5 = mkF m 0 #[.val (.ref x0), .val (.int (4 : Int32)), .val (.int (0 : Int32)), .val (.int x3), .unset] [] := by first | (simp [entryFrame, mkF, argsToLocals, Value.category]; done) | rfl
set_option maxRecDepth 65536 in
set_option maxHeartbeats 40000000 in
theorem rm2_2987 (l : Launch) (Z : State) (a0 : Array Value) (hw : ∀ d ∈ tables_1, d.before a0 Z = true) (ws : List Jvm.Cond) (a1 : Addr) (p2 : Int32) (k3 : ClassId) (p4 : Int32) (p5 : Int32) (p6 : Int32) (p7 : Int32) (h0 : Heap) (n0 : Nat) (Z0 : n0 ≤ h0.size) (F0_0 : Arv Z h0 a1 k3 .byte (4 : Int32) [(.int p4), (.int p5), (.int p6), (.int p7)] (.int (0 : Int32))) :
    MetFree l (⟨"com/example/corella/corella/hl7/Delimiters", "indexOf", "([BIII)I"⟩ : MethodName) (head1 (Jvm.Cond.code (⟨"com/example/corella/corella/hl7/Delimiters", "indexOf", "([BIII)I"⟩ : MethodName) prog_107_method_20_code 5 (some .int) :: ws) R2_2987) (fun a U => a = #[(.ref a1), (.int (4 : Int32)), (.int (0 : Int32)), (.int p2)] ∧ Z.Warmed39 U.vm ∧ U.heap = h0) (fun _ _ _ _ _ => True) (fun _ U o U' => ∃ v L, o = .returned v ∧ Q2_2987 Z a1 p2 k3 p4 p5 p6 p7 h0 n0 v U'.heap L ∧ FrameEnd U o U' L R2_2987.cells R2_2987.slots) := by
 refine MetFree.of_bodySF (plainFor_of_name pn_1) hisR ?_
 intro p e s m args below meth c s₁ Bd hml0 hP hK
 obtain ⟨rfl, hZ, hh⟩ := hP
 have hx := Bd.exec
 have hby := Bd.bytes
 have hml : c.maxLocals = 5 := hml0
 have hlk : meth.locks = false := Bd.notSynchronized
 have hown : s.vm.findClass "com/example/corella/corella/hl7/Delimiters" = some m.cls := findClass_of_methodNamed Bd.named
 have hnm := (name_of_methodNamed Bd.named Bd.method).1
 have X0 : Stand p l e R2_2987 s m #[(.ref a1), (.int (4 : Int32)), (.int (0 : Int32)), (.int p2)] below meth c s₁ [] 0 0 := Stand.of_body Bd
 have e0 : s₁.heap = h0 := by rw [← hh, Bd.state]; rfl
 have N0 := Fr.nil n0
 rw [ef2_2987 m a1 p2]
 show KEnds p e below s R2_2987.cells R2_2987.slots (Q2_2987 Z a1 p2 k3 p4 p5 p6 p7 h0 n0) s₁ (mkF m 0 #[.val (.ref a1), .val (.int (4 : Int32)), .val (.int (0 : Int32)), .val (.int p2), .unset] [])
 refine k_iloadN X0 hx (hb hby d2_0) rfl (pc' := 1) rfl ?_
 refine k_iconst X0 hx (hb hby d2_1) (pc' := 2) rfl (z := (-1 : Int32)) rfl ?_
 refine k_icmp_ne X0 hx (hb hby d2_2) (pn := 5) rfl (py := 7) (by decide) (fun hc2988 => ?_) (fun hc2988 => ?_)
 ·
  refine k_iloadN X0 hx (hb hby d2_7) rfl (pc' := 8) rfl ?_
  refine k_istore X0 hx (hb hby d2_8) (Ls' := #[.val (.ref a1), .val (.int (4 : Int32)), .val (.int (0 : Int32)), .val (.int p2), .val (.int (4 : Int32))]) rfl (pc' := 10) rfl ?_
  refine k_iload X0 hx (hb hby d2_10) rfl (pc' := 12) rfl ?_
  refine k_iloadN X0 hx (hb hby d2_12) rfl (pc' := 13) rfl ?_
  refine k_icmp_ge X0 hx (hb hby d2_13) (pn := 16) rfl (py := 37) (by decide) (fun _ => ?_) (fun hc => absurd hc (by decide))
  refine k_iconst X0 hx (hb hby d2_37) (pc' := 38) rfl (z := (-1 : Int32)) rfl ?_
  exact k_retI X0 hx Bd.returns (hb hby d2_38) hlk (by decide) (by decide) ⟨N0, e0, (Or.inl ⟨hc2988, rfl⟩)⟩
 ·
  refine k_iconst X0 hx (hb hby d2_5) (pc' := 6) rfl (z := (-1 : Int32)) rfl ?_
  exact k_retI X0 hx Bd.returns (hb hby d2_6) hlk (by decide) (by decide) ⟨N0, e0, (Or.inr ⟨hc2988, rfl⟩)⟩
abbrev R2_3080 : Room := { frames := 0, cells := 0, slots := 0, locals := 0 }
def Q2_3080 (Z : State) (a1 : Addr) (p2 : Int32) (k3 : ClassId) (p4 : Int32) (p5 : Int32) (p6 : Int32) (p7 : Int32) (h0 : Heap) (n0 : Nat) (v : Option Value) (h : Heap) (L : List Loc) : Prop := Fr n0 L ∧ h = h0 ∧ ((¬ p2 = (-1 : Int32) ∧ v = some (.int (-1 : Int32))) ∨ (p2 = (-1 : Int32) ∧ v = some (.int (-1 : Int32))))
theorem ef2_3080 (m : MethodId) (x0 : Addr) (x3 : Int32) : entryFrame m #[(.ref x0), (.int (4 : Int32)), (.int (1 : Int32)), (.int x3)] 5 = mkF m 0 #[.val (.ref x0), .val (.int (4 : Int32)), .val (.int (1 : Int32)), .val (.int x3), .unset] [] := by first | (simp [entryFrame, mkF, argsToLocals, Value.category]; done) | rfl
set_option maxRecDepth 65536 in
set_option maxHeartbeats 40000000 in
theorem rm2_3080 (l : Launch) (Z : State) (a0 : Array Value) (hw : ∀ d ∈ tables_1, d.before a0 Z = true) (ws : List Jvm.Cond) (a1 : Addr) (p2 : Int32) (k3 : ClassId) (p4 : Int32) (p5 : Int32) (p6 : Int32) (p7 : Int32) (h0 : Heap) (n0 : Nat) (Z0 : n0 ≤ h0.size) (F0_0 : Arv Z h0 a1 k3 .byte (4 : Int32) [(.int p4), (.int p5), (.int p6), (.int p7)] (.int (0 : Int32))) :
    MetFree l (⟨"com/example/corella/corella/hl7/Delimiters", "indexOf", "([BIII)I"⟩ : MethodName) (head1 (Jvm.Cond.code (⟨"com/example/corella/corella/hl7/Delimiters", "indexOf", "([BIII)I"⟩ : MethodName) prog_107_method_20_code 5 (some .int) :: ws) R2_3080) (fun a U => a = #[(.ref a1), (.int (4 : Int32)), (.int (1 : Int32)), (.int p2)] ∧ Z.Warmed39 U.vm ∧ U.heap = h0) (fun _ _ _ _ _ => True) (fun _ U o U' => ∃ v L, o = .returned v ∧ Q2_3080 Z a1 p2 k3 p4 p5 p6 p7 h0 n0 v U'.heap L ∧ FrameEnd U o U' L R2_3080.cells R2_3080.slots) := by
 refine MetFree.of_bodySF (plainFor_of_name pn_1) hisR ?_
 intro p e s m args below meth c s₁ Bd hml0 hP hK
 obtain ⟨rfl, hZ, hh⟩ := hP
 have hx := Bd.exec
 have hby := Bd.bytes
 have hml : c.maxLocals = 5 := hml0
 have hlk : meth.locks = false := Bd.notSynchronized
 have hown : s.vm.findClass "com/example/corella/corella/hl7/Delimiters" = some m.cls := findClass_of_methodNamed Bd.named
 have hnm := (name_of_methodNamed Bd.named Bd.method).1
 have X0 : Stand p l e R2_3080 s m #[(.ref a1), (.int (4 : Int32)), (.int (1 : Int32)), (.int p2)] below meth c s₁ [] 0 0 := Stand.of_body Bd
 have e0 : s₁.heap = h0 := by rw [← hh, Bd.state]; rfl
 have N0 := Fr.nil n0
 rw [ef2_3080 m a1 p2]
 show KEnds p e below s R2_3080.cells R2_3080.slots (Q2_3080 Z a1 p2 k3 p4 p5 p6 p7 h0 n0) s₁ (mkF m 0 #[.val (.ref a1), .val (.int (4 : Int32)), .val (.int (1 : Int32)), .val (.int p2), .unset] [])
 refine k_iloadN X0 hx (hb hby d2_0) rfl (pc' := 1) rfl ?_
 refine k_iconst X0 hx (hb hby d2_1) (pc' := 2) rfl (z := (-1 : Int32)) rfl ?_
 refine k_icmp_ne X0 hx (hb hby d2_2) (pn := 5) rfl (py := 7) (by decide) (fun hc3081 => ?_) (fun hc3081 => ?_)
 ·
  refine k_iloadN X0 hx (hb hby d2_7) rfl (pc' := 8) rfl ?_
  refine k_istore X0 hx (hb hby d2_8) (Ls' := #[.val (.ref a1), .val (.int (4 : Int32)), .val (.int (1 : Int32)), .val (.int p2), .val (.int (4 : Int32))]) rfl (pc' := 10) rfl ?_
  refine k_iload X0 hx (hb hby d2_10) rfl (pc' := 12) rfl ?_
  refine k_iloadN X0 hx (hb hby d2_12) rfl (pc' := 13) rfl ?_
  refine k_icmp_ge X0 hx (hb hby d2_13) (pn := 16) rfl (py := 37) (by decide) (fun _ => ?_) (fun hc => absurd hc (by decide))
  refine k_iconst X0 hx (hb hby d2_37) (pc' := 38) rfl (z := (-1 : Int32)) rfl ?_
  exact k_retI X0 hx Bd.returns (hb hby d2_38) hlk (by decide) (by decide) ⟨N0, e0, (Or.inl ⟨hc3081, rfl⟩)⟩
 ·
  refine k_iconst X0 hx (hb hby d2_5) (pc' := 6) rfl (z := (-1 : Int32)) rfl ?_
  exact k_retI X0 hx Bd.returns (hb hby d2_6) hlk (by decide) (by decide) ⟨N0, e0, (Or.inr ⟨hc3081, rfl⟩)⟩
abbrev R2_3173 : Room := { frames := 0, cells := 0, slots := 0, locals := 0 }
def Q2_3173 (Z : State) (a1 : Addr) (p2 : Int32) (k3 : ClassId) (p4 : Int32) (p5 : Int32) (p6 : Int32) (p7 : Int32) (h0 : Heap) (n0 : Nat) (v : Option Value) (h : Heap) (L : List Loc) : Prop := Fr n0 L ∧ h = h0 ∧ ((¬ p2 = (-1 : Int32) ∧ v = some (.int (-1 : Int32))) ∨ (p2 = (-1 : Int32) ∧ v = some (.int (-1 : Int32))))
theorem ef2_3173 (m : MethodId) (x0 : Addr) (x3 : Int32) : entryFrame m #[(.ref x0), (.int (4 : Int32)), (.int (2 : Int32)), (.int x3)] 5 = mkF m 0 #[.val (.ref x0), .val (.int (4 : Int32)), .val (.int (2 : Int32)), .val (.int x3), .unset] [] := by first | (simp [entryFrame, mkF, argsToLocals, Value.category]; done) | rfl
set_option maxRecDepth 65536 in
set_option maxHeartbeats 40000000 in
theorem rm2_3173 (l : Launch) (Z : State) (a0 : Array Value) (hw : ∀ d ∈ tables_1, d.before a0 Z = true) (ws : List Jvm.Cond) (a1 : Addr) (p2 : Int32) (k3 : ClassId) (p4 : Int32) (p5 : Int32) (p6 : Int32) (p7 : Int32) (h0 : Heap) (n0 : Nat) (Z0 : n0 ≤ h0.size) (F0_0 : Arv Z h0 a1 k3 .byte (4 : Int32) [(.int p4), (.int p5), (.int p6), (.int p7)] (.int (0 : Int32))) :
    MetFree l (⟨"com/example/corella/corella/hl7/Delimiters", "indexOf", "([BIII)I"⟩ : MethodName) (head1 (Jvm.Cond.code (⟨"com/example/corella/corella/hl7/Delimiters", "indexOf", "([BIII)I"⟩ : MethodName) prog_107_method_20_code 5 (some .int) :: ws) R2_3173) (fun a U => a = #[(.ref a1), (.int (4 : Int32)), (.int (2 : Int32)), (.int p2)] ∧ Z.Warmed39 U.vm ∧ U.heap = h0) (fun _ _ _ _ _ => True) (fun _ U o U' => ∃ v L, o = .returned v ∧ Q2_3173 Z a1 p2 k3 p4 p5 p6 p7 h0 n0 v U'.heap L ∧ FrameEnd U o U' L R2_3173.cells R2_3173.slots) := by
 refine MetFree.of_bodySF (plainFor_of_name pn_1) hisR ?_
 intro p e s m args below meth c s₁ Bd hml0 hP hK
 obtain ⟨rfl, hZ, hh⟩ := hP
 have hx := Bd.exec
 have hby := Bd.bytes
 have hml : c.maxLocals = 5 := hml0
 have hlk : meth.locks = false := Bd.notSynchronized
 have hown : s.vm.findClass "com/example/corella/corella/hl7/Delimiters" = some m.cls := findClass_of_methodNamed Bd.named
 have hnm := (name_of_methodNamed Bd.named Bd.method).1
 have X0 : Stand p l e R2_3173 s m #[(.ref a1), (.int (4 : Int32)), (.int (2 : Int32)), (.int p2)] below meth c s₁ [] 0 0 := Stand.of_body Bd
 have e0 : s₁.heap = h0 := by rw [← hh, Bd.state]; rfl
 have N0 := Fr.nil n0
 rw [ef2_3173 m a1 p2]
 show KEnds p e below s R2_3173.cells R2_3173.slots (Q2_3173 Z a1 p2 k3 p4 p5 p6 p7 h0 n0) s₁ (mkF m 0 #[.val (.ref a1), .val (.int (4 : Int32)), .val (.int (2 : Int32)), .val (.int p2), .unset] [])
 refine k_iloadN X0 hx (hb hby d2_0) rfl (pc' := 1) rfl ?_
 refine k_iconst X0 hx (hb hby d2_1) (pc' := 2) rfl (z := (-1 : Int32)) rfl ?_
 refine k_icmp_ne X0 hx (hb hby d2_2) (pn := 5) rfl (py := 7) (by decide) (fun hc3174 => ?_) (fun hc3174 => ?_)
 ·
  refine k_iloadN X0 hx (hb hby d2_7) rfl (pc' := 8) rfl ?_
  refine k_istore X0 hx (hb hby d2_8) (Ls' := #[.val (.ref a1), .val (.int (4 : Int32)), .val (.int (2 : Int32)), .val (.int p2), .val (.int (4 : Int32))]) rfl (pc' := 10) rfl ?_
  refine k_iload X0 hx (hb hby d2_10) rfl (pc' := 12) rfl ?_
  refine k_iloadN X0 hx (hb hby d2_12) rfl (pc' := 13) rfl ?_
  refine k_icmp_ge X0 hx (hb hby d2_13) (pn := 16) rfl (py := 37) (by decide) (fun _ => ?_) (fun hc => absurd hc (by decide))
  refine k_iconst X0 hx (hb hby d2_37) (pc' := 38) rfl (z := (-1 : Int32)) rfl ?_
  exact k_retI X0 hx Bd.returns (hb hby d2_38) hlk (by decide) (by decide) ⟨N0, e0, (Or.inl ⟨hc3174, rfl⟩)⟩
 ·
  refine k_iconst X0 hx (hb hby d2_5) (pc' := 6) rfl (z := (-1 : Int32)) rfl ?_
  exact k_retI X0 hx Bd.returns (hb hby d2_6) hlk (by decide) (by decide) ⟨N0, e0, (Or.inr ⟨hc3174, rfl⟩)⟩
abbrev R2_3266 : Room := { frames := 0, cells := 0, slots := 0, locals := 0 }
def Q2_3266 (Z : State) (a1 : Addr) (p2 : Int32) (k3 : ClassId) (p4 : Int32) (p5 : Int32) (p6 : Int32) (p7 : Int32) (h0 : Heap) (n0 : Nat) (v : Option Value) (h : Heap) (L : List Loc) : Prop := Fr n0 L ∧ h = h0 ∧ ((¬ p2 = (-1 : Int32) ∧ v = some (.int (-1 : Int32))) ∨ (p2 = (-1 : Int32) ∧ v = some (.int (-1 : Int32))))
theorem ef2_3266 (m : MethodId) (x0 : Addr) (x3 : Int32) : entryFrame m #[(.ref x0), (.int (4 : Int32)), (.int (3 : Int32)), (.int x3)] 5 = mkF m 0 #[.val (.ref x0), .val (.int (4 : Int32)), .val (.int (3 : Int32)), .val (.int x3), .unset] [] := by first | (simp [entryFrame, mkF, argsToLocals, Value.category]; done) | rfl
set_option maxRecDepth 65536 in
set_option maxHeartbeats 40000000 in
theorem rm2_3266 (l : Launch) (Z : State) (a0 : Array Value) (hw : ∀ d ∈ tables_1, d.before a0 Z = true) (ws : List Jvm.Cond) (a1 : Addr) (p2 : Int32) (k3 : ClassId) (p4 : Int32) (p5 : Int32) (p6 : Int32) (p7 : Int32) (h0 : Heap) (n0 : Nat) (Z0 : n0 ≤ h0.size) (F0_0 : Arv Z h0 a1 k3 .byte (4 : Int32) [(.int p4), (.int p5), (.int p6), (.int p7)] (.int (0 : Int32))) :
    MetFree l (⟨"com/example/corella/corella/hl7/Delimiters", "indexOf", "([BIII)I"⟩ : MethodName) (head1 (Jvm.Cond.code (⟨"com/example/corella/corella/hl7/Delimiters", "indexOf", "([BIII)I"⟩ : MethodName) prog_107_method_20_code 5 (some .int) :: ws) R2_3266) (fun a U => a = #[(.ref a1), (.int (4 : Int32)), (.int (3 : Int32)), (.int p2)] ∧ Z.Warmed39 U.vm ∧ U.heap = h0) (fun _ _ _ _ _ => True) (fun _ U o U' => ∃ v L, o = .returned v ∧ Q2_3266 Z a1 p2 k3 p4 p5 p6 p7 h0 n0 v U'.heap L ∧ FrameEnd U o U' L R2_3266.cells R2_3266.slots) := by
 refine MetFree.of_bodySF (plainFor_of_name pn_1) hisR ?_
 intro p e s m args below meth c s₁ Bd hml0 hP hK
 obtain ⟨rfl, hZ, hh⟩ := hP
 have hx := Bd.exec
 have hby := Bd.bytes
 have hml : c.maxLocals = 5 := hml0
 have hlk : meth.locks = false := Bd.notSynchronized
 have hown : s.vm.findClass "com/example/corella/corella/hl7/Delimiters" = some m.cls := findClass_of_methodNamed Bd.named
 have hnm := (name_of_methodNamed Bd.named Bd.method).1
 have X0 : Stand p l e R2_3266 s m #[(.ref a1), (.int (4 : Int32)), (.int (3 : Int32)), (.int p2)] below meth c s₁ [] 0 0 := Stand.of_body Bd
 have e0 : s₁.heap = h0 := by rw [← hh, Bd.state]; rfl
 have N0 := Fr.nil n0
 rw [ef2_3266 m a1 p2]
 show KEnds p e below s R2_3266.cells R2_3266.slots (Q2_3266 Z a1 p2 k3 p4 p5 p6 p7 h0 n0) s₁ (mkF m 0 #[.val (.ref a1), .val (.int (4 : Int32)), .val (.int (3 : Int32)), .val (.int p2), .unset] [])
 refine k_iloadN X0 hx (hb hby d2_0) rfl (pc' := 1) rfl ?_
 refine k_iconst X0 hx (hb hby d2_1) (pc' := 2) rfl (z := (-1 : Int32)) rfl ?_
 refine k_icmp_ne X0 hx (hb hby d2_2) (pn := 5) rfl (py := 7) (by decide) (fun hc3267 => ?_) (fun hc3267 => ?_)
 ·
  refine k_iloadN X0 hx (hb hby d2_7) rfl (pc' := 8) rfl ?_
  refine k_istore X0 hx (hb hby d2_8) (Ls' := #[.val (.ref a1), .val (.int (4 : Int32)), .val (.int (3 : Int32)), .val (.int p2), .val (.int (4 : Int32))]) rfl (pc' := 10) rfl ?_
  refine k_iload X0 hx (hb hby d2_10) rfl (pc' := 12) rfl ?_
  refine k_iloadN X0 hx (hb hby d2_12) rfl (pc' := 13) rfl ?_
  refine k_icmp_ge X0 hx (hb hby d2_13) (pn := 16) rfl (py := 37) (by decide) (fun _ => ?_) (fun hc => absurd hc (by decide))
  refine k_iconst X0 hx (hb hby d2_37) (pc' := 38) rfl (z := (-1 : Int32)) rfl ?_
  exact k_retI X0 hx Bd.returns (hb hby d2_38) hlk (by decide) (by decide) ⟨N0, e0, (Or.inl ⟨hc3267, rfl⟩)⟩
 ·
  refine k_iconst X0 hx (hb hby d2_5) (pc' := 6) rfl (z := (-1 : Int32)) rfl ?_
  exact k_retI X0 hx Bd.returns (hb hby d2_6) hlk (by decide) (by decide) ⟨N0, e0, (Or.inr ⟨hc3267, rfl⟩)⟩
abbrev R2_3315 : Room := { frames := 0, cells := 0, slots := 0, locals := 0 }
def Q2_3315 (Z : State) (a1 : Addr) (p2 : Int32) (k3 : ClassId) (p4 : Int32) (p5 : Int32) (p6 : Int32) (p7 : Int32) (h0 : Heap) (n0 : Nat) (v : Option Value) (h : Heap) (L : List Loc) : Prop := Fr n0 L ∧ h = h0 ∧ ((¬ p2 = (-1 : Int32) ∧ v = some (.int (-1 : Int32))) ∨ (p2 = (-1 : Int32) ∧ v = some (.int (-1 : Int32))))
theorem ef2_3315 (m : MethodId) (x0 : Addr) (x3 : Int32) : entryFrame m #[(.ref x0), (.int (4 : Int32)), (.int (4 : Int32)), (.int x3)] 5 = mkF m 0 #[.val (.ref x0), .val (.int (4 : Int32)), .val (.int (4 : Int32)), .val (.int x3), .unset] [] := by first | (simp [entryFrame, mkF, argsToLocals, Value.category]; done) | rfl
set_option maxRecDepth 65536 in
set_option maxHeartbeats 40000000 in
theorem rm2_3315 (l : Launch) (Z : State) (a0 : Array Value) (hw : ∀ d ∈ tables_1, d.before a0 Z = true) (ws : List Jvm.Cond) (a1 : Addr) (p2 : Int32) (k3 : ClassId) (p4 : Int32) (p5 : Int32) (p6 : Int32) (p7 : Int32) (h0 : Heap) (n0 : Nat) (Z0 : n0 ≤ h0.size) (F0_0 : Arv Z h0 a1 k3 .byte (4 : Int32) [(.int p4), (.int p5), (.int p6), (.int p7)] (.int (0 : Int32))) :
    MetFree l (⟨"com/example/corella/corella/hl7/Delimiters", "indexOf", "([BIII)I"⟩ : MethodName) (head1 (Jvm.Cond.code (⟨"com/example/corella/corella/hl7/Delimiters", "indexOf", "([BIII)I"⟩ : MethodName) prog_107_method_20_code 5 (some .int) :: ws) R2_3315) (fun a U => a = #[(.ref a1), (.int (4 : Int32)), (.int (4 : Int32)), (.int p2)] ∧ Z.Warmed39 U.vm ∧ U.heap = h0) (fun _ _ _ _ _ => True) (fun _ U o U' => ∃ v L, o = .returned v ∧ Q2_3315 Z a1 p2 k3 p4 p5 p6 p7 h0 n0 v U'.heap L ∧ FrameEnd U o U' L R2_3315.cells R2_3315.slots) := by
 refine MetFree.of_bodySF (plainFor_of_name pn_1) hisR ?_
 intro p e s m args below meth c s₁ Bd hml0 hP hK
 obtain ⟨rfl, hZ, hh⟩ := hP
 have hx := Bd.exec
 have hby := Bd.bytes
 have hml : c.maxLocals = 5 := hml0
 have hlk : meth.locks = false := Bd.notSynchronized
 have hown : s.vm.findClass "com/example/corella/corella/hl7/Delimiters" = some m.cls := findClass_of_methodNamed Bd.named
 have hnm := (name_of_methodNamed Bd.named Bd.method).1
 have X0 : Stand p l e R2_3315 s m #[(.ref a1), (.int (4 : Int32)), (.int (4 : Int32)), (.int p2)] below meth c s₁ [] 0 0 := Stand.of_body Bd
 have e0 : s₁.heap = h0 := by rw [← hh, Bd.state]; rfl
 have N0 := Fr.nil n0
 rw [ef2_3315 m a1 p2]
 show KEnds p e below s R2_3315.cells R2_3315.slots (Q2_3315 Z a1 p2 k3 p4 p5 p6 p7 h0 n0) s₁ (mkF m 0 #[.val (.ref a1), .val (.int (4 : Int32)), .val (.int (4 : Int32)), .val (.int p2), .unset] [])
 refine k_iloadN X0 hx (hb hby d2_0) rfl (pc' := 1) rfl ?_
 refine k_iconst X0 hx (hb hby d2_1) (pc' := 2) rfl (z := (-1 : Int32)) rfl ?_
 refine k_icmp_ne X0 hx (hb hby d2_2) (pn := 5) rfl (py := 7) (by decide) (fun hc3316 => ?_) (fun hc3316 => ?_)
 ·
  refine k_iloadN X0 hx (hb hby d2_7) rfl (pc' := 8) rfl ?_
  refine k_istore X0 hx (hb hby d2_8) (Ls' := #[.val (.ref a1), .val (.int (4 : Int32)), .val (.int (4 : Int32)), .val (.int p2), .val (.int (4 : Int32))]) rfl (pc' := 10) rfl ?_
  refine k_iload X0 hx (hb hby d2_10) rfl (pc' := 12) rfl ?_
  refine k_iloadN X0 hx (hb hby d2_12) rfl (pc' := 13) rfl ?_
  refine k_icmp_ge X0 hx (hb hby d2_13) (pn := 16) rfl (py := 37) (by decide) (fun _ => ?_) (fun hc => absurd hc (by decide))
  refine k_iconst X0 hx (hb hby d2_37) (pc' := 38) rfl (z := (-1 : Int32)) rfl ?_
  exact k_retI X0 hx Bd.returns (hb hby d2_38) hlk (by decide) (by decide) ⟨N0, e0, (Or.inl ⟨hc3316, rfl⟩)⟩
 ·
  refine k_iconst X0 hx (hb hby d2_5) (pc' := 6) rfl (z := (-1 : Int32)) rfl ?_
  exact k_retI X0 hx Bd.returns (hb hby d2_6) hlk (by decide) (by decide) ⟨N0, e0, (Or.inr ⟨hc3316, rfl⟩)⟩
theorem ef0 (m : MethodId) (x0 : Int32) (x1 : Int32) (x2 : Int32) (x3 : Int32) (x4 : Int32) (x5 : Int32) : entryFrame m #[(.int x0), (.int x1), (.int x2), (.int x3), (.int x4), (.int x5)] maxLocals = mkF m 0 #[.val (.int x0), .val (.int x1), .val (.int x2), .val (.int x3), .val (.int x4), .val (.int x5), .unset, .unset, .unset, .unset, .unset, .unset] [] := by first | (simp [entryFrame, mkF, argsToLocals, Value.category, maxLocals]; done) | rfl
def Q0 (n0 : Nat) (v : Option Value) (h : Heap) (L : List Loc) : Prop := v = some (.int 1) ∧ Fr n0 L
set_option maxRecDepth 65536 in
set_option maxHeartbeats 40000000 in
theorem rm0 (l : Launch) (Z : State) (a0 : Array Value) (hw : ∀ d ∈ tables_1, d.before a0 Z = true) (ws : List Jvm.Cond) (i0 : Int32) (i1 : Int32) (i2 : Int32) (i3 : Int32) (i4 : Int32) (i5 : Int32) (h0 : Heap) (n0 : Nat) (Z0 : n0 ≤ h0.size) :
    MetFree l x (head1 (Jvm.Cond.code x code maxLocals ret :: ws) room_1) (fun a U => a = #[(.int i0), (.int i1), (.int i2), (.int i3), (.int i4), (.int i5)] ∧ Z.Warmed39 U.vm ∧ U.heap = h0) (fun _ _ _ _ _ => True) (fun _ U o U' => ∃ v L, o = .returned v ∧ Q0 n0 v U'.heap L ∧ FrameEnd U o U' L 16 128) := by
 refine MetFree.of_bodySF (plainFor_of_name pn_0) hisR ?_
 intro p e s m args below meth c s₁ Bd hml0 hP hK
 obtain ⟨rfl, hZ, hh⟩ := hP
 have hx := Bd.exec
 have hby := Bd.bytes
 have hml : c.maxLocals = 12 := hml0
 have hlk : meth.locks = false := Bd.notSynchronized
 have hown : s.vm.findClass "com/example/corella/corella/hl7/DelimitersIndexOfPinLaw" = some m.cls := findClass_of_methodNamed Bd.named
 have hnm := (name_of_methodNamed Bd.named Bd.method).1
 have X0 : Stand p l e room_1 s m #[(.int i0), (.int i1), (.int i2), (.int i3), (.int i4), (.int i5)] below meth c s₁ [] 0 0 := Stand.of_body Bd
 have e0 : s₁.heap = h0 := by rw [← hh, Bd.state]; rfl
 have N0 := Fr.nil n0
 rw [show entryFrame m #[(.int i0), (.int i1), (.int i2), (.int i3), (.int i4), (.int i5)] maxLocals = _ from ef0 m i0 i1 i2 i3 i4 i5]
 show KEnds p e below s 16 128 (Q0 n0) s₁ (mkF m 0 #[.val (.int i0), .val (.int i1), .val (.int i2), .val (.int i3), .val (.int i4), .val (.int i5), .unset, .unset, .unset, .unset, .unset, .unset] [])
 refine k_iconst X0 hx (hb hby at_0) (pc' := 1) rfl (z := (4 : Int32)) rfl ?_
 refine k_newA X0 hx hZ (hw _ (List.mem_of_getElem? (i := 0) rfl)) e0 (hb hby at_1) (by decide) (cap := 4) (by decide) (by decide) (by decide) (by decide) (pc' := 3) rfl (fun T1 h1 b1 k1 g1 X1 e1 E1 V1 => ?_)
 have g_b1 : n0 ≤ b1 := Nat.le_trans Z0 (Nat.le_of_eq g1.symm)
 have Z1 : n0 ≤ h1.size := Nat.le_trans Z0 E1.1
 have Vw1 : Arv Z h1 b1 k1 .byte (4 : Int32) [(.int (0 : Int32)), (.int (0 : Int32)), (.int (0 : Int32)), (.int (0 : Int32))] (.int (0 : Int32)) := V1
 refine k_dup X1 hx (hb hby at_3) rfl (pc' := 4) rfl ?_
 refine k_iconst X1 hx (hb hby at_4) (pc' := 5) rfl (z := (0 : Int32)) rfl ?_
 refine k_iloadN X1 hx (hb hby at_5) rfl (pc' := 6) rfl ?_
 refine k_i2b X1 hx (hb hby at_6) (pc' := 7) rfl (fun v2 hv2 => ?_)
 refine k_bastore X1 hx hZ e1 Vw1 ⟨by decide, by decide⟩ (i := 0) rfl (Nat.le_of_ble_eq_true rfl) (hb hby at_7) (pc' := 8) rfl (fun T3 h3 X3 e3 W3 V3 => ?_)
 have hb4 : v2.toInt8.toInt32 = v2 := by rw [hv2]; exact k_i2b2 _
 rw [hb4] at V3
 have Vw3 : Arv Z h3 b1 k1 .byte (4 : Int32) [(.int v2), (.int (0 : Int32)), (.int (0 : Int32)), (.int (0 : Int32))] (.int (0 : Int32)) := V3
 have N3 := Fr.snoc X3 N0 g_b1
 have Z3 : n0 ≤ h3.size := Nat.le_trans Z1 (Nat.le_of_eq W3.size.symm)
 refine k_dup X3 hx (hb hby at_8) rfl (pc' := 9) rfl ?_
 refine k_iconst X3 hx (hb hby at_9) (pc' := 10) rfl (z := (1 : Int32)) rfl ?_
 refine k_iloadN X3 hx (hb hby at_10) rfl (pc' := 11) rfl ?_
 refine k_i2b X3 hx (hb hby at_11) (pc' := 12) rfl (fun v5 hv5 => ?_)
 refine k_bastore X3 hx hZ e3 Vw3 ⟨by decide, by decide⟩ (i := 1) rfl (Nat.le_of_ble_eq_true rfl) (hb hby at_12) (pc' := 13) rfl (fun T6 h6 X6 e6 W6 V6 => ?_)
 have hb7 : v5.toInt8.toInt32 = v5 := by rw [hv5]; exact k_i2b2 _
 rw [hb7] at V6
 have Vw6 : Arv Z h6 b1 k1 .byte (4 : Int32) [(.int v2), (.int v5), (.int (0 : Int32)), (.int (0 : Int32))] (.int (0 : Int32)) := V6
 have N6 := Fr.snoc X6 N3 g_b1
 have Z6 : n0 ≤ h6.size := Nat.le_trans Z3 (Nat.le_of_eq W6.size.symm)
 refine k_dup X6 hx (hb hby at_13) rfl (pc' := 14) rfl ?_
 refine k_iconst X6 hx (hb hby at_14) (pc' := 15) rfl (z := (2 : Int32)) rfl ?_
 refine k_iloadN X6 hx (hb hby at_15) rfl (pc' := 16) rfl ?_
 refine k_i2b X6 hx (hb hby at_16) (pc' := 17) rfl (fun v8 hv8 => ?_)
 refine k_bastore X6 hx hZ e6 Vw6 ⟨by decide, by decide⟩ (i := 2) rfl (Nat.le_of_ble_eq_true rfl) (hb hby at_17) (pc' := 18) rfl (fun T9 h9 X9 e9 W9 V9 => ?_)
 have hb10 : v8.toInt8.toInt32 = v8 := by rw [hv8]; exact k_i2b2 _
 rw [hb10] at V9
 have Vw9 : Arv Z h9 b1 k1 .byte (4 : Int32) [(.int v2), (.int v5), (.int v8), (.int (0 : Int32))] (.int (0 : Int32)) := V9
 have N9 := Fr.snoc X9 N6 g_b1
 have Z9 : n0 ≤ h9.size := Nat.le_trans Z6 (Nat.le_of_eq W9.size.symm)
 refine k_dup X9 hx (hb hby at_18) rfl (pc' := 19) rfl ?_
 refine k_iconst X9 hx (hb hby at_19) (pc' := 20) rfl (z := (3 : Int32)) rfl ?_
 refine k_iloadN X9 hx (hb hby at_20) rfl (pc' := 21) rfl ?_
 refine k_i2b X9 hx (hb hby at_21) (pc' := 22) rfl (fun v11 hv11 => ?_)
 refine k_bastore X9 hx hZ e9 Vw9 ⟨by decide, by decide⟩ (i := 3) rfl (Nat.le_of_ble_eq_true rfl) (hb hby at_22) (pc' := 23) rfl (fun T12 h12 X12 e12 W12 V12 => ?_)
 have hb13 : v11.toInt8.toInt32 = v11 := by rw [hv11]; exact k_i2b2 _
 rw [hb13] at V12
 have Vw12 : Arv Z h12 b1 k1 .byte (4 : Int32) [(.int v2), (.int v5), (.int v8), (.int v11)] (.int (0 : Int32)) := V12
 have N12 := Fr.snoc X12 N9 g_b1
 have Z12 : n0 ≤ h12.size := Nat.le_trans Z9 (Nat.le_of_eq W12.size.symm)
 refine k_astore X12 hx (hb hby at_23) rfl (Ls' := #[.val (.int i0), .val (.int i1), .val (.int i2), .val (.int i3), .val (.int i4), .val (.int i5), .val (.ref b1), .unset, .unset, .unset, .unset, .unset]) rfl (pc' := 25) rfl ?_
 refine k_iload X12 hx (hb hby at_25) rfl (pc' := 27) rfl ?_
 refine k_ldc X12 hx hZ hown (hw _ (List.mem_of_getElem? (i := 1) rfl)) (hb hby at_27) (pc' := 29) rfl ?_
 refine k_iand X12 hx (hb hby at_29) (pc' := 30) rfl (fun v14 hv14 => ?_)
 refine k_iconst X12 hx (hb hby at_30) (pc' := 31) rfl (z := (5 : Int32)) rfl ?_
 refine k_irem X12 hx (hb hby at_31) (by decide) (pc' := 32) rfl (fun v15 hv15 => ?_)
 have hs16 : v15 = (0 : Int32) ∨ v15 = (1 : Int32) ∨ v15 = (2 : Int32) ∨ v15 = (3 : Int32) ∨ v15 = (4 : Int32) := by
  have := rng32 v15
  have := rng32 v14
  have := rng32 i4
  have : (2147483647 : Int32).toInt = 2147483647 := (by decide)
  have q17 : v14.toInt = i4.toInt % 2147483648 := (by rw [hv14]; exact c_mask _ _ 31 (by decide) (by decide))
  have : (5 : Int32).toInt = 5 := (by decide)
  have q18 : (0 ≤ v14.toInt → v15.toInt = v14.toInt % 5) ∧ (v14.toInt < 0 → v15.toInt = -((-v14.toInt) % 5)) := (by rw [hv15]; exact c_irem _ _ 5 (by decide))
  rcases (by omega : v15.toInt = 0 ∨ v15.toInt = 1 ∨ v15.toInt = 2 ∨ v15.toInt = 3 ∨ v15.toInt = 4) with hq | hq | hq | hq | hq
  · exact Or.inl (Int32.toInt_inj.mp hq)
  · exact Or.inr (Or.inl (Int32.toInt_inj.mp hq))
  · exact Or.inr (Or.inr (Or.inl (Int32.toInt_inj.mp hq)))
  · exact Or.inr (Or.inr (Or.inr (Or.inl (Int32.toInt_inj.mp hq))))
  · exact Or.inr (Or.inr (Or.inr (Or.inr ((Int32.toInt_inj.mp hq)))))
 rcases hs16 with rfl | rfl | rfl | rfl | rfl
 ·
  show KEnds p e below s _ _ _ T12 (mkF m 32 #[.val (.int i0), .val (.int i1), .val (.int i2), .val (.int i3), .val (.int i4), .val (.int i5), .val (.ref b1), .unset, .unset, .unset, .unset, .unset] [(.int (0 : Int32))])
  refine k_istore X12 hx (hb hby at_32) (Ls' := #[.val (.int i0), .val (.int i1), .val (.int i2), .val (.int i3), .val (.int i4), .val (.int i5), .val (.ref b1), .val (.int (0 : Int32)), .unset, .unset, .unset, .unset]) rfl (pc' := 34) rfl ?_
  refine k_iload X12 hx (hb hby at_34) rfl (pc' := 36) rfl ?_
  refine k_bipush X12 hx (hb hby at_36) (pc' := 38) rfl (z := (8 : Int32)) rfl ?_
  refine k_iushr X12 hx (hb hby at_38) (pc' := 39) rfl (fun v20 hv20 => ?_)
  refine k_ldc X12 hx hZ hown (hw _ (List.mem_of_getElem? (i := 1) rfl)) (hb hby at_39) (pc' := 41) rfl ?_
  refine k_iand X12 hx (hb hby at_41) (pc' := 42) rfl (fun v21 hv21 => ?_)
  refine k_iconst X12 hx (hb hby at_42) (pc' := 43) rfl (z := (5 : Int32)) rfl ?_
  refine k_irem X12 hx (hb hby at_43) (by decide) (pc' := 44) rfl (fun v22 hv22 => ?_)
  have hs23 : v22 = (0 : Int32) ∨ v22 = (1 : Int32) ∨ v22 = (2 : Int32) ∨ v22 = (3 : Int32) ∨ v22 = (4 : Int32) := by
   have := rng32 v22
   have := rng32 v21
   have := rng32 v20
   have := rng32 i4
   have : (8 : Int32).toInt = 8 := (by decide)
   have q24 : v20.toInt = (i4.toInt % 4294967296) / 256 := (by rw [hv20]; exact c_iushr _ _ 8 (by decide) (by decide))
   have : (2147483647 : Int32).toInt = 2147483647 := (by decide)
   have q25 : v21.toInt = v20.toInt % 2147483648 := (by rw [hv21]; exact c_mask _ _ 31 (by decide) (by decide))
   have : (5 : Int32).toInt = 5 := (by decide)
   have q26 : (0 ≤ v21.toInt → v22.toInt = v21.toInt % 5) ∧ (v21.toInt < 0 → v22.toInt = -((-v21.toInt) % 5)) := (by rw [hv22]; exact c_irem _ _ 5 (by decide))
   rcases (by omega : v22.toInt = 0 ∨ v22.toInt = 1 ∨ v22.toInt = 2 ∨ v22.toInt = 3 ∨ v22.toInt = 4) with hq | hq | hq | hq | hq
   · exact Or.inl (Int32.toInt_inj.mp hq)
   · exact Or.inr (Or.inl (Int32.toInt_inj.mp hq))
   · exact Or.inr (Or.inr (Or.inl (Int32.toInt_inj.mp hq)))
   · exact Or.inr (Or.inr (Or.inr (Or.inl (Int32.toInt_inj.mp hq))))
   · exact Or.inr (Or.inr (Or.inr (Or.inr ((Int32.toInt_inj.mp hq)))))
  rcases hs23 with rfl | rfl | rfl | rfl | rfl
  ·
   show KEnds p e below s _ _ _ T12 (mkF m 44 #[.val (.int i0), .val (.int i1), .val (.int i2), .val (.int i3), .val (.int i4), .val (.int i5), .val (.ref b1), .val (.int (0 : Int32)), .unset, .unset, .unset, .unset] [(.int (0 : Int32))])
   refine k_istore X12 hx (hb hby at_44) (Ls' := #[.val (.int i0), .val (.int i1), .val (.int i2), .val (.int i3), .val (.int i4), .val (.int i5), .val (.ref b1), .val (.int (0 : Int32)), .val (.int (0 : Int32)), .unset, .unset, .unset]) rfl (pc' := 46) rfl ?_
   refine k_iload X12 hx (hb hby at_46) rfl (pc' := 48) rfl ?_
   refine k_iconst X12 hx (hb hby at_48) (pc' := 49) rfl (z := (3 : Int32)) rfl ?_
   refine k_iand X12 hx (hb hby at_49) (pc' := 50) rfl (fun v28 hv28 => ?_)
   refine k_istore X12 hx (hb hby at_50) (Ls' := #[.val (.int i0), .val (.int i1), .val (.int i2), .val (.int i3), .val (.int i4), .val (.int i5), .val (.ref b1), .val (.int (0 : Int32)), .val (.int (0 : Int32)), .val (.int v28), .unset, .unset]) rfl (pc' := 52) rfl ?_
   suffices key29 : ∀ (v53 : Int32), KEnds p e below s 16 128 (Q0 n0) T12 (mkF m 97 #[.val (.int i0), .val (.int i1), .val (.int i2), .val (.int i3), .val (.int i4), .val (.int i5), .val (.ref b1), .val (.int (0 : Int32)), .val (.int (0 : Int32)), .val (.int v28), .val (.int v53), .unset] []) by
    refine k_iload X12 hx (hb hby at_52) rfl (pc' := 54) rfl ?_
    refine k_if_ne X12 hx (hb hby at_54) (pn := 57) rfl (py := 63) (by decide) (fun hc30 => ?_) (fun hc30 => ?_)
    ·
     refine k_iload X12 hx (hb hby at_63) rfl (pc' := 65) rfl ?_
     refine k_iconst X12 hx (hb hby at_65) (pc' := 66) rfl (z := (1 : Int32)) rfl ?_
     refine k_icmp_ne X12 hx (hb hby at_66) (pn := 69) rfl (py := 87) (by decide) (fun hc31 => ?_) (fun hc31 => ?_)
     ·
      refine k_iload X12 hx (hb hby at_87) rfl (pc' := 89) rfl ?_
      refine k_iconst X12 hx (hb hby at_89) (pc' := 90) rfl (z := (2 : Int32)) rfl ?_
      refine k_iushr X12 hx (hb hby at_90) (pc' := 91) rfl (fun v32 hv32 => ?_)
      refine k_sipush X12 hx (hb hby at_91) (pc' := 94) rfl (z := (255 : Int32)) rfl ?_
      refine k_iand X12 hx (hb hby at_94) (pc' := 95) rfl (fun v33 hv33 => ?_)
      refine k_istore X12 hx (hb hby at_95) (Ls' := #[.val (.int i0), .val (.int i1), .val (.int i2), .val (.int i3), .val (.int i4), .val (.int i5), .val (.ref b1), .val (.int (0 : Int32)), .val (.int (0 : Int32)), .val (.int v28), .val (.int v33), .unset]) rfl (pc' := 97) rfl ?_
      exact key29 v33
     ·
      refine k_aload X12 hx (hb hby at_69) rfl rfl (pc' := 71) rfl ?_
      refine k_iload X12 hx (hb hby at_71) rfl (pc' := 73) rfl ?_
      refine k_iconst X12 hx (hb hby at_73) (pc' := 74) rfl (z := (2 : Int32)) rfl ?_
      refine k_iushr X12 hx (hb hby at_74) (pc' := 75) rfl (fun v34 hv34 => ?_)
      refine k_iconst X12 hx (hb hby at_75) (pc' := 76) rfl (z := (3 : Int32)) rfl ?_
      refine k_iand X12 hx (hb hby at_76) (pc' := 77) rfl (fun v35 hv35 => ?_)
      have hj36 : ¬ v35 < 0 ∧ v35 < (4 : Int32) := by
       refine ⟨?_, ?_⟩
       ·
        intro hq37
        have := rng32 v28
        have := rng32 i5
        have : (3 : Int32).toInt = 3 := (by decide)
        have q38 : v28.toInt = i5.toInt % 4 := (by rw [hv28]; exact c_mask _ _ 2 (by decide) (by decide))
        have : (0 : Int32).toInt = 0 := (by decide)
        have q39 : ¬ v28.toInt = (0 : Int32).toInt := fun q => hc30 (Int32.toInt_inj.mp q)
        have : (1 : Int32).toInt = 1 := (by decide)
        have q40 := congrArg Int32.toInt hc31
        have := rng32 v35
        have := rng32 v34
        have : (2 : Int32).toInt = 2 := (by decide)
        have q41 : v34.toInt = (i5.toInt % 4294967296) / 4 := (by rw [hv34]; exact c_iushr _ _ 2 (by decide) (by decide))
        have q42 : v35.toInt = v34.toInt % 4 := (by rw [hv35]; exact c_mask _ _ 2 (by decide) (by decide))
        have q43 := hq37; rw [Int32.lt_iff_toInt_lt] at q43
        omega
       ·
        refine Classical.byContradiction (fun hq44 => ?_)
        have := rng32 v28
        have := rng32 i5
        have : (3 : Int32).toInt = 3 := (by decide)
        have q45 : v28.toInt = i5.toInt % 4 := (by rw [hv28]; exact c_mask _ _ 2 (by decide) (by decide))
        have : (0 : Int32).toInt = 0 := (by decide)
        have q46 : ¬ v28.toInt = (0 : Int32).toInt := fun q => hc30 (Int32.toInt_inj.mp q)
        have : (1 : Int32).toInt = 1 := (by decide)
        have q47 := congrArg Int32.toInt hc31
        have := rng32 v35
        have := rng32 v34
        have : (2 : Int32).toInt = 2 := (by decide)
        have q48 : v34.toInt = (i5.toInt % 4294967296) / 4 := (by rw [hv34]; exact c_iushr _ _ 2 (by decide) (by decide))
        have q49 : v35.toInt = v34.toInt % 4 := (by rw [hv35]; exact c_mask _ _ 2 (by decide) (by decide))
        have : (4 : Int32).toInt = 4 := (by decide)
        have q50 := hq44; rw [Int32.lt_iff_toInt_lt] at q50
        omega
      refine k_baloadS X12 hx hZ e12 Vw12 hj36 (hb hby at_77) (pc' := 78) rfl (fun v51 hv51 => ?_)
      refine k_sipush X12 hx (hb hby at_78) (pc' := 81) rfl (z := (255 : Int32)) rfl ?_
      refine k_iand X12 hx (hb hby at_81) (pc' := 82) rfl (fun v52 hv52 => ?_)
      refine k_istore X12 hx (hb hby at_82) (Ls' := #[.val (.int i0), .val (.int i1), .val (.int i2), .val (.int i3), .val (.int i4), .val (.int i5), .val (.ref b1), .val (.int (0 : Int32)), .val (.int (0 : Int32)), .val (.int v28), .val (.int v52), .unset]) rfl (pc' := 84) rfl ?_
      refine k_goto X12 hx (hb hby at_84) (pc' := 97) (by decide) ?_
      exact key29 v52
    ·
     refine k_iconst X12 hx (hb hby at_57) (pc' := 58) rfl (z := (-1 : Int32)) rfl ?_
     refine k_istore X12 hx (hb hby at_58) (Ls' := #[.val (.int i0), .val (.int i1), .val (.int i2), .val (.int i3), .val (.int i4), .val (.int i5), .val (.ref b1), .val (.int (0 : Int32)), .val (.int (0 : Int32)), .val (.int v28), .val (.int (-1 : Int32)), .unset]) rfl (pc' := 60) rfl ?_
     refine k_goto X12 hx (hb hby at_60) (pc' := 97) (by decide) ?_
     exact key29 (-1 : Int32)
   intro v53
   refine k_iload X12 hx (hb hby at_97) rfl (pc' := 99) rfl ?_
   refine k_iconst X12 hx (hb hby at_99) (pc' := 100) rfl (z := (-1 : Int32)) rfl ?_
   refine k_icmp_ne X12 hx (hb hby at_100) (pn := 103) rfl (py := 109) (by decide) (fun hc55 => ?_) (fun hc55 => ?_)
   ·
    refine k_aload X12 hx (hb hby at_109) rfl rfl (pc' := 111) rfl ?_
    refine k_iconst X12 hx (hb hby at_111) (pc' := 112) rfl (z := (0 : Int32)) rfl ?_
    refine k_iload X12 hx (hb hby at_112) rfl (pc' := 114) rfl ?_
    refine k_iload X12 hx (hb hby at_114) rfl (pc' := 116) rfl ?_
    refine k_iload X12 hx (hb hby at_116) rfl (pc' := 118) rfl ?_
    refine k_callS X12 hx hZ hown (hw _ (List.mem_of_getElem? (i := 2) rfl)) (hw _ (List.mem_of_getElem? (i := 3) rfl)) (hw _ (List.mem_of_getElem? (i := 4) rfl)) (hw _ (List.mem_of_getElem? (i := 5) rfl)) (by decide) (rm1_56 l Z a0 hw [] b1 (0 : Int32) v53 k1 v2 v5 v8 v11 h12 n0 Z12 Vw12) (by decide) (by decide) e12 (by rw [hml]; rfl) (argsL := [(.ref b1), (.int (0 : Int32)), (.int (0 : Int32)), (.int (0 : Int32)), (.int v53)]) (rest := []) (lenOf pd_0 rfl) rfl (W := 0) (Nat.le_refl _) rfl (hb hby at_118) (by decide) (by decide) (pc' := 121) rfl (fun T58 L58 r58 X58 q58 => ?_)
    obtain ⟨N58, e58, q58⟩ := q58
    have N58' := Fr.app N12 N58
    rcases q58 with ⟨hc59, rfl⟩ | ⟨hc60, rfl⟩
    ·
     show KEnds p e below s _ _ _ T58 (mkF m 121 #[.val (.int i0), .val (.int i1), .val (.int i2), .val (.int i3), .val (.int i4), .val (.int i5), .val (.ref b1), .val (.int (0 : Int32)), .val (.int (0 : Int32)), .val (.int v28), .val (.int v53), .unset] [(.int (0 : Int32))])
     exact absurd hc59 (by decide)
    ·
     show KEnds p e below s _ _ _ T58 (mkF m 121 #[.val (.int i0), .val (.int i1), .val (.int i2), .val (.int i3), .val (.int i4), .val (.int i5), .val (.ref b1), .val (.int (0 : Int32)), .val (.int (0 : Int32)), .val (.int v28), .val (.int v53), .unset] [(.int (0 : Int32))])
     refine k_if_eq X58 hx (hb hby at_121) (pn := 124) rfl (py := 130) (by decide) (fun _ => ?_) (fun hc => absurd (by decide) hc)
     refine k_aload X58 hx (hb hby at_130) rfl rfl (pc' := 132) rfl ?_
     refine k_iconst X58 hx (hb hby at_132) (pc' := 133) rfl (z := (1 : Int32)) rfl ?_
     refine k_iload X58 hx (hb hby at_133) rfl (pc' := 135) rfl ?_
     refine k_iload X58 hx (hb hby at_135) rfl (pc' := 137) rfl ?_
     refine k_iload X58 hx (hb hby at_137) rfl (pc' := 139) rfl ?_
     refine k_callS X58 hx hZ hown (hw _ (List.mem_of_getElem? (i := 2) rfl)) (hw _ (List.mem_of_getElem? (i := 3) rfl)) (hw _ (List.mem_of_getElem? (i := 4) rfl)) (hw _ (List.mem_of_getElem? (i := 5) rfl)) (by decide) (rm1_61 l Z a0 hw [] b1 (0 : Int32) v53 k1 v2 v5 v8 v11 h12 n0 Z12 Vw12) (by decide) (by decide) e58 (by rw [hml]; rfl) (argsL := [(.ref b1), (.int (1 : Int32)), (.int (0 : Int32)), (.int (0 : Int32)), (.int v53)]) (rest := []) (lenOf pd_0 rfl) rfl (W := 0) (Nat.le_refl _) rfl (hb hby at_139) (by decide) (by decide) (pc' := 142) rfl (fun T63 L63 r63 X63 q63 => ?_)
     obtain ⟨N63, e63, q63⟩ := q63
     have N63' := Fr.app N58' N63
     rcases q63 with ⟨hc64, rfl⟩ | ⟨hc65, rfl⟩
     ·
      show KEnds p e below s _ _ _ T63 (mkF m 142 #[.val (.int i0), .val (.int i1), .val (.int i2), .val (.int i3), .val (.int i4), .val (.int i5), .val (.ref b1), .val (.int (0 : Int32)), .val (.int (0 : Int32)), .val (.int v28), .val (.int v53), .unset] [(.int (0 : Int32))])
      exact absurd hc64 (by decide)
     ·
      show KEnds p e below s _ _ _ T63 (mkF m 142 #[.val (.int i0), .val (.int i1), .val (.int i2), .val (.int i3), .val (.int i4), .val (.int i5), .val (.ref b1), .val (.int (0 : Int32)), .val (.int (0 : Int32)), .val (.int v28), .val (.int v53), .unset] [(.int (0 : Int32))])
      refine k_if_eq X63 hx (hb hby at_142) (pn := 145) rfl (py := 151) (by decide) (fun _ => ?_) (fun hc => absurd (by decide) hc)
      refine k_aload X63 hx (hb hby at_151) rfl rfl (pc' := 153) rfl ?_
      refine k_iconst X63 hx (hb hby at_153) (pc' := 154) rfl (z := (2 : Int32)) rfl ?_
      refine k_iload X63 hx (hb hby at_154) rfl (pc' := 156) rfl ?_
      refine k_iload X63 hx (hb hby at_156) rfl (pc' := 158) rfl ?_
      refine k_iload X63 hx (hb hby at_158) rfl (pc' := 160) rfl ?_
      refine k_callS X63 hx hZ hown (hw _ (List.mem_of_getElem? (i := 2) rfl)) (hw _ (List.mem_of_getElem? (i := 3) rfl)) (hw _ (List.mem_of_getElem? (i := 4) rfl)) (hw _ (List.mem_of_getElem? (i := 5) rfl)) (by decide) (rm1_66 l Z a0 hw [] b1 (0 : Int32) v53 k1 v2 v5 v8 v11 h12 n0 Z12 Vw12) (by decide) (by decide) e63 (by rw [hml]; rfl) (argsL := [(.ref b1), (.int (2 : Int32)), (.int (0 : Int32)), (.int (0 : Int32)), (.int v53)]) (rest := []) (lenOf pd_0 rfl) rfl (W := 0) (Nat.le_refl _) rfl (hb hby at_160) (by decide) (by decide) (pc' := 163) rfl (fun T68 L68 r68 X68 q68 => ?_)
      obtain ⟨N68, e68, q68⟩ := q68
      have N68' := Fr.app N63' N68
      rcases q68 with ⟨hc69, rfl⟩ | ⟨hc70, rfl⟩
      ·
       show KEnds p e below s _ _ _ T68 (mkF m 163 #[.val (.int i0), .val (.int i1), .val (.int i2), .val (.int i3), .val (.int i4), .val (.int i5), .val (.ref b1), .val (.int (0 : Int32)), .val (.int (0 : Int32)), .val (.int v28), .val (.int v53), .unset] [(.int (0 : Int32))])
       exact absurd hc69 (by decide)
      ·
       show KEnds p e below s _ _ _ T68 (mkF m 163 #[.val (.int i0), .val (.int i1), .val (.int i2), .val (.int i3), .val (.int i4), .val (.int i5), .val (.ref b1), .val (.int (0 : Int32)), .val (.int (0 : Int32)), .val (.int v28), .val (.int v53), .unset] [(.int (0 : Int32))])
       refine k_if_eq X68 hx (hb hby at_163) (pn := 166) rfl (py := 172) (by decide) (fun _ => ?_) (fun hc => absurd (by decide) hc)
       refine k_aload X68 hx (hb hby at_172) rfl rfl (pc' := 174) rfl ?_
       refine k_iconst X68 hx (hb hby at_174) (pc' := 175) rfl (z := (3 : Int32)) rfl ?_
       refine k_iload X68 hx (hb hby at_175) rfl (pc' := 177) rfl ?_
       refine k_iload X68 hx (hb hby at_177) rfl (pc' := 179) rfl ?_
       refine k_iload X68 hx (hb hby at_179) rfl (pc' := 181) rfl ?_
       refine k_callS X68 hx hZ hown (hw _ (List.mem_of_getElem? (i := 2) rfl)) (hw _ (List.mem_of_getElem? (i := 3) rfl)) (hw _ (List.mem_of_getElem? (i := 4) rfl)) (hw _ (List.mem_of_getElem? (i := 5) rfl)) (by decide) (rm1_71 l Z a0 hw [] b1 (0 : Int32) v53 k1 v2 v5 v8 v11 h12 n0 Z12 Vw12) (by decide) (by decide) e68 (by rw [hml]; rfl) (argsL := [(.ref b1), (.int (3 : Int32)), (.int (0 : Int32)), (.int (0 : Int32)), (.int v53)]) (rest := []) (lenOf pd_0 rfl) rfl (W := 0) (Nat.le_refl _) rfl (hb hby at_181) (by decide) (by decide) (pc' := 184) rfl (fun T73 L73 r73 X73 q73 => ?_)
       obtain ⟨N73, e73, q73⟩ := q73
       have N73' := Fr.app N68' N73
       rcases q73 with ⟨hc74, rfl⟩ | ⟨hc75, rfl⟩
       ·
        show KEnds p e below s _ _ _ T73 (mkF m 184 #[.val (.int i0), .val (.int i1), .val (.int i2), .val (.int i3), .val (.int i4), .val (.int i5), .val (.ref b1), .val (.int (0 : Int32)), .val (.int (0 : Int32)), .val (.int v28), .val (.int v53), .unset] [(.int (0 : Int32))])
        exact absurd hc74 (by decide)
       ·
        show KEnds p e below s _ _ _ T73 (mkF m 184 #[.val (.int i0), .val (.int i1), .val (.int i2), .val (.int i3), .val (.int i4), .val (.int i5), .val (.ref b1), .val (.int (0 : Int32)), .val (.int (0 : Int32)), .val (.int v28), .val (.int v53), .unset] [(.int (0 : Int32))])
        refine k_if_eq X73 hx (hb hby at_184) (pn := 187) rfl (py := 193) (by decide) (fun _ => ?_) (fun hc => absurd (by decide) hc)
        refine k_iconst X73 hx (hb hby at_193) (pc' := 194) rfl (z := (-1 : Int32)) rfl ?_
        refine k_istore X73 hx (hb hby at_194) (Ls' := #[.val (.int i0), .val (.int i1), .val (.int i2), .val (.int i3), .val (.int i4), .val (.int i5), .val (.ref b1), .val (.int (0 : Int32)), .val (.int (0 : Int32)), .val (.int v28), .val (.int v53), .val (.int (-1 : Int32))]) rfl (pc' := 196) rfl ?_
        refine k_aload X73 hx (hb hby at_196) rfl rfl (pc' := 198) rfl ?_
        refine k_iload X73 hx (hb hby at_198) rfl (pc' := 200) rfl ?_
        refine k_iload X73 hx (hb hby at_200) rfl (pc' := 202) rfl ?_
        refine k_iload X73 hx (hb hby at_202) rfl (pc' := 204) rfl ?_
        refine k_callS X73 hx hZ hown (hw _ (List.mem_of_getElem? (i := 6) rfl)) (hw _ (List.mem_of_getElem? (i := 7) rfl)) (hw _ (List.mem_of_getElem? (i := 8) rfl)) (hw _ (List.mem_of_getElem? (i := 9) rfl)) (by decide) (rm2_76 l Z a0 hw [] b1 v53 k1 v2 v5 v8 v11 h12 n0 Z12 Vw12) (by decide) (by decide) e73 (by rw [hml]; rfl) (argsL := [(.ref b1), (.int (0 : Int32)), (.int (0 : Int32)), (.int v53)]) (rest := []) (lenOf pd_1 rfl) rfl (W := 0) (Nat.le_refl _) rfl (hb hby at_204) (by decide) (by decide) (pc' := 207) rfl (fun T78 L78 r78 X78 q78 => ?_)
        obtain ⟨N78, e78, q78⟩ := q78
        have N78' := Fr.app N73' N78
        rcases q78 with ⟨hc79, rfl⟩ | ⟨hc80, rfl⟩
        ·
         show KEnds p e below s _ _ _ T78 (mkF m 207 #[.val (.int i0), .val (.int i1), .val (.int i2), .val (.int i3), .val (.int i4), .val (.int i5), .val (.ref b1), .val (.int (0 : Int32)), .val (.int (0 : Int32)), .val (.int v28), .val (.int v53), .val (.int (-1 : Int32))] [(.int (-1 : Int32))])
         refine k_iload X78 hx (hb hby at_207) rfl (pc' := 209) rfl ?_
         refine k_icmp_ne X78 hx (hb hby at_209) (pn := 212) rfl (py := 216) (by decide) (fun hc => absurd (by decide) hc) (fun _ => ?_)
         refine k_iconst X78 hx (hb hby at_212) (pc' := 213) rfl (z := (1 : Int32)) rfl ?_
         refine k_goto X78 hx (hb hby at_213) (pc' := 217) (by decide) ?_
         exact k_retN X78 hx (t := .boolean) Bd.returns (by simp) (hb hby at_217) hlk (by decide) (by decide) (z' := (1 : Int32)) rfl ⟨rfl, N78'⟩
        ·
         show KEnds p e below s _ _ _ T78 (mkF m 207 #[.val (.int i0), .val (.int i1), .val (.int i2), .val (.int i3), .val (.int i4), .val (.int i5), .val (.ref b1), .val (.int (0 : Int32)), .val (.int (0 : Int32)), .val (.int v28), .val (.int v53), .val (.int (-1 : Int32))] [(.int (-1 : Int32))])
         exact absurd hc80 hc55
   ·
    refine k_iconst X12 hx (hb hby at_103) (pc' := 104) rfl (z := (-1 : Int32)) rfl ?_
    refine k_istore X12 hx (hb hby at_104) (Ls' := #[.val (.int i0), .val (.int i1), .val (.int i2), .val (.int i3), .val (.int i4), .val (.int i5), .val (.ref b1), .val (.int (0 : Int32)), .val (.int (0 : Int32)), .val (.int v28), .val (.int v53), .val (.int (-1 : Int32))]) rfl (pc' := 106) rfl ?_
    refine k_goto X12 hx (hb hby at_106) (pc' := 196) (by decide) ?_
    refine k_aload X12 hx (hb hby at_196) rfl rfl (pc' := 198) rfl ?_
    refine k_iload X12 hx (hb hby at_198) rfl (pc' := 200) rfl ?_
    refine k_iload X12 hx (hb hby at_200) rfl (pc' := 202) rfl ?_
    refine k_iload X12 hx (hb hby at_202) rfl (pc' := 204) rfl ?_
    refine k_callS X12 hx hZ hown (hw _ (List.mem_of_getElem? (i := 6) rfl)) (hw _ (List.mem_of_getElem? (i := 7) rfl)) (hw _ (List.mem_of_getElem? (i := 8) rfl)) (hw _ (List.mem_of_getElem? (i := 9) rfl)) (by decide) (rm2_76 l Z a0 hw [] b1 v53 k1 v2 v5 v8 v11 h12 n0 Z12 Vw12) (by decide) (by decide) e12 (by rw [hml]; rfl) (argsL := [(.ref b1), (.int (0 : Int32)), (.int (0 : Int32)), (.int v53)]) (rest := []) (lenOf pd_1 rfl) rfl (W := 0) (Nat.le_refl _) rfl (hb hby at_204) (by decide) (by decide) (pc' := 207) rfl (fun T81 L81 r81 X81 q81 => ?_)
    obtain ⟨N81, e81, q81⟩ := q81
    have N81' := Fr.app N12 N81
    rcases q81 with ⟨hc82, rfl⟩ | ⟨hc83, rfl⟩
    ·
     show KEnds p e below s _ _ _ T81 (mkF m 207 #[.val (.int i0), .val (.int i1), .val (.int i2), .val (.int i3), .val (.int i4), .val (.int i5), .val (.ref b1), .val (.int (0 : Int32)), .val (.int (0 : Int32)), .val (.int v28), .val (.int v53), .val (.int (-1 : Int32))] [(.int (-1 : Int32))])
     exact absurd hc55 hc82
    ·
     show KEnds p e below s _ _ _ T81 (mkF m 207 #[.val (.int i0), .val (.int i1), .val (.int i2), .val (.int i3), .val (.int i4), .val (.int i5), .val (.ref b1), .val (.int (0 : Int32)), .val (.int (0 : Int32)), .val (.int v28), .val (.int v53), .val (.int (-1 : Int32))] [(.int (-1 : Int32))])
     refine k_iload X81 hx (hb hby at_207) rfl (pc' := 209) rfl ?_
     refine k_icmp_ne X81 hx (hb hby at_209) (pn := 212) rfl (py := 216) (by decide) (fun hc => absurd (by decide) hc) (fun _ => ?_)
     refine k_iconst X81 hx (hb hby at_212) (pc' := 213) rfl (z := (1 : Int32)) rfl ?_
     refine k_goto X81 hx (hb hby at_213) (pc' := 217) (by decide) ?_
     exact k_retN X81 hx (t := .boolean) Bd.returns (by simp) (hb hby at_217) hlk (by decide) (by decide) (z' := (1 : Int32)) rfl ⟨rfl, N81'⟩
  ·
   show KEnds p e below s _ _ _ T12 (mkF m 44 #[.val (.int i0), .val (.int i1), .val (.int i2), .val (.int i3), .val (.int i4), .val (.int i5), .val (.ref b1), .val (.int (0 : Int32)), .unset, .unset, .unset, .unset] [(.int (1 : Int32))])
   refine k_istore X12 hx (hb hby at_44) (Ls' := #[.val (.int i0), .val (.int i1), .val (.int i2), .val (.int i3), .val (.int i4), .val (.int i5), .val (.ref b1), .val (.int (0 : Int32)), .val (.int (1 : Int32)), .unset, .unset, .unset]) rfl (pc' := 46) rfl ?_
   refine k_iload X12 hx (hb hby at_46) rfl (pc' := 48) rfl ?_
   refine k_iconst X12 hx (hb hby at_48) (pc' := 49) rfl (z := (3 : Int32)) rfl ?_
   refine k_iand X12 hx (hb hby at_49) (pc' := 50) rfl (fun v85 hv85 => ?_)
   refine k_istore X12 hx (hb hby at_50) (Ls' := #[.val (.int i0), .val (.int i1), .val (.int i2), .val (.int i3), .val (.int i4), .val (.int i5), .val (.ref b1), .val (.int (0 : Int32)), .val (.int (1 : Int32)), .val (.int v85), .unset, .unset]) rfl (pc' := 52) rfl ?_
   suffices key86 : ∀ (v110 : Int32), KEnds p e below s 16 128 (Q0 n0) T12 (mkF m 97 #[.val (.int i0), .val (.int i1), .val (.int i2), .val (.int i3), .val (.int i4), .val (.int i5), .val (.ref b1), .val (.int (0 : Int32)), .val (.int (1 : Int32)), .val (.int v85), .val (.int v110), .unset] []) by
    refine k_iload X12 hx (hb hby at_52) rfl (pc' := 54) rfl ?_
    refine k_if_ne X12 hx (hb hby at_54) (pn := 57) rfl (py := 63) (by decide) (fun hc87 => ?_) (fun hc87 => ?_)
    ·
     refine k_iload X12 hx (hb hby at_63) rfl (pc' := 65) rfl ?_
     refine k_iconst X12 hx (hb hby at_65) (pc' := 66) rfl (z := (1 : Int32)) rfl ?_
     refine k_icmp_ne X12 hx (hb hby at_66) (pn := 69) rfl (py := 87) (by decide) (fun hc88 => ?_) (fun hc88 => ?_)
     ·
      refine k_iload X12 hx (hb hby at_87) rfl (pc' := 89) rfl ?_
      refine k_iconst X12 hx (hb hby at_89) (pc' := 90) rfl (z := (2 : Int32)) rfl ?_
      refine k_iushr X12 hx (hb hby at_90) (pc' := 91) rfl (fun v89 hv89 => ?_)
      refine k_sipush X12 hx (hb hby at_91) (pc' := 94) rfl (z := (255 : Int32)) rfl ?_
      refine k_iand X12 hx (hb hby at_94) (pc' := 95) rfl (fun v90 hv90 => ?_)
      refine k_istore X12 hx (hb hby at_95) (Ls' := #[.val (.int i0), .val (.int i1), .val (.int i2), .val (.int i3), .val (.int i4), .val (.int i5), .val (.ref b1), .val (.int (0 : Int32)), .val (.int (1 : Int32)), .val (.int v85), .val (.int v90), .unset]) rfl (pc' := 97) rfl ?_
      exact key86 v90
     ·
      refine k_aload X12 hx (hb hby at_69) rfl rfl (pc' := 71) rfl ?_
      refine k_iload X12 hx (hb hby at_71) rfl (pc' := 73) rfl ?_
      refine k_iconst X12 hx (hb hby at_73) (pc' := 74) rfl (z := (2 : Int32)) rfl ?_
      refine k_iushr X12 hx (hb hby at_74) (pc' := 75) rfl (fun v91 hv91 => ?_)
      refine k_iconst X12 hx (hb hby at_75) (pc' := 76) rfl (z := (3 : Int32)) rfl ?_
      refine k_iand X12 hx (hb hby at_76) (pc' := 77) rfl (fun v92 hv92 => ?_)
      have hj93 : ¬ v92 < 0 ∧ v92 < (4 : Int32) := by
       refine ⟨?_, ?_⟩
       ·
        intro hq94
        have := rng32 v85
        have := rng32 i5
        have : (3 : Int32).toInt = 3 := (by decide)
        have q95 : v85.toInt = i5.toInt % 4 := (by rw [hv85]; exact c_mask _ _ 2 (by decide) (by decide))
        have : (0 : Int32).toInt = 0 := (by decide)
        have q96 : ¬ v85.toInt = (0 : Int32).toInt := fun q => hc87 (Int32.toInt_inj.mp q)
        have : (1 : Int32).toInt = 1 := (by decide)
        have q97 := congrArg Int32.toInt hc88
        have := rng32 v92
        have := rng32 v91
        have : (2 : Int32).toInt = 2 := (by decide)
        have q98 : v91.toInt = (i5.toInt % 4294967296) / 4 := (by rw [hv91]; exact c_iushr _ _ 2 (by decide) (by decide))
        have q99 : v92.toInt = v91.toInt % 4 := (by rw [hv92]; exact c_mask _ _ 2 (by decide) (by decide))
        have q100 := hq94; rw [Int32.lt_iff_toInt_lt] at q100
        omega
       ·
        refine Classical.byContradiction (fun hq101 => ?_)
        have := rng32 v85
        have := rng32 i5
        have : (3 : Int32).toInt = 3 := (by decide)
        have q102 : v85.toInt = i5.toInt % 4 := (by rw [hv85]; exact c_mask _ _ 2 (by decide) (by decide))
        have : (0 : Int32).toInt = 0 := (by decide)
        have q103 : ¬ v85.toInt = (0 : Int32).toInt := fun q => hc87 (Int32.toInt_inj.mp q)
        have : (1 : Int32).toInt = 1 := (by decide)
        have q104 := congrArg Int32.toInt hc88
        have := rng32 v92
        have := rng32 v91
        have : (2 : Int32).toInt = 2 := (by decide)
        have q105 : v91.toInt = (i5.toInt % 4294967296) / 4 := (by rw [hv91]; exact c_iushr _ _ 2 (by decide) (by decide))
        have q106 : v92.toInt = v91.toInt % 4 := (by rw [hv92]; exact c_mask _ _ 2 (by decide) (by decide))
        have : (4 : Int32).toInt = 4 := (by decide)
        have q107 := hq101; rw [Int32.lt_iff_toInt_lt] at q107
        omega
      refine k_baloadS X12 hx hZ e12 Vw12 hj93 (hb hby at_77) (pc' := 78) rfl (fun v108 hv108 => ?_)
      refine k_sipush X12 hx (hb hby at_78) (pc' := 81) rfl (z := (255 : Int32)) rfl ?_
      refine k_iand X12 hx (hb hby at_81) (pc' := 82) rfl (fun v109 hv109 => ?_)
      refine k_istore X12 hx (hb hby at_82) (Ls' := #[.val (.int i0), .val (.int i1), .val (.int i2), .val (.int i3), .val (.int i4), .val (.int i5), .val (.ref b1), .val (.int (0 : Int32)), .val (.int (1 : Int32)), .val (.int v85), .val (.int v109), .unset]) rfl (pc' := 84) rfl ?_
      refine k_goto X12 hx (hb hby at_84) (pc' := 97) (by decide) ?_
      exact key86 v109
    ·
     refine k_iconst X12 hx (hb hby at_57) (pc' := 58) rfl (z := (-1 : Int32)) rfl ?_
     refine k_istore X12 hx (hb hby at_58) (Ls' := #[.val (.int i0), .val (.int i1), .val (.int i2), .val (.int i3), .val (.int i4), .val (.int i5), .val (.ref b1), .val (.int (0 : Int32)), .val (.int (1 : Int32)), .val (.int v85), .val (.int (-1 : Int32)), .unset]) rfl (pc' := 60) rfl ?_
     refine k_goto X12 hx (hb hby at_60) (pc' := 97) (by decide) ?_
     exact key86 (-1 : Int32)
   intro v110
   refine k_iload X12 hx (hb hby at_97) rfl (pc' := 99) rfl ?_
   refine k_iconst X12 hx (hb hby at_99) (pc' := 100) rfl (z := (-1 : Int32)) rfl ?_
   refine k_icmp_ne X12 hx (hb hby at_100) (pn := 103) rfl (py := 109) (by decide) (fun hc112 => ?_) (fun hc112 => ?_)
   ·
    refine k_aload X12 hx (hb hby at_109) rfl rfl (pc' := 111) rfl ?_
    refine k_iconst X12 hx (hb hby at_111) (pc' := 112) rfl (z := (0 : Int32)) rfl ?_
    refine k_iload X12 hx (hb hby at_112) rfl (pc' := 114) rfl ?_
    refine k_iload X12 hx (hb hby at_114) rfl (pc' := 116) rfl ?_
    refine k_iload X12 hx (hb hby at_116) rfl (pc' := 118) rfl ?_
    refine k_callS X12 hx hZ hown (hw _ (List.mem_of_getElem? (i := 2) rfl)) (hw _ (List.mem_of_getElem? (i := 3) rfl)) (hw _ (List.mem_of_getElem? (i := 4) rfl)) (hw _ (List.mem_of_getElem? (i := 5) rfl)) (by decide) (rm1_113 l Z a0 hw [] b1 (0 : Int32) (1 : Int32) v110 k1 v2 v5 v8 v11 h12 n0 Z12 Vw12) (by decide) (by decide) e12 (by rw [hml]; rfl) (argsL := [(.ref b1), (.int (0 : Int32)), (.int (0 : Int32)), (.int (1 : Int32)), (.int v110)]) (rest := []) (lenOf pd_0 rfl) rfl (W := 0) (Nat.le_refl _) rfl (hb hby at_118) (by decide) (by decide) (pc' := 121) rfl (fun T118 L118 r118 X118 q118 => ?_)
    obtain ⟨N118, e118, q118⟩ := q118
    have N118' := Fr.app N12 N118
    rcases q118 with ⟨hc119, rfl⟩ | ⟨hc120, hc121, rfl⟩ | ⟨v122, h123, hc124, hc125, hc126, rfl⟩ | ⟨v127, h128, hc129, hc130, hc131, rfl⟩
    ·
     show KEnds p e below s _ _ _ T118 (mkF m 121 #[.val (.int i0), .val (.int i1), .val (.int i2), .val (.int i3), .val (.int i4), .val (.int i5), .val (.ref b1), .val (.int (0 : Int32)), .val (.int (1 : Int32)), .val (.int v85), .val (.int v110), .unset] [(.int (0 : Int32))])
     exact absurd hc119 (by decide)
    ·
     show KEnds p e below s _ _ _ T118 (mkF m 121 #[.val (.int i0), .val (.int i1), .val (.int i2), .val (.int i3), .val (.int i4), .val (.int i5), .val (.ref b1), .val (.int (0 : Int32)), .val (.int (1 : Int32)), .val (.int v85), .val (.int v110), .unset] [(.int (0 : Int32))])
     exact absurd (by decide) hc121
    ·
     show KEnds p e below s _ _ _ T118 (mkF m 121 #[.val (.int i0), .val (.int i1), .val (.int i2), .val (.int i3), .val (.int i4), .val (.int i5), .val (.ref b1), .val (.int (0 : Int32)), .val (.int (1 : Int32)), .val (.int v85), .val (.int v110), .unset] [(.int (0 : Int32))])
     refine k_if_eq X118 hx (hb hby at_121) (pn := 124) rfl (py := 130) (by decide) (fun _ => ?_) (fun hc => absurd (by decide) hc)
     refine k_aload X118 hx (hb hby at_130) rfl rfl (pc' := 132) rfl ?_
     refine k_iconst X118 hx (hb hby at_132) (pc' := 133) rfl (z := (1 : Int32)) rfl ?_
     refine k_iload X118 hx (hb hby at_133) rfl (pc' := 135) rfl ?_
     refine k_iload X118 hx (hb hby at_135) rfl (pc' := 137) rfl ?_
     refine k_iload X118 hx (hb hby at_137) rfl (pc' := 139) rfl ?_
     refine k_callS X118 hx hZ hown (hw _ (List.mem_of_getElem? (i := 2) rfl)) (hw _ (List.mem_of_getElem? (i := 3) rfl)) (hw _ (List.mem_of_getElem? (i := 4) rfl)) (hw _ (List.mem_of_getElem? (i := 5) rfl)) (by decide) (rm1_132 l Z a0 hw [] b1 (0 : Int32) (1 : Int32) v110 k1 v2 v5 v8 v11 h12 n0 Z12 Vw12) (by decide) (by decide) e118 (by rw [hml]; rfl) (argsL := [(.ref b1), (.int (1 : Int32)), (.int (0 : Int32)), (.int (1 : Int32)), (.int v110)]) (rest := []) (lenOf pd_0 rfl) rfl (W := 0) (Nat.le_refl _) rfl (hb hby at_139) (by decide) (by decide) (pc' := 142) rfl (fun T137 L137 r137 X137 q137 => ?_)
     obtain ⟨N137, e137, q137⟩ := q137
     have N137' := Fr.app N118' N137
     rcases q137 with ⟨hc138, rfl⟩ | ⟨hc139, hc140, rfl⟩ | ⟨v141, h142, hc143, hc144, hc145, rfl⟩ | ⟨v146, h147, hc148, hc149, hc150, rfl⟩
     ·
      show KEnds p e below s _ _ _ T137 (mkF m 142 #[.val (.int i0), .val (.int i1), .val (.int i2), .val (.int i3), .val (.int i4), .val (.int i5), .val (.ref b1), .val (.int (0 : Int32)), .val (.int (1 : Int32)), .val (.int v85), .val (.int v110), .unset] [(.int (0 : Int32))])
      exact absurd hc138 (by decide)
     ·
      show KEnds p e below s _ _ _ T137 (mkF m 142 #[.val (.int i0), .val (.int i1), .val (.int i2), .val (.int i3), .val (.int i4), .val (.int i5), .val (.ref b1), .val (.int (0 : Int32)), .val (.int (1 : Int32)), .val (.int v85), .val (.int v110), .unset] [(.int (0 : Int32))])
      refine k_if_eq X137 hx (hb hby at_142) (pn := 145) rfl (py := 151) (by decide) (fun _ => ?_) (fun hc => absurd (by decide) hc)
      refine k_aload X137 hx (hb hby at_151) rfl rfl (pc' := 153) rfl ?_
      refine k_iconst X137 hx (hb hby at_153) (pc' := 154) rfl (z := (2 : Int32)) rfl ?_
      refine k_iload X137 hx (hb hby at_154) rfl (pc' := 156) rfl ?_
      refine k_iload X137 hx (hb hby at_156) rfl (pc' := 158) rfl ?_
      refine k_iload X137 hx (hb hby at_158) rfl (pc' := 160) rfl ?_
      refine k_callS X137 hx hZ hown (hw _ (List.mem_of_getElem? (i := 2) rfl)) (hw _ (List.mem_of_getElem? (i := 3) rfl)) (hw _ (List.mem_of_getElem? (i := 4) rfl)) (hw _ (List.mem_of_getElem? (i := 5) rfl)) (by decide) (rm1_151 l Z a0 hw [] b1 (0 : Int32) (1 : Int32) v110 k1 v2 v5 v8 v11 h12 n0 Z12 Vw12) (by decide) (by decide) e137 (by rw [hml]; rfl) (argsL := [(.ref b1), (.int (2 : Int32)), (.int (0 : Int32)), (.int (1 : Int32)), (.int v110)]) (rest := []) (lenOf pd_0 rfl) rfl (W := 0) (Nat.le_refl _) rfl (hb hby at_160) (by decide) (by decide) (pc' := 163) rfl (fun T156 L156 r156 X156 q156 => ?_)
      obtain ⟨N156, e156, q156⟩ := q156
      have N156' := Fr.app N137' N156
      rcases q156 with ⟨hc157, rfl⟩ | ⟨hc158, hc159, rfl⟩ | ⟨v160, h161, hc162, hc163, hc164, rfl⟩ | ⟨v165, h166, hc167, hc168, hc169, rfl⟩
      ·
       show KEnds p e below s _ _ _ T156 (mkF m 163 #[.val (.int i0), .val (.int i1), .val (.int i2), .val (.int i3), .val (.int i4), .val (.int i5), .val (.ref b1), .val (.int (0 : Int32)), .val (.int (1 : Int32)), .val (.int v85), .val (.int v110), .unset] [(.int (0 : Int32))])
       exact absurd hc157 (by decide)
      ·
       show KEnds p e below s _ _ _ T156 (mkF m 163 #[.val (.int i0), .val (.int i1), .val (.int i2), .val (.int i3), .val (.int i4), .val (.int i5), .val (.ref b1), .val (.int (0 : Int32)), .val (.int (1 : Int32)), .val (.int v85), .val (.int v110), .unset] [(.int (0 : Int32))])
       refine k_if_eq X156 hx (hb hby at_163) (pn := 166) rfl (py := 172) (by decide) (fun _ => ?_) (fun hc => absurd (by decide) hc)
       refine k_aload X156 hx (hb hby at_172) rfl rfl (pc' := 174) rfl ?_
       refine k_iconst X156 hx (hb hby at_174) (pc' := 175) rfl (z := (3 : Int32)) rfl ?_
       refine k_iload X156 hx (hb hby at_175) rfl (pc' := 177) rfl ?_
       refine k_iload X156 hx (hb hby at_177) rfl (pc' := 179) rfl ?_
       refine k_iload X156 hx (hb hby at_179) rfl (pc' := 181) rfl ?_
       refine k_callS X156 hx hZ hown (hw _ (List.mem_of_getElem? (i := 2) rfl)) (hw _ (List.mem_of_getElem? (i := 3) rfl)) (hw _ (List.mem_of_getElem? (i := 4) rfl)) (hw _ (List.mem_of_getElem? (i := 5) rfl)) (by decide) (rm1_170 l Z a0 hw [] b1 (0 : Int32) (1 : Int32) v110 k1 v2 v5 v8 v11 h12 n0 Z12 Vw12) (by decide) (by decide) e156 (by rw [hml]; rfl) (argsL := [(.ref b1), (.int (3 : Int32)), (.int (0 : Int32)), (.int (1 : Int32)), (.int v110)]) (rest := []) (lenOf pd_0 rfl) rfl (W := 0) (Nat.le_refl _) rfl (hb hby at_181) (by decide) (by decide) (pc' := 184) rfl (fun T175 L175 r175 X175 q175 => ?_)
       obtain ⟨N175, e175, q175⟩ := q175
       have N175' := Fr.app N156' N175
       rcases q175 with ⟨hc176, rfl⟩ | ⟨hc177, hc178, rfl⟩ | ⟨v179, h180, hc181, hc182, hc183, rfl⟩ | ⟨v184, h185, hc186, hc187, hc188, rfl⟩
       ·
        show KEnds p e below s _ _ _ T175 (mkF m 184 #[.val (.int i0), .val (.int i1), .val (.int i2), .val (.int i3), .val (.int i4), .val (.int i5), .val (.ref b1), .val (.int (0 : Int32)), .val (.int (1 : Int32)), .val (.int v85), .val (.int v110), .unset] [(.int (0 : Int32))])
        exact absurd hc176 (by decide)
       ·
        show KEnds p e below s _ _ _ T175 (mkF m 184 #[.val (.int i0), .val (.int i1), .val (.int i2), .val (.int i3), .val (.int i4), .val (.int i5), .val (.ref b1), .val (.int (0 : Int32)), .val (.int (1 : Int32)), .val (.int v85), .val (.int v110), .unset] [(.int (0 : Int32))])
        refine k_if_eq X175 hx (hb hby at_184) (pn := 187) rfl (py := 193) (by decide) (fun _ => ?_) (fun hc => absurd (by decide) hc)
        refine k_iconst X175 hx (hb hby at_193) (pc' := 194) rfl (z := (-1 : Int32)) rfl ?_
        refine k_istore X175 hx (hb hby at_194) (Ls' := #[.val (.int i0), .val (.int i1), .val (.int i2), .val (.int i3), .val (.int i4), .val (.int i5), .val (.ref b1), .val (.int (0 : Int32)), .val (.int (1 : Int32)), .val (.int v85), .val (.int v110), .val (.int (-1 : Int32))]) rfl (pc' := 196) rfl ?_
        refine k_aload X175 hx (hb hby at_196) rfl rfl (pc' := 198) rfl ?_
        refine k_iload X175 hx (hb hby at_198) rfl (pc' := 200) rfl ?_
        refine k_iload X175 hx (hb hby at_200) rfl (pc' := 202) rfl ?_
        refine k_iload X175 hx (hb hby at_202) rfl (pc' := 204) rfl ?_
        refine k_callS X175 hx hZ hown (hw _ (List.mem_of_getElem? (i := 6) rfl)) (hw _ (List.mem_of_getElem? (i := 7) rfl)) (hw _ (List.mem_of_getElem? (i := 8) rfl)) (hw _ (List.mem_of_getElem? (i := 9) rfl)) (by decide) (rm2_189 l Z a0 hw [] b1 v110 k1 v2 v5 v8 v11 h12 n0 Z12 Vw12) (by decide) (by decide) e175 (by rw [hml]; rfl) (argsL := [(.ref b1), (.int (0 : Int32)), (.int (1 : Int32)), (.int v110)]) (rest := []) (lenOf pd_1 rfl) rfl (W := 0) (Nat.le_refl _) rfl (hb hby at_204) (by decide) (by decide) (pc' := 207) rfl (fun T193 L193 r193 X193 q193 => ?_)
        obtain ⟨N193, e193, q193⟩ := q193
        have N193' := Fr.app N175' N193
        rcases q193 with ⟨v194, h195, hc196, hc197, rfl⟩ | ⟨v198, h199, hc200, hc201, rfl⟩ | ⟨hc202, rfl⟩
        ·
         have hh203 : v122 = v194 := h123.trans h195.symm
         subst hh203
         show KEnds p e below s _ _ _ T193 (mkF m 207 #[.val (.int i0), .val (.int i1), .val (.int i2), .val (.int i3), .val (.int i4), .val (.int i5), .val (.ref b1), .val (.int (0 : Int32)), .val (.int (1 : Int32)), .val (.int v85), .val (.int v110), .val (.int (-1 : Int32))] [(.int (-1 : Int32))])
         refine k_iload X193 hx (hb hby at_207) rfl (pc' := 209) rfl ?_
         refine k_icmp_ne X193 hx (hb hby at_209) (pn := 212) rfl (py := 216) (by decide) (fun hc => absurd (by decide) hc) (fun _ => ?_)
         refine k_iconst X193 hx (hb hby at_212) (pc' := 213) rfl (z := (1 : Int32)) rfl ?_
         refine k_goto X193 hx (hb hby at_213) (pc' := 217) (by decide) ?_
         exact k_retN X193 hx (t := .boolean) Bd.returns (by simp) (hb hby at_217) hlk (by decide) (by decide) (z' := (1 : Int32)) rfl ⟨rfl, N193'⟩
        ·
         have hh204 : v122 = v198 := h123.trans h199.symm
         subst hh204
         show KEnds p e below s _ _ _ T193 (mkF m 207 #[.val (.int i0), .val (.int i1), .val (.int i2), .val (.int i3), .val (.int i4), .val (.int i5), .val (.ref b1), .val (.int (0 : Int32)), .val (.int (1 : Int32)), .val (.int v85), .val (.int v110), .val (.int (-1 : Int32))] [(.int (0 : Int32))])
         exact absurd hc201 hc126
        ·
         show KEnds p e below s _ _ _ T193 (mkF m 207 #[.val (.int i0), .val (.int i1), .val (.int i2), .val (.int i3), .val (.int i4), .val (.int i5), .val (.ref b1), .val (.int (0 : Int32)), .val (.int (1 : Int32)), .val (.int v85), .val (.int v110), .val (.int (-1 : Int32))] [(.int (-1 : Int32))])
         exact absurd hc202 hc112
       ·
        show KEnds p e below s _ _ _ T175 (mkF m 184 #[.val (.int i0), .val (.int i1), .val (.int i2), .val (.int i3), .val (.int i4), .val (.int i5), .val (.ref b1), .val (.int (0 : Int32)), .val (.int (1 : Int32)), .val (.int v85), .val (.int v110), .unset] [(.int (0 : Int32))])
        exact absurd hc182 (by decide)
       ·
        show KEnds p e below s _ _ _ T175 (mkF m 184 #[.val (.int i0), .val (.int i1), .val (.int i2), .val (.int i3), .val (.int i4), .val (.int i5), .val (.ref b1), .val (.int (0 : Int32)), .val (.int (1 : Int32)), .val (.int v85), .val (.int v110), .unset] [(.int (1 : Int32))])
        exact absurd hc187 (by decide)
      ·
       show KEnds p e below s _ _ _ T156 (mkF m 163 #[.val (.int i0), .val (.int i1), .val (.int i2), .val (.int i3), .val (.int i4), .val (.int i5), .val (.ref b1), .val (.int (0 : Int32)), .val (.int (1 : Int32)), .val (.int v85), .val (.int v110), .unset] [(.int (0 : Int32))])
       exact absurd hc163 (by decide)
      ·
       show KEnds p e below s _ _ _ T156 (mkF m 163 #[.val (.int i0), .val (.int i1), .val (.int i2), .val (.int i3), .val (.int i4), .val (.int i5), .val (.ref b1), .val (.int (0 : Int32)), .val (.int (1 : Int32)), .val (.int v85), .val (.int v110), .unset] [(.int (1 : Int32))])
       exact absurd hc168 (by decide)
     ·
      show KEnds p e below s _ _ _ T137 (mkF m 142 #[.val (.int i0), .val (.int i1), .val (.int i2), .val (.int i3), .val (.int i4), .val (.int i5), .val (.ref b1), .val (.int (0 : Int32)), .val (.int (1 : Int32)), .val (.int v85), .val (.int v110), .unset] [(.int (0 : Int32))])
      exact absurd hc144 (by decide)
     ·
      show KEnds p e below s _ _ _ T137 (mkF m 142 #[.val (.int i0), .val (.int i1), .val (.int i2), .val (.int i3), .val (.int i4), .val (.int i5), .val (.ref b1), .val (.int (0 : Int32)), .val (.int (1 : Int32)), .val (.int v85), .val (.int v110), .unset] [(.int (1 : Int32))])
      exact absurd hc149 (by decide)
    ·
     show KEnds p e below s _ _ _ T118 (mkF m 121 #[.val (.int i0), .val (.int i1), .val (.int i2), .val (.int i3), .val (.int i4), .val (.int i5), .val (.ref b1), .val (.int (0 : Int32)), .val (.int (1 : Int32)), .val (.int v85), .val (.int v110), .unset] [(.int (1 : Int32))])
     refine k_if_eq X118 hx (hb hby at_121) (pn := 124) rfl (py := 130) (by decide) (fun hc => absurd hc (by decide)) (fun _ => ?_)
     refine k_iconst X118 hx (hb hby at_124) (pc' := 125) rfl (z := (0 : Int32)) rfl ?_
     refine k_istore X118 hx (hb hby at_125) (Ls' := #[.val (.int i0), .val (.int i1), .val (.int i2), .val (.int i3), .val (.int i4), .val (.int i5), .val (.ref b1), .val (.int (0 : Int32)), .val (.int (1 : Int32)), .val (.int v85), .val (.int v110), .val (.int (0 : Int32))]) rfl (pc' := 127) rfl ?_
     refine k_goto X118 hx (hb hby at_127) (pc' := 196) (by decide) ?_
     refine k_aload X118 hx (hb hby at_196) rfl rfl (pc' := 198) rfl ?_
     refine k_iload X118 hx (hb hby at_198) rfl (pc' := 200) rfl ?_
     refine k_iload X118 hx (hb hby at_200) rfl (pc' := 202) rfl ?_
     refine k_iload X118 hx (hb hby at_202) rfl (pc' := 204) rfl ?_
     refine k_callS X118 hx hZ hown (hw _ (List.mem_of_getElem? (i := 6) rfl)) (hw _ (List.mem_of_getElem? (i := 7) rfl)) (hw _ (List.mem_of_getElem? (i := 8) rfl)) (hw _ (List.mem_of_getElem? (i := 9) rfl)) (by decide) (rm2_189 l Z a0 hw [] b1 v110 k1 v2 v5 v8 v11 h12 n0 Z12 Vw12) (by decide) (by decide) e118 (by rw [hml]; rfl) (argsL := [(.ref b1), (.int (0 : Int32)), (.int (1 : Int32)), (.int v110)]) (rest := []) (lenOf pd_1 rfl) rfl (W := 0) (Nat.le_refl _) rfl (hb hby at_204) (by decide) (by decide) (pc' := 207) rfl (fun T205 L205 r205 X205 q205 => ?_)
     obtain ⟨N205, e205, q205⟩ := q205
     have N205' := Fr.app N118' N205
     rcases q205 with ⟨v206, h207, hc208, hc209, rfl⟩ | ⟨v210, h211, hc212, hc213, rfl⟩ | ⟨hc214, rfl⟩
     ·
      have hh215 : v127 = v206 := h128.trans h207.symm
      subst hh215
      show KEnds p e below s _ _ _ T205 (mkF m 207 #[.val (.int i0), .val (.int i1), .val (.int i2), .val (.int i3), .val (.int i4), .val (.int i5), .val (.ref b1), .val (.int (0 : Int32)), .val (.int (1 : Int32)), .val (.int v85), .val (.int v110), .val (.int (0 : Int32))] [(.int (-1 : Int32))])
      exact absurd hc131 hc209
     ·
      have hh216 : v127 = v210 := h128.trans h211.symm
      subst hh216
      show KEnds p e below s _ _ _ T205 (mkF m 207 #[.val (.int i0), .val (.int i1), .val (.int i2), .val (.int i3), .val (.int i4), .val (.int i5), .val (.ref b1), .val (.int (0 : Int32)), .val (.int (1 : Int32)), .val (.int v85), .val (.int v110), .val (.int (0 : Int32))] [(.int (0 : Int32))])
      refine k_iload X205 hx (hb hby at_207) rfl (pc' := 209) rfl ?_
      refine k_icmp_ne X205 hx (hb hby at_209) (pn := 212) rfl (py := 216) (by decide) (fun hc => absurd (by decide) hc) (fun _ => ?_)
      refine k_iconst X205 hx (hb hby at_212) (pc' := 213) rfl (z := (1 : Int32)) rfl ?_
      refine k_goto X205 hx (hb hby at_213) (pc' := 217) (by decide) ?_
      exact k_retN X205 hx (t := .boolean) Bd.returns (by simp) (hb hby at_217) hlk (by decide) (by decide) (z' := (1 : Int32)) rfl ⟨rfl, N205'⟩
     ·
      show KEnds p e below s _ _ _ T205 (mkF m 207 #[.val (.int i0), .val (.int i1), .val (.int i2), .val (.int i3), .val (.int i4), .val (.int i5), .val (.ref b1), .val (.int (0 : Int32)), .val (.int (1 : Int32)), .val (.int v85), .val (.int v110), .val (.int (0 : Int32))] [(.int (-1 : Int32))])
      exact absurd hc214 hc112
   ·
    refine k_iconst X12 hx (hb hby at_103) (pc' := 104) rfl (z := (-1 : Int32)) rfl ?_
    refine k_istore X12 hx (hb hby at_104) (Ls' := #[.val (.int i0), .val (.int i1), .val (.int i2), .val (.int i3), .val (.int i4), .val (.int i5), .val (.ref b1), .val (.int (0 : Int32)), .val (.int (1 : Int32)), .val (.int v85), .val (.int v110), .val (.int (-1 : Int32))]) rfl (pc' := 106) rfl ?_
    refine k_goto X12 hx (hb hby at_106) (pc' := 196) (by decide) ?_
    refine k_aload X12 hx (hb hby at_196) rfl rfl (pc' := 198) rfl ?_
    refine k_iload X12 hx (hb hby at_198) rfl (pc' := 200) rfl ?_
    refine k_iload X12 hx (hb hby at_200) rfl (pc' := 202) rfl ?_
    refine k_iload X12 hx (hb hby at_202) rfl (pc' := 204) rfl ?_
    refine k_callS X12 hx hZ hown (hw _ (List.mem_of_getElem? (i := 6) rfl)) (hw _ (List.mem_of_getElem? (i := 7) rfl)) (hw _ (List.mem_of_getElem? (i := 8) rfl)) (hw _ (List.mem_of_getElem? (i := 9) rfl)) (by decide) (rm2_189 l Z a0 hw [] b1 v110 k1 v2 v5 v8 v11 h12 n0 Z12 Vw12) (by decide) (by decide) e12 (by rw [hml]; rfl) (argsL := [(.ref b1), (.int (0 : Int32)), (.int (1 : Int32)), (.int v110)]) (rest := []) (lenOf pd_1 rfl) rfl (W := 0) (Nat.le_refl _) rfl (hb hby at_204) (by decide) (by decide) (pc' := 207) rfl (fun T217 L217 r217 X217 q217 => ?_)
    obtain ⟨N217, e217, q217⟩ := q217
    have N217' := Fr.app N12 N217
    rcases q217 with ⟨v218, h219, hc220, hc221, rfl⟩ | ⟨v222, h223, hc224, hc225, rfl⟩ | ⟨hc226, rfl⟩
    ·
     show KEnds p e below s _ _ _ T217 (mkF m 207 #[.val (.int i0), .val (.int i1), .val (.int i2), .val (.int i3), .val (.int i4), .val (.int i5), .val (.ref b1), .val (.int (0 : Int32)), .val (.int (1 : Int32)), .val (.int v85), .val (.int v110), .val (.int (-1 : Int32))] [(.int (-1 : Int32))])
     exact absurd hc112 hc220
    ·
     show KEnds p e below s _ _ _ T217 (mkF m 207 #[.val (.int i0), .val (.int i1), .val (.int i2), .val (.int i3), .val (.int i4), .val (.int i5), .val (.ref b1), .val (.int (0 : Int32)), .val (.int (1 : Int32)), .val (.int v85), .val (.int v110), .val (.int (-1 : Int32))] [(.int (0 : Int32))])
     exact absurd hc112 hc224
    ·
     show KEnds p e below s _ _ _ T217 (mkF m 207 #[.val (.int i0), .val (.int i1), .val (.int i2), .val (.int i3), .val (.int i4), .val (.int i5), .val (.ref b1), .val (.int (0 : Int32)), .val (.int (1 : Int32)), .val (.int v85), .val (.int v110), .val (.int (-1 : Int32))] [(.int (-1 : Int32))])
     refine k_iload X217 hx (hb hby at_207) rfl (pc' := 209) rfl ?_
     refine k_icmp_ne X217 hx (hb hby at_209) (pn := 212) rfl (py := 216) (by decide) (fun hc => absurd (by decide) hc) (fun _ => ?_)
     refine k_iconst X217 hx (hb hby at_212) (pc' := 213) rfl (z := (1 : Int32)) rfl ?_
     refine k_goto X217 hx (hb hby at_213) (pc' := 217) (by decide) ?_
     exact k_retN X217 hx (t := .boolean) Bd.returns (by simp) (hb hby at_217) hlk (by decide) (by decide) (z' := (1 : Int32)) rfl ⟨rfl, N217'⟩
  ·
   show KEnds p e below s _ _ _ T12 (mkF m 44 #[.val (.int i0), .val (.int i1), .val (.int i2), .val (.int i3), .val (.int i4), .val (.int i5), .val (.ref b1), .val (.int (0 : Int32)), .unset, .unset, .unset, .unset] [(.int (2 : Int32))])
   refine k_istore X12 hx (hb hby at_44) (Ls' := #[.val (.int i0), .val (.int i1), .val (.int i2), .val (.int i3), .val (.int i4), .val (.int i5), .val (.ref b1), .val (.int (0 : Int32)), .val (.int (2 : Int32)), .unset, .unset, .unset]) rfl (pc' := 46) rfl ?_
   refine k_iload X12 hx (hb hby at_46) rfl (pc' := 48) rfl ?_
   refine k_iconst X12 hx (hb hby at_48) (pc' := 49) rfl (z := (3 : Int32)) rfl ?_
   refine k_iand X12 hx (hb hby at_49) (pc' := 50) rfl (fun v228 hv228 => ?_)
   refine k_istore X12 hx (hb hby at_50) (Ls' := #[.val (.int i0), .val (.int i1), .val (.int i2), .val (.int i3), .val (.int i4), .val (.int i5), .val (.ref b1), .val (.int (0 : Int32)), .val (.int (2 : Int32)), .val (.int v228), .unset, .unset]) rfl (pc' := 52) rfl ?_
   suffices key229 : ∀ (v253 : Int32), KEnds p e below s 16 128 (Q0 n0) T12 (mkF m 97 #[.val (.int i0), .val (.int i1), .val (.int i2), .val (.int i3), .val (.int i4), .val (.int i5), .val (.ref b1), .val (.int (0 : Int32)), .val (.int (2 : Int32)), .val (.int v228), .val (.int v253), .unset] []) by
    refine k_iload X12 hx (hb hby at_52) rfl (pc' := 54) rfl ?_
    refine k_if_ne X12 hx (hb hby at_54) (pn := 57) rfl (py := 63) (by decide) (fun hc230 => ?_) (fun hc230 => ?_)
    ·
     refine k_iload X12 hx (hb hby at_63) rfl (pc' := 65) rfl ?_
     refine k_iconst X12 hx (hb hby at_65) (pc' := 66) rfl (z := (1 : Int32)) rfl ?_
     refine k_icmp_ne X12 hx (hb hby at_66) (pn := 69) rfl (py := 87) (by decide) (fun hc231 => ?_) (fun hc231 => ?_)
     ·
      refine k_iload X12 hx (hb hby at_87) rfl (pc' := 89) rfl ?_
      refine k_iconst X12 hx (hb hby at_89) (pc' := 90) rfl (z := (2 : Int32)) rfl ?_
      refine k_iushr X12 hx (hb hby at_90) (pc' := 91) rfl (fun v232 hv232 => ?_)
      refine k_sipush X12 hx (hb hby at_91) (pc' := 94) rfl (z := (255 : Int32)) rfl ?_
      refine k_iand X12 hx (hb hby at_94) (pc' := 95) rfl (fun v233 hv233 => ?_)
      refine k_istore X12 hx (hb hby at_95) (Ls' := #[.val (.int i0), .val (.int i1), .val (.int i2), .val (.int i3), .val (.int i4), .val (.int i5), .val (.ref b1), .val (.int (0 : Int32)), .val (.int (2 : Int32)), .val (.int v228), .val (.int v233), .unset]) rfl (pc' := 97) rfl ?_
      exact key229 v233
     ·
      refine k_aload X12 hx (hb hby at_69) rfl rfl (pc' := 71) rfl ?_
      refine k_iload X12 hx (hb hby at_71) rfl (pc' := 73) rfl ?_
      refine k_iconst X12 hx (hb hby at_73) (pc' := 74) rfl (z := (2 : Int32)) rfl ?_
      refine k_iushr X12 hx (hb hby at_74) (pc' := 75) rfl (fun v234 hv234 => ?_)
      refine k_iconst X12 hx (hb hby at_75) (pc' := 76) rfl (z := (3 : Int32)) rfl ?_
      refine k_iand X12 hx (hb hby at_76) (pc' := 77) rfl (fun v235 hv235 => ?_)
      have hj236 : ¬ v235 < 0 ∧ v235 < (4 : Int32) := by
       refine ⟨?_, ?_⟩
       ·
        intro hq237
        have := rng32 v228
        have := rng32 i5
        have : (3 : Int32).toInt = 3 := (by decide)
        have q238 : v228.toInt = i5.toInt % 4 := (by rw [hv228]; exact c_mask _ _ 2 (by decide) (by decide))
        have : (0 : Int32).toInt = 0 := (by decide)
        have q239 : ¬ v228.toInt = (0 : Int32).toInt := fun q => hc230 (Int32.toInt_inj.mp q)
        have : (1 : Int32).toInt = 1 := (by decide)
        have q240 := congrArg Int32.toInt hc231
        have := rng32 v235
        have := rng32 v234
        have : (2 : Int32).toInt = 2 := (by decide)
        have q241 : v234.toInt = (i5.toInt % 4294967296) / 4 := (by rw [hv234]; exact c_iushr _ _ 2 (by decide) (by decide))
        have q242 : v235.toInt = v234.toInt % 4 := (by rw [hv235]; exact c_mask _ _ 2 (by decide) (by decide))
        have q243 := hq237; rw [Int32.lt_iff_toInt_lt] at q243
        omega
       ·
        refine Classical.byContradiction (fun hq244 => ?_)
        have := rng32 v228
        have := rng32 i5
        have : (3 : Int32).toInt = 3 := (by decide)
        have q245 : v228.toInt = i5.toInt % 4 := (by rw [hv228]; exact c_mask _ _ 2 (by decide) (by decide))
        have : (0 : Int32).toInt = 0 := (by decide)
        have q246 : ¬ v228.toInt = (0 : Int32).toInt := fun q => hc230 (Int32.toInt_inj.mp q)
        have : (1 : Int32).toInt = 1 := (by decide)
        have q247 := congrArg Int32.toInt hc231
        have := rng32 v235
        have := rng32 v234
        have : (2 : Int32).toInt = 2 := (by decide)
        have q248 : v234.toInt = (i5.toInt % 4294967296) / 4 := (by rw [hv234]; exact c_iushr _ _ 2 (by decide) (by decide))
        have q249 : v235.toInt = v234.toInt % 4 := (by rw [hv235]; exact c_mask _ _ 2 (by decide) (by decide))
        have : (4 : Int32).toInt = 4 := (by decide)
        have q250 := hq244; rw [Int32.lt_iff_toInt_lt] at q250
        omega
      refine k_baloadS X12 hx hZ e12 Vw12 hj236 (hb hby at_77) (pc' := 78) rfl (fun v251 hv251 => ?_)
      refine k_sipush X12 hx (hb hby at_78) (pc' := 81) rfl (z := (255 : Int32)) rfl ?_
      refine k_iand X12 hx (hb hby at_81) (pc' := 82) rfl (fun v252 hv252 => ?_)
      refine k_istore X12 hx (hb hby at_82) (Ls' := #[.val (.int i0), .val (.int i1), .val (.int i2), .val (.int i3), .val (.int i4), .val (.int i5), .val (.ref b1), .val (.int (0 : Int32)), .val (.int (2 : Int32)), .val (.int v228), .val (.int v252), .unset]) rfl (pc' := 84) rfl ?_
      refine k_goto X12 hx (hb hby at_84) (pc' := 97) (by decide) ?_
      exact key229 v252
    ·
     refine k_iconst X12 hx (hb hby at_57) (pc' := 58) rfl (z := (-1 : Int32)) rfl ?_
     refine k_istore X12 hx (hb hby at_58) (Ls' := #[.val (.int i0), .val (.int i1), .val (.int i2), .val (.int i3), .val (.int i4), .val (.int i5), .val (.ref b1), .val (.int (0 : Int32)), .val (.int (2 : Int32)), .val (.int v228), .val (.int (-1 : Int32)), .unset]) rfl (pc' := 60) rfl ?_
     refine k_goto X12 hx (hb hby at_60) (pc' := 97) (by decide) ?_
     exact key229 (-1 : Int32)
   intro v253
   refine k_iload X12 hx (hb hby at_97) rfl (pc' := 99) rfl ?_
   refine k_iconst X12 hx (hb hby at_99) (pc' := 100) rfl (z := (-1 : Int32)) rfl ?_
   refine k_icmp_ne X12 hx (hb hby at_100) (pn := 103) rfl (py := 109) (by decide) (fun hc255 => ?_) (fun hc255 => ?_)
   ·
    refine k_aload X12 hx (hb hby at_109) rfl rfl (pc' := 111) rfl ?_
    refine k_iconst X12 hx (hb hby at_111) (pc' := 112) rfl (z := (0 : Int32)) rfl ?_
    refine k_iload X12 hx (hb hby at_112) rfl (pc' := 114) rfl ?_
    refine k_iload X12 hx (hb hby at_114) rfl (pc' := 116) rfl ?_
    refine k_iload X12 hx (hb hby at_116) rfl (pc' := 118) rfl ?_
    refine k_callS X12 hx hZ hown (hw _ (List.mem_of_getElem? (i := 2) rfl)) (hw _ (List.mem_of_getElem? (i := 3) rfl)) (hw _ (List.mem_of_getElem? (i := 4) rfl)) (hw _ (List.mem_of_getElem? (i := 5) rfl)) (by decide) (rm1_113 l Z a0 hw [] b1 (0 : Int32) (2 : Int32) v253 k1 v2 v5 v8 v11 h12 n0 Z12 Vw12) (by decide) (by decide) e12 (by rw [hml]; rfl) (argsL := [(.ref b1), (.int (0 : Int32)), (.int (0 : Int32)), (.int (2 : Int32)), (.int v253)]) (rest := []) (lenOf pd_0 rfl) rfl (W := 0) (Nat.le_refl _) rfl (hb hby at_118) (by decide) (by decide) (pc' := 121) rfl (fun T256 L256 r256 X256 q256 => ?_)
    obtain ⟨N256, e256, q256⟩ := q256
    have N256' := Fr.app N12 N256
    rcases q256 with ⟨hc257, rfl⟩ | ⟨hc258, hc259, rfl⟩ | ⟨v260, h261, hc262, hc263, hc264, rfl⟩ | ⟨v265, h266, hc267, hc268, hc269, rfl⟩
    ·
     show KEnds p e below s _ _ _ T256 (mkF m 121 #[.val (.int i0), .val (.int i1), .val (.int i2), .val (.int i3), .val (.int i4), .val (.int i5), .val (.ref b1), .val (.int (0 : Int32)), .val (.int (2 : Int32)), .val (.int v228), .val (.int v253), .unset] [(.int (0 : Int32))])
     exact absurd hc257 (by decide)
    ·
     show KEnds p e below s _ _ _ T256 (mkF m 121 #[.val (.int i0), .val (.int i1), .val (.int i2), .val (.int i3), .val (.int i4), .val (.int i5), .val (.ref b1), .val (.int (0 : Int32)), .val (.int (2 : Int32)), .val (.int v228), .val (.int v253), .unset] [(.int (0 : Int32))])
     exact absurd (by decide) hc259
    ·
     show KEnds p e below s _ _ _ T256 (mkF m 121 #[.val (.int i0), .val (.int i1), .val (.int i2), .val (.int i3), .val (.int i4), .val (.int i5), .val (.ref b1), .val (.int (0 : Int32)), .val (.int (2 : Int32)), .val (.int v228), .val (.int v253), .unset] [(.int (0 : Int32))])
     refine k_if_eq X256 hx (hb hby at_121) (pn := 124) rfl (py := 130) (by decide) (fun _ => ?_) (fun hc => absurd (by decide) hc)
     refine k_aload X256 hx (hb hby at_130) rfl rfl (pc' := 132) rfl ?_
     refine k_iconst X256 hx (hb hby at_132) (pc' := 133) rfl (z := (1 : Int32)) rfl ?_
     refine k_iload X256 hx (hb hby at_133) rfl (pc' := 135) rfl ?_
     refine k_iload X256 hx (hb hby at_135) rfl (pc' := 137) rfl ?_
     refine k_iload X256 hx (hb hby at_137) rfl (pc' := 139) rfl ?_
     refine k_callS X256 hx hZ hown (hw _ (List.mem_of_getElem? (i := 2) rfl)) (hw _ (List.mem_of_getElem? (i := 3) rfl)) (hw _ (List.mem_of_getElem? (i := 4) rfl)) (hw _ (List.mem_of_getElem? (i := 5) rfl)) (by decide) (rm1_132 l Z a0 hw [] b1 (0 : Int32) (2 : Int32) v253 k1 v2 v5 v8 v11 h12 n0 Z12 Vw12) (by decide) (by decide) e256 (by rw [hml]; rfl) (argsL := [(.ref b1), (.int (1 : Int32)), (.int (0 : Int32)), (.int (2 : Int32)), (.int v253)]) (rest := []) (lenOf pd_0 rfl) rfl (W := 0) (Nat.le_refl _) rfl (hb hby at_139) (by decide) (by decide) (pc' := 142) rfl (fun T270 L270 r270 X270 q270 => ?_)
     obtain ⟨N270, e270, q270⟩ := q270
     have N270' := Fr.app N256' N270
     rcases q270 with ⟨hc271, rfl⟩ | ⟨hc272, hc273, rfl⟩ | ⟨v274, h275, hc276, hc277, hc278, rfl⟩ | ⟨v279, h280, hc281, hc282, hc283, rfl⟩
     ·
      show KEnds p e below s _ _ _ T270 (mkF m 142 #[.val (.int i0), .val (.int i1), .val (.int i2), .val (.int i3), .val (.int i4), .val (.int i5), .val (.ref b1), .val (.int (0 : Int32)), .val (.int (2 : Int32)), .val (.int v228), .val (.int v253), .unset] [(.int (0 : Int32))])
      exact absurd hc271 (by decide)
     ·
      show KEnds p e below s _ _ _ T270 (mkF m 142 #[.val (.int i0), .val (.int i1), .val (.int i2), .val (.int i3), .val (.int i4), .val (.int i5), .val (.ref b1), .val (.int (0 : Int32)), .val (.int (2 : Int32)), .val (.int v228), .val (.int v253), .unset] [(.int (0 : Int32))])
      exact absurd (by decide) hc273
     ·
      show KEnds p e below s _ _ _ T270 (mkF m 142 #[.val (.int i0), .val (.int i1), .val (.int i2), .val (.int i3), .val (.int i4), .val (.int i5), .val (.ref b1), .val (.int (0 : Int32)), .val (.int (2 : Int32)), .val (.int v228), .val (.int v253), .unset] [(.int (0 : Int32))])
      refine k_if_eq X270 hx (hb hby at_142) (pn := 145) rfl (py := 151) (by decide) (fun _ => ?_) (fun hc => absurd (by decide) hc)
      refine k_aload X270 hx (hb hby at_151) rfl rfl (pc' := 153) rfl ?_
      refine k_iconst X270 hx (hb hby at_153) (pc' := 154) rfl (z := (2 : Int32)) rfl ?_
      refine k_iload X270 hx (hb hby at_154) rfl (pc' := 156) rfl ?_
      refine k_iload X270 hx (hb hby at_156) rfl (pc' := 158) rfl ?_
      refine k_iload X270 hx (hb hby at_158) rfl (pc' := 160) rfl ?_
      refine k_callS X270 hx hZ hown (hw _ (List.mem_of_getElem? (i := 2) rfl)) (hw _ (List.mem_of_getElem? (i := 3) rfl)) (hw _ (List.mem_of_getElem? (i := 4) rfl)) (hw _ (List.mem_of_getElem? (i := 5) rfl)) (by decide) (rm1_151 l Z a0 hw [] b1 (0 : Int32) (2 : Int32) v253 k1 v2 v5 v8 v11 h12 n0 Z12 Vw12) (by decide) (by decide) e270 (by rw [hml]; rfl) (argsL := [(.ref b1), (.int (2 : Int32)), (.int (0 : Int32)), (.int (2 : Int32)), (.int v253)]) (rest := []) (lenOf pd_0 rfl) rfl (W := 0) (Nat.le_refl _) rfl (hb hby at_160) (by decide) (by decide) (pc' := 163) rfl (fun T284 L284 r284 X284 q284 => ?_)
      obtain ⟨N284, e284, q284⟩ := q284
      have N284' := Fr.app N270' N284
      rcases q284 with ⟨hc285, rfl⟩ | ⟨hc286, hc287, rfl⟩ | ⟨v288, h289, hc290, hc291, hc292, rfl⟩ | ⟨v293, h294, hc295, hc296, hc297, rfl⟩
      ·
       show KEnds p e below s _ _ _ T284 (mkF m 163 #[.val (.int i0), .val (.int i1), .val (.int i2), .val (.int i3), .val (.int i4), .val (.int i5), .val (.ref b1), .val (.int (0 : Int32)), .val (.int (2 : Int32)), .val (.int v228), .val (.int v253), .unset] [(.int (0 : Int32))])
       exact absurd hc285 (by decide)
      ·
       show KEnds p e below s _ _ _ T284 (mkF m 163 #[.val (.int i0), .val (.int i1), .val (.int i2), .val (.int i3), .val (.int i4), .val (.int i5), .val (.ref b1), .val (.int (0 : Int32)), .val (.int (2 : Int32)), .val (.int v228), .val (.int v253), .unset] [(.int (0 : Int32))])
       refine k_if_eq X284 hx (hb hby at_163) (pn := 166) rfl (py := 172) (by decide) (fun _ => ?_) (fun hc => absurd (by decide) hc)
       refine k_aload X284 hx (hb hby at_172) rfl rfl (pc' := 174) rfl ?_
       refine k_iconst X284 hx (hb hby at_174) (pc' := 175) rfl (z := (3 : Int32)) rfl ?_
       refine k_iload X284 hx (hb hby at_175) rfl (pc' := 177) rfl ?_
       refine k_iload X284 hx (hb hby at_177) rfl (pc' := 179) rfl ?_
       refine k_iload X284 hx (hb hby at_179) rfl (pc' := 181) rfl ?_
       refine k_callS X284 hx hZ hown (hw _ (List.mem_of_getElem? (i := 2) rfl)) (hw _ (List.mem_of_getElem? (i := 3) rfl)) (hw _ (List.mem_of_getElem? (i := 4) rfl)) (hw _ (List.mem_of_getElem? (i := 5) rfl)) (by decide) (rm1_170 l Z a0 hw [] b1 (0 : Int32) (2 : Int32) v253 k1 v2 v5 v8 v11 h12 n0 Z12 Vw12) (by decide) (by decide) e284 (by rw [hml]; rfl) (argsL := [(.ref b1), (.int (3 : Int32)), (.int (0 : Int32)), (.int (2 : Int32)), (.int v253)]) (rest := []) (lenOf pd_0 rfl) rfl (W := 0) (Nat.le_refl _) rfl (hb hby at_181) (by decide) (by decide) (pc' := 184) rfl (fun T298 L298 r298 X298 q298 => ?_)
       obtain ⟨N298, e298, q298⟩ := q298
       have N298' := Fr.app N284' N298
       rcases q298 with ⟨hc299, rfl⟩ | ⟨hc300, hc301, rfl⟩ | ⟨v302, h303, hc304, hc305, hc306, rfl⟩ | ⟨v307, h308, hc309, hc310, hc311, rfl⟩
       ·
        show KEnds p e below s _ _ _ T298 (mkF m 184 #[.val (.int i0), .val (.int i1), .val (.int i2), .val (.int i3), .val (.int i4), .val (.int i5), .val (.ref b1), .val (.int (0 : Int32)), .val (.int (2 : Int32)), .val (.int v228), .val (.int v253), .unset] [(.int (0 : Int32))])
        exact absurd hc299 (by decide)
       ·
        show KEnds p e below s _ _ _ T298 (mkF m 184 #[.val (.int i0), .val (.int i1), .val (.int i2), .val (.int i3), .val (.int i4), .val (.int i5), .val (.ref b1), .val (.int (0 : Int32)), .val (.int (2 : Int32)), .val (.int v228), .val (.int v253), .unset] [(.int (0 : Int32))])
        refine k_if_eq X298 hx (hb hby at_184) (pn := 187) rfl (py := 193) (by decide) (fun _ => ?_) (fun hc => absurd (by decide) hc)
        refine k_iconst X298 hx (hb hby at_193) (pc' := 194) rfl (z := (-1 : Int32)) rfl ?_
        refine k_istore X298 hx (hb hby at_194) (Ls' := #[.val (.int i0), .val (.int i1), .val (.int i2), .val (.int i3), .val (.int i4), .val (.int i5), .val (.ref b1), .val (.int (0 : Int32)), .val (.int (2 : Int32)), .val (.int v228), .val (.int v253), .val (.int (-1 : Int32))]) rfl (pc' := 196) rfl ?_
        refine k_aload X298 hx (hb hby at_196) rfl rfl (pc' := 198) rfl ?_
        refine k_iload X298 hx (hb hby at_198) rfl (pc' := 200) rfl ?_
        refine k_iload X298 hx (hb hby at_200) rfl (pc' := 202) rfl ?_
        refine k_iload X298 hx (hb hby at_202) rfl (pc' := 204) rfl ?_
        refine k_callS X298 hx hZ hown (hw _ (List.mem_of_getElem? (i := 6) rfl)) (hw _ (List.mem_of_getElem? (i := 7) rfl)) (hw _ (List.mem_of_getElem? (i := 8) rfl)) (hw _ (List.mem_of_getElem? (i := 9) rfl)) (by decide) (rm2_312 l Z a0 hw [] b1 v253 k1 v2 v5 v8 v11 h12 n0 Z12 Vw12) (by decide) (by decide) e298 (by rw [hml]; rfl) (argsL := [(.ref b1), (.int (0 : Int32)), (.int (2 : Int32)), (.int v253)]) (rest := []) (lenOf pd_1 rfl) rfl (W := 0) (Nat.le_refl _) rfl (hb hby at_204) (by decide) (by decide) (pc' := 207) rfl (fun T318 L318 r318 X318 q318 => ?_)
        obtain ⟨N318, e318, q318⟩ := q318
        have N318' := Fr.app N298' N318
        rcases q318 with ⟨v319, v320, h321, h322, hc323, hc324, hc325, rfl⟩ | ⟨v326, v327, h328, h329, hc330, hc331, hc332, rfl⟩ | ⟨v333, h334, hc335, hc336, rfl⟩ | ⟨hc337, rfl⟩
        ·
         have hh338 : v260 = v319 := h261.trans h321.symm
         subst hh338
         have hh339 : v274 = v320 := h275.trans h322.symm
         subst hh339
         show KEnds p e below s _ _ _ T318 (mkF m 207 #[.val (.int i0), .val (.int i1), .val (.int i2), .val (.int i3), .val (.int i4), .val (.int i5), .val (.ref b1), .val (.int (0 : Int32)), .val (.int (2 : Int32)), .val (.int v228), .val (.int v253), .val (.int (-1 : Int32))] [(.int (-1 : Int32))])
         refine k_iload X318 hx (hb hby at_207) rfl (pc' := 209) rfl ?_
         refine k_icmp_ne X318 hx (hb hby at_209) (pn := 212) rfl (py := 216) (by decide) (fun hc => absurd (by decide) hc) (fun _ => ?_)
         refine k_iconst X318 hx (hb hby at_212) (pc' := 213) rfl (z := (1 : Int32)) rfl ?_
         refine k_goto X318 hx (hb hby at_213) (pc' := 217) (by decide) ?_
         exact k_retN X318 hx (t := .boolean) Bd.returns (by simp) (hb hby at_217) hlk (by decide) (by decide) (z' := (1 : Int32)) rfl ⟨rfl, N318'⟩
        ·
         have hh340 : v260 = v326 := h261.trans h328.symm
         subst hh340
         have hh341 : v274 = v327 := h275.trans h329.symm
         subst hh341
         show KEnds p e below s _ _ _ T318 (mkF m 207 #[.val (.int i0), .val (.int i1), .val (.int i2), .val (.int i3), .val (.int i4), .val (.int i5), .val (.ref b1), .val (.int (0 : Int32)), .val (.int (2 : Int32)), .val (.int v228), .val (.int v253), .val (.int (-1 : Int32))] [(.int (1 : Int32))])
         exact absurd hc332 hc278
        ·
         have hh342 : v260 = v333 := h261.trans h334.symm
         subst hh342
         show KEnds p e below s _ _ _ T318 (mkF m 207 #[.val (.int i0), .val (.int i1), .val (.int i2), .val (.int i3), .val (.int i4), .val (.int i5), .val (.ref b1), .val (.int (0 : Int32)), .val (.int (2 : Int32)), .val (.int v228), .val (.int v253), .val (.int (-1 : Int32))] [(.int (0 : Int32))])
         exact absurd hc336 hc264
        ·
         show KEnds p e below s _ _ _ T318 (mkF m 207 #[.val (.int i0), .val (.int i1), .val (.int i2), .val (.int i3), .val (.int i4), .val (.int i5), .val (.ref b1), .val (.int (0 : Int32)), .val (.int (2 : Int32)), .val (.int v228), .val (.int v253), .val (.int (-1 : Int32))] [(.int (-1 : Int32))])
         exact absurd hc337 hc255
       ·
        show KEnds p e below s _ _ _ T298 (mkF m 184 #[.val (.int i0), .val (.int i1), .val (.int i2), .val (.int i3), .val (.int i4), .val (.int i5), .val (.ref b1), .val (.int (0 : Int32)), .val (.int (2 : Int32)), .val (.int v228), .val (.int v253), .unset] [(.int (0 : Int32))])
        exact absurd hc305 (by decide)
       ·
        show KEnds p e below s _ _ _ T298 (mkF m 184 #[.val (.int i0), .val (.int i1), .val (.int i2), .val (.int i3), .val (.int i4), .val (.int i5), .val (.ref b1), .val (.int (0 : Int32)), .val (.int (2 : Int32)), .val (.int v228), .val (.int v253), .unset] [(.int (1 : Int32))])
        exact absurd hc310 (by decide)
      ·
       show KEnds p e below s _ _ _ T284 (mkF m 163 #[.val (.int i0), .val (.int i1), .val (.int i2), .val (.int i3), .val (.int i4), .val (.int i5), .val (.ref b1), .val (.int (0 : Int32)), .val (.int (2 : Int32)), .val (.int v228), .val (.int v253), .unset] [(.int (0 : Int32))])
       exact absurd hc291 (by decide)
      ·
       show KEnds p e below s _ _ _ T284 (mkF m 163 #[.val (.int i0), .val (.int i1), .val (.int i2), .val (.int i3), .val (.int i4), .val (.int i5), .val (.ref b1), .val (.int (0 : Int32)), .val (.int (2 : Int32)), .val (.int v228), .val (.int v253), .unset] [(.int (1 : Int32))])
       exact absurd hc296 (by decide)
     ·
      show KEnds p e below s _ _ _ T270 (mkF m 142 #[.val (.int i0), .val (.int i1), .val (.int i2), .val (.int i3), .val (.int i4), .val (.int i5), .val (.ref b1), .val (.int (0 : Int32)), .val (.int (2 : Int32)), .val (.int v228), .val (.int v253), .unset] [(.int (1 : Int32))])
      refine k_if_eq X270 hx (hb hby at_142) (pn := 145) rfl (py := 151) (by decide) (fun hc => absurd hc (by decide)) (fun _ => ?_)
      refine k_iconst X270 hx (hb hby at_145) (pc' := 146) rfl (z := (1 : Int32)) rfl ?_
      refine k_istore X270 hx (hb hby at_146) (Ls' := #[.val (.int i0), .val (.int i1), .val (.int i2), .val (.int i3), .val (.int i4), .val (.int i5), .val (.ref b1), .val (.int (0 : Int32)), .val (.int (2 : Int32)), .val (.int v228), .val (.int v253), .val (.int (1 : Int32))]) rfl (pc' := 148) rfl ?_
      refine k_goto X270 hx (hb hby at_148) (pc' := 196) (by decide) ?_
      refine k_aload X270 hx (hb hby at_196) rfl rfl (pc' := 198) rfl ?_
      refine k_iload X270 hx (hb hby at_198) rfl (pc' := 200) rfl ?_
      refine k_iload X270 hx (hb hby at_200) rfl (pc' := 202) rfl ?_
      refine k_iload X270 hx (hb hby at_202) rfl (pc' := 204) rfl ?_
      refine k_callS X270 hx hZ hown (hw _ (List.mem_of_getElem? (i := 6) rfl)) (hw _ (List.mem_of_getElem? (i := 7) rfl)) (hw _ (List.mem_of_getElem? (i := 8) rfl)) (hw _ (List.mem_of_getElem? (i := 9) rfl)) (by decide) (rm2_312 l Z a0 hw [] b1 v253 k1 v2 v5 v8 v11 h12 n0 Z12 Vw12) (by decide) (by decide) e270 (by rw [hml]; rfl) (argsL := [(.ref b1), (.int (0 : Int32)), (.int (2 : Int32)), (.int v253)]) (rest := []) (lenOf pd_1 rfl) rfl (W := 0) (Nat.le_refl _) rfl (hb hby at_204) (by decide) (by decide) (pc' := 207) rfl (fun T343 L343 r343 X343 q343 => ?_)
      obtain ⟨N343, e343, q343⟩ := q343
      have N343' := Fr.app N270' N343
      rcases q343 with ⟨v344, v345, h346, h347, hc348, hc349, hc350, rfl⟩ | ⟨v351, v352, h353, h354, hc355, hc356, hc357, rfl⟩ | ⟨v358, h359, hc360, hc361, rfl⟩ | ⟨hc362, rfl⟩
      ·
       have hh363 : v260 = v344 := h261.trans h346.symm
       subst hh363
       have hh364 : v279 = v345 := h280.trans h347.symm
       subst hh364
       show KEnds p e below s _ _ _ T343 (mkF m 207 #[.val (.int i0), .val (.int i1), .val (.int i2), .val (.int i3), .val (.int i4), .val (.int i5), .val (.ref b1), .val (.int (0 : Int32)), .val (.int (2 : Int32)), .val (.int v228), .val (.int v253), .val (.int (1 : Int32))] [(.int (-1 : Int32))])
       exact absurd hc283 hc350
      ·
       have hh365 : v260 = v351 := h261.trans h353.symm
       subst hh365
       have hh366 : v279 = v352 := h280.trans h354.symm
       subst hh366
       show KEnds p e below s _ _ _ T343 (mkF m 207 #[.val (.int i0), .val (.int i1), .val (.int i2), .val (.int i3), .val (.int i4), .val (.int i5), .val (.ref b1), .val (.int (0 : Int32)), .val (.int (2 : Int32)), .val (.int v228), .val (.int v253), .val (.int (1 : Int32))] [(.int (1 : Int32))])
       refine k_iload X343 hx (hb hby at_207) rfl (pc' := 209) rfl ?_
       refine k_icmp_ne X343 hx (hb hby at_209) (pn := 212) rfl (py := 216) (by decide) (fun hc => absurd (by decide) hc) (fun _ => ?_)
       refine k_iconst X343 hx (hb hby at_212) (pc' := 213) rfl (z := (1 : Int32)) rfl ?_
       refine k_goto X343 hx (hb hby at_213) (pc' := 217) (by decide) ?_
       exact k_retN X343 hx (t := .boolean) Bd.returns (by simp) (hb hby at_217) hlk (by decide) (by decide) (z' := (1 : Int32)) rfl ⟨rfl, N343'⟩
      ·
       have hh367 : v260 = v358 := h261.trans h359.symm
       subst hh367
       show KEnds p e below s _ _ _ T343 (mkF m 207 #[.val (.int i0), .val (.int i1), .val (.int i2), .val (.int i3), .val (.int i4), .val (.int i5), .val (.ref b1), .val (.int (0 : Int32)), .val (.int (2 : Int32)), .val (.int v228), .val (.int v253), .val (.int (1 : Int32))] [(.int (0 : Int32))])
       exact absurd hc361 hc264
      ·
       show KEnds p e below s _ _ _ T343 (mkF m 207 #[.val (.int i0), .val (.int i1), .val (.int i2), .val (.int i3), .val (.int i4), .val (.int i5), .val (.ref b1), .val (.int (0 : Int32)), .val (.int (2 : Int32)), .val (.int v228), .val (.int v253), .val (.int (1 : Int32))] [(.int (-1 : Int32))])
       exact absurd hc362 hc255
    ·
     show KEnds p e below s _ _ _ T256 (mkF m 121 #[.val (.int i0), .val (.int i1), .val (.int i2), .val (.int i3), .val (.int i4), .val (.int i5), .val (.ref b1), .val (.int (0 : Int32)), .val (.int (2 : Int32)), .val (.int v228), .val (.int v253), .unset] [(.int (1 : Int32))])
     refine k_if_eq X256 hx (hb hby at_121) (pn := 124) rfl (py := 130) (by decide) (fun hc => absurd hc (by decide)) (fun _ => ?_)
     refine k_iconst X256 hx (hb hby at_124) (pc' := 125) rfl (z := (0 : Int32)) rfl ?_
     refine k_istore X256 hx (hb hby at_125) (Ls' := #[.val (.int i0), .val (.int i1), .val (.int i2), .val (.int i3), .val (.int i4), .val (.int i5), .val (.ref b1), .val (.int (0 : Int32)), .val (.int (2 : Int32)), .val (.int v228), .val (.int v253), .val (.int (0 : Int32))]) rfl (pc' := 127) rfl ?_
     refine k_goto X256 hx (hb hby at_127) (pc' := 196) (by decide) ?_
     refine k_aload X256 hx (hb hby at_196) rfl rfl (pc' := 198) rfl ?_
     refine k_iload X256 hx (hb hby at_198) rfl (pc' := 200) rfl ?_
     refine k_iload X256 hx (hb hby at_200) rfl (pc' := 202) rfl ?_
     refine k_iload X256 hx (hb hby at_202) rfl (pc' := 204) rfl ?_
     refine k_callS X256 hx hZ hown (hw _ (List.mem_of_getElem? (i := 6) rfl)) (hw _ (List.mem_of_getElem? (i := 7) rfl)) (hw _ (List.mem_of_getElem? (i := 8) rfl)) (hw _ (List.mem_of_getElem? (i := 9) rfl)) (by decide) (rm2_312 l Z a0 hw [] b1 v253 k1 v2 v5 v8 v11 h12 n0 Z12 Vw12) (by decide) (by decide) e256 (by rw [hml]; rfl) (argsL := [(.ref b1), (.int (0 : Int32)), (.int (2 : Int32)), (.int v253)]) (rest := []) (lenOf pd_1 rfl) rfl (W := 0) (Nat.le_refl _) rfl (hb hby at_204) (by decide) (by decide) (pc' := 207) rfl (fun T368 L368 r368 X368 q368 => ?_)
     obtain ⟨N368, e368, q368⟩ := q368
     have N368' := Fr.app N256' N368
     rcases q368 with ⟨v369, v370, h371, h372, hc373, hc374, hc375, rfl⟩ | ⟨v376, v377, h378, h379, hc380, hc381, hc382, rfl⟩ | ⟨v383, h384, hc385, hc386, rfl⟩ | ⟨hc387, rfl⟩
     ·
      have hh388 : v265 = v369 := h266.trans h371.symm
      subst hh388
      show KEnds p e below s _ _ _ T368 (mkF m 207 #[.val (.int i0), .val (.int i1), .val (.int i2), .val (.int i3), .val (.int i4), .val (.int i5), .val (.ref b1), .val (.int (0 : Int32)), .val (.int (2 : Int32)), .val (.int v228), .val (.int v253), .val (.int (0 : Int32))] [(.int (-1 : Int32))])
      exact absurd hc269 hc374
     ·
      have hh389 : v265 = v376 := h266.trans h378.symm
      subst hh389
      show KEnds p e below s _ _ _ T368 (mkF m 207 #[.val (.int i0), .val (.int i1), .val (.int i2), .val (.int i3), .val (.int i4), .val (.int i5), .val (.ref b1), .val (.int (0 : Int32)), .val (.int (2 : Int32)), .val (.int v228), .val (.int v253), .val (.int (0 : Int32))] [(.int (1 : Int32))])
      exact absurd hc269 hc381
     ·
      have hh390 : v265 = v383 := h266.trans h384.symm
      subst hh390
      show KEnds p e below s _ _ _ T368 (mkF m 207 #[.val (.int i0), .val (.int i1), .val (.int i2), .val (.int i3), .val (.int i4), .val (.int i5), .val (.ref b1), .val (.int (0 : Int32)), .val (.int (2 : Int32)), .val (.int v228), .val (.int v253), .val (.int (0 : Int32))] [(.int (0 : Int32))])
      refine k_iload X368 hx (hb hby at_207) rfl (pc' := 209) rfl ?_
      refine k_icmp_ne X368 hx (hb hby at_209) (pn := 212) rfl (py := 216) (by decide) (fun hc => absurd (by decide) hc) (fun _ => ?_)
      refine k_iconst X368 hx (hb hby at_212) (pc' := 213) rfl (z := (1 : Int32)) rfl ?_
      refine k_goto X368 hx (hb hby at_213) (pc' := 217) (by decide) ?_
      exact k_retN X368 hx (t := .boolean) Bd.returns (by simp) (hb hby at_217) hlk (by decide) (by decide) (z' := (1 : Int32)) rfl ⟨rfl, N368'⟩
     ·
      show KEnds p e below s _ _ _ T368 (mkF m 207 #[.val (.int i0), .val (.int i1), .val (.int i2), .val (.int i3), .val (.int i4), .val (.int i5), .val (.ref b1), .val (.int (0 : Int32)), .val (.int (2 : Int32)), .val (.int v228), .val (.int v253), .val (.int (0 : Int32))] [(.int (-1 : Int32))])
      exact absurd hc387 hc255
   ·
    refine k_iconst X12 hx (hb hby at_103) (pc' := 104) rfl (z := (-1 : Int32)) rfl ?_
    refine k_istore X12 hx (hb hby at_104) (Ls' := #[.val (.int i0), .val (.int i1), .val (.int i2), .val (.int i3), .val (.int i4), .val (.int i5), .val (.ref b1), .val (.int (0 : Int32)), .val (.int (2 : Int32)), .val (.int v228), .val (.int v253), .val (.int (-1 : Int32))]) rfl (pc' := 106) rfl ?_
    refine k_goto X12 hx (hb hby at_106) (pc' := 196) (by decide) ?_
    refine k_aload X12 hx (hb hby at_196) rfl rfl (pc' := 198) rfl ?_
    refine k_iload X12 hx (hb hby at_198) rfl (pc' := 200) rfl ?_
    refine k_iload X12 hx (hb hby at_200) rfl (pc' := 202) rfl ?_
    refine k_iload X12 hx (hb hby at_202) rfl (pc' := 204) rfl ?_
    refine k_callS X12 hx hZ hown (hw _ (List.mem_of_getElem? (i := 6) rfl)) (hw _ (List.mem_of_getElem? (i := 7) rfl)) (hw _ (List.mem_of_getElem? (i := 8) rfl)) (hw _ (List.mem_of_getElem? (i := 9) rfl)) (by decide) (rm2_312 l Z a0 hw [] b1 v253 k1 v2 v5 v8 v11 h12 n0 Z12 Vw12) (by decide) (by decide) e12 (by rw [hml]; rfl) (argsL := [(.ref b1), (.int (0 : Int32)), (.int (2 : Int32)), (.int v253)]) (rest := []) (lenOf pd_1 rfl) rfl (W := 0) (Nat.le_refl _) rfl (hb hby at_204) (by decide) (by decide) (pc' := 207) rfl (fun T391 L391 r391 X391 q391 => ?_)
    obtain ⟨N391, e391, q391⟩ := q391
    have N391' := Fr.app N12 N391
    rcases q391 with ⟨v392, v393, h394, h395, hc396, hc397, hc398, rfl⟩ | ⟨v399, v400, h401, h402, hc403, hc404, hc405, rfl⟩ | ⟨v406, h407, hc408, hc409, rfl⟩ | ⟨hc410, rfl⟩
    ·
     show KEnds p e below s _ _ _ T391 (mkF m 207 #[.val (.int i0), .val (.int i1), .val (.int i2), .val (.int i3), .val (.int i4), .val (.int i5), .val (.ref b1), .val (.int (0 : Int32)), .val (.int (2 : Int32)), .val (.int v228), .val (.int v253), .val (.int (-1 : Int32))] [(.int (-1 : Int32))])
     exact absurd hc255 hc396
    ·
     show KEnds p e below s _ _ _ T391 (mkF m 207 #[.val (.int i0), .val (.int i1), .val (.int i2), .val (.int i3), .val (.int i4), .val (.int i5), .val (.ref b1), .val (.int (0 : Int32)), .val (.int (2 : Int32)), .val (.int v228), .val (.int v253), .val (.int (-1 : Int32))] [(.int (1 : Int32))])
     exact absurd hc255 hc403
    ·
     show KEnds p e below s _ _ _ T391 (mkF m 207 #[.val (.int i0), .val (.int i1), .val (.int i2), .val (.int i3), .val (.int i4), .val (.int i5), .val (.ref b1), .val (.int (0 : Int32)), .val (.int (2 : Int32)), .val (.int v228), .val (.int v253), .val (.int (-1 : Int32))] [(.int (0 : Int32))])
     exact absurd hc255 hc408
    ·
     show KEnds p e below s _ _ _ T391 (mkF m 207 #[.val (.int i0), .val (.int i1), .val (.int i2), .val (.int i3), .val (.int i4), .val (.int i5), .val (.ref b1), .val (.int (0 : Int32)), .val (.int (2 : Int32)), .val (.int v228), .val (.int v253), .val (.int (-1 : Int32))] [(.int (-1 : Int32))])
     refine k_iload X391 hx (hb hby at_207) rfl (pc' := 209) rfl ?_
     refine k_icmp_ne X391 hx (hb hby at_209) (pn := 212) rfl (py := 216) (by decide) (fun hc => absurd (by decide) hc) (fun _ => ?_)
     refine k_iconst X391 hx (hb hby at_212) (pc' := 213) rfl (z := (1 : Int32)) rfl ?_
     refine k_goto X391 hx (hb hby at_213) (pc' := 217) (by decide) ?_
     exact k_retN X391 hx (t := .boolean) Bd.returns (by simp) (hb hby at_217) hlk (by decide) (by decide) (z' := (1 : Int32)) rfl ⟨rfl, N391'⟩
  ·
   show KEnds p e below s _ _ _ T12 (mkF m 44 #[.val (.int i0), .val (.int i1), .val (.int i2), .val (.int i3), .val (.int i4), .val (.int i5), .val (.ref b1), .val (.int (0 : Int32)), .unset, .unset, .unset, .unset] [(.int (3 : Int32))])
   refine k_istore X12 hx (hb hby at_44) (Ls' := #[.val (.int i0), .val (.int i1), .val (.int i2), .val (.int i3), .val (.int i4), .val (.int i5), .val (.ref b1), .val (.int (0 : Int32)), .val (.int (3 : Int32)), .unset, .unset, .unset]) rfl (pc' := 46) rfl ?_
   refine k_iload X12 hx (hb hby at_46) rfl (pc' := 48) rfl ?_
   refine k_iconst X12 hx (hb hby at_48) (pc' := 49) rfl (z := (3 : Int32)) rfl ?_
   refine k_iand X12 hx (hb hby at_49) (pc' := 50) rfl (fun v412 hv412 => ?_)
   refine k_istore X12 hx (hb hby at_50) (Ls' := #[.val (.int i0), .val (.int i1), .val (.int i2), .val (.int i3), .val (.int i4), .val (.int i5), .val (.ref b1), .val (.int (0 : Int32)), .val (.int (3 : Int32)), .val (.int v412), .unset, .unset]) rfl (pc' := 52) rfl ?_
   suffices key413 : ∀ (v437 : Int32), KEnds p e below s 16 128 (Q0 n0) T12 (mkF m 97 #[.val (.int i0), .val (.int i1), .val (.int i2), .val (.int i3), .val (.int i4), .val (.int i5), .val (.ref b1), .val (.int (0 : Int32)), .val (.int (3 : Int32)), .val (.int v412), .val (.int v437), .unset] []) by
    refine k_iload X12 hx (hb hby at_52) rfl (pc' := 54) rfl ?_
    refine k_if_ne X12 hx (hb hby at_54) (pn := 57) rfl (py := 63) (by decide) (fun hc414 => ?_) (fun hc414 => ?_)
    ·
     refine k_iload X12 hx (hb hby at_63) rfl (pc' := 65) rfl ?_
     refine k_iconst X12 hx (hb hby at_65) (pc' := 66) rfl (z := (1 : Int32)) rfl ?_
     refine k_icmp_ne X12 hx (hb hby at_66) (pn := 69) rfl (py := 87) (by decide) (fun hc415 => ?_) (fun hc415 => ?_)
     ·
      refine k_iload X12 hx (hb hby at_87) rfl (pc' := 89) rfl ?_
      refine k_iconst X12 hx (hb hby at_89) (pc' := 90) rfl (z := (2 : Int32)) rfl ?_
      refine k_iushr X12 hx (hb hby at_90) (pc' := 91) rfl (fun v416 hv416 => ?_)
      refine k_sipush X12 hx (hb hby at_91) (pc' := 94) rfl (z := (255 : Int32)) rfl ?_
      refine k_iand X12 hx (hb hby at_94) (pc' := 95) rfl (fun v417 hv417 => ?_)
      refine k_istore X12 hx (hb hby at_95) (Ls' := #[.val (.int i0), .val (.int i1), .val (.int i2), .val (.int i3), .val (.int i4), .val (.int i5), .val (.ref b1), .val (.int (0 : Int32)), .val (.int (3 : Int32)), .val (.int v412), .val (.int v417), .unset]) rfl (pc' := 97) rfl ?_
      exact key413 v417
     ·
      refine k_aload X12 hx (hb hby at_69) rfl rfl (pc' := 71) rfl ?_
      refine k_iload X12 hx (hb hby at_71) rfl (pc' := 73) rfl ?_
      refine k_iconst X12 hx (hb hby at_73) (pc' := 74) rfl (z := (2 : Int32)) rfl ?_
      refine k_iushr X12 hx (hb hby at_74) (pc' := 75) rfl (fun v418 hv418 => ?_)
      refine k_iconst X12 hx (hb hby at_75) (pc' := 76) rfl (z := (3 : Int32)) rfl ?_
      refine k_iand X12 hx (hb hby at_76) (pc' := 77) rfl (fun v419 hv419 => ?_)
      have hj420 : ¬ v419 < 0 ∧ v419 < (4 : Int32) := by
       refine ⟨?_, ?_⟩
       ·
        intro hq421
        have := rng32 v412
        have := rng32 i5
        have : (3 : Int32).toInt = 3 := (by decide)
        have q422 : v412.toInt = i5.toInt % 4 := (by rw [hv412]; exact c_mask _ _ 2 (by decide) (by decide))
        have : (0 : Int32).toInt = 0 := (by decide)
        have q423 : ¬ v412.toInt = (0 : Int32).toInt := fun q => hc414 (Int32.toInt_inj.mp q)
        have : (1 : Int32).toInt = 1 := (by decide)
        have q424 := congrArg Int32.toInt hc415
        have := rng32 v419
        have := rng32 v418
        have : (2 : Int32).toInt = 2 := (by decide)
        have q425 : v418.toInt = (i5.toInt % 4294967296) / 4 := (by rw [hv418]; exact c_iushr _ _ 2 (by decide) (by decide))
        have q426 : v419.toInt = v418.toInt % 4 := (by rw [hv419]; exact c_mask _ _ 2 (by decide) (by decide))
        have q427 := hq421; rw [Int32.lt_iff_toInt_lt] at q427
        omega
       ·
        refine Classical.byContradiction (fun hq428 => ?_)
        have := rng32 v412
        have := rng32 i5
        have : (3 : Int32).toInt = 3 := (by decide)
        have q429 : v412.toInt = i5.toInt % 4 := (by rw [hv412]; exact c_mask _ _ 2 (by decide) (by decide))
        have : (0 : Int32).toInt = 0 := (by decide)
        have q430 : ¬ v412.toInt = (0 : Int32).toInt := fun q => hc414 (Int32.toInt_inj.mp q)
        have : (1 : Int32).toInt = 1 := (by decide)
        have q431 := congrArg Int32.toInt hc415
        have := rng32 v419
        have := rng32 v418
        have : (2 : Int32).toInt = 2 := (by decide)
        have q432 : v418.toInt = (i5.toInt % 4294967296) / 4 := (by rw [hv418]; exact c_iushr _ _ 2 (by decide) (by decide))
        have q433 : v419.toInt = v418.toInt % 4 := (by rw [hv419]; exact c_mask _ _ 2 (by decide) (by decide))
        have : (4 : Int32).toInt = 4 := (by decide)
        have q434 := hq428; rw [Int32.lt_iff_toInt_lt] at q434
        omega
      refine k_baloadS X12 hx hZ e12 Vw12 hj420 (hb hby at_77) (pc' := 78) rfl (fun v435 hv435 => ?_)
      refine k_sipush X12 hx (hb hby at_78) (pc' := 81) rfl (z := (255 : Int32)) rfl ?_
      refine k_iand X12 hx (hb hby at_81) (pc' := 82) rfl (fun v436 hv436 => ?_)
      refine k_istore X12 hx (hb hby at_82) (Ls' := #[.val (.int i0), .val (.int i1), .val (.int i2), .val (.int i3), .val (.int i4), .val (.int i5), .val (.ref b1), .val (.int (0 : Int32)), .val (.int (3 : Int32)), .val (.int v412), .val (.int v436), .unset]) rfl (pc' := 84) rfl ?_
      refine k_goto X12 hx (hb hby at_84) (pc' := 97) (by decide) ?_
      exact key413 v436
    ·
     refine k_iconst X12 hx (hb hby at_57) (pc' := 58) rfl (z := (-1 : Int32)) rfl ?_
     refine k_istore X12 hx (hb hby at_58) (Ls' := #[.val (.int i0), .val (.int i1), .val (.int i2), .val (.int i3), .val (.int i4), .val (.int i5), .val (.ref b1), .val (.int (0 : Int32)), .val (.int (3 : Int32)), .val (.int v412), .val (.int (-1 : Int32)), .unset]) rfl (pc' := 60) rfl ?_
     refine k_goto X12 hx (hb hby at_60) (pc' := 97) (by decide) ?_
     exact key413 (-1 : Int32)
   intro v437
   refine k_iload X12 hx (hb hby at_97) rfl (pc' := 99) rfl ?_
   refine k_iconst X12 hx (hb hby at_99) (pc' := 100) rfl (z := (-1 : Int32)) rfl ?_
   refine k_icmp_ne X12 hx (hb hby at_100) (pn := 103) rfl (py := 109) (by decide) (fun hc439 => ?_) (fun hc439 => ?_)
   ·
    refine k_aload X12 hx (hb hby at_109) rfl rfl (pc' := 111) rfl ?_
    refine k_iconst X12 hx (hb hby at_111) (pc' := 112) rfl (z := (0 : Int32)) rfl ?_
    refine k_iload X12 hx (hb hby at_112) rfl (pc' := 114) rfl ?_
    refine k_iload X12 hx (hb hby at_114) rfl (pc' := 116) rfl ?_
    refine k_iload X12 hx (hb hby at_116) rfl (pc' := 118) rfl ?_
    refine k_callS X12 hx hZ hown (hw _ (List.mem_of_getElem? (i := 2) rfl)) (hw _ (List.mem_of_getElem? (i := 3) rfl)) (hw _ (List.mem_of_getElem? (i := 4) rfl)) (hw _ (List.mem_of_getElem? (i := 5) rfl)) (by decide) (rm1_113 l Z a0 hw [] b1 (0 : Int32) (3 : Int32) v437 k1 v2 v5 v8 v11 h12 n0 Z12 Vw12) (by decide) (by decide) e12 (by rw [hml]; rfl) (argsL := [(.ref b1), (.int (0 : Int32)), (.int (0 : Int32)), (.int (3 : Int32)), (.int v437)]) (rest := []) (lenOf pd_0 rfl) rfl (W := 0) (Nat.le_refl _) rfl (hb hby at_118) (by decide) (by decide) (pc' := 121) rfl (fun T440 L440 r440 X440 q440 => ?_)
    obtain ⟨N440, e440, q440⟩ := q440
    have N440' := Fr.app N12 N440
    rcases q440 with ⟨hc441, rfl⟩ | ⟨hc442, hc443, rfl⟩ | ⟨v444, h445, hc446, hc447, hc448, rfl⟩ | ⟨v449, h450, hc451, hc452, hc453, rfl⟩
    ·
     show KEnds p e below s _ _ _ T440 (mkF m 121 #[.val (.int i0), .val (.int i1), .val (.int i2), .val (.int i3), .val (.int i4), .val (.int i5), .val (.ref b1), .val (.int (0 : Int32)), .val (.int (3 : Int32)), .val (.int v412), .val (.int v437), .unset] [(.int (0 : Int32))])
     exact absurd hc441 (by decide)
    ·
     show KEnds p e below s _ _ _ T440 (mkF m 121 #[.val (.int i0), .val (.int i1), .val (.int i2), .val (.int i3), .val (.int i4), .val (.int i5), .val (.ref b1), .val (.int (0 : Int32)), .val (.int (3 : Int32)), .val (.int v412), .val (.int v437), .unset] [(.int (0 : Int32))])
     exact absurd (by decide) hc443
    ·
     show KEnds p e below s _ _ _ T440 (mkF m 121 #[.val (.int i0), .val (.int i1), .val (.int i2), .val (.int i3), .val (.int i4), .val (.int i5), .val (.ref b1), .val (.int (0 : Int32)), .val (.int (3 : Int32)), .val (.int v412), .val (.int v437), .unset] [(.int (0 : Int32))])
     refine k_if_eq X440 hx (hb hby at_121) (pn := 124) rfl (py := 130) (by decide) (fun _ => ?_) (fun hc => absurd (by decide) hc)
     refine k_aload X440 hx (hb hby at_130) rfl rfl (pc' := 132) rfl ?_
     refine k_iconst X440 hx (hb hby at_132) (pc' := 133) rfl (z := (1 : Int32)) rfl ?_
     refine k_iload X440 hx (hb hby at_133) rfl (pc' := 135) rfl ?_
     refine k_iload X440 hx (hb hby at_135) rfl (pc' := 137) rfl ?_
     refine k_iload X440 hx (hb hby at_137) rfl (pc' := 139) rfl ?_
     refine k_callS X440 hx hZ hown (hw _ (List.mem_of_getElem? (i := 2) rfl)) (hw _ (List.mem_of_getElem? (i := 3) rfl)) (hw _ (List.mem_of_getElem? (i := 4) rfl)) (hw _ (List.mem_of_getElem? (i := 5) rfl)) (by decide) (rm1_132 l Z a0 hw [] b1 (0 : Int32) (3 : Int32) v437 k1 v2 v5 v8 v11 h12 n0 Z12 Vw12) (by decide) (by decide) e440 (by rw [hml]; rfl) (argsL := [(.ref b1), (.int (1 : Int32)), (.int (0 : Int32)), (.int (3 : Int32)), (.int v437)]) (rest := []) (lenOf pd_0 rfl) rfl (W := 0) (Nat.le_refl _) rfl (hb hby at_139) (by decide) (by decide) (pc' := 142) rfl (fun T454 L454 r454 X454 q454 => ?_)
     obtain ⟨N454, e454, q454⟩ := q454
     have N454' := Fr.app N440' N454
     rcases q454 with ⟨hc455, rfl⟩ | ⟨hc456, hc457, rfl⟩ | ⟨v458, h459, hc460, hc461, hc462, rfl⟩ | ⟨v463, h464, hc465, hc466, hc467, rfl⟩
     ·
      show KEnds p e below s _ _ _ T454 (mkF m 142 #[.val (.int i0), .val (.int i1), .val (.int i2), .val (.int i3), .val (.int i4), .val (.int i5), .val (.ref b1), .val (.int (0 : Int32)), .val (.int (3 : Int32)), .val (.int v412), .val (.int v437), .unset] [(.int (0 : Int32))])
      exact absurd hc455 (by decide)
     ·
      show KEnds p e below s _ _ _ T454 (mkF m 142 #[.val (.int i0), .val (.int i1), .val (.int i2), .val (.int i3), .val (.int i4), .val (.int i5), .val (.ref b1), .val (.int (0 : Int32)), .val (.int (3 : Int32)), .val (.int v412), .val (.int v437), .unset] [(.int (0 : Int32))])
      exact absurd (by decide) hc457
     ·
      show KEnds p e below s _ _ _ T454 (mkF m 142 #[.val (.int i0), .val (.int i1), .val (.int i2), .val (.int i3), .val (.int i4), .val (.int i5), .val (.ref b1), .val (.int (0 : Int32)), .val (.int (3 : Int32)), .val (.int v412), .val (.int v437), .unset] [(.int (0 : Int32))])
      refine k_if_eq X454 hx (hb hby at_142) (pn := 145) rfl (py := 151) (by decide) (fun _ => ?_) (fun hc => absurd (by decide) hc)
      refine k_aload X454 hx (hb hby at_151) rfl rfl (pc' := 153) rfl ?_
      refine k_iconst X454 hx (hb hby at_153) (pc' := 154) rfl (z := (2 : Int32)) rfl ?_
      refine k_iload X454 hx (hb hby at_154) rfl (pc' := 156) rfl ?_
      refine k_iload X454 hx (hb hby at_156) rfl (pc' := 158) rfl ?_
      refine k_iload X454 hx (hb hby at_158) rfl (pc' := 160) rfl ?_
      refine k_callS X454 hx hZ hown (hw _ (List.mem_of_getElem? (i := 2) rfl)) (hw _ (List.mem_of_getElem? (i := 3) rfl)) (hw _ (List.mem_of_getElem? (i := 4) rfl)) (hw _ (List.mem_of_getElem? (i := 5) rfl)) (by decide) (rm1_151 l Z a0 hw [] b1 (0 : Int32) (3 : Int32) v437 k1 v2 v5 v8 v11 h12 n0 Z12 Vw12) (by decide) (by decide) e454 (by rw [hml]; rfl) (argsL := [(.ref b1), (.int (2 : Int32)), (.int (0 : Int32)), (.int (3 : Int32)), (.int v437)]) (rest := []) (lenOf pd_0 rfl) rfl (W := 0) (Nat.le_refl _) rfl (hb hby at_160) (by decide) (by decide) (pc' := 163) rfl (fun T468 L468 r468 X468 q468 => ?_)
      obtain ⟨N468, e468, q468⟩ := q468
      have N468' := Fr.app N454' N468
      rcases q468 with ⟨hc469, rfl⟩ | ⟨hc470, hc471, rfl⟩ | ⟨v472, h473, hc474, hc475, hc476, rfl⟩ | ⟨v477, h478, hc479, hc480, hc481, rfl⟩
      ·
       show KEnds p e below s _ _ _ T468 (mkF m 163 #[.val (.int i0), .val (.int i1), .val (.int i2), .val (.int i3), .val (.int i4), .val (.int i5), .val (.ref b1), .val (.int (0 : Int32)), .val (.int (3 : Int32)), .val (.int v412), .val (.int v437), .unset] [(.int (0 : Int32))])
       exact absurd hc469 (by decide)
      ·
       show KEnds p e below s _ _ _ T468 (mkF m 163 #[.val (.int i0), .val (.int i1), .val (.int i2), .val (.int i3), .val (.int i4), .val (.int i5), .val (.ref b1), .val (.int (0 : Int32)), .val (.int (3 : Int32)), .val (.int v412), .val (.int v437), .unset] [(.int (0 : Int32))])
       exact absurd (by decide) hc471
      ·
       show KEnds p e below s _ _ _ T468 (mkF m 163 #[.val (.int i0), .val (.int i1), .val (.int i2), .val (.int i3), .val (.int i4), .val (.int i5), .val (.ref b1), .val (.int (0 : Int32)), .val (.int (3 : Int32)), .val (.int v412), .val (.int v437), .unset] [(.int (0 : Int32))])
       refine k_if_eq X468 hx (hb hby at_163) (pn := 166) rfl (py := 172) (by decide) (fun _ => ?_) (fun hc => absurd (by decide) hc)
       refine k_aload X468 hx (hb hby at_172) rfl rfl (pc' := 174) rfl ?_
       refine k_iconst X468 hx (hb hby at_174) (pc' := 175) rfl (z := (3 : Int32)) rfl ?_
       refine k_iload X468 hx (hb hby at_175) rfl (pc' := 177) rfl ?_
       refine k_iload X468 hx (hb hby at_177) rfl (pc' := 179) rfl ?_
       refine k_iload X468 hx (hb hby at_179) rfl (pc' := 181) rfl ?_
       refine k_callS X468 hx hZ hown (hw _ (List.mem_of_getElem? (i := 2) rfl)) (hw _ (List.mem_of_getElem? (i := 3) rfl)) (hw _ (List.mem_of_getElem? (i := 4) rfl)) (hw _ (List.mem_of_getElem? (i := 5) rfl)) (by decide) (rm1_170 l Z a0 hw [] b1 (0 : Int32) (3 : Int32) v437 k1 v2 v5 v8 v11 h12 n0 Z12 Vw12) (by decide) (by decide) e468 (by rw [hml]; rfl) (argsL := [(.ref b1), (.int (3 : Int32)), (.int (0 : Int32)), (.int (3 : Int32)), (.int v437)]) (rest := []) (lenOf pd_0 rfl) rfl (W := 0) (Nat.le_refl _) rfl (hb hby at_181) (by decide) (by decide) (pc' := 184) rfl (fun T482 L482 r482 X482 q482 => ?_)
       obtain ⟨N482, e482, q482⟩ := q482
       have N482' := Fr.app N468' N482
       rcases q482 with ⟨hc483, rfl⟩ | ⟨hc484, hc485, rfl⟩ | ⟨v486, h487, hc488, hc489, hc490, rfl⟩ | ⟨v491, h492, hc493, hc494, hc495, rfl⟩
       ·
        show KEnds p e below s _ _ _ T482 (mkF m 184 #[.val (.int i0), .val (.int i1), .val (.int i2), .val (.int i3), .val (.int i4), .val (.int i5), .val (.ref b1), .val (.int (0 : Int32)), .val (.int (3 : Int32)), .val (.int v412), .val (.int v437), .unset] [(.int (0 : Int32))])
        exact absurd hc483 (by decide)
       ·
        show KEnds p e below s _ _ _ T482 (mkF m 184 #[.val (.int i0), .val (.int i1), .val (.int i2), .val (.int i3), .val (.int i4), .val (.int i5), .val (.ref b1), .val (.int (0 : Int32)), .val (.int (3 : Int32)), .val (.int v412), .val (.int v437), .unset] [(.int (0 : Int32))])
        refine k_if_eq X482 hx (hb hby at_184) (pn := 187) rfl (py := 193) (by decide) (fun _ => ?_) (fun hc => absurd (by decide) hc)
        refine k_iconst X482 hx (hb hby at_193) (pc' := 194) rfl (z := (-1 : Int32)) rfl ?_
        refine k_istore X482 hx (hb hby at_194) (Ls' := #[.val (.int i0), .val (.int i1), .val (.int i2), .val (.int i3), .val (.int i4), .val (.int i5), .val (.ref b1), .val (.int (0 : Int32)), .val (.int (3 : Int32)), .val (.int v412), .val (.int v437), .val (.int (-1 : Int32))]) rfl (pc' := 196) rfl ?_
        refine k_aload X482 hx (hb hby at_196) rfl rfl (pc' := 198) rfl ?_
        refine k_iload X482 hx (hb hby at_198) rfl (pc' := 200) rfl ?_
        refine k_iload X482 hx (hb hby at_200) rfl (pc' := 202) rfl ?_
        refine k_iload X482 hx (hb hby at_202) rfl (pc' := 204) rfl ?_
        refine k_callS X482 hx hZ hown (hw _ (List.mem_of_getElem? (i := 6) rfl)) (hw _ (List.mem_of_getElem? (i := 7) rfl)) (hw _ (List.mem_of_getElem? (i := 8) rfl)) (hw _ (List.mem_of_getElem? (i := 9) rfl)) (by decide) (rm2_496 l Z a0 hw [] b1 v437 k1 v2 v5 v8 v11 h12 n0 Z12 Vw12) (by decide) (by decide) e482 (by rw [hml]; rfl) (argsL := [(.ref b1), (.int (0 : Int32)), (.int (3 : Int32)), (.int v437)]) (rest := []) (lenOf pd_1 rfl) rfl (W := 0) (Nat.le_refl _) rfl (hb hby at_204) (by decide) (by decide) (pc' := 207) rfl (fun T504 L504 r504 X504 q504 => ?_)
        obtain ⟨N504, e504, q504⟩ := q504
        have N504' := Fr.app N482' N504
        rcases q504 with ⟨v505, v506, v507, h508, h509, h510, hc511, hc512, hc513, hc514, rfl⟩ | ⟨v515, v516, v517, h518, h519, h520, hc521, hc522, hc523, hc524, rfl⟩ | ⟨v525, v526, h527, h528, hc529, hc530, hc531, rfl⟩ | ⟨v532, h533, hc534, hc535, rfl⟩ | ⟨hc536, rfl⟩
        ·
         have hh537 : v444 = v505 := h445.trans h508.symm
         subst hh537
         have hh538 : v458 = v506 := h459.trans h509.symm
         subst hh538
         have hh539 : v472 = v507 := h473.trans h510.symm
         subst hh539
         show KEnds p e below s _ _ _ T504 (mkF m 207 #[.val (.int i0), .val (.int i1), .val (.int i2), .val (.int i3), .val (.int i4), .val (.int i5), .val (.ref b1), .val (.int (0 : Int32)), .val (.int (3 : Int32)), .val (.int v412), .val (.int v437), .val (.int (-1 : Int32))] [(.int (-1 : Int32))])
         refine k_iload X504 hx (hb hby at_207) rfl (pc' := 209) rfl ?_
         refine k_icmp_ne X504 hx (hb hby at_209) (pn := 212) rfl (py := 216) (by decide) (fun hc => absurd (by decide) hc) (fun _ => ?_)
         refine k_iconst X504 hx (hb hby at_212) (pc' := 213) rfl (z := (1 : Int32)) rfl ?_
         refine k_goto X504 hx (hb hby at_213) (pc' := 217) (by decide) ?_
         exact k_retN X504 hx (t := .boolean) Bd.returns (by simp) (hb hby at_217) hlk (by decide) (by decide) (z' := (1 : Int32)) rfl ⟨rfl, N504'⟩
        ·
         have hh540 : v444 = v515 := h445.trans h518.symm
         subst hh540
         have hh541 : v458 = v516 := h459.trans h519.symm
         subst hh541
         have hh542 : v472 = v517 := h473.trans h520.symm
         subst hh542
         show KEnds p e below s _ _ _ T504 (mkF m 207 #[.val (.int i0), .val (.int i1), .val (.int i2), .val (.int i3), .val (.int i4), .val (.int i5), .val (.ref b1), .val (.int (0 : Int32)), .val (.int (3 : Int32)), .val (.int v412), .val (.int v437), .val (.int (-1 : Int32))] [(.int (2 : Int32))])
         exact absurd hc524 hc476
        ·
         have hh543 : v444 = v525 := h445.trans h527.symm
         subst hh543
         have hh544 : v458 = v526 := h459.trans h528.symm
         subst hh544
         show KEnds p e below s _ _ _ T504 (mkF m 207 #[.val (.int i0), .val (.int i1), .val (.int i2), .val (.int i3), .val (.int i4), .val (.int i5), .val (.ref b1), .val (.int (0 : Int32)), .val (.int (3 : Int32)), .val (.int v412), .val (.int v437), .val (.int (-1 : Int32))] [(.int (1 : Int32))])
         exact absurd hc531 hc462
        ·
         have hh545 : v444 = v532 := h445.trans h533.symm
         subst hh545
         show KEnds p e below s _ _ _ T504 (mkF m 207 #[.val (.int i0), .val (.int i1), .val (.int i2), .val (.int i3), .val (.int i4), .val (.int i5), .val (.ref b1), .val (.int (0 : Int32)), .val (.int (3 : Int32)), .val (.int v412), .val (.int v437), .val (.int (-1 : Int32))] [(.int (0 : Int32))])
         exact absurd hc535 hc448
        ·
         show KEnds p e below s _ _ _ T504 (mkF m 207 #[.val (.int i0), .val (.int i1), .val (.int i2), .val (.int i3), .val (.int i4), .val (.int i5), .val (.ref b1), .val (.int (0 : Int32)), .val (.int (3 : Int32)), .val (.int v412), .val (.int v437), .val (.int (-1 : Int32))] [(.int (-1 : Int32))])
         exact absurd hc536 hc439
       ·
        show KEnds p e below s _ _ _ T482 (mkF m 184 #[.val (.int i0), .val (.int i1), .val (.int i2), .val (.int i3), .val (.int i4), .val (.int i5), .val (.ref b1), .val (.int (0 : Int32)), .val (.int (3 : Int32)), .val (.int v412), .val (.int v437), .unset] [(.int (0 : Int32))])
        exact absurd hc489 (by decide)
       ·
        show KEnds p e below s _ _ _ T482 (mkF m 184 #[.val (.int i0), .val (.int i1), .val (.int i2), .val (.int i3), .val (.int i4), .val (.int i5), .val (.ref b1), .val (.int (0 : Int32)), .val (.int (3 : Int32)), .val (.int v412), .val (.int v437), .unset] [(.int (1 : Int32))])
        exact absurd hc494 (by decide)
      ·
       show KEnds p e below s _ _ _ T468 (mkF m 163 #[.val (.int i0), .val (.int i1), .val (.int i2), .val (.int i3), .val (.int i4), .val (.int i5), .val (.ref b1), .val (.int (0 : Int32)), .val (.int (3 : Int32)), .val (.int v412), .val (.int v437), .unset] [(.int (1 : Int32))])
       refine k_if_eq X468 hx (hb hby at_163) (pn := 166) rfl (py := 172) (by decide) (fun hc => absurd hc (by decide)) (fun _ => ?_)
       refine k_iconst X468 hx (hb hby at_166) (pc' := 167) rfl (z := (2 : Int32)) rfl ?_
       refine k_istore X468 hx (hb hby at_167) (Ls' := #[.val (.int i0), .val (.int i1), .val (.int i2), .val (.int i3), .val (.int i4), .val (.int i5), .val (.ref b1), .val (.int (0 : Int32)), .val (.int (3 : Int32)), .val (.int v412), .val (.int v437), .val (.int (2 : Int32))]) rfl (pc' := 169) rfl ?_
       refine k_goto X468 hx (hb hby at_169) (pc' := 196) (by decide) ?_
       refine k_aload X468 hx (hb hby at_196) rfl rfl (pc' := 198) rfl ?_
       refine k_iload X468 hx (hb hby at_198) rfl (pc' := 200) rfl ?_
       refine k_iload X468 hx (hb hby at_200) rfl (pc' := 202) rfl ?_
       refine k_iload X468 hx (hb hby at_202) rfl (pc' := 204) rfl ?_
       refine k_callS X468 hx hZ hown (hw _ (List.mem_of_getElem? (i := 6) rfl)) (hw _ (List.mem_of_getElem? (i := 7) rfl)) (hw _ (List.mem_of_getElem? (i := 8) rfl)) (hw _ (List.mem_of_getElem? (i := 9) rfl)) (by decide) (rm2_496 l Z a0 hw [] b1 v437 k1 v2 v5 v8 v11 h12 n0 Z12 Vw12) (by decide) (by decide) e468 (by rw [hml]; rfl) (argsL := [(.ref b1), (.int (0 : Int32)), (.int (3 : Int32)), (.int v437)]) (rest := []) (lenOf pd_1 rfl) rfl (W := 0) (Nat.le_refl _) rfl (hb hby at_204) (by decide) (by decide) (pc' := 207) rfl (fun T546 L546 r546 X546 q546 => ?_)
       obtain ⟨N546, e546, q546⟩ := q546
       have N546' := Fr.app N468' N546
       rcases q546 with ⟨v547, v548, v549, h550, h551, h552, hc553, hc554, hc555, hc556, rfl⟩ | ⟨v557, v558, v559, h560, h561, h562, hc563, hc564, hc565, hc566, rfl⟩ | ⟨v567, v568, h569, h570, hc571, hc572, hc573, rfl⟩ | ⟨v574, h575, hc576, hc577, rfl⟩ | ⟨hc578, rfl⟩
       ·
        have hh579 : v444 = v547 := h445.trans h550.symm
        subst hh579
        have hh580 : v458 = v548 := h459.trans h551.symm
        subst hh580
        have hh581 : v477 = v549 := h478.trans h552.symm
        subst hh581
        show KEnds p e below s _ _ _ T546 (mkF m 207 #[.val (.int i0), .val (.int i1), .val (.int i2), .val (.int i3), .val (.int i4), .val (.int i5), .val (.ref b1), .val (.int (0 : Int32)), .val (.int (3 : Int32)), .val (.int v412), .val (.int v437), .val (.int (2 : Int32))] [(.int (-1 : Int32))])
        exact absurd hc481 hc556
       ·
        have hh582 : v444 = v557 := h445.trans h560.symm
        subst hh582
        have hh583 : v458 = v558 := h459.trans h561.symm
        subst hh583
        have hh584 : v477 = v559 := h478.trans h562.symm
        subst hh584
        show KEnds p e below s _ _ _ T546 (mkF m 207 #[.val (.int i0), .val (.int i1), .val (.int i2), .val (.int i3), .val (.int i4), .val (.int i5), .val (.ref b1), .val (.int (0 : Int32)), .val (.int (3 : Int32)), .val (.int v412), .val (.int v437), .val (.int (2 : Int32))] [(.int (2 : Int32))])
        refine k_iload X546 hx (hb hby at_207) rfl (pc' := 209) rfl ?_
        refine k_icmp_ne X546 hx (hb hby at_209) (pn := 212) rfl (py := 216) (by decide) (fun hc => absurd (by decide) hc) (fun _ => ?_)
        refine k_iconst X546 hx (hb hby at_212) (pc' := 213) rfl (z := (1 : Int32)) rfl ?_
        refine k_goto X546 hx (hb hby at_213) (pc' := 217) (by decide) ?_
        exact k_retN X546 hx (t := .boolean) Bd.returns (by simp) (hb hby at_217) hlk (by decide) (by decide) (z' := (1 : Int32)) rfl ⟨rfl, N546'⟩
       ·
        have hh585 : v444 = v567 := h445.trans h569.symm
        subst hh585
        have hh586 : v458 = v568 := h459.trans h570.symm
        subst hh586
        show KEnds p e below s _ _ _ T546 (mkF m 207 #[.val (.int i0), .val (.int i1), .val (.int i2), .val (.int i3), .val (.int i4), .val (.int i5), .val (.ref b1), .val (.int (0 : Int32)), .val (.int (3 : Int32)), .val (.int v412), .val (.int v437), .val (.int (2 : Int32))] [(.int (1 : Int32))])
        exact absurd hc573 hc462
       ·
        have hh587 : v444 = v574 := h445.trans h575.symm
        subst hh587
        show KEnds p e below s _ _ _ T546 (mkF m 207 #[.val (.int i0), .val (.int i1), .val (.int i2), .val (.int i3), .val (.int i4), .val (.int i5), .val (.ref b1), .val (.int (0 : Int32)), .val (.int (3 : Int32)), .val (.int v412), .val (.int v437), .val (.int (2 : Int32))] [(.int (0 : Int32))])
        exact absurd hc577 hc448
       ·
        show KEnds p e below s _ _ _ T546 (mkF m 207 #[.val (.int i0), .val (.int i1), .val (.int i2), .val (.int i3), .val (.int i4), .val (.int i5), .val (.ref b1), .val (.int (0 : Int32)), .val (.int (3 : Int32)), .val (.int v412), .val (.int v437), .val (.int (2 : Int32))] [(.int (-1 : Int32))])
        exact absurd hc578 hc439
     ·
      show KEnds p e below s _ _ _ T454 (mkF m 142 #[.val (.int i0), .val (.int i1), .val (.int i2), .val (.int i3), .val (.int i4), .val (.int i5), .val (.ref b1), .val (.int (0 : Int32)), .val (.int (3 : Int32)), .val (.int v412), .val (.int v437), .unset] [(.int (1 : Int32))])
      refine k_if_eq X454 hx (hb hby at_142) (pn := 145) rfl (py := 151) (by decide) (fun hc => absurd hc (by decide)) (fun _ => ?_)
      refine k_iconst X454 hx (hb hby at_145) (pc' := 146) rfl (z := (1 : Int32)) rfl ?_
      refine k_istore X454 hx (hb hby at_146) (Ls' := #[.val (.int i0), .val (.int i1), .val (.int i2), .val (.int i3), .val (.int i4), .val (.int i5), .val (.ref b1), .val (.int (0 : Int32)), .val (.int (3 : Int32)), .val (.int v412), .val (.int v437), .val (.int (1 : Int32))]) rfl (pc' := 148) rfl ?_
      refine k_goto X454 hx (hb hby at_148) (pc' := 196) (by decide) ?_
      refine k_aload X454 hx (hb hby at_196) rfl rfl (pc' := 198) rfl ?_
      refine k_iload X454 hx (hb hby at_198) rfl (pc' := 200) rfl ?_
      refine k_iload X454 hx (hb hby at_200) rfl (pc' := 202) rfl ?_
      refine k_iload X454 hx (hb hby at_202) rfl (pc' := 204) rfl ?_
      refine k_callS X454 hx hZ hown (hw _ (List.mem_of_getElem? (i := 6) rfl)) (hw _ (List.mem_of_getElem? (i := 7) rfl)) (hw _ (List.mem_of_getElem? (i := 8) rfl)) (hw _ (List.mem_of_getElem? (i := 9) rfl)) (by decide) (rm2_496 l Z a0 hw [] b1 v437 k1 v2 v5 v8 v11 h12 n0 Z12 Vw12) (by decide) (by decide) e454 (by rw [hml]; rfl) (argsL := [(.ref b1), (.int (0 : Int32)), (.int (3 : Int32)), (.int v437)]) (rest := []) (lenOf pd_1 rfl) rfl (W := 0) (Nat.le_refl _) rfl (hb hby at_204) (by decide) (by decide) (pc' := 207) rfl (fun T588 L588 r588 X588 q588 => ?_)
      obtain ⟨N588, e588, q588⟩ := q588
      have N588' := Fr.app N454' N588
      rcases q588 with ⟨v589, v590, v591, h592, h593, h594, hc595, hc596, hc597, hc598, rfl⟩ | ⟨v599, v600, v601, h602, h603, h604, hc605, hc606, hc607, hc608, rfl⟩ | ⟨v609, v610, h611, h612, hc613, hc614, hc615, rfl⟩ | ⟨v616, h617, hc618, hc619, rfl⟩ | ⟨hc620, rfl⟩
      ·
       have hh621 : v444 = v589 := h445.trans h592.symm
       subst hh621
       have hh622 : v463 = v590 := h464.trans h593.symm
       subst hh622
       show KEnds p e below s _ _ _ T588 (mkF m 207 #[.val (.int i0), .val (.int i1), .val (.int i2), .val (.int i3), .val (.int i4), .val (.int i5), .val (.ref b1), .val (.int (0 : Int32)), .val (.int (3 : Int32)), .val (.int v412), .val (.int v437), .val (.int (1 : Int32))] [(.int (-1 : Int32))])
       exact absurd hc467 hc597
      ·
       have hh623 : v444 = v599 := h445.trans h602.symm
       subst hh623
       have hh624 : v463 = v600 := h464.trans h603.symm
       subst hh624
       show KEnds p e below s _ _ _ T588 (mkF m 207 #[.val (.int i0), .val (.int i1), .val (.int i2), .val (.int i3), .val (.int i4), .val (.int i5), .val (.ref b1), .val (.int (0 : Int32)), .val (.int (3 : Int32)), .val (.int v412), .val (.int v437), .val (.int (1 : Int32))] [(.int (2 : Int32))])
       exact absurd hc467 hc607
      ·
       have hh625 : v444 = v609 := h445.trans h611.symm
       subst hh625
       have hh626 : v463 = v610 := h464.trans h612.symm
       subst hh626
       show KEnds p e below s _ _ _ T588 (mkF m 207 #[.val (.int i0), .val (.int i1), .val (.int i2), .val (.int i3), .val (.int i4), .val (.int i5), .val (.ref b1), .val (.int (0 : Int32)), .val (.int (3 : Int32)), .val (.int v412), .val (.int v437), .val (.int (1 : Int32))] [(.int (1 : Int32))])
       refine k_iload X588 hx (hb hby at_207) rfl (pc' := 209) rfl ?_
       refine k_icmp_ne X588 hx (hb hby at_209) (pn := 212) rfl (py := 216) (by decide) (fun hc => absurd (by decide) hc) (fun _ => ?_)
       refine k_iconst X588 hx (hb hby at_212) (pc' := 213) rfl (z := (1 : Int32)) rfl ?_
       refine k_goto X588 hx (hb hby at_213) (pc' := 217) (by decide) ?_
       exact k_retN X588 hx (t := .boolean) Bd.returns (by simp) (hb hby at_217) hlk (by decide) (by decide) (z' := (1 : Int32)) rfl ⟨rfl, N588'⟩
      ·
       have hh627 : v444 = v616 := h445.trans h617.symm
       subst hh627
       show KEnds p e below s _ _ _ T588 (mkF m 207 #[.val (.int i0), .val (.int i1), .val (.int i2), .val (.int i3), .val (.int i4), .val (.int i5), .val (.ref b1), .val (.int (0 : Int32)), .val (.int (3 : Int32)), .val (.int v412), .val (.int v437), .val (.int (1 : Int32))] [(.int (0 : Int32))])
       exact absurd hc619 hc448
      ·
       show KEnds p e below s _ _ _ T588 (mkF m 207 #[.val (.int i0), .val (.int i1), .val (.int i2), .val (.int i3), .val (.int i4), .val (.int i5), .val (.ref b1), .val (.int (0 : Int32)), .val (.int (3 : Int32)), .val (.int v412), .val (.int v437), .val (.int (1 : Int32))] [(.int (-1 : Int32))])
       exact absurd hc620 hc439
    ·
     show KEnds p e below s _ _ _ T440 (mkF m 121 #[.val (.int i0), .val (.int i1), .val (.int i2), .val (.int i3), .val (.int i4), .val (.int i5), .val (.ref b1), .val (.int (0 : Int32)), .val (.int (3 : Int32)), .val (.int v412), .val (.int v437), .unset] [(.int (1 : Int32))])
     refine k_if_eq X440 hx (hb hby at_121) (pn := 124) rfl (py := 130) (by decide) (fun hc => absurd hc (by decide)) (fun _ => ?_)
     refine k_iconst X440 hx (hb hby at_124) (pc' := 125) rfl (z := (0 : Int32)) rfl ?_
     refine k_istore X440 hx (hb hby at_125) (Ls' := #[.val (.int i0), .val (.int i1), .val (.int i2), .val (.int i3), .val (.int i4), .val (.int i5), .val (.ref b1), .val (.int (0 : Int32)), .val (.int (3 : Int32)), .val (.int v412), .val (.int v437), .val (.int (0 : Int32))]) rfl (pc' := 127) rfl ?_
     refine k_goto X440 hx (hb hby at_127) (pc' := 196) (by decide) ?_
     refine k_aload X440 hx (hb hby at_196) rfl rfl (pc' := 198) rfl ?_
     refine k_iload X440 hx (hb hby at_198) rfl (pc' := 200) rfl ?_
     refine k_iload X440 hx (hb hby at_200) rfl (pc' := 202) rfl ?_
     refine k_iload X440 hx (hb hby at_202) rfl (pc' := 204) rfl ?_
     refine k_callS X440 hx hZ hown (hw _ (List.mem_of_getElem? (i := 6) rfl)) (hw _ (List.mem_of_getElem? (i := 7) rfl)) (hw _ (List.mem_of_getElem? (i := 8) rfl)) (hw _ (List.mem_of_getElem? (i := 9) rfl)) (by decide) (rm2_496 l Z a0 hw [] b1 v437 k1 v2 v5 v8 v11 h12 n0 Z12 Vw12) (by decide) (by decide) e440 (by rw [hml]; rfl) (argsL := [(.ref b1), (.int (0 : Int32)), (.int (3 : Int32)), (.int v437)]) (rest := []) (lenOf pd_1 rfl) rfl (W := 0) (Nat.le_refl _) rfl (hb hby at_204) (by decide) (by decide) (pc' := 207) rfl (fun T628 L628 r628 X628 q628 => ?_)
     obtain ⟨N628, e628, q628⟩ := q628
     have N628' := Fr.app N440' N628
     rcases q628 with ⟨v629, v630, v631, h632, h633, h634, hc635, hc636, hc637, hc638, rfl⟩ | ⟨v639, v640, v641, h642, h643, h644, hc645, hc646, hc647, hc648, rfl⟩ | ⟨v649, v650, h651, h652, hc653, hc654, hc655, rfl⟩ | ⟨v656, h657, hc658, hc659, rfl⟩ | ⟨hc660, rfl⟩
     ·
      have hh661 : v449 = v629 := h450.trans h632.symm
      subst hh661
      show KEnds p e below s _ _ _ T628 (mkF m 207 #[.val (.int i0), .val (.int i1), .val (.int i2), .val (.int i3), .val (.int i4), .val (.int i5), .val (.ref b1), .val (.int (0 : Int32)), .val (.int (3 : Int32)), .val (.int v412), .val (.int v437), .val (.int (0 : Int32))] [(.int (-1 : Int32))])
      exact absurd hc453 hc636
     ·
      have hh662 : v449 = v639 := h450.trans h642.symm
      subst hh662
      show KEnds p e below s _ _ _ T628 (mkF m 207 #[.val (.int i0), .val (.int i1), .val (.int i2), .val (.int i3), .val (.int i4), .val (.int i5), .val (.ref b1), .val (.int (0 : Int32)), .val (.int (3 : Int32)), .val (.int v412), .val (.int v437), .val (.int (0 : Int32))] [(.int (2 : Int32))])
      exact absurd hc453 hc646
     ·
      have hh663 : v449 = v649 := h450.trans h651.symm
      subst hh663
      show KEnds p e below s _ _ _ T628 (mkF m 207 #[.val (.int i0), .val (.int i1), .val (.int i2), .val (.int i3), .val (.int i4), .val (.int i5), .val (.ref b1), .val (.int (0 : Int32)), .val (.int (3 : Int32)), .val (.int v412), .val (.int v437), .val (.int (0 : Int32))] [(.int (1 : Int32))])
      exact absurd hc453 hc654
     ·
      have hh664 : v449 = v656 := h450.trans h657.symm
      subst hh664
      show KEnds p e below s _ _ _ T628 (mkF m 207 #[.val (.int i0), .val (.int i1), .val (.int i2), .val (.int i3), .val (.int i4), .val (.int i5), .val (.ref b1), .val (.int (0 : Int32)), .val (.int (3 : Int32)), .val (.int v412), .val (.int v437), .val (.int (0 : Int32))] [(.int (0 : Int32))])
      refine k_iload X628 hx (hb hby at_207) rfl (pc' := 209) rfl ?_
      refine k_icmp_ne X628 hx (hb hby at_209) (pn := 212) rfl (py := 216) (by decide) (fun hc => absurd (by decide) hc) (fun _ => ?_)
      refine k_iconst X628 hx (hb hby at_212) (pc' := 213) rfl (z := (1 : Int32)) rfl ?_
      refine k_goto X628 hx (hb hby at_213) (pc' := 217) (by decide) ?_
      exact k_retN X628 hx (t := .boolean) Bd.returns (by simp) (hb hby at_217) hlk (by decide) (by decide) (z' := (1 : Int32)) rfl ⟨rfl, N628'⟩
     ·
      show KEnds p e below s _ _ _ T628 (mkF m 207 #[.val (.int i0), .val (.int i1), .val (.int i2), .val (.int i3), .val (.int i4), .val (.int i5), .val (.ref b1), .val (.int (0 : Int32)), .val (.int (3 : Int32)), .val (.int v412), .val (.int v437), .val (.int (0 : Int32))] [(.int (-1 : Int32))])
      exact absurd hc660 hc439
   ·
    refine k_iconst X12 hx (hb hby at_103) (pc' := 104) rfl (z := (-1 : Int32)) rfl ?_
    refine k_istore X12 hx (hb hby at_104) (Ls' := #[.val (.int i0), .val (.int i1), .val (.int i2), .val (.int i3), .val (.int i4), .val (.int i5), .val (.ref b1), .val (.int (0 : Int32)), .val (.int (3 : Int32)), .val (.int v412), .val (.int v437), .val (.int (-1 : Int32))]) rfl (pc' := 106) rfl ?_
    refine k_goto X12 hx (hb hby at_106) (pc' := 196) (by decide) ?_
    refine k_aload X12 hx (hb hby at_196) rfl rfl (pc' := 198) rfl ?_
    refine k_iload X12 hx (hb hby at_198) rfl (pc' := 200) rfl ?_
    refine k_iload X12 hx (hb hby at_200) rfl (pc' := 202) rfl ?_
    refine k_iload X12 hx (hb hby at_202) rfl (pc' := 204) rfl ?_
    refine k_callS X12 hx hZ hown (hw _ (List.mem_of_getElem? (i := 6) rfl)) (hw _ (List.mem_of_getElem? (i := 7) rfl)) (hw _ (List.mem_of_getElem? (i := 8) rfl)) (hw _ (List.mem_of_getElem? (i := 9) rfl)) (by decide) (rm2_496 l Z a0 hw [] b1 v437 k1 v2 v5 v8 v11 h12 n0 Z12 Vw12) (by decide) (by decide) e12 (by rw [hml]; rfl) (argsL := [(.ref b1), (.int (0 : Int32)), (.int (3 : Int32)), (.int v437)]) (rest := []) (lenOf pd_1 rfl) rfl (W := 0) (Nat.le_refl _) rfl (hb hby at_204) (by decide) (by decide) (pc' := 207) rfl (fun T665 L665 r665 X665 q665 => ?_)
    obtain ⟨N665, e665, q665⟩ := q665
    have N665' := Fr.app N12 N665
    rcases q665 with ⟨v666, v667, v668, h669, h670, h671, hc672, hc673, hc674, hc675, rfl⟩ | ⟨v676, v677, v678, h679, h680, h681, hc682, hc683, hc684, hc685, rfl⟩ | ⟨v686, v687, h688, h689, hc690, hc691, hc692, rfl⟩ | ⟨v693, h694, hc695, hc696, rfl⟩ | ⟨hc697, rfl⟩
    ·
     show KEnds p e below s _ _ _ T665 (mkF m 207 #[.val (.int i0), .val (.int i1), .val (.int i2), .val (.int i3), .val (.int i4), .val (.int i5), .val (.ref b1), .val (.int (0 : Int32)), .val (.int (3 : Int32)), .val (.int v412), .val (.int v437), .val (.int (-1 : Int32))] [(.int (-1 : Int32))])
     exact absurd hc439 hc672
    ·
     show KEnds p e below s _ _ _ T665 (mkF m 207 #[.val (.int i0), .val (.int i1), .val (.int i2), .val (.int i3), .val (.int i4), .val (.int i5), .val (.ref b1), .val (.int (0 : Int32)), .val (.int (3 : Int32)), .val (.int v412), .val (.int v437), .val (.int (-1 : Int32))] [(.int (2 : Int32))])
     exact absurd hc439 hc682
    ·
     show KEnds p e below s _ _ _ T665 (mkF m 207 #[.val (.int i0), .val (.int i1), .val (.int i2), .val (.int i3), .val (.int i4), .val (.int i5), .val (.ref b1), .val (.int (0 : Int32)), .val (.int (3 : Int32)), .val (.int v412), .val (.int v437), .val (.int (-1 : Int32))] [(.int (1 : Int32))])
     exact absurd hc439 hc690
    ·
     show KEnds p e below s _ _ _ T665 (mkF m 207 #[.val (.int i0), .val (.int i1), .val (.int i2), .val (.int i3), .val (.int i4), .val (.int i5), .val (.ref b1), .val (.int (0 : Int32)), .val (.int (3 : Int32)), .val (.int v412), .val (.int v437), .val (.int (-1 : Int32))] [(.int (0 : Int32))])
     exact absurd hc439 hc695
    ·
     show KEnds p e below s _ _ _ T665 (mkF m 207 #[.val (.int i0), .val (.int i1), .val (.int i2), .val (.int i3), .val (.int i4), .val (.int i5), .val (.ref b1), .val (.int (0 : Int32)), .val (.int (3 : Int32)), .val (.int v412), .val (.int v437), .val (.int (-1 : Int32))] [(.int (-1 : Int32))])
     refine k_iload X665 hx (hb hby at_207) rfl (pc' := 209) rfl ?_
     refine k_icmp_ne X665 hx (hb hby at_209) (pn := 212) rfl (py := 216) (by decide) (fun hc => absurd (by decide) hc) (fun _ => ?_)
     refine k_iconst X665 hx (hb hby at_212) (pc' := 213) rfl (z := (1 : Int32)) rfl ?_
     refine k_goto X665 hx (hb hby at_213) (pc' := 217) (by decide) ?_
     exact k_retN X665 hx (t := .boolean) Bd.returns (by simp) (hb hby at_217) hlk (by decide) (by decide) (z' := (1 : Int32)) rfl ⟨rfl, N665'⟩
  ·
   show KEnds p e below s _ _ _ T12 (mkF m 44 #[.val (.int i0), .val (.int i1), .val (.int i2), .val (.int i3), .val (.int i4), .val (.int i5), .val (.ref b1), .val (.int (0 : Int32)), .unset, .unset, .unset, .unset] [(.int (4 : Int32))])
   refine k_istore X12 hx (hb hby at_44) (Ls' := #[.val (.int i0), .val (.int i1), .val (.int i2), .val (.int i3), .val (.int i4), .val (.int i5), .val (.ref b1), .val (.int (0 : Int32)), .val (.int (4 : Int32)), .unset, .unset, .unset]) rfl (pc' := 46) rfl ?_
   refine k_iload X12 hx (hb hby at_46) rfl (pc' := 48) rfl ?_
   refine k_iconst X12 hx (hb hby at_48) (pc' := 49) rfl (z := (3 : Int32)) rfl ?_
   refine k_iand X12 hx (hb hby at_49) (pc' := 50) rfl (fun v699 hv699 => ?_)
   refine k_istore X12 hx (hb hby at_50) (Ls' := #[.val (.int i0), .val (.int i1), .val (.int i2), .val (.int i3), .val (.int i4), .val (.int i5), .val (.ref b1), .val (.int (0 : Int32)), .val (.int (4 : Int32)), .val (.int v699), .unset, .unset]) rfl (pc' := 52) rfl ?_
   suffices key700 : ∀ (v724 : Int32), KEnds p e below s 16 128 (Q0 n0) T12 (mkF m 97 #[.val (.int i0), .val (.int i1), .val (.int i2), .val (.int i3), .val (.int i4), .val (.int i5), .val (.ref b1), .val (.int (0 : Int32)), .val (.int (4 : Int32)), .val (.int v699), .val (.int v724), .unset] []) by
    refine k_iload X12 hx (hb hby at_52) rfl (pc' := 54) rfl ?_
    refine k_if_ne X12 hx (hb hby at_54) (pn := 57) rfl (py := 63) (by decide) (fun hc701 => ?_) (fun hc701 => ?_)
    ·
     refine k_iload X12 hx (hb hby at_63) rfl (pc' := 65) rfl ?_
     refine k_iconst X12 hx (hb hby at_65) (pc' := 66) rfl (z := (1 : Int32)) rfl ?_
     refine k_icmp_ne X12 hx (hb hby at_66) (pn := 69) rfl (py := 87) (by decide) (fun hc702 => ?_) (fun hc702 => ?_)
     ·
      refine k_iload X12 hx (hb hby at_87) rfl (pc' := 89) rfl ?_
      refine k_iconst X12 hx (hb hby at_89) (pc' := 90) rfl (z := (2 : Int32)) rfl ?_
      refine k_iushr X12 hx (hb hby at_90) (pc' := 91) rfl (fun v703 hv703 => ?_)
      refine k_sipush X12 hx (hb hby at_91) (pc' := 94) rfl (z := (255 : Int32)) rfl ?_
      refine k_iand X12 hx (hb hby at_94) (pc' := 95) rfl (fun v704 hv704 => ?_)
      refine k_istore X12 hx (hb hby at_95) (Ls' := #[.val (.int i0), .val (.int i1), .val (.int i2), .val (.int i3), .val (.int i4), .val (.int i5), .val (.ref b1), .val (.int (0 : Int32)), .val (.int (4 : Int32)), .val (.int v699), .val (.int v704), .unset]) rfl (pc' := 97) rfl ?_
      exact key700 v704
     ·
      refine k_aload X12 hx (hb hby at_69) rfl rfl (pc' := 71) rfl ?_
      refine k_iload X12 hx (hb hby at_71) rfl (pc' := 73) rfl ?_
      refine k_iconst X12 hx (hb hby at_73) (pc' := 74) rfl (z := (2 : Int32)) rfl ?_
      refine k_iushr X12 hx (hb hby at_74) (pc' := 75) rfl (fun v705 hv705 => ?_)
      refine k_iconst X12 hx (hb hby at_75) (pc' := 76) rfl (z := (3 : Int32)) rfl ?_
      refine k_iand X12 hx (hb hby at_76) (pc' := 77) rfl (fun v706 hv706 => ?_)
      have hj707 : ¬ v706 < 0 ∧ v706 < (4 : Int32) := by
       refine ⟨?_, ?_⟩
       ·
        intro hq708
        have := rng32 v699
        have := rng32 i5
        have : (3 : Int32).toInt = 3 := (by decide)
        have q709 : v699.toInt = i5.toInt % 4 := (by rw [hv699]; exact c_mask _ _ 2 (by decide) (by decide))
        have : (0 : Int32).toInt = 0 := (by decide)
        have q710 : ¬ v699.toInt = (0 : Int32).toInt := fun q => hc701 (Int32.toInt_inj.mp q)
        have : (1 : Int32).toInt = 1 := (by decide)
        have q711 := congrArg Int32.toInt hc702
        have := rng32 v706
        have := rng32 v705
        have : (2 : Int32).toInt = 2 := (by decide)
        have q712 : v705.toInt = (i5.toInt % 4294967296) / 4 := (by rw [hv705]; exact c_iushr _ _ 2 (by decide) (by decide))
        have q713 : v706.toInt = v705.toInt % 4 := (by rw [hv706]; exact c_mask _ _ 2 (by decide) (by decide))
        have q714 := hq708; rw [Int32.lt_iff_toInt_lt] at q714
        omega
       ·
        refine Classical.byContradiction (fun hq715 => ?_)
        have := rng32 v699
        have := rng32 i5
        have : (3 : Int32).toInt = 3 := (by decide)
        have q716 : v699.toInt = i5.toInt % 4 := (by rw [hv699]; exact c_mask _ _ 2 (by decide) (by decide))
        have : (0 : Int32).toInt = 0 := (by decide)
        have q717 : ¬ v699.toInt = (0 : Int32).toInt := fun q => hc701 (Int32.toInt_inj.mp q)
        have : (1 : Int32).toInt = 1 := (by decide)
        have q718 := congrArg Int32.toInt hc702
        have := rng32 v706
        have := rng32 v705
        have : (2 : Int32).toInt = 2 := (by decide)
        have q719 : v705.toInt = (i5.toInt % 4294967296) / 4 := (by rw [hv705]; exact c_iushr _ _ 2 (by decide) (by decide))
        have q720 : v706.toInt = v705.toInt % 4 := (by rw [hv706]; exact c_mask _ _ 2 (by decide) (by decide))
        have : (4 : Int32).toInt = 4 := (by decide)
        have q721 := hq715; rw [Int32.lt_iff_toInt_lt] at q721
        omega
      refine k_baloadS X12 hx hZ e12 Vw12 hj707 (hb hby at_77) (pc' := 78) rfl (fun v722 hv722 => ?_)
      refine k_sipush X12 hx (hb hby at_78) (pc' := 81) rfl (z := (255 : Int32)) rfl ?_
      refine k_iand X12 hx (hb hby at_81) (pc' := 82) rfl (fun v723 hv723 => ?_)
      refine k_istore X12 hx (hb hby at_82) (Ls' := #[.val (.int i0), .val (.int i1), .val (.int i2), .val (.int i3), .val (.int i4), .val (.int i5), .val (.ref b1), .val (.int (0 : Int32)), .val (.int (4 : Int32)), .val (.int v699), .val (.int v723), .unset]) rfl (pc' := 84) rfl ?_
      refine k_goto X12 hx (hb hby at_84) (pc' := 97) (by decide) ?_
      exact key700 v723
    ·
     refine k_iconst X12 hx (hb hby at_57) (pc' := 58) rfl (z := (-1 : Int32)) rfl ?_
     refine k_istore X12 hx (hb hby at_58) (Ls' := #[.val (.int i0), .val (.int i1), .val (.int i2), .val (.int i3), .val (.int i4), .val (.int i5), .val (.ref b1), .val (.int (0 : Int32)), .val (.int (4 : Int32)), .val (.int v699), .val (.int (-1 : Int32)), .unset]) rfl (pc' := 60) rfl ?_
     refine k_goto X12 hx (hb hby at_60) (pc' := 97) (by decide) ?_
     exact key700 (-1 : Int32)
   intro v724
   refine k_iload X12 hx (hb hby at_97) rfl (pc' := 99) rfl ?_
   refine k_iconst X12 hx (hb hby at_99) (pc' := 100) rfl (z := (-1 : Int32)) rfl ?_
   refine k_icmp_ne X12 hx (hb hby at_100) (pn := 103) rfl (py := 109) (by decide) (fun hc726 => ?_) (fun hc726 => ?_)
   ·
    refine k_aload X12 hx (hb hby at_109) rfl rfl (pc' := 111) rfl ?_
    refine k_iconst X12 hx (hb hby at_111) (pc' := 112) rfl (z := (0 : Int32)) rfl ?_
    refine k_iload X12 hx (hb hby at_112) rfl (pc' := 114) rfl ?_
    refine k_iload X12 hx (hb hby at_114) rfl (pc' := 116) rfl ?_
    refine k_iload X12 hx (hb hby at_116) rfl (pc' := 118) rfl ?_
    refine k_callS X12 hx hZ hown (hw _ (List.mem_of_getElem? (i := 2) rfl)) (hw _ (List.mem_of_getElem? (i := 3) rfl)) (hw _ (List.mem_of_getElem? (i := 4) rfl)) (hw _ (List.mem_of_getElem? (i := 5) rfl)) (by decide) (rm1_113 l Z a0 hw [] b1 (0 : Int32) (4 : Int32) v724 k1 v2 v5 v8 v11 h12 n0 Z12 Vw12) (by decide) (by decide) e12 (by rw [hml]; rfl) (argsL := [(.ref b1), (.int (0 : Int32)), (.int (0 : Int32)), (.int (4 : Int32)), (.int v724)]) (rest := []) (lenOf pd_0 rfl) rfl (W := 0) (Nat.le_refl _) rfl (hb hby at_118) (by decide) (by decide) (pc' := 121) rfl (fun T727 L727 r727 X727 q727 => ?_)
    obtain ⟨N727, e727, q727⟩ := q727
    have N727' := Fr.app N12 N727
    rcases q727 with ⟨hc728, rfl⟩ | ⟨hc729, hc730, rfl⟩ | ⟨v731, h732, hc733, hc734, hc735, rfl⟩ | ⟨v736, h737, hc738, hc739, hc740, rfl⟩
    ·
     show KEnds p e below s _ _ _ T727 (mkF m 121 #[.val (.int i0), .val (.int i1), .val (.int i2), .val (.int i3), .val (.int i4), .val (.int i5), .val (.ref b1), .val (.int (0 : Int32)), .val (.int (4 : Int32)), .val (.int v699), .val (.int v724), .unset] [(.int (0 : Int32))])
     exact absurd hc728 (by decide)
    ·
     show KEnds p e below s _ _ _ T727 (mkF m 121 #[.val (.int i0), .val (.int i1), .val (.int i2), .val (.int i3), .val (.int i4), .val (.int i5), .val (.ref b1), .val (.int (0 : Int32)), .val (.int (4 : Int32)), .val (.int v699), .val (.int v724), .unset] [(.int (0 : Int32))])
     exact absurd (by decide) hc730
    ·
     show KEnds p e below s _ _ _ T727 (mkF m 121 #[.val (.int i0), .val (.int i1), .val (.int i2), .val (.int i3), .val (.int i4), .val (.int i5), .val (.ref b1), .val (.int (0 : Int32)), .val (.int (4 : Int32)), .val (.int v699), .val (.int v724), .unset] [(.int (0 : Int32))])
     refine k_if_eq X727 hx (hb hby at_121) (pn := 124) rfl (py := 130) (by decide) (fun _ => ?_) (fun hc => absurd (by decide) hc)
     refine k_aload X727 hx (hb hby at_130) rfl rfl (pc' := 132) rfl ?_
     refine k_iconst X727 hx (hb hby at_132) (pc' := 133) rfl (z := (1 : Int32)) rfl ?_
     refine k_iload X727 hx (hb hby at_133) rfl (pc' := 135) rfl ?_
     refine k_iload X727 hx (hb hby at_135) rfl (pc' := 137) rfl ?_
     refine k_iload X727 hx (hb hby at_137) rfl (pc' := 139) rfl ?_
     refine k_callS X727 hx hZ hown (hw _ (List.mem_of_getElem? (i := 2) rfl)) (hw _ (List.mem_of_getElem? (i := 3) rfl)) (hw _ (List.mem_of_getElem? (i := 4) rfl)) (hw _ (List.mem_of_getElem? (i := 5) rfl)) (by decide) (rm1_132 l Z a0 hw [] b1 (0 : Int32) (4 : Int32) v724 k1 v2 v5 v8 v11 h12 n0 Z12 Vw12) (by decide) (by decide) e727 (by rw [hml]; rfl) (argsL := [(.ref b1), (.int (1 : Int32)), (.int (0 : Int32)), (.int (4 : Int32)), (.int v724)]) (rest := []) (lenOf pd_0 rfl) rfl (W := 0) (Nat.le_refl _) rfl (hb hby at_139) (by decide) (by decide) (pc' := 142) rfl (fun T741 L741 r741 X741 q741 => ?_)
     obtain ⟨N741, e741, q741⟩ := q741
     have N741' := Fr.app N727' N741
     rcases q741 with ⟨hc742, rfl⟩ | ⟨hc743, hc744, rfl⟩ | ⟨v745, h746, hc747, hc748, hc749, rfl⟩ | ⟨v750, h751, hc752, hc753, hc754, rfl⟩
     ·
      show KEnds p e below s _ _ _ T741 (mkF m 142 #[.val (.int i0), .val (.int i1), .val (.int i2), .val (.int i3), .val (.int i4), .val (.int i5), .val (.ref b1), .val (.int (0 : Int32)), .val (.int (4 : Int32)), .val (.int v699), .val (.int v724), .unset] [(.int (0 : Int32))])
      exact absurd hc742 (by decide)
     ·
      show KEnds p e below s _ _ _ T741 (mkF m 142 #[.val (.int i0), .val (.int i1), .val (.int i2), .val (.int i3), .val (.int i4), .val (.int i5), .val (.ref b1), .val (.int (0 : Int32)), .val (.int (4 : Int32)), .val (.int v699), .val (.int v724), .unset] [(.int (0 : Int32))])
      exact absurd (by decide) hc744
     ·
      show KEnds p e below s _ _ _ T741 (mkF m 142 #[.val (.int i0), .val (.int i1), .val (.int i2), .val (.int i3), .val (.int i4), .val (.int i5), .val (.ref b1), .val (.int (0 : Int32)), .val (.int (4 : Int32)), .val (.int v699), .val (.int v724), .unset] [(.int (0 : Int32))])
      refine k_if_eq X741 hx (hb hby at_142) (pn := 145) rfl (py := 151) (by decide) (fun _ => ?_) (fun hc => absurd (by decide) hc)
      refine k_aload X741 hx (hb hby at_151) rfl rfl (pc' := 153) rfl ?_
      refine k_iconst X741 hx (hb hby at_153) (pc' := 154) rfl (z := (2 : Int32)) rfl ?_
      refine k_iload X741 hx (hb hby at_154) rfl (pc' := 156) rfl ?_
      refine k_iload X741 hx (hb hby at_156) rfl (pc' := 158) rfl ?_
      refine k_iload X741 hx (hb hby at_158) rfl (pc' := 160) rfl ?_
      refine k_callS X741 hx hZ hown (hw _ (List.mem_of_getElem? (i := 2) rfl)) (hw _ (List.mem_of_getElem? (i := 3) rfl)) (hw _ (List.mem_of_getElem? (i := 4) rfl)) (hw _ (List.mem_of_getElem? (i := 5) rfl)) (by decide) (rm1_151 l Z a0 hw [] b1 (0 : Int32) (4 : Int32) v724 k1 v2 v5 v8 v11 h12 n0 Z12 Vw12) (by decide) (by decide) e741 (by rw [hml]; rfl) (argsL := [(.ref b1), (.int (2 : Int32)), (.int (0 : Int32)), (.int (4 : Int32)), (.int v724)]) (rest := []) (lenOf pd_0 rfl) rfl (W := 0) (Nat.le_refl _) rfl (hb hby at_160) (by decide) (by decide) (pc' := 163) rfl (fun T755 L755 r755 X755 q755 => ?_)
      obtain ⟨N755, e755, q755⟩ := q755
      have N755' := Fr.app N741' N755
      rcases q755 with ⟨hc756, rfl⟩ | ⟨hc757, hc758, rfl⟩ | ⟨v759, h760, hc761, hc762, hc763, rfl⟩ | ⟨v764, h765, hc766, hc767, hc768, rfl⟩
      ·
       show KEnds p e below s _ _ _ T755 (mkF m 163 #[.val (.int i0), .val (.int i1), .val (.int i2), .val (.int i3), .val (.int i4), .val (.int i5), .val (.ref b1), .val (.int (0 : Int32)), .val (.int (4 : Int32)), .val (.int v699), .val (.int v724), .unset] [(.int (0 : Int32))])
       exact absurd hc756 (by decide)
      ·
       show KEnds p e below s _ _ _ T755 (mkF m 163 #[.val (.int i0), .val (.int i1), .val (.int i2), .val (.int i3), .val (.int i4), .val (.int i5), .val (.ref b1), .val (.int (0 : Int32)), .val (.int (4 : Int32)), .val (.int v699), .val (.int v724), .unset] [(.int (0 : Int32))])
       exact absurd (by decide) hc758
      ·
       show KEnds p e below s _ _ _ T755 (mkF m 163 #[.val (.int i0), .val (.int i1), .val (.int i2), .val (.int i3), .val (.int i4), .val (.int i5), .val (.ref b1), .val (.int (0 : Int32)), .val (.int (4 : Int32)), .val (.int v699), .val (.int v724), .unset] [(.int (0 : Int32))])
       refine k_if_eq X755 hx (hb hby at_163) (pn := 166) rfl (py := 172) (by decide) (fun _ => ?_) (fun hc => absurd (by decide) hc)
       refine k_aload X755 hx (hb hby at_172) rfl rfl (pc' := 174) rfl ?_
       refine k_iconst X755 hx (hb hby at_174) (pc' := 175) rfl (z := (3 : Int32)) rfl ?_
       refine k_iload X755 hx (hb hby at_175) rfl (pc' := 177) rfl ?_
       refine k_iload X755 hx (hb hby at_177) rfl (pc' := 179) rfl ?_
       refine k_iload X755 hx (hb hby at_179) rfl (pc' := 181) rfl ?_
       refine k_callS X755 hx hZ hown (hw _ (List.mem_of_getElem? (i := 2) rfl)) (hw _ (List.mem_of_getElem? (i := 3) rfl)) (hw _ (List.mem_of_getElem? (i := 4) rfl)) (hw _ (List.mem_of_getElem? (i := 5) rfl)) (by decide) (rm1_170 l Z a0 hw [] b1 (0 : Int32) (4 : Int32) v724 k1 v2 v5 v8 v11 h12 n0 Z12 Vw12) (by decide) (by decide) e755 (by rw [hml]; rfl) (argsL := [(.ref b1), (.int (3 : Int32)), (.int (0 : Int32)), (.int (4 : Int32)), (.int v724)]) (rest := []) (lenOf pd_0 rfl) rfl (W := 0) (Nat.le_refl _) rfl (hb hby at_181) (by decide) (by decide) (pc' := 184) rfl (fun T769 L769 r769 X769 q769 => ?_)
       obtain ⟨N769, e769, q769⟩ := q769
       have N769' := Fr.app N755' N769
       rcases q769 with ⟨hc770, rfl⟩ | ⟨hc771, hc772, rfl⟩ | ⟨v773, h774, hc775, hc776, hc777, rfl⟩ | ⟨v778, h779, hc780, hc781, hc782, rfl⟩
       ·
        show KEnds p e below s _ _ _ T769 (mkF m 184 #[.val (.int i0), .val (.int i1), .val (.int i2), .val (.int i3), .val (.int i4), .val (.int i5), .val (.ref b1), .val (.int (0 : Int32)), .val (.int (4 : Int32)), .val (.int v699), .val (.int v724), .unset] [(.int (0 : Int32))])
        exact absurd hc770 (by decide)
       ·
        show KEnds p e below s _ _ _ T769 (mkF m 184 #[.val (.int i0), .val (.int i1), .val (.int i2), .val (.int i3), .val (.int i4), .val (.int i5), .val (.ref b1), .val (.int (0 : Int32)), .val (.int (4 : Int32)), .val (.int v699), .val (.int v724), .unset] [(.int (0 : Int32))])
        exact absurd (by decide) hc772
       ·
        show KEnds p e below s _ _ _ T769 (mkF m 184 #[.val (.int i0), .val (.int i1), .val (.int i2), .val (.int i3), .val (.int i4), .val (.int i5), .val (.ref b1), .val (.int (0 : Int32)), .val (.int (4 : Int32)), .val (.int v699), .val (.int v724), .unset] [(.int (0 : Int32))])
        refine k_if_eq X769 hx (hb hby at_184) (pn := 187) rfl (py := 193) (by decide) (fun _ => ?_) (fun hc => absurd (by decide) hc)
        refine k_iconst X769 hx (hb hby at_193) (pc' := 194) rfl (z := (-1 : Int32)) rfl ?_
        refine k_istore X769 hx (hb hby at_194) (Ls' := #[.val (.int i0), .val (.int i1), .val (.int i2), .val (.int i3), .val (.int i4), .val (.int i5), .val (.ref b1), .val (.int (0 : Int32)), .val (.int (4 : Int32)), .val (.int v699), .val (.int v724), .val (.int (-1 : Int32))]) rfl (pc' := 196) rfl ?_
        refine k_aload X769 hx (hb hby at_196) rfl rfl (pc' := 198) rfl ?_
        refine k_iload X769 hx (hb hby at_198) rfl (pc' := 200) rfl ?_
        refine k_iload X769 hx (hb hby at_200) rfl (pc' := 202) rfl ?_
        refine k_iload X769 hx (hb hby at_202) rfl (pc' := 204) rfl ?_
        refine k_callS X769 hx hZ hown (hw _ (List.mem_of_getElem? (i := 6) rfl)) (hw _ (List.mem_of_getElem? (i := 7) rfl)) (hw _ (List.mem_of_getElem? (i := 8) rfl)) (hw _ (List.mem_of_getElem? (i := 9) rfl)) (by decide) (rm2_783 l Z a0 hw [] b1 v724 k1 v2 v5 v8 v11 h12 n0 Z12 Vw12) (by decide) (by decide) e769 (by rw [hml]; rfl) (argsL := [(.ref b1), (.int (0 : Int32)), (.int (4 : Int32)), (.int v724)]) (rest := []) (lenOf pd_1 rfl) rfl (W := 0) (Nat.le_refl _) rfl (hb hby at_204) (by decide) (by decide) (pc' := 207) rfl (fun T793 L793 r793 X793 q793 => ?_)
        obtain ⟨N793, e793, q793⟩ := q793
        have N793' := Fr.app N769' N793
        rcases q793 with ⟨v794, v795, v796, v797, h798, h799, h800, h801, hc802, hc803, hc804, hc805, hc806, rfl⟩ | ⟨v807, v808, v809, v810, h811, h812, h813, h814, hc815, hc816, hc817, hc818, hc819, rfl⟩ | ⟨v820, v821, v822, h823, h824, h825, hc826, hc827, hc828, hc829, rfl⟩ | ⟨v830, v831, h832, h833, hc834, hc835, hc836, rfl⟩ | ⟨v837, h838, hc839, hc840, rfl⟩ | ⟨hc841, rfl⟩
        ·
         have hh842 : v731 = v794 := h732.trans h798.symm
         subst hh842
         have hh843 : v745 = v795 := h746.trans h799.symm
         subst hh843
         have hh844 : v759 = v796 := h760.trans h800.symm
         subst hh844
         have hh845 : v773 = v797 := h774.trans h801.symm
         subst hh845
         show KEnds p e below s _ _ _ T793 (mkF m 207 #[.val (.int i0), .val (.int i1), .val (.int i2), .val (.int i3), .val (.int i4), .val (.int i5), .val (.ref b1), .val (.int (0 : Int32)), .val (.int (4 : Int32)), .val (.int v699), .val (.int v724), .val (.int (-1 : Int32))] [(.int (-1 : Int32))])
         refine k_iload X793 hx (hb hby at_207) rfl (pc' := 209) rfl ?_
         refine k_icmp_ne X793 hx (hb hby at_209) (pn := 212) rfl (py := 216) (by decide) (fun hc => absurd (by decide) hc) (fun _ => ?_)
         refine k_iconst X793 hx (hb hby at_212) (pc' := 213) rfl (z := (1 : Int32)) rfl ?_
         refine k_goto X793 hx (hb hby at_213) (pc' := 217) (by decide) ?_
         exact k_retN X793 hx (t := .boolean) Bd.returns (by simp) (hb hby at_217) hlk (by decide) (by decide) (z' := (1 : Int32)) rfl ⟨rfl, N793'⟩
        ·
         have hh846 : v731 = v807 := h732.trans h811.symm
         subst hh846
         have hh847 : v745 = v808 := h746.trans h812.symm
         subst hh847
         have hh848 : v759 = v809 := h760.trans h813.symm
         subst hh848
         have hh849 : v773 = v810 := h774.trans h814.symm
         subst hh849
         show KEnds p e below s _ _ _ T793 (mkF m 207 #[.val (.int i0), .val (.int i1), .val (.int i2), .val (.int i3), .val (.int i4), .val (.int i5), .val (.ref b1), .val (.int (0 : Int32)), .val (.int (4 : Int32)), .val (.int v699), .val (.int v724), .val (.int (-1 : Int32))] [(.int (3 : Int32))])
         exact absurd hc819 hc777
        ·
         have hh850 : v731 = v820 := h732.trans h823.symm
         subst hh850
         have hh851 : v745 = v821 := h746.trans h824.symm
         subst hh851
         have hh852 : v759 = v822 := h760.trans h825.symm
         subst hh852
         show KEnds p e below s _ _ _ T793 (mkF m 207 #[.val (.int i0), .val (.int i1), .val (.int i2), .val (.int i3), .val (.int i4), .val (.int i5), .val (.ref b1), .val (.int (0 : Int32)), .val (.int (4 : Int32)), .val (.int v699), .val (.int v724), .val (.int (-1 : Int32))] [(.int (2 : Int32))])
         exact absurd hc829 hc763
        ·
         have hh853 : v731 = v830 := h732.trans h832.symm
         subst hh853
         have hh854 : v745 = v831 := h746.trans h833.symm
         subst hh854
         show KEnds p e below s _ _ _ T793 (mkF m 207 #[.val (.int i0), .val (.int i1), .val (.int i2), .val (.int i3), .val (.int i4), .val (.int i5), .val (.ref b1), .val (.int (0 : Int32)), .val (.int (4 : Int32)), .val (.int v699), .val (.int v724), .val (.int (-1 : Int32))] [(.int (1 : Int32))])
         exact absurd hc836 hc749
        ·
         have hh855 : v731 = v837 := h732.trans h838.symm
         subst hh855
         show KEnds p e below s _ _ _ T793 (mkF m 207 #[.val (.int i0), .val (.int i1), .val (.int i2), .val (.int i3), .val (.int i4), .val (.int i5), .val (.ref b1), .val (.int (0 : Int32)), .val (.int (4 : Int32)), .val (.int v699), .val (.int v724), .val (.int (-1 : Int32))] [(.int (0 : Int32))])
         exact absurd hc840 hc735
        ·
         show KEnds p e below s _ _ _ T793 (mkF m 207 #[.val (.int i0), .val (.int i1), .val (.int i2), .val (.int i3), .val (.int i4), .val (.int i5), .val (.ref b1), .val (.int (0 : Int32)), .val (.int (4 : Int32)), .val (.int v699), .val (.int v724), .val (.int (-1 : Int32))] [(.int (-1 : Int32))])
         exact absurd hc841 hc726
       ·
        show KEnds p e below s _ _ _ T769 (mkF m 184 #[.val (.int i0), .val (.int i1), .val (.int i2), .val (.int i3), .val (.int i4), .val (.int i5), .val (.ref b1), .val (.int (0 : Int32)), .val (.int (4 : Int32)), .val (.int v699), .val (.int v724), .unset] [(.int (1 : Int32))])
        refine k_if_eq X769 hx (hb hby at_184) (pn := 187) rfl (py := 193) (by decide) (fun hc => absurd hc (by decide)) (fun _ => ?_)
        refine k_iconst X769 hx (hb hby at_187) (pc' := 188) rfl (z := (3 : Int32)) rfl ?_
        refine k_istore X769 hx (hb hby at_188) (Ls' := #[.val (.int i0), .val (.int i1), .val (.int i2), .val (.int i3), .val (.int i4), .val (.int i5), .val (.ref b1), .val (.int (0 : Int32)), .val (.int (4 : Int32)), .val (.int v699), .val (.int v724), .val (.int (3 : Int32))]) rfl (pc' := 190) rfl ?_
        refine k_goto X769 hx (hb hby at_190) (pc' := 196) (by decide) ?_
        refine k_aload X769 hx (hb hby at_196) rfl rfl (pc' := 198) rfl ?_
        refine k_iload X769 hx (hb hby at_198) rfl (pc' := 200) rfl ?_
        refine k_iload X769 hx (hb hby at_200) rfl (pc' := 202) rfl ?_
        refine k_iload X769 hx (hb hby at_202) rfl (pc' := 204) rfl ?_
        refine k_callS X769 hx hZ hown (hw _ (List.mem_of_getElem? (i := 6) rfl)) (hw _ (List.mem_of_getElem? (i := 7) rfl)) (hw _ (List.mem_of_getElem? (i := 8) rfl)) (hw _ (List.mem_of_getElem? (i := 9) rfl)) (by decide) (rm2_783 l Z a0 hw [] b1 v724 k1 v2 v5 v8 v11 h12 n0 Z12 Vw12) (by decide) (by decide) e769 (by rw [hml]; rfl) (argsL := [(.ref b1), (.int (0 : Int32)), (.int (4 : Int32)), (.int v724)]) (rest := []) (lenOf pd_1 rfl) rfl (W := 0) (Nat.le_refl _) rfl (hb hby at_204) (by decide) (by decide) (pc' := 207) rfl (fun T856 L856 r856 X856 q856 => ?_)
        obtain ⟨N856, e856, q856⟩ := q856
        have N856' := Fr.app N769' N856
        rcases q856 with ⟨v857, v858, v859, v860, h861, h862, h863, h864, hc865, hc866, hc867, hc868, hc869, rfl⟩ | ⟨v870, v871, v872, v873, h874, h875, h876, h877, hc878, hc879, hc880, hc881, hc882, rfl⟩ | ⟨v883, v884, v885, h886, h887, h888, hc889, hc890, hc891, hc892, rfl⟩ | ⟨v893, v894, h895, h896, hc897, hc898, hc899, rfl⟩ | ⟨v900, h901, hc902, hc903, rfl⟩ | ⟨hc904, rfl⟩
        ·
         have hh905 : v731 = v857 := h732.trans h861.symm
         subst hh905
         have hh906 : v745 = v858 := h746.trans h862.symm
         subst hh906
         have hh907 : v759 = v859 := h760.trans h863.symm
         subst hh907
         have hh908 : v778 = v860 := h779.trans h864.symm
         subst hh908
         show KEnds p e below s _ _ _ T856 (mkF m 207 #[.val (.int i0), .val (.int i1), .val (.int i2), .val (.int i3), .val (.int i4), .val (.int i5), .val (.ref b1), .val (.int (0 : Int32)), .val (.int (4 : Int32)), .val (.int v699), .val (.int v724), .val (.int (3 : Int32))] [(.int (-1 : Int32))])
         exact absurd hc782 hc869
        ·
         have hh909 : v731 = v870 := h732.trans h874.symm
         subst hh909
         have hh910 : v745 = v871 := h746.trans h875.symm
         subst hh910
         have hh911 : v759 = v872 := h760.trans h876.symm
         subst hh911
         have hh912 : v778 = v873 := h779.trans h877.symm
         subst hh912
         show KEnds p e below s _ _ _ T856 (mkF m 207 #[.val (.int i0), .val (.int i1), .val (.int i2), .val (.int i3), .val (.int i4), .val (.int i5), .val (.ref b1), .val (.int (0 : Int32)), .val (.int (4 : Int32)), .val (.int v699), .val (.int v724), .val (.int (3 : Int32))] [(.int (3 : Int32))])
         refine k_iload X856 hx (hb hby at_207) rfl (pc' := 209) rfl ?_
         refine k_icmp_ne X856 hx (hb hby at_209) (pn := 212) rfl (py := 216) (by decide) (fun hc => absurd (by decide) hc) (fun _ => ?_)
         refine k_iconst X856 hx (hb hby at_212) (pc' := 213) rfl (z := (1 : Int32)) rfl ?_
         refine k_goto X856 hx (hb hby at_213) (pc' := 217) (by decide) ?_
         exact k_retN X856 hx (t := .boolean) Bd.returns (by simp) (hb hby at_217) hlk (by decide) (by decide) (z' := (1 : Int32)) rfl ⟨rfl, N856'⟩
        ·
         have hh913 : v731 = v883 := h732.trans h886.symm
         subst hh913
         have hh914 : v745 = v884 := h746.trans h887.symm
         subst hh914
         have hh915 : v759 = v885 := h760.trans h888.symm
         subst hh915
         show KEnds p e below s _ _ _ T856 (mkF m 207 #[.val (.int i0), .val (.int i1), .val (.int i2), .val (.int i3), .val (.int i4), .val (.int i5), .val (.ref b1), .val (.int (0 : Int32)), .val (.int (4 : Int32)), .val (.int v699), .val (.int v724), .val (.int (3 : Int32))] [(.int (2 : Int32))])
         exact absurd hc892 hc763
        ·
         have hh916 : v731 = v893 := h732.trans h895.symm
         subst hh916
         have hh917 : v745 = v894 := h746.trans h896.symm
         subst hh917
         show KEnds p e below s _ _ _ T856 (mkF m 207 #[.val (.int i0), .val (.int i1), .val (.int i2), .val (.int i3), .val (.int i4), .val (.int i5), .val (.ref b1), .val (.int (0 : Int32)), .val (.int (4 : Int32)), .val (.int v699), .val (.int v724), .val (.int (3 : Int32))] [(.int (1 : Int32))])
         exact absurd hc899 hc749
        ·
         have hh918 : v731 = v900 := h732.trans h901.symm
         subst hh918
         show KEnds p e below s _ _ _ T856 (mkF m 207 #[.val (.int i0), .val (.int i1), .val (.int i2), .val (.int i3), .val (.int i4), .val (.int i5), .val (.ref b1), .val (.int (0 : Int32)), .val (.int (4 : Int32)), .val (.int v699), .val (.int v724), .val (.int (3 : Int32))] [(.int (0 : Int32))])
         exact absurd hc903 hc735
        ·
         show KEnds p e below s _ _ _ T856 (mkF m 207 #[.val (.int i0), .val (.int i1), .val (.int i2), .val (.int i3), .val (.int i4), .val (.int i5), .val (.ref b1), .val (.int (0 : Int32)), .val (.int (4 : Int32)), .val (.int v699), .val (.int v724), .val (.int (3 : Int32))] [(.int (-1 : Int32))])
         exact absurd hc904 hc726
      ·
       show KEnds p e below s _ _ _ T755 (mkF m 163 #[.val (.int i0), .val (.int i1), .val (.int i2), .val (.int i3), .val (.int i4), .val (.int i5), .val (.ref b1), .val (.int (0 : Int32)), .val (.int (4 : Int32)), .val (.int v699), .val (.int v724), .unset] [(.int (1 : Int32))])
       refine k_if_eq X755 hx (hb hby at_163) (pn := 166) rfl (py := 172) (by decide) (fun hc => absurd hc (by decide)) (fun _ => ?_)
       refine k_iconst X755 hx (hb hby at_166) (pc' := 167) rfl (z := (2 : Int32)) rfl ?_
       refine k_istore X755 hx (hb hby at_167) (Ls' := #[.val (.int i0), .val (.int i1), .val (.int i2), .val (.int i3), .val (.int i4), .val (.int i5), .val (.ref b1), .val (.int (0 : Int32)), .val (.int (4 : Int32)), .val (.int v699), .val (.int v724), .val (.int (2 : Int32))]) rfl (pc' := 169) rfl ?_
       refine k_goto X755 hx (hb hby at_169) (pc' := 196) (by decide) ?_
       refine k_aload X755 hx (hb hby at_196) rfl rfl (pc' := 198) rfl ?_
       refine k_iload X755 hx (hb hby at_198) rfl (pc' := 200) rfl ?_
       refine k_iload X755 hx (hb hby at_200) rfl (pc' := 202) rfl ?_
       refine k_iload X755 hx (hb hby at_202) rfl (pc' := 204) rfl ?_
       refine k_callS X755 hx hZ hown (hw _ (List.mem_of_getElem? (i := 6) rfl)) (hw _ (List.mem_of_getElem? (i := 7) rfl)) (hw _ (List.mem_of_getElem? (i := 8) rfl)) (hw _ (List.mem_of_getElem? (i := 9) rfl)) (by decide) (rm2_783 l Z a0 hw [] b1 v724 k1 v2 v5 v8 v11 h12 n0 Z12 Vw12) (by decide) (by decide) e755 (by rw [hml]; rfl) (argsL := [(.ref b1), (.int (0 : Int32)), (.int (4 : Int32)), (.int v724)]) (rest := []) (lenOf pd_1 rfl) rfl (W := 0) (Nat.le_refl _) rfl (hb hby at_204) (by decide) (by decide) (pc' := 207) rfl (fun T919 L919 r919 X919 q919 => ?_)
       obtain ⟨N919, e919, q919⟩ := q919
       have N919' := Fr.app N755' N919
       rcases q919 with ⟨v920, v921, v922, v923, h924, h925, h926, h927, hc928, hc929, hc930, hc931, hc932, rfl⟩ | ⟨v933, v934, v935, v936, h937, h938, h939, h940, hc941, hc942, hc943, hc944, hc945, rfl⟩ | ⟨v946, v947, v948, h949, h950, h951, hc952, hc953, hc954, hc955, rfl⟩ | ⟨v956, v957, h958, h959, hc960, hc961, hc962, rfl⟩ | ⟨v963, h964, hc965, hc966, rfl⟩ | ⟨hc967, rfl⟩
       ·
        have hh968 : v731 = v920 := h732.trans h924.symm
        subst hh968
        have hh969 : v745 = v921 := h746.trans h925.symm
        subst hh969
        have hh970 : v764 = v922 := h765.trans h926.symm
        subst hh970
        show KEnds p e below s _ _ _ T919 (mkF m 207 #[.val (.int i0), .val (.int i1), .val (.int i2), .val (.int i3), .val (.int i4), .val (.int i5), .val (.ref b1), .val (.int (0 : Int32)), .val (.int (4 : Int32)), .val (.int v699), .val (.int v724), .val (.int (2 : Int32))] [(.int (-1 : Int32))])
        exact absurd hc768 hc931
       ·
        have hh971 : v731 = v933 := h732.trans h937.symm
        subst hh971
        have hh972 : v745 = v934 := h746.trans h938.symm
        subst hh972
        have hh973 : v764 = v935 := h765.trans h939.symm
        subst hh973
        show KEnds p e below s _ _ _ T919 (mkF m 207 #[.val (.int i0), .val (.int i1), .val (.int i2), .val (.int i3), .val (.int i4), .val (.int i5), .val (.ref b1), .val (.int (0 : Int32)), .val (.int (4 : Int32)), .val (.int v699), .val (.int v724), .val (.int (2 : Int32))] [(.int (3 : Int32))])
        exact absurd hc768 hc944
       ·
        have hh974 : v731 = v946 := h732.trans h949.symm
        subst hh974
        have hh975 : v745 = v947 := h746.trans h950.symm
        subst hh975
        have hh976 : v764 = v948 := h765.trans h951.symm
        subst hh976
        show KEnds p e below s _ _ _ T919 (mkF m 207 #[.val (.int i0), .val (.int i1), .val (.int i2), .val (.int i3), .val (.int i4), .val (.int i5), .val (.ref b1), .val (.int (0 : Int32)), .val (.int (4 : Int32)), .val (.int v699), .val (.int v724), .val (.int (2 : Int32))] [(.int (2 : Int32))])
        refine k_iload X919 hx (hb hby at_207) rfl (pc' := 209) rfl ?_
        refine k_icmp_ne X919 hx (hb hby at_209) (pn := 212) rfl (py := 216) (by decide) (fun hc => absurd (by decide) hc) (fun _ => ?_)
        refine k_iconst X919 hx (hb hby at_212) (pc' := 213) rfl (z := (1 : Int32)) rfl ?_
        refine k_goto X919 hx (hb hby at_213) (pc' := 217) (by decide) ?_
        exact k_retN X919 hx (t := .boolean) Bd.returns (by simp) (hb hby at_217) hlk (by decide) (by decide) (z' := (1 : Int32)) rfl ⟨rfl, N919'⟩
       ·
        have hh977 : v731 = v956 := h732.trans h958.symm
        subst hh977
        have hh978 : v745 = v957 := h746.trans h959.symm
        subst hh978
        show KEnds p e below s _ _ _ T919 (mkF m 207 #[.val (.int i0), .val (.int i1), .val (.int i2), .val (.int i3), .val (.int i4), .val (.int i5), .val (.ref b1), .val (.int (0 : Int32)), .val (.int (4 : Int32)), .val (.int v699), .val (.int v724), .val (.int (2 : Int32))] [(.int (1 : Int32))])
        exact absurd hc962 hc749
       ·
        have hh979 : v731 = v963 := h732.trans h964.symm
        subst hh979
        show KEnds p e below s _ _ _ T919 (mkF m 207 #[.val (.int i0), .val (.int i1), .val (.int i2), .val (.int i3), .val (.int i4), .val (.int i5), .val (.ref b1), .val (.int (0 : Int32)), .val (.int (4 : Int32)), .val (.int v699), .val (.int v724), .val (.int (2 : Int32))] [(.int (0 : Int32))])
        exact absurd hc966 hc735
       ·
        show KEnds p e below s _ _ _ T919 (mkF m 207 #[.val (.int i0), .val (.int i1), .val (.int i2), .val (.int i3), .val (.int i4), .val (.int i5), .val (.ref b1), .val (.int (0 : Int32)), .val (.int (4 : Int32)), .val (.int v699), .val (.int v724), .val (.int (2 : Int32))] [(.int (-1 : Int32))])
        exact absurd hc967 hc726
     ·
      show KEnds p e below s _ _ _ T741 (mkF m 142 #[.val (.int i0), .val (.int i1), .val (.int i2), .val (.int i3), .val (.int i4), .val (.int i5), .val (.ref b1), .val (.int (0 : Int32)), .val (.int (4 : Int32)), .val (.int v699), .val (.int v724), .unset] [(.int (1 : Int32))])
      refine k_if_eq X741 hx (hb hby at_142) (pn := 145) rfl (py := 151) (by decide) (fun hc => absurd hc (by decide)) (fun _ => ?_)
      refine k_iconst X741 hx (hb hby at_145) (pc' := 146) rfl (z := (1 : Int32)) rfl ?_
      refine k_istore X741 hx (hb hby at_146) (Ls' := #[.val (.int i0), .val (.int i1), .val (.int i2), .val (.int i3), .val (.int i4), .val (.int i5), .val (.ref b1), .val (.int (0 : Int32)), .val (.int (4 : Int32)), .val (.int v699), .val (.int v724), .val (.int (1 : Int32))]) rfl (pc' := 148) rfl ?_
      refine k_goto X741 hx (hb hby at_148) (pc' := 196) (by decide) ?_
      refine k_aload X741 hx (hb hby at_196) rfl rfl (pc' := 198) rfl ?_
      refine k_iload X741 hx (hb hby at_198) rfl (pc' := 200) rfl ?_
      refine k_iload X741 hx (hb hby at_200) rfl (pc' := 202) rfl ?_
      refine k_iload X741 hx (hb hby at_202) rfl (pc' := 204) rfl ?_
      refine k_callS X741 hx hZ hown (hw _ (List.mem_of_getElem? (i := 6) rfl)) (hw _ (List.mem_of_getElem? (i := 7) rfl)) (hw _ (List.mem_of_getElem? (i := 8) rfl)) (hw _ (List.mem_of_getElem? (i := 9) rfl)) (by decide) (rm2_783 l Z a0 hw [] b1 v724 k1 v2 v5 v8 v11 h12 n0 Z12 Vw12) (by decide) (by decide) e741 (by rw [hml]; rfl) (argsL := [(.ref b1), (.int (0 : Int32)), (.int (4 : Int32)), (.int v724)]) (rest := []) (lenOf pd_1 rfl) rfl (W := 0) (Nat.le_refl _) rfl (hb hby at_204) (by decide) (by decide) (pc' := 207) rfl (fun T980 L980 r980 X980 q980 => ?_)
      obtain ⟨N980, e980, q980⟩ := q980
      have N980' := Fr.app N741' N980
      rcases q980 with ⟨v981, v982, v983, v984, h985, h986, h987, h988, hc989, hc990, hc991, hc992, hc993, rfl⟩ | ⟨v994, v995, v996, v997, h998, h999, h1000, h1001, hc1002, hc1003, hc1004, hc1005, hc1006, rfl⟩ | ⟨v1007, v1008, v1009, h1010, h1011, h1012, hc1013, hc1014, hc1015, hc1016, rfl⟩ | ⟨v1017, v1018, h1019, h1020, hc1021, hc1022, hc1023, rfl⟩ | ⟨v1024, h1025, hc1026, hc1027, rfl⟩ | ⟨hc1028, rfl⟩
      ·
       have hh1029 : v731 = v981 := h732.trans h985.symm
       subst hh1029
       have hh1030 : v750 = v982 := h751.trans h986.symm
       subst hh1030
       show KEnds p e below s _ _ _ T980 (mkF m 207 #[.val (.int i0), .val (.int i1), .val (.int i2), .val (.int i3), .val (.int i4), .val (.int i5), .val (.ref b1), .val (.int (0 : Int32)), .val (.int (4 : Int32)), .val (.int v699), .val (.int v724), .val (.int (1 : Int32))] [(.int (-1 : Int32))])
       exact absurd hc754 hc991
      ·
       have hh1031 : v731 = v994 := h732.trans h998.symm
       subst hh1031
       have hh1032 : v750 = v995 := h751.trans h999.symm
       subst hh1032
       show KEnds p e below s _ _ _ T980 (mkF m 207 #[.val (.int i0), .val (.int i1), .val (.int i2), .val (.int i3), .val (.int i4), .val (.int i5), .val (.ref b1), .val (.int (0 : Int32)), .val (.int (4 : Int32)), .val (.int v699), .val (.int v724), .val (.int (1 : Int32))] [(.int (3 : Int32))])
       exact absurd hc754 hc1004
      ·
       have hh1033 : v731 = v1007 := h732.trans h1010.symm
       subst hh1033
       have hh1034 : v750 = v1008 := h751.trans h1011.symm
       subst hh1034
       show KEnds p e below s _ _ _ T980 (mkF m 207 #[.val (.int i0), .val (.int i1), .val (.int i2), .val (.int i3), .val (.int i4), .val (.int i5), .val (.ref b1), .val (.int (0 : Int32)), .val (.int (4 : Int32)), .val (.int v699), .val (.int v724), .val (.int (1 : Int32))] [(.int (2 : Int32))])
       exact absurd hc754 hc1015
      ·
       have hh1035 : v731 = v1017 := h732.trans h1019.symm
       subst hh1035
       have hh1036 : v750 = v1018 := h751.trans h1020.symm
       subst hh1036
       show KEnds p e below s _ _ _ T980 (mkF m 207 #[.val (.int i0), .val (.int i1), .val (.int i2), .val (.int i3), .val (.int i4), .val (.int i5), .val (.ref b1), .val (.int (0 : Int32)), .val (.int (4 : Int32)), .val (.int v699), .val (.int v724), .val (.int (1 : Int32))] [(.int (1 : Int32))])
       refine k_iload X980 hx (hb hby at_207) rfl (pc' := 209) rfl ?_
       refine k_icmp_ne X980 hx (hb hby at_209) (pn := 212) rfl (py := 216) (by decide) (fun hc => absurd (by decide) hc) (fun _ => ?_)
       refine k_iconst X980 hx (hb hby at_212) (pc' := 213) rfl (z := (1 : Int32)) rfl ?_
       refine k_goto X980 hx (hb hby at_213) (pc' := 217) (by decide) ?_
       exact k_retN X980 hx (t := .boolean) Bd.returns (by simp) (hb hby at_217) hlk (by decide) (by decide) (z' := (1 : Int32)) rfl ⟨rfl, N980'⟩
      ·
       have hh1037 : v731 = v1024 := h732.trans h1025.symm
       subst hh1037
       show KEnds p e below s _ _ _ T980 (mkF m 207 #[.val (.int i0), .val (.int i1), .val (.int i2), .val (.int i3), .val (.int i4), .val (.int i5), .val (.ref b1), .val (.int (0 : Int32)), .val (.int (4 : Int32)), .val (.int v699), .val (.int v724), .val (.int (1 : Int32))] [(.int (0 : Int32))])
       exact absurd hc1027 hc735
      ·
       show KEnds p e below s _ _ _ T980 (mkF m 207 #[.val (.int i0), .val (.int i1), .val (.int i2), .val (.int i3), .val (.int i4), .val (.int i5), .val (.ref b1), .val (.int (0 : Int32)), .val (.int (4 : Int32)), .val (.int v699), .val (.int v724), .val (.int (1 : Int32))] [(.int (-1 : Int32))])
       exact absurd hc1028 hc726
    ·
     show KEnds p e below s _ _ _ T727 (mkF m 121 #[.val (.int i0), .val (.int i1), .val (.int i2), .val (.int i3), .val (.int i4), .val (.int i5), .val (.ref b1), .val (.int (0 : Int32)), .val (.int (4 : Int32)), .val (.int v699), .val (.int v724), .unset] [(.int (1 : Int32))])
     refine k_if_eq X727 hx (hb hby at_121) (pn := 124) rfl (py := 130) (by decide) (fun hc => absurd hc (by decide)) (fun _ => ?_)
     refine k_iconst X727 hx (hb hby at_124) (pc' := 125) rfl (z := (0 : Int32)) rfl ?_
     refine k_istore X727 hx (hb hby at_125) (Ls' := #[.val (.int i0), .val (.int i1), .val (.int i2), .val (.int i3), .val (.int i4), .val (.int i5), .val (.ref b1), .val (.int (0 : Int32)), .val (.int (4 : Int32)), .val (.int v699), .val (.int v724), .val (.int (0 : Int32))]) rfl (pc' := 127) rfl ?_
     refine k_goto X727 hx (hb hby at_127) (pc' := 196) (by decide) ?_
     refine k_aload X727 hx (hb hby at_196) rfl rfl (pc' := 198) rfl ?_
     refine k_iload X727 hx (hb hby at_198) rfl (pc' := 200) rfl ?_
     refine k_iload X727 hx (hb hby at_200) rfl (pc' := 202) rfl ?_
     refine k_iload X727 hx (hb hby at_202) rfl (pc' := 204) rfl ?_
     refine k_callS X727 hx hZ hown (hw _ (List.mem_of_getElem? (i := 6) rfl)) (hw _ (List.mem_of_getElem? (i := 7) rfl)) (hw _ (List.mem_of_getElem? (i := 8) rfl)) (hw _ (List.mem_of_getElem? (i := 9) rfl)) (by decide) (rm2_783 l Z a0 hw [] b1 v724 k1 v2 v5 v8 v11 h12 n0 Z12 Vw12) (by decide) (by decide) e727 (by rw [hml]; rfl) (argsL := [(.ref b1), (.int (0 : Int32)), (.int (4 : Int32)), (.int v724)]) (rest := []) (lenOf pd_1 rfl) rfl (W := 0) (Nat.le_refl _) rfl (hb hby at_204) (by decide) (by decide) (pc' := 207) rfl (fun T1038 L1038 r1038 X1038 q1038 => ?_)
     obtain ⟨N1038, e1038, q1038⟩ := q1038
     have N1038' := Fr.app N727' N1038
     rcases q1038 with ⟨v1039, v1040, v1041, v1042, h1043, h1044, h1045, h1046, hc1047, hc1048, hc1049, hc1050, hc1051, rfl⟩ | ⟨v1052, v1053, v1054, v1055, h1056, h1057, h1058, h1059, hc1060, hc1061, hc1062, hc1063, hc1064, rfl⟩ | ⟨v1065, v1066, v1067, h1068, h1069, h1070, hc1071, hc1072, hc1073, hc1074, rfl⟩ | ⟨v1075, v1076, h1077, h1078, hc1079, hc1080, hc1081, rfl⟩ | ⟨v1082, h1083, hc1084, hc1085, rfl⟩ | ⟨hc1086, rfl⟩
     ·
      have hh1087 : v736 = v1039 := h737.trans h1043.symm
      subst hh1087
      show KEnds p e below s _ _ _ T1038 (mkF m 207 #[.val (.int i0), .val (.int i1), .val (.int i2), .val (.int i3), .val (.int i4), .val (.int i5), .val (.ref b1), .val (.int (0 : Int32)), .val (.int (4 : Int32)), .val (.int v699), .val (.int v724), .val (.int (0 : Int32))] [(.int (-1 : Int32))])
      exact absurd hc740 hc1048
     ·
      have hh1088 : v736 = v1052 := h737.trans h1056.symm
      subst hh1088
      show KEnds p e below s _ _ _ T1038 (mkF m 207 #[.val (.int i0), .val (.int i1), .val (.int i2), .val (.int i3), .val (.int i4), .val (.int i5), .val (.ref b1), .val (.int (0 : Int32)), .val (.int (4 : Int32)), .val (.int v699), .val (.int v724), .val (.int (0 : Int32))] [(.int (3 : Int32))])
      exact absurd hc740 hc1061
     ·
      have hh1089 : v736 = v1065 := h737.trans h1068.symm
      subst hh1089
      show KEnds p e below s _ _ _ T1038 (mkF m 207 #[.val (.int i0), .val (.int i1), .val (.int i2), .val (.int i3), .val (.int i4), .val (.int i5), .val (.ref b1), .val (.int (0 : Int32)), .val (.int (4 : Int32)), .val (.int v699), .val (.int v724), .val (.int (0 : Int32))] [(.int (2 : Int32))])
      exact absurd hc740 hc1072
     ·
      have hh1090 : v736 = v1075 := h737.trans h1077.symm
      subst hh1090
      show KEnds p e below s _ _ _ T1038 (mkF m 207 #[.val (.int i0), .val (.int i1), .val (.int i2), .val (.int i3), .val (.int i4), .val (.int i5), .val (.ref b1), .val (.int (0 : Int32)), .val (.int (4 : Int32)), .val (.int v699), .val (.int v724), .val (.int (0 : Int32))] [(.int (1 : Int32))])
      exact absurd hc740 hc1080
     ·
      have hh1091 : v736 = v1082 := h737.trans h1083.symm
      subst hh1091
      show KEnds p e below s _ _ _ T1038 (mkF m 207 #[.val (.int i0), .val (.int i1), .val (.int i2), .val (.int i3), .val (.int i4), .val (.int i5), .val (.ref b1), .val (.int (0 : Int32)), .val (.int (4 : Int32)), .val (.int v699), .val (.int v724), .val (.int (0 : Int32))] [(.int (0 : Int32))])
      refine k_iload X1038 hx (hb hby at_207) rfl (pc' := 209) rfl ?_
      refine k_icmp_ne X1038 hx (hb hby at_209) (pn := 212) rfl (py := 216) (by decide) (fun hc => absurd (by decide) hc) (fun _ => ?_)
      refine k_iconst X1038 hx (hb hby at_212) (pc' := 213) rfl (z := (1 : Int32)) rfl ?_
      refine k_goto X1038 hx (hb hby at_213) (pc' := 217) (by decide) ?_
      exact k_retN X1038 hx (t := .boolean) Bd.returns (by simp) (hb hby at_217) hlk (by decide) (by decide) (z' := (1 : Int32)) rfl ⟨rfl, N1038'⟩
     ·
      show KEnds p e below s _ _ _ T1038 (mkF m 207 #[.val (.int i0), .val (.int i1), .val (.int i2), .val (.int i3), .val (.int i4), .val (.int i5), .val (.ref b1), .val (.int (0 : Int32)), .val (.int (4 : Int32)), .val (.int v699), .val (.int v724), .val (.int (0 : Int32))] [(.int (-1 : Int32))])
      exact absurd hc1086 hc726
   ·
    refine k_iconst X12 hx (hb hby at_103) (pc' := 104) rfl (z := (-1 : Int32)) rfl ?_
    refine k_istore X12 hx (hb hby at_104) (Ls' := #[.val (.int i0), .val (.int i1), .val (.int i2), .val (.int i3), .val (.int i4), .val (.int i5), .val (.ref b1), .val (.int (0 : Int32)), .val (.int (4 : Int32)), .val (.int v699), .val (.int v724), .val (.int (-1 : Int32))]) rfl (pc' := 106) rfl ?_
    refine k_goto X12 hx (hb hby at_106) (pc' := 196) (by decide) ?_
    refine k_aload X12 hx (hb hby at_196) rfl rfl (pc' := 198) rfl ?_
    refine k_iload X12 hx (hb hby at_198) rfl (pc' := 200) rfl ?_
    refine k_iload X12 hx (hb hby at_200) rfl (pc' := 202) rfl ?_
    refine k_iload X12 hx (hb hby at_202) rfl (pc' := 204) rfl ?_
    refine k_callS X12 hx hZ hown (hw _ (List.mem_of_getElem? (i := 6) rfl)) (hw _ (List.mem_of_getElem? (i := 7) rfl)) (hw _ (List.mem_of_getElem? (i := 8) rfl)) (hw _ (List.mem_of_getElem? (i := 9) rfl)) (by decide) (rm2_783 l Z a0 hw [] b1 v724 k1 v2 v5 v8 v11 h12 n0 Z12 Vw12) (by decide) (by decide) e12 (by rw [hml]; rfl) (argsL := [(.ref b1), (.int (0 : Int32)), (.int (4 : Int32)), (.int v724)]) (rest := []) (lenOf pd_1 rfl) rfl (W := 0) (Nat.le_refl _) rfl (hb hby at_204) (by decide) (by decide) (pc' := 207) rfl (fun T1092 L1092 r1092 X1092 q1092 => ?_)
    obtain ⟨N1092, e1092, q1092⟩ := q1092
    have N1092' := Fr.app N12 N1092
    rcases q1092 with ⟨v1093, v1094, v1095, v1096, h1097, h1098, h1099, h1100, hc1101, hc1102, hc1103, hc1104, hc1105, rfl⟩ | ⟨v1106, v1107, v1108, v1109, h1110, h1111, h1112, h1113, hc1114, hc1115, hc1116, hc1117, hc1118, rfl⟩ | ⟨v1119, v1120, v1121, h1122, h1123, h1124, hc1125, hc1126, hc1127, hc1128, rfl⟩ | ⟨v1129, v1130, h1131, h1132, hc1133, hc1134, hc1135, rfl⟩ | ⟨v1136, h1137, hc1138, hc1139, rfl⟩ | ⟨hc1140, rfl⟩
    ·
     show KEnds p e below s _ _ _ T1092 (mkF m 207 #[.val (.int i0), .val (.int i1), .val (.int i2), .val (.int i3), .val (.int i4), .val (.int i5), .val (.ref b1), .val (.int (0 : Int32)), .val (.int (4 : Int32)), .val (.int v699), .val (.int v724), .val (.int (-1 : Int32))] [(.int (-1 : Int32))])
     exact absurd hc726 hc1101
    ·
     show KEnds p e below s _ _ _ T1092 (mkF m 207 #[.val (.int i0), .val (.int i1), .val (.int i2), .val (.int i3), .val (.int i4), .val (.int i5), .val (.ref b1), .val (.int (0 : Int32)), .val (.int (4 : Int32)), .val (.int v699), .val (.int v724), .val (.int (-1 : Int32))] [(.int (3 : Int32))])
     exact absurd hc726 hc1114
    ·
     show KEnds p e below s _ _ _ T1092 (mkF m 207 #[.val (.int i0), .val (.int i1), .val (.int i2), .val (.int i3), .val (.int i4), .val (.int i5), .val (.ref b1), .val (.int (0 : Int32)), .val (.int (4 : Int32)), .val (.int v699), .val (.int v724), .val (.int (-1 : Int32))] [(.int (2 : Int32))])
     exact absurd hc726 hc1125
    ·
     show KEnds p e below s _ _ _ T1092 (mkF m 207 #[.val (.int i0), .val (.int i1), .val (.int i2), .val (.int i3), .val (.int i4), .val (.int i5), .val (.ref b1), .val (.int (0 : Int32)), .val (.int (4 : Int32)), .val (.int v699), .val (.int v724), .val (.int (-1 : Int32))] [(.int (1 : Int32))])
     exact absurd hc726 hc1133
    ·
     show KEnds p e below s _ _ _ T1092 (mkF m 207 #[.val (.int i0), .val (.int i1), .val (.int i2), .val (.int i3), .val (.int i4), .val (.int i5), .val (.ref b1), .val (.int (0 : Int32)), .val (.int (4 : Int32)), .val (.int v699), .val (.int v724), .val (.int (-1 : Int32))] [(.int (0 : Int32))])
     exact absurd hc726 hc1138
    ·
     show KEnds p e below s _ _ _ T1092 (mkF m 207 #[.val (.int i0), .val (.int i1), .val (.int i2), .val (.int i3), .val (.int i4), .val (.int i5), .val (.ref b1), .val (.int (0 : Int32)), .val (.int (4 : Int32)), .val (.int v699), .val (.int v724), .val (.int (-1 : Int32))] [(.int (-1 : Int32))])
     refine k_iload X1092 hx (hb hby at_207) rfl (pc' := 209) rfl ?_
     refine k_icmp_ne X1092 hx (hb hby at_209) (pn := 212) rfl (py := 216) (by decide) (fun hc => absurd (by decide) hc) (fun _ => ?_)
     refine k_iconst X1092 hx (hb hby at_212) (pc' := 213) rfl (z := (1 : Int32)) rfl ?_
     refine k_goto X1092 hx (hb hby at_213) (pc' := 217) (by decide) ?_
     exact k_retN X1092 hx (t := .boolean) Bd.returns (by simp) (hb hby at_217) hlk (by decide) (by decide) (z' := (1 : Int32)) rfl ⟨rfl, N1092'⟩
 ·
  show KEnds p e below s _ _ _ T12 (mkF m 32 #[.val (.int i0), .val (.int i1), .val (.int i2), .val (.int i3), .val (.int i4), .val (.int i5), .val (.ref b1), .unset, .unset, .unset, .unset, .unset] [(.int (1 : Int32))])
  refine k_istore X12 hx (hb hby at_32) (Ls' := #[.val (.int i0), .val (.int i1), .val (.int i2), .val (.int i3), .val (.int i4), .val (.int i5), .val (.ref b1), .val (.int (1 : Int32)), .unset, .unset, .unset, .unset]) rfl (pc' := 34) rfl ?_
  refine k_iload X12 hx (hb hby at_34) rfl (pc' := 36) rfl ?_
  refine k_bipush X12 hx (hb hby at_36) (pc' := 38) rfl (z := (8 : Int32)) rfl ?_
  refine k_iushr X12 hx (hb hby at_38) (pc' := 39) rfl (fun v1142 hv1142 => ?_)
  refine k_ldc X12 hx hZ hown (hw _ (List.mem_of_getElem? (i := 1) rfl)) (hb hby at_39) (pc' := 41) rfl ?_
  refine k_iand X12 hx (hb hby at_41) (pc' := 42) rfl (fun v1143 hv1143 => ?_)
  refine k_iconst X12 hx (hb hby at_42) (pc' := 43) rfl (z := (5 : Int32)) rfl ?_
  refine k_irem X12 hx (hb hby at_43) (by decide) (pc' := 44) rfl (fun v1144 hv1144 => ?_)
  have hs1145 : v1144 = (0 : Int32) ∨ v1144 = (1 : Int32) ∨ v1144 = (2 : Int32) ∨ v1144 = (3 : Int32) ∨ v1144 = (4 : Int32) := by
   have := rng32 v1144
   have := rng32 v1143
   have := rng32 v1142
   have := rng32 i4
   have : (8 : Int32).toInt = 8 := (by decide)
   have q1146 : v1142.toInt = (i4.toInt % 4294967296) / 256 := (by rw [hv1142]; exact c_iushr _ _ 8 (by decide) (by decide))
   have : (2147483647 : Int32).toInt = 2147483647 := (by decide)
   have q1147 : v1143.toInt = v1142.toInt % 2147483648 := (by rw [hv1143]; exact c_mask _ _ 31 (by decide) (by decide))
   have : (5 : Int32).toInt = 5 := (by decide)
   have q1148 : (0 ≤ v1143.toInt → v1144.toInt = v1143.toInt % 5) ∧ (v1143.toInt < 0 → v1144.toInt = -((-v1143.toInt) % 5)) := (by rw [hv1144]; exact c_irem _ _ 5 (by decide))
   rcases (by omega : v1144.toInt = 0 ∨ v1144.toInt = 1 ∨ v1144.toInt = 2 ∨ v1144.toInt = 3 ∨ v1144.toInt = 4) with hq | hq | hq | hq | hq
   · exact Or.inl (Int32.toInt_inj.mp hq)
   · exact Or.inr (Or.inl (Int32.toInt_inj.mp hq))
   · exact Or.inr (Or.inr (Or.inl (Int32.toInt_inj.mp hq)))
   · exact Or.inr (Or.inr (Or.inr (Or.inl (Int32.toInt_inj.mp hq))))
   · exact Or.inr (Or.inr (Or.inr (Or.inr ((Int32.toInt_inj.mp hq)))))
  rcases hs1145 with rfl | rfl | rfl | rfl | rfl
  ·
   show KEnds p e below s _ _ _ T12 (mkF m 44 #[.val (.int i0), .val (.int i1), .val (.int i2), .val (.int i3), .val (.int i4), .val (.int i5), .val (.ref b1), .val (.int (1 : Int32)), .unset, .unset, .unset, .unset] [(.int (0 : Int32))])
   refine k_istore X12 hx (hb hby at_44) (Ls' := #[.val (.int i0), .val (.int i1), .val (.int i2), .val (.int i3), .val (.int i4), .val (.int i5), .val (.ref b1), .val (.int (1 : Int32)), .val (.int (0 : Int32)), .unset, .unset, .unset]) rfl (pc' := 46) rfl ?_
   refine k_iload X12 hx (hb hby at_46) rfl (pc' := 48) rfl ?_
   refine k_iconst X12 hx (hb hby at_48) (pc' := 49) rfl (z := (3 : Int32)) rfl ?_
   refine k_iand X12 hx (hb hby at_49) (pc' := 50) rfl (fun v1150 hv1150 => ?_)
   refine k_istore X12 hx (hb hby at_50) (Ls' := #[.val (.int i0), .val (.int i1), .val (.int i2), .val (.int i3), .val (.int i4), .val (.int i5), .val (.ref b1), .val (.int (1 : Int32)), .val (.int (0 : Int32)), .val (.int v1150), .unset, .unset]) rfl (pc' := 52) rfl ?_
   suffices key1151 : ∀ (v1175 : Int32), KEnds p e below s 16 128 (Q0 n0) T12 (mkF m 97 #[.val (.int i0), .val (.int i1), .val (.int i2), .val (.int i3), .val (.int i4), .val (.int i5), .val (.ref b1), .val (.int (1 : Int32)), .val (.int (0 : Int32)), .val (.int v1150), .val (.int v1175), .unset] []) by
    refine k_iload X12 hx (hb hby at_52) rfl (pc' := 54) rfl ?_
    refine k_if_ne X12 hx (hb hby at_54) (pn := 57) rfl (py := 63) (by decide) (fun hc1152 => ?_) (fun hc1152 => ?_)
    ·
     refine k_iload X12 hx (hb hby at_63) rfl (pc' := 65) rfl ?_
     refine k_iconst X12 hx (hb hby at_65) (pc' := 66) rfl (z := (1 : Int32)) rfl ?_
     refine k_icmp_ne X12 hx (hb hby at_66) (pn := 69) rfl (py := 87) (by decide) (fun hc1153 => ?_) (fun hc1153 => ?_)
     ·
      refine k_iload X12 hx (hb hby at_87) rfl (pc' := 89) rfl ?_
      refine k_iconst X12 hx (hb hby at_89) (pc' := 90) rfl (z := (2 : Int32)) rfl ?_
      refine k_iushr X12 hx (hb hby at_90) (pc' := 91) rfl (fun v1154 hv1154 => ?_)
      refine k_sipush X12 hx (hb hby at_91) (pc' := 94) rfl (z := (255 : Int32)) rfl ?_
      refine k_iand X12 hx (hb hby at_94) (pc' := 95) rfl (fun v1155 hv1155 => ?_)
      refine k_istore X12 hx (hb hby at_95) (Ls' := #[.val (.int i0), .val (.int i1), .val (.int i2), .val (.int i3), .val (.int i4), .val (.int i5), .val (.ref b1), .val (.int (1 : Int32)), .val (.int (0 : Int32)), .val (.int v1150), .val (.int v1155), .unset]) rfl (pc' := 97) rfl ?_
      exact key1151 v1155
     ·
      refine k_aload X12 hx (hb hby at_69) rfl rfl (pc' := 71) rfl ?_
      refine k_iload X12 hx (hb hby at_71) rfl (pc' := 73) rfl ?_
      refine k_iconst X12 hx (hb hby at_73) (pc' := 74) rfl (z := (2 : Int32)) rfl ?_
      refine k_iushr X12 hx (hb hby at_74) (pc' := 75) rfl (fun v1156 hv1156 => ?_)
      refine k_iconst X12 hx (hb hby at_75) (pc' := 76) rfl (z := (3 : Int32)) rfl ?_
      refine k_iand X12 hx (hb hby at_76) (pc' := 77) rfl (fun v1157 hv1157 => ?_)
      have hj1158 : ¬ v1157 < 0 ∧ v1157 < (4 : Int32) := by
       refine ⟨?_, ?_⟩
       ·
        intro hq1159
        have := rng32 v1150
        have := rng32 i5
        have : (3 : Int32).toInt = 3 := (by decide)
        have q1160 : v1150.toInt = i5.toInt % 4 := (by rw [hv1150]; exact c_mask _ _ 2 (by decide) (by decide))
        have : (0 : Int32).toInt = 0 := (by decide)
        have q1161 : ¬ v1150.toInt = (0 : Int32).toInt := fun q => hc1152 (Int32.toInt_inj.mp q)
        have : (1 : Int32).toInt = 1 := (by decide)
        have q1162 := congrArg Int32.toInt hc1153
        have := rng32 v1157
        have := rng32 v1156
        have : (2 : Int32).toInt = 2 := (by decide)
        have q1163 : v1156.toInt = (i5.toInt % 4294967296) / 4 := (by rw [hv1156]; exact c_iushr _ _ 2 (by decide) (by decide))
        have q1164 : v1157.toInt = v1156.toInt % 4 := (by rw [hv1157]; exact c_mask _ _ 2 (by decide) (by decide))
        have q1165 := hq1159; rw [Int32.lt_iff_toInt_lt] at q1165
        omega
       ·
        refine Classical.byContradiction (fun hq1166 => ?_)
        have := rng32 v1150
        have := rng32 i5
        have : (3 : Int32).toInt = 3 := (by decide)
        have q1167 : v1150.toInt = i5.toInt % 4 := (by rw [hv1150]; exact c_mask _ _ 2 (by decide) (by decide))
        have : (0 : Int32).toInt = 0 := (by decide)
        have q1168 : ¬ v1150.toInt = (0 : Int32).toInt := fun q => hc1152 (Int32.toInt_inj.mp q)
        have : (1 : Int32).toInt = 1 := (by decide)
        have q1169 := congrArg Int32.toInt hc1153
        have := rng32 v1157
        have := rng32 v1156
        have : (2 : Int32).toInt = 2 := (by decide)
        have q1170 : v1156.toInt = (i5.toInt % 4294967296) / 4 := (by rw [hv1156]; exact c_iushr _ _ 2 (by decide) (by decide))
        have q1171 : v1157.toInt = v1156.toInt % 4 := (by rw [hv1157]; exact c_mask _ _ 2 (by decide) (by decide))
        have : (4 : Int32).toInt = 4 := (by decide)
        have q1172 := hq1166; rw [Int32.lt_iff_toInt_lt] at q1172
        omega
      refine k_baloadS X12 hx hZ e12 Vw12 hj1158 (hb hby at_77) (pc' := 78) rfl (fun v1173 hv1173 => ?_)
      refine k_sipush X12 hx (hb hby at_78) (pc' := 81) rfl (z := (255 : Int32)) rfl ?_
      refine k_iand X12 hx (hb hby at_81) (pc' := 82) rfl (fun v1174 hv1174 => ?_)
      refine k_istore X12 hx (hb hby at_82) (Ls' := #[.val (.int i0), .val (.int i1), .val (.int i2), .val (.int i3), .val (.int i4), .val (.int i5), .val (.ref b1), .val (.int (1 : Int32)), .val (.int (0 : Int32)), .val (.int v1150), .val (.int v1174), .unset]) rfl (pc' := 84) rfl ?_
      refine k_goto X12 hx (hb hby at_84) (pc' := 97) (by decide) ?_
      exact key1151 v1174
    ·
     refine k_iconst X12 hx (hb hby at_57) (pc' := 58) rfl (z := (-1 : Int32)) rfl ?_
     refine k_istore X12 hx (hb hby at_58) (Ls' := #[.val (.int i0), .val (.int i1), .val (.int i2), .val (.int i3), .val (.int i4), .val (.int i5), .val (.ref b1), .val (.int (1 : Int32)), .val (.int (0 : Int32)), .val (.int v1150), .val (.int (-1 : Int32)), .unset]) rfl (pc' := 60) rfl ?_
     refine k_goto X12 hx (hb hby at_60) (pc' := 97) (by decide) ?_
     exact key1151 (-1 : Int32)
   intro v1175
   refine k_iload X12 hx (hb hby at_97) rfl (pc' := 99) rfl ?_
   refine k_iconst X12 hx (hb hby at_99) (pc' := 100) rfl (z := (-1 : Int32)) rfl ?_
   refine k_icmp_ne X12 hx (hb hby at_100) (pn := 103) rfl (py := 109) (by decide) (fun hc1177 => ?_) (fun hc1177 => ?_)
   ·
    refine k_aload X12 hx (hb hby at_109) rfl rfl (pc' := 111) rfl ?_
    refine k_iconst X12 hx (hb hby at_111) (pc' := 112) rfl (z := (0 : Int32)) rfl ?_
    refine k_iload X12 hx (hb hby at_112) rfl (pc' := 114) rfl ?_
    refine k_iload X12 hx (hb hby at_114) rfl (pc' := 116) rfl ?_
    refine k_iload X12 hx (hb hby at_116) rfl (pc' := 118) rfl ?_
    refine k_callS X12 hx hZ hown (hw _ (List.mem_of_getElem? (i := 2) rfl)) (hw _ (List.mem_of_getElem? (i := 3) rfl)) (hw _ (List.mem_of_getElem? (i := 4) rfl)) (hw _ (List.mem_of_getElem? (i := 5) rfl)) (by decide) (rm1_113 l Z a0 hw [] b1 (1 : Int32) (0 : Int32) v1175 k1 v2 v5 v8 v11 h12 n0 Z12 Vw12) (by decide) (by decide) e12 (by rw [hml]; rfl) (argsL := [(.ref b1), (.int (0 : Int32)), (.int (1 : Int32)), (.int (0 : Int32)), (.int v1175)]) (rest := []) (lenOf pd_0 rfl) rfl (W := 0) (Nat.le_refl _) rfl (hb hby at_118) (by decide) (by decide) (pc' := 121) rfl (fun T1178 L1178 r1178 X1178 q1178 => ?_)
    obtain ⟨N1178, e1178, q1178⟩ := q1178
    have N1178' := Fr.app N12 N1178
    rcases q1178 with ⟨hc1179, rfl⟩ | ⟨hc1180, hc1181, rfl⟩ | ⟨v1182, h1183, hc1184, hc1185, hc1186, rfl⟩ | ⟨v1187, h1188, hc1189, hc1190, hc1191, rfl⟩
    ·
     show KEnds p e below s _ _ _ T1178 (mkF m 121 #[.val (.int i0), .val (.int i1), .val (.int i2), .val (.int i3), .val (.int i4), .val (.int i5), .val (.ref b1), .val (.int (1 : Int32)), .val (.int (0 : Int32)), .val (.int v1150), .val (.int v1175), .unset] [(.int (0 : Int32))])
     refine k_if_eq X1178 hx (hb hby at_121) (pn := 124) rfl (py := 130) (by decide) (fun _ => ?_) (fun hc => absurd (by decide) hc)
     refine k_aload X1178 hx (hb hby at_130) rfl rfl (pc' := 132) rfl ?_
     refine k_iconst X1178 hx (hb hby at_132) (pc' := 133) rfl (z := (1 : Int32)) rfl ?_
     refine k_iload X1178 hx (hb hby at_133) rfl (pc' := 135) rfl ?_
     refine k_iload X1178 hx (hb hby at_135) rfl (pc' := 137) rfl ?_
     refine k_iload X1178 hx (hb hby at_137) rfl (pc' := 139) rfl ?_
     refine k_callS X1178 hx hZ hown (hw _ (List.mem_of_getElem? (i := 2) rfl)) (hw _ (List.mem_of_getElem? (i := 3) rfl)) (hw _ (List.mem_of_getElem? (i := 4) rfl)) (hw _ (List.mem_of_getElem? (i := 5) rfl)) (by decide) (rm1_132 l Z a0 hw [] b1 (1 : Int32) (0 : Int32) v1175 k1 v2 v5 v8 v11 h12 n0 Z12 Vw12) (by decide) (by decide) e1178 (by rw [hml]; rfl) (argsL := [(.ref b1), (.int (1 : Int32)), (.int (1 : Int32)), (.int (0 : Int32)), (.int v1175)]) (rest := []) (lenOf pd_0 rfl) rfl (W := 0) (Nat.le_refl _) rfl (hb hby at_139) (by decide) (by decide) (pc' := 142) rfl (fun T1192 L1192 r1192 X1192 q1192 => ?_)
     obtain ⟨N1192, e1192, q1192⟩ := q1192
     have N1192' := Fr.app N1178' N1192
     rcases q1192 with ⟨hc1193, rfl⟩ | ⟨hc1194, hc1195, rfl⟩ | ⟨v1196, h1197, hc1198, hc1199, hc1200, rfl⟩ | ⟨v1201, h1202, hc1203, hc1204, hc1205, rfl⟩
     ·
      show KEnds p e below s _ _ _ T1192 (mkF m 142 #[.val (.int i0), .val (.int i1), .val (.int i2), .val (.int i3), .val (.int i4), .val (.int i5), .val (.ref b1), .val (.int (1 : Int32)), .val (.int (0 : Int32)), .val (.int v1150), .val (.int v1175), .unset] [(.int (0 : Int32))])
      exact absurd hc1193 (by decide)
     ·
      show KEnds p e below s _ _ _ T1192 (mkF m 142 #[.val (.int i0), .val (.int i1), .val (.int i2), .val (.int i3), .val (.int i4), .val (.int i5), .val (.ref b1), .val (.int (1 : Int32)), .val (.int (0 : Int32)), .val (.int v1150), .val (.int v1175), .unset] [(.int (0 : Int32))])
      refine k_if_eq X1192 hx (hb hby at_142) (pn := 145) rfl (py := 151) (by decide) (fun _ => ?_) (fun hc => absurd (by decide) hc)
      refine k_aload X1192 hx (hb hby at_151) rfl rfl (pc' := 153) rfl ?_
      refine k_iconst X1192 hx (hb hby at_153) (pc' := 154) rfl (z := (2 : Int32)) rfl ?_
      refine k_iload X1192 hx (hb hby at_154) rfl (pc' := 156) rfl ?_
      refine k_iload X1192 hx (hb hby at_156) rfl (pc' := 158) rfl ?_
      refine k_iload X1192 hx (hb hby at_158) rfl (pc' := 160) rfl ?_
      refine k_callS X1192 hx hZ hown (hw _ (List.mem_of_getElem? (i := 2) rfl)) (hw _ (List.mem_of_getElem? (i := 3) rfl)) (hw _ (List.mem_of_getElem? (i := 4) rfl)) (hw _ (List.mem_of_getElem? (i := 5) rfl)) (by decide) (rm1_151 l Z a0 hw [] b1 (1 : Int32) (0 : Int32) v1175 k1 v2 v5 v8 v11 h12 n0 Z12 Vw12) (by decide) (by decide) e1192 (by rw [hml]; rfl) (argsL := [(.ref b1), (.int (2 : Int32)), (.int (1 : Int32)), (.int (0 : Int32)), (.int v1175)]) (rest := []) (lenOf pd_0 rfl) rfl (W := 0) (Nat.le_refl _) rfl (hb hby at_160) (by decide) (by decide) (pc' := 163) rfl (fun T1206 L1206 r1206 X1206 q1206 => ?_)
      obtain ⟨N1206, e1206, q1206⟩ := q1206
      have N1206' := Fr.app N1192' N1206
      rcases q1206 with ⟨hc1207, rfl⟩ | ⟨hc1208, hc1209, rfl⟩ | ⟨v1210, h1211, hc1212, hc1213, hc1214, rfl⟩ | ⟨v1215, h1216, hc1217, hc1218, hc1219, rfl⟩
      ·
       show KEnds p e below s _ _ _ T1206 (mkF m 163 #[.val (.int i0), .val (.int i1), .val (.int i2), .val (.int i3), .val (.int i4), .val (.int i5), .val (.ref b1), .val (.int (1 : Int32)), .val (.int (0 : Int32)), .val (.int v1150), .val (.int v1175), .unset] [(.int (0 : Int32))])
       exact absurd hc1207 (by decide)
      ·
       show KEnds p e below s _ _ _ T1206 (mkF m 163 #[.val (.int i0), .val (.int i1), .val (.int i2), .val (.int i3), .val (.int i4), .val (.int i5), .val (.ref b1), .val (.int (1 : Int32)), .val (.int (0 : Int32)), .val (.int v1150), .val (.int v1175), .unset] [(.int (0 : Int32))])
       refine k_if_eq X1206 hx (hb hby at_163) (pn := 166) rfl (py := 172) (by decide) (fun _ => ?_) (fun hc => absurd (by decide) hc)
       refine k_aload X1206 hx (hb hby at_172) rfl rfl (pc' := 174) rfl ?_
       refine k_iconst X1206 hx (hb hby at_174) (pc' := 175) rfl (z := (3 : Int32)) rfl ?_
       refine k_iload X1206 hx (hb hby at_175) rfl (pc' := 177) rfl ?_
       refine k_iload X1206 hx (hb hby at_177) rfl (pc' := 179) rfl ?_
       refine k_iload X1206 hx (hb hby at_179) rfl (pc' := 181) rfl ?_
       refine k_callS X1206 hx hZ hown (hw _ (List.mem_of_getElem? (i := 2) rfl)) (hw _ (List.mem_of_getElem? (i := 3) rfl)) (hw _ (List.mem_of_getElem? (i := 4) rfl)) (hw _ (List.mem_of_getElem? (i := 5) rfl)) (by decide) (rm1_170 l Z a0 hw [] b1 (1 : Int32) (0 : Int32) v1175 k1 v2 v5 v8 v11 h12 n0 Z12 Vw12) (by decide) (by decide) e1206 (by rw [hml]; rfl) (argsL := [(.ref b1), (.int (3 : Int32)), (.int (1 : Int32)), (.int (0 : Int32)), (.int v1175)]) (rest := []) (lenOf pd_0 rfl) rfl (W := 0) (Nat.le_refl _) rfl (hb hby at_181) (by decide) (by decide) (pc' := 184) rfl (fun T1220 L1220 r1220 X1220 q1220 => ?_)
       obtain ⟨N1220, e1220, q1220⟩ := q1220
       have N1220' := Fr.app N1206' N1220
       rcases q1220 with ⟨hc1221, rfl⟩ | ⟨hc1222, hc1223, rfl⟩ | ⟨v1224, h1225, hc1226, hc1227, hc1228, rfl⟩ | ⟨v1229, h1230, hc1231, hc1232, hc1233, rfl⟩
       ·
        show KEnds p e below s _ _ _ T1220 (mkF m 184 #[.val (.int i0), .val (.int i1), .val (.int i2), .val (.int i3), .val (.int i4), .val (.int i5), .val (.ref b1), .val (.int (1 : Int32)), .val (.int (0 : Int32)), .val (.int v1150), .val (.int v1175), .unset] [(.int (0 : Int32))])
        exact absurd hc1221 (by decide)
       ·
        show KEnds p e below s _ _ _ T1220 (mkF m 184 #[.val (.int i0), .val (.int i1), .val (.int i2), .val (.int i3), .val (.int i4), .val (.int i5), .val (.ref b1), .val (.int (1 : Int32)), .val (.int (0 : Int32)), .val (.int v1150), .val (.int v1175), .unset] [(.int (0 : Int32))])
        refine k_if_eq X1220 hx (hb hby at_184) (pn := 187) rfl (py := 193) (by decide) (fun _ => ?_) (fun hc => absurd (by decide) hc)
        refine k_iconst X1220 hx (hb hby at_193) (pc' := 194) rfl (z := (-1 : Int32)) rfl ?_
        refine k_istore X1220 hx (hb hby at_194) (Ls' := #[.val (.int i0), .val (.int i1), .val (.int i2), .val (.int i3), .val (.int i4), .val (.int i5), .val (.ref b1), .val (.int (1 : Int32)), .val (.int (0 : Int32)), .val (.int v1150), .val (.int v1175), .val (.int (-1 : Int32))]) rfl (pc' := 196) rfl ?_
        refine k_aload X1220 hx (hb hby at_196) rfl rfl (pc' := 198) rfl ?_
        refine k_iload X1220 hx (hb hby at_198) rfl (pc' := 200) rfl ?_
        refine k_iload X1220 hx (hb hby at_200) rfl (pc' := 202) rfl ?_
        refine k_iload X1220 hx (hb hby at_202) rfl (pc' := 204) rfl ?_
        refine k_callS X1220 hx hZ hown (hw _ (List.mem_of_getElem? (i := 6) rfl)) (hw _ (List.mem_of_getElem? (i := 7) rfl)) (hw _ (List.mem_of_getElem? (i := 8) rfl)) (hw _ (List.mem_of_getElem? (i := 9) rfl)) (by decide) (rm2_1234 l Z a0 hw [] b1 v1175 k1 v2 v5 v8 v11 h12 n0 Z12 Vw12) (by decide) (by decide) e1220 (by rw [hml]; rfl) (argsL := [(.ref b1), (.int (1 : Int32)), (.int (0 : Int32)), (.int v1175)]) (rest := []) (lenOf pd_1 rfl) rfl (W := 0) (Nat.le_refl _) rfl (hb hby at_204) (by decide) (by decide) (pc' := 207) rfl (fun T1236 L1236 r1236 X1236 q1236 => ?_)
        obtain ⟨N1236, e1236, q1236⟩ := q1236
        have N1236' := Fr.app N1220' N1236
        rcases q1236 with ⟨hc1237, rfl⟩ | ⟨hc1238, rfl⟩
        ·
         show KEnds p e below s _ _ _ T1236 (mkF m 207 #[.val (.int i0), .val (.int i1), .val (.int i2), .val (.int i3), .val (.int i4), .val (.int i5), .val (.ref b1), .val (.int (1 : Int32)), .val (.int (0 : Int32)), .val (.int v1150), .val (.int v1175), .val (.int (-1 : Int32))] [(.int (-1 : Int32))])
         refine k_iload X1236 hx (hb hby at_207) rfl (pc' := 209) rfl ?_
         refine k_icmp_ne X1236 hx (hb hby at_209) (pn := 212) rfl (py := 216) (by decide) (fun hc => absurd (by decide) hc) (fun _ => ?_)
         refine k_iconst X1236 hx (hb hby at_212) (pc' := 213) rfl (z := (1 : Int32)) rfl ?_
         refine k_goto X1236 hx (hb hby at_213) (pc' := 217) (by decide) ?_
         exact k_retN X1236 hx (t := .boolean) Bd.returns (by simp) (hb hby at_217) hlk (by decide) (by decide) (z' := (1 : Int32)) rfl ⟨rfl, N1236'⟩
        ·
         show KEnds p e below s _ _ _ T1236 (mkF m 207 #[.val (.int i0), .val (.int i1), .val (.int i2), .val (.int i3), .val (.int i4), .val (.int i5), .val (.ref b1), .val (.int (1 : Int32)), .val (.int (0 : Int32)), .val (.int v1150), .val (.int v1175), .val (.int (-1 : Int32))] [(.int (-1 : Int32))])
         exact absurd hc1238 hc1177
       ·
        show KEnds p e below s _ _ _ T1220 (mkF m 184 #[.val (.int i0), .val (.int i1), .val (.int i2), .val (.int i3), .val (.int i4), .val (.int i5), .val (.ref b1), .val (.int (1 : Int32)), .val (.int (0 : Int32)), .val (.int v1150), .val (.int v1175), .unset] [(.int (0 : Int32))])
        exact absurd hc1227 (by decide)
       ·
        show KEnds p e below s _ _ _ T1220 (mkF m 184 #[.val (.int i0), .val (.int i1), .val (.int i2), .val (.int i3), .val (.int i4), .val (.int i5), .val (.ref b1), .val (.int (1 : Int32)), .val (.int (0 : Int32)), .val (.int v1150), .val (.int v1175), .unset] [(.int (1 : Int32))])
        exact absurd hc1232 (by decide)
      ·
       show KEnds p e below s _ _ _ T1206 (mkF m 163 #[.val (.int i0), .val (.int i1), .val (.int i2), .val (.int i3), .val (.int i4), .val (.int i5), .val (.ref b1), .val (.int (1 : Int32)), .val (.int (0 : Int32)), .val (.int v1150), .val (.int v1175), .unset] [(.int (0 : Int32))])
       exact absurd hc1213 (by decide)
      ·
       show KEnds p e below s _ _ _ T1206 (mkF m 163 #[.val (.int i0), .val (.int i1), .val (.int i2), .val (.int i3), .val (.int i4), .val (.int i5), .val (.ref b1), .val (.int (1 : Int32)), .val (.int (0 : Int32)), .val (.int v1150), .val (.int v1175), .unset] [(.int (1 : Int32))])
       exact absurd hc1218 (by decide)
     ·
      show KEnds p e below s _ _ _ T1192 (mkF m 142 #[.val (.int i0), .val (.int i1), .val (.int i2), .val (.int i3), .val (.int i4), .val (.int i5), .val (.ref b1), .val (.int (1 : Int32)), .val (.int (0 : Int32)), .val (.int v1150), .val (.int v1175), .unset] [(.int (0 : Int32))])
      exact absurd hc1199 (by decide)
     ·
      show KEnds p e below s _ _ _ T1192 (mkF m 142 #[.val (.int i0), .val (.int i1), .val (.int i2), .val (.int i3), .val (.int i4), .val (.int i5), .val (.ref b1), .val (.int (1 : Int32)), .val (.int (0 : Int32)), .val (.int v1150), .val (.int v1175), .unset] [(.int (1 : Int32))])
      exact absurd hc1204 (by decide)
    ·
     show KEnds p e below s _ _ _ T1178 (mkF m 121 #[.val (.int i0), .val (.int i1), .val (.int i2), .val (.int i3), .val (.int i4), .val (.int i5), .val (.ref b1), .val (.int (1 : Int32)), .val (.int (0 : Int32)), .val (.int v1150), .val (.int v1175), .unset] [(.int (0 : Int32))])
     exact absurd (by decide) hc1180
    ·
     show KEnds p e below s _ _ _ T1178 (mkF m 121 #[.val (.int i0), .val (.int i1), .val (.int i2), .val (.int i3), .val (.int i4), .val (.int i5), .val (.ref b1), .val (.int (1 : Int32)), .val (.int (0 : Int32)), .val (.int v1150), .val (.int v1175), .unset] [(.int (0 : Int32))])
     exact absurd (by decide) hc1184
    ·
     show KEnds p e below s _ _ _ T1178 (mkF m 121 #[.val (.int i0), .val (.int i1), .val (.int i2), .val (.int i3), .val (.int i4), .val (.int i5), .val (.ref b1), .val (.int (1 : Int32)), .val (.int (0 : Int32)), .val (.int v1150), .val (.int v1175), .unset] [(.int (1 : Int32))])
     exact absurd (by decide) hc1189
   ·
    refine k_iconst X12 hx (hb hby at_103) (pc' := 104) rfl (z := (-1 : Int32)) rfl ?_
    refine k_istore X12 hx (hb hby at_104) (Ls' := #[.val (.int i0), .val (.int i1), .val (.int i2), .val (.int i3), .val (.int i4), .val (.int i5), .val (.ref b1), .val (.int (1 : Int32)), .val (.int (0 : Int32)), .val (.int v1150), .val (.int v1175), .val (.int (-1 : Int32))]) rfl (pc' := 106) rfl ?_
    refine k_goto X12 hx (hb hby at_106) (pc' := 196) (by decide) ?_
    refine k_aload X12 hx (hb hby at_196) rfl rfl (pc' := 198) rfl ?_
    refine k_iload X12 hx (hb hby at_198) rfl (pc' := 200) rfl ?_
    refine k_iload X12 hx (hb hby at_200) rfl (pc' := 202) rfl ?_
    refine k_iload X12 hx (hb hby at_202) rfl (pc' := 204) rfl ?_
    refine k_callS X12 hx hZ hown (hw _ (List.mem_of_getElem? (i := 6) rfl)) (hw _ (List.mem_of_getElem? (i := 7) rfl)) (hw _ (List.mem_of_getElem? (i := 8) rfl)) (hw _ (List.mem_of_getElem? (i := 9) rfl)) (by decide) (rm2_1234 l Z a0 hw [] b1 v1175 k1 v2 v5 v8 v11 h12 n0 Z12 Vw12) (by decide) (by decide) e12 (by rw [hml]; rfl) (argsL := [(.ref b1), (.int (1 : Int32)), (.int (0 : Int32)), (.int v1175)]) (rest := []) (lenOf pd_1 rfl) rfl (W := 0) (Nat.le_refl _) rfl (hb hby at_204) (by decide) (by decide) (pc' := 207) rfl (fun T1239 L1239 r1239 X1239 q1239 => ?_)
    obtain ⟨N1239, e1239, q1239⟩ := q1239
    have N1239' := Fr.app N12 N1239
    rcases q1239 with ⟨hc1240, rfl⟩ | ⟨hc1241, rfl⟩
    ·
     show KEnds p e below s _ _ _ T1239 (mkF m 207 #[.val (.int i0), .val (.int i1), .val (.int i2), .val (.int i3), .val (.int i4), .val (.int i5), .val (.ref b1), .val (.int (1 : Int32)), .val (.int (0 : Int32)), .val (.int v1150), .val (.int v1175), .val (.int (-1 : Int32))] [(.int (-1 : Int32))])
     exact absurd hc1177 hc1240
    ·
     show KEnds p e below s _ _ _ T1239 (mkF m 207 #[.val (.int i0), .val (.int i1), .val (.int i2), .val (.int i3), .val (.int i4), .val (.int i5), .val (.ref b1), .val (.int (1 : Int32)), .val (.int (0 : Int32)), .val (.int v1150), .val (.int v1175), .val (.int (-1 : Int32))] [(.int (-1 : Int32))])
     refine k_iload X1239 hx (hb hby at_207) rfl (pc' := 209) rfl ?_
     refine k_icmp_ne X1239 hx (hb hby at_209) (pn := 212) rfl (py := 216) (by decide) (fun hc => absurd (by decide) hc) (fun _ => ?_)
     refine k_iconst X1239 hx (hb hby at_212) (pc' := 213) rfl (z := (1 : Int32)) rfl ?_
     refine k_goto X1239 hx (hb hby at_213) (pc' := 217) (by decide) ?_
     exact k_retN X1239 hx (t := .boolean) Bd.returns (by simp) (hb hby at_217) hlk (by decide) (by decide) (z' := (1 : Int32)) rfl ⟨rfl, N1239'⟩
  ·
   show KEnds p e below s _ _ _ T12 (mkF m 44 #[.val (.int i0), .val (.int i1), .val (.int i2), .val (.int i3), .val (.int i4), .val (.int i5), .val (.ref b1), .val (.int (1 : Int32)), .unset, .unset, .unset, .unset] [(.int (1 : Int32))])
   refine k_istore X12 hx (hb hby at_44) (Ls' := #[.val (.int i0), .val (.int i1), .val (.int i2), .val (.int i3), .val (.int i4), .val (.int i5), .val (.ref b1), .val (.int (1 : Int32)), .val (.int (1 : Int32)), .unset, .unset, .unset]) rfl (pc' := 46) rfl ?_
   refine k_iload X12 hx (hb hby at_46) rfl (pc' := 48) rfl ?_
   refine k_iconst X12 hx (hb hby at_48) (pc' := 49) rfl (z := (3 : Int32)) rfl ?_
   refine k_iand X12 hx (hb hby at_49) (pc' := 50) rfl (fun v1243 hv1243 => ?_)
   refine k_istore X12 hx (hb hby at_50) (Ls' := #[.val (.int i0), .val (.int i1), .val (.int i2), .val (.int i3), .val (.int i4), .val (.int i5), .val (.ref b1), .val (.int (1 : Int32)), .val (.int (1 : Int32)), .val (.int v1243), .unset, .unset]) rfl (pc' := 52) rfl ?_
   suffices key1244 : ∀ (v1268 : Int32), KEnds p e below s 16 128 (Q0 n0) T12 (mkF m 97 #[.val (.int i0), .val (.int i1), .val (.int i2), .val (.int i3), .val (.int i4), .val (.int i5), .val (.ref b1), .val (.int (1 : Int32)), .val (.int (1 : Int32)), .val (.int v1243), .val (.int v1268), .unset] []) by
    refine k_iload X12 hx (hb hby at_52) rfl (pc' := 54) rfl ?_
    refine k_if_ne X12 hx (hb hby at_54) (pn := 57) rfl (py := 63) (by decide) (fun hc1245 => ?_) (fun hc1245 => ?_)
    ·
     refine k_iload X12 hx (hb hby at_63) rfl (pc' := 65) rfl ?_
     refine k_iconst X12 hx (hb hby at_65) (pc' := 66) rfl (z := (1 : Int32)) rfl ?_
     refine k_icmp_ne X12 hx (hb hby at_66) (pn := 69) rfl (py := 87) (by decide) (fun hc1246 => ?_) (fun hc1246 => ?_)
     ·
      refine k_iload X12 hx (hb hby at_87) rfl (pc' := 89) rfl ?_
      refine k_iconst X12 hx (hb hby at_89) (pc' := 90) rfl (z := (2 : Int32)) rfl ?_
      refine k_iushr X12 hx (hb hby at_90) (pc' := 91) rfl (fun v1247 hv1247 => ?_)
      refine k_sipush X12 hx (hb hby at_91) (pc' := 94) rfl (z := (255 : Int32)) rfl ?_
      refine k_iand X12 hx (hb hby at_94) (pc' := 95) rfl (fun v1248 hv1248 => ?_)
      refine k_istore X12 hx (hb hby at_95) (Ls' := #[.val (.int i0), .val (.int i1), .val (.int i2), .val (.int i3), .val (.int i4), .val (.int i5), .val (.ref b1), .val (.int (1 : Int32)), .val (.int (1 : Int32)), .val (.int v1243), .val (.int v1248), .unset]) rfl (pc' := 97) rfl ?_
      exact key1244 v1248
     ·
      refine k_aload X12 hx (hb hby at_69) rfl rfl (pc' := 71) rfl ?_
      refine k_iload X12 hx (hb hby at_71) rfl (pc' := 73) rfl ?_
      refine k_iconst X12 hx (hb hby at_73) (pc' := 74) rfl (z := (2 : Int32)) rfl ?_
      refine k_iushr X12 hx (hb hby at_74) (pc' := 75) rfl (fun v1249 hv1249 => ?_)
      refine k_iconst X12 hx (hb hby at_75) (pc' := 76) rfl (z := (3 : Int32)) rfl ?_
      refine k_iand X12 hx (hb hby at_76) (pc' := 77) rfl (fun v1250 hv1250 => ?_)
      have hj1251 : ¬ v1250 < 0 ∧ v1250 < (4 : Int32) := by
       refine ⟨?_, ?_⟩
       ·
        intro hq1252
        have := rng32 v1243
        have := rng32 i5
        have : (3 : Int32).toInt = 3 := (by decide)
        have q1253 : v1243.toInt = i5.toInt % 4 := (by rw [hv1243]; exact c_mask _ _ 2 (by decide) (by decide))
        have : (0 : Int32).toInt = 0 := (by decide)
        have q1254 : ¬ v1243.toInt = (0 : Int32).toInt := fun q => hc1245 (Int32.toInt_inj.mp q)
        have : (1 : Int32).toInt = 1 := (by decide)
        have q1255 := congrArg Int32.toInt hc1246
        have := rng32 v1250
        have := rng32 v1249
        have : (2 : Int32).toInt = 2 := (by decide)
        have q1256 : v1249.toInt = (i5.toInt % 4294967296) / 4 := (by rw [hv1249]; exact c_iushr _ _ 2 (by decide) (by decide))
        have q1257 : v1250.toInt = v1249.toInt % 4 := (by rw [hv1250]; exact c_mask _ _ 2 (by decide) (by decide))
        have q1258 := hq1252; rw [Int32.lt_iff_toInt_lt] at q1258
        omega
       ·
        refine Classical.byContradiction (fun hq1259 => ?_)
        have := rng32 v1243
        have := rng32 i5
        have : (3 : Int32).toInt = 3 := (by decide)
        have q1260 : v1243.toInt = i5.toInt % 4 := (by rw [hv1243]; exact c_mask _ _ 2 (by decide) (by decide))
        have : (0 : Int32).toInt = 0 := (by decide)
        have q1261 : ¬ v1243.toInt = (0 : Int32).toInt := fun q => hc1245 (Int32.toInt_inj.mp q)
        have : (1 : Int32).toInt = 1 := (by decide)
        have q1262 := congrArg Int32.toInt hc1246
        have := rng32 v1250
        have := rng32 v1249
        have : (2 : Int32).toInt = 2 := (by decide)
        have q1263 : v1249.toInt = (i5.toInt % 4294967296) / 4 := (by rw [hv1249]; exact c_iushr _ _ 2 (by decide) (by decide))
        have q1264 : v1250.toInt = v1249.toInt % 4 := (by rw [hv1250]; exact c_mask _ _ 2 (by decide) (by decide))
        have : (4 : Int32).toInt = 4 := (by decide)
        have q1265 := hq1259; rw [Int32.lt_iff_toInt_lt] at q1265
        omega
      refine k_baloadS X12 hx hZ e12 Vw12 hj1251 (hb hby at_77) (pc' := 78) rfl (fun v1266 hv1266 => ?_)
      refine k_sipush X12 hx (hb hby at_78) (pc' := 81) rfl (z := (255 : Int32)) rfl ?_
      refine k_iand X12 hx (hb hby at_81) (pc' := 82) rfl (fun v1267 hv1267 => ?_)
      refine k_istore X12 hx (hb hby at_82) (Ls' := #[.val (.int i0), .val (.int i1), .val (.int i2), .val (.int i3), .val (.int i4), .val (.int i5), .val (.ref b1), .val (.int (1 : Int32)), .val (.int (1 : Int32)), .val (.int v1243), .val (.int v1267), .unset]) rfl (pc' := 84) rfl ?_
      refine k_goto X12 hx (hb hby at_84) (pc' := 97) (by decide) ?_
      exact key1244 v1267
    ·
     refine k_iconst X12 hx (hb hby at_57) (pc' := 58) rfl (z := (-1 : Int32)) rfl ?_
     refine k_istore X12 hx (hb hby at_58) (Ls' := #[.val (.int i0), .val (.int i1), .val (.int i2), .val (.int i3), .val (.int i4), .val (.int i5), .val (.ref b1), .val (.int (1 : Int32)), .val (.int (1 : Int32)), .val (.int v1243), .val (.int (-1 : Int32)), .unset]) rfl (pc' := 60) rfl ?_
     refine k_goto X12 hx (hb hby at_60) (pc' := 97) (by decide) ?_
     exact key1244 (-1 : Int32)
   intro v1268
   refine k_iload X12 hx (hb hby at_97) rfl (pc' := 99) rfl ?_
   refine k_iconst X12 hx (hb hby at_99) (pc' := 100) rfl (z := (-1 : Int32)) rfl ?_
   refine k_icmp_ne X12 hx (hb hby at_100) (pn := 103) rfl (py := 109) (by decide) (fun hc1270 => ?_) (fun hc1270 => ?_)
   ·
    refine k_aload X12 hx (hb hby at_109) rfl rfl (pc' := 111) rfl ?_
    refine k_iconst X12 hx (hb hby at_111) (pc' := 112) rfl (z := (0 : Int32)) rfl ?_
    refine k_iload X12 hx (hb hby at_112) rfl (pc' := 114) rfl ?_
    refine k_iload X12 hx (hb hby at_114) rfl (pc' := 116) rfl ?_
    refine k_iload X12 hx (hb hby at_116) rfl (pc' := 118) rfl ?_
    refine k_callS X12 hx hZ hown (hw _ (List.mem_of_getElem? (i := 2) rfl)) (hw _ (List.mem_of_getElem? (i := 3) rfl)) (hw _ (List.mem_of_getElem? (i := 4) rfl)) (hw _ (List.mem_of_getElem? (i := 5) rfl)) (by decide) (rm1_56 l Z a0 hw [] b1 (1 : Int32) v1268 k1 v2 v5 v8 v11 h12 n0 Z12 Vw12) (by decide) (by decide) e12 (by rw [hml]; rfl) (argsL := [(.ref b1), (.int (0 : Int32)), (.int (1 : Int32)), (.int (1 : Int32)), (.int v1268)]) (rest := []) (lenOf pd_0 rfl) rfl (W := 0) (Nat.le_refl _) rfl (hb hby at_118) (by decide) (by decide) (pc' := 121) rfl (fun T1271 L1271 r1271 X1271 q1271 => ?_)
    obtain ⟨N1271, e1271, q1271⟩ := q1271
    have N1271' := Fr.app N12 N1271
    rcases q1271 with ⟨hc1272, rfl⟩ | ⟨hc1273, rfl⟩
    ·
     show KEnds p e below s _ _ _ T1271 (mkF m 121 #[.val (.int i0), .val (.int i1), .val (.int i2), .val (.int i3), .val (.int i4), .val (.int i5), .val (.ref b1), .val (.int (1 : Int32)), .val (.int (1 : Int32)), .val (.int v1243), .val (.int v1268), .unset] [(.int (0 : Int32))])
     refine k_if_eq X1271 hx (hb hby at_121) (pn := 124) rfl (py := 130) (by decide) (fun _ => ?_) (fun hc => absurd (by decide) hc)
     refine k_aload X1271 hx (hb hby at_130) rfl rfl (pc' := 132) rfl ?_
     refine k_iconst X1271 hx (hb hby at_132) (pc' := 133) rfl (z := (1 : Int32)) rfl ?_
     refine k_iload X1271 hx (hb hby at_133) rfl (pc' := 135) rfl ?_
     refine k_iload X1271 hx (hb hby at_135) rfl (pc' := 137) rfl ?_
     refine k_iload X1271 hx (hb hby at_137) rfl (pc' := 139) rfl ?_
     refine k_callS X1271 hx hZ hown (hw _ (List.mem_of_getElem? (i := 2) rfl)) (hw _ (List.mem_of_getElem? (i := 3) rfl)) (hw _ (List.mem_of_getElem? (i := 4) rfl)) (hw _ (List.mem_of_getElem? (i := 5) rfl)) (by decide) (rm1_61 l Z a0 hw [] b1 (1 : Int32) v1268 k1 v2 v5 v8 v11 h12 n0 Z12 Vw12) (by decide) (by decide) e1271 (by rw [hml]; rfl) (argsL := [(.ref b1), (.int (1 : Int32)), (.int (1 : Int32)), (.int (1 : Int32)), (.int v1268)]) (rest := []) (lenOf pd_0 rfl) rfl (W := 0) (Nat.le_refl _) rfl (hb hby at_139) (by decide) (by decide) (pc' := 142) rfl (fun T1274 L1274 r1274 X1274 q1274 => ?_)
     obtain ⟨N1274, e1274, q1274⟩ := q1274
     have N1274' := Fr.app N1271' N1274
     rcases q1274 with ⟨hc1275, rfl⟩ | ⟨hc1276, rfl⟩
     ·
      show KEnds p e below s _ _ _ T1274 (mkF m 142 #[.val (.int i0), .val (.int i1), .val (.int i2), .val (.int i3), .val (.int i4), .val (.int i5), .val (.ref b1), .val (.int (1 : Int32)), .val (.int (1 : Int32)), .val (.int v1243), .val (.int v1268), .unset] [(.int (0 : Int32))])
      exact absurd hc1275 (by decide)
     ·
      show KEnds p e below s _ _ _ T1274 (mkF m 142 #[.val (.int i0), .val (.int i1), .val (.int i2), .val (.int i3), .val (.int i4), .val (.int i5), .val (.ref b1), .val (.int (1 : Int32)), .val (.int (1 : Int32)), .val (.int v1243), .val (.int v1268), .unset] [(.int (0 : Int32))])
      refine k_if_eq X1274 hx (hb hby at_142) (pn := 145) rfl (py := 151) (by decide) (fun _ => ?_) (fun hc => absurd (by decide) hc)
      refine k_aload X1274 hx (hb hby at_151) rfl rfl (pc' := 153) rfl ?_
      refine k_iconst X1274 hx (hb hby at_153) (pc' := 154) rfl (z := (2 : Int32)) rfl ?_
      refine k_iload X1274 hx (hb hby at_154) rfl (pc' := 156) rfl ?_
      refine k_iload X1274 hx (hb hby at_156) rfl (pc' := 158) rfl ?_
      refine k_iload X1274 hx (hb hby at_158) rfl (pc' := 160) rfl ?_
      refine k_callS X1274 hx hZ hown (hw _ (List.mem_of_getElem? (i := 2) rfl)) (hw _ (List.mem_of_getElem? (i := 3) rfl)) (hw _ (List.mem_of_getElem? (i := 4) rfl)) (hw _ (List.mem_of_getElem? (i := 5) rfl)) (by decide) (rm1_66 l Z a0 hw [] b1 (1 : Int32) v1268 k1 v2 v5 v8 v11 h12 n0 Z12 Vw12) (by decide) (by decide) e1274 (by rw [hml]; rfl) (argsL := [(.ref b1), (.int (2 : Int32)), (.int (1 : Int32)), (.int (1 : Int32)), (.int v1268)]) (rest := []) (lenOf pd_0 rfl) rfl (W := 0) (Nat.le_refl _) rfl (hb hby at_160) (by decide) (by decide) (pc' := 163) rfl (fun T1277 L1277 r1277 X1277 q1277 => ?_)
      obtain ⟨N1277, e1277, q1277⟩ := q1277
      have N1277' := Fr.app N1274' N1277
      rcases q1277 with ⟨hc1278, rfl⟩ | ⟨hc1279, rfl⟩
      ·
       show KEnds p e below s _ _ _ T1277 (mkF m 163 #[.val (.int i0), .val (.int i1), .val (.int i2), .val (.int i3), .val (.int i4), .val (.int i5), .val (.ref b1), .val (.int (1 : Int32)), .val (.int (1 : Int32)), .val (.int v1243), .val (.int v1268), .unset] [(.int (0 : Int32))])
       exact absurd hc1278 (by decide)
      ·
       show KEnds p e below s _ _ _ T1277 (mkF m 163 #[.val (.int i0), .val (.int i1), .val (.int i2), .val (.int i3), .val (.int i4), .val (.int i5), .val (.ref b1), .val (.int (1 : Int32)), .val (.int (1 : Int32)), .val (.int v1243), .val (.int v1268), .unset] [(.int (0 : Int32))])
       refine k_if_eq X1277 hx (hb hby at_163) (pn := 166) rfl (py := 172) (by decide) (fun _ => ?_) (fun hc => absurd (by decide) hc)
       refine k_aload X1277 hx (hb hby at_172) rfl rfl (pc' := 174) rfl ?_
       refine k_iconst X1277 hx (hb hby at_174) (pc' := 175) rfl (z := (3 : Int32)) rfl ?_
       refine k_iload X1277 hx (hb hby at_175) rfl (pc' := 177) rfl ?_
       refine k_iload X1277 hx (hb hby at_177) rfl (pc' := 179) rfl ?_
       refine k_iload X1277 hx (hb hby at_179) rfl (pc' := 181) rfl ?_
       refine k_callS X1277 hx hZ hown (hw _ (List.mem_of_getElem? (i := 2) rfl)) (hw _ (List.mem_of_getElem? (i := 3) rfl)) (hw _ (List.mem_of_getElem? (i := 4) rfl)) (hw _ (List.mem_of_getElem? (i := 5) rfl)) (by decide) (rm1_71 l Z a0 hw [] b1 (1 : Int32) v1268 k1 v2 v5 v8 v11 h12 n0 Z12 Vw12) (by decide) (by decide) e1277 (by rw [hml]; rfl) (argsL := [(.ref b1), (.int (3 : Int32)), (.int (1 : Int32)), (.int (1 : Int32)), (.int v1268)]) (rest := []) (lenOf pd_0 rfl) rfl (W := 0) (Nat.le_refl _) rfl (hb hby at_181) (by decide) (by decide) (pc' := 184) rfl (fun T1280 L1280 r1280 X1280 q1280 => ?_)
       obtain ⟨N1280, e1280, q1280⟩ := q1280
       have N1280' := Fr.app N1277' N1280
       rcases q1280 with ⟨hc1281, rfl⟩ | ⟨hc1282, rfl⟩
       ·
        show KEnds p e below s _ _ _ T1280 (mkF m 184 #[.val (.int i0), .val (.int i1), .val (.int i2), .val (.int i3), .val (.int i4), .val (.int i5), .val (.ref b1), .val (.int (1 : Int32)), .val (.int (1 : Int32)), .val (.int v1243), .val (.int v1268), .unset] [(.int (0 : Int32))])
        exact absurd hc1281 (by decide)
       ·
        show KEnds p e below s _ _ _ T1280 (mkF m 184 #[.val (.int i0), .val (.int i1), .val (.int i2), .val (.int i3), .val (.int i4), .val (.int i5), .val (.ref b1), .val (.int (1 : Int32)), .val (.int (1 : Int32)), .val (.int v1243), .val (.int v1268), .unset] [(.int (0 : Int32))])
        refine k_if_eq X1280 hx (hb hby at_184) (pn := 187) rfl (py := 193) (by decide) (fun _ => ?_) (fun hc => absurd (by decide) hc)
        refine k_iconst X1280 hx (hb hby at_193) (pc' := 194) rfl (z := (-1 : Int32)) rfl ?_
        refine k_istore X1280 hx (hb hby at_194) (Ls' := #[.val (.int i0), .val (.int i1), .val (.int i2), .val (.int i3), .val (.int i4), .val (.int i5), .val (.ref b1), .val (.int (1 : Int32)), .val (.int (1 : Int32)), .val (.int v1243), .val (.int v1268), .val (.int (-1 : Int32))]) rfl (pc' := 196) rfl ?_
        refine k_aload X1280 hx (hb hby at_196) rfl rfl (pc' := 198) rfl ?_
        refine k_iload X1280 hx (hb hby at_198) rfl (pc' := 200) rfl ?_
        refine k_iload X1280 hx (hb hby at_200) rfl (pc' := 202) rfl ?_
        refine k_iload X1280 hx (hb hby at_202) rfl (pc' := 204) rfl ?_
        refine k_callS X1280 hx hZ hown (hw _ (List.mem_of_getElem? (i := 6) rfl)) (hw _ (List.mem_of_getElem? (i := 7) rfl)) (hw _ (List.mem_of_getElem? (i := 8) rfl)) (hw _ (List.mem_of_getElem? (i := 9) rfl)) (by decide) (rm2_1283 l Z a0 hw [] b1 v1268 k1 v2 v5 v8 v11 h12 n0 Z12 Vw12) (by decide) (by decide) e1280 (by rw [hml]; rfl) (argsL := [(.ref b1), (.int (1 : Int32)), (.int (1 : Int32)), (.int v1268)]) (rest := []) (lenOf pd_1 rfl) rfl (W := 0) (Nat.le_refl _) rfl (hb hby at_204) (by decide) (by decide) (pc' := 207) rfl (fun T1285 L1285 r1285 X1285 q1285 => ?_)
        obtain ⟨N1285, e1285, q1285⟩ := q1285
        have N1285' := Fr.app N1280' N1285
        rcases q1285 with ⟨hc1286, rfl⟩ | ⟨hc1287, rfl⟩
        ·
         show KEnds p e below s _ _ _ T1285 (mkF m 207 #[.val (.int i0), .val (.int i1), .val (.int i2), .val (.int i3), .val (.int i4), .val (.int i5), .val (.ref b1), .val (.int (1 : Int32)), .val (.int (1 : Int32)), .val (.int v1243), .val (.int v1268), .val (.int (-1 : Int32))] [(.int (-1 : Int32))])
         refine k_iload X1285 hx (hb hby at_207) rfl (pc' := 209) rfl ?_
         refine k_icmp_ne X1285 hx (hb hby at_209) (pn := 212) rfl (py := 216) (by decide) (fun hc => absurd (by decide) hc) (fun _ => ?_)
         refine k_iconst X1285 hx (hb hby at_212) (pc' := 213) rfl (z := (1 : Int32)) rfl ?_
         refine k_goto X1285 hx (hb hby at_213) (pc' := 217) (by decide) ?_
         exact k_retN X1285 hx (t := .boolean) Bd.returns (by simp) (hb hby at_217) hlk (by decide) (by decide) (z' := (1 : Int32)) rfl ⟨rfl, N1285'⟩
        ·
         show KEnds p e below s _ _ _ T1285 (mkF m 207 #[.val (.int i0), .val (.int i1), .val (.int i2), .val (.int i3), .val (.int i4), .val (.int i5), .val (.ref b1), .val (.int (1 : Int32)), .val (.int (1 : Int32)), .val (.int v1243), .val (.int v1268), .val (.int (-1 : Int32))] [(.int (-1 : Int32))])
         exact absurd hc1287 hc1270
    ·
     show KEnds p e below s _ _ _ T1271 (mkF m 121 #[.val (.int i0), .val (.int i1), .val (.int i2), .val (.int i3), .val (.int i4), .val (.int i5), .val (.ref b1), .val (.int (1 : Int32)), .val (.int (1 : Int32)), .val (.int v1243), .val (.int v1268), .unset] [(.int (0 : Int32))])
     exact absurd (by decide) hc1273
   ·
    refine k_iconst X12 hx (hb hby at_103) (pc' := 104) rfl (z := (-1 : Int32)) rfl ?_
    refine k_istore X12 hx (hb hby at_104) (Ls' := #[.val (.int i0), .val (.int i1), .val (.int i2), .val (.int i3), .val (.int i4), .val (.int i5), .val (.ref b1), .val (.int (1 : Int32)), .val (.int (1 : Int32)), .val (.int v1243), .val (.int v1268), .val (.int (-1 : Int32))]) rfl (pc' := 106) rfl ?_
    refine k_goto X12 hx (hb hby at_106) (pc' := 196) (by decide) ?_
    refine k_aload X12 hx (hb hby at_196) rfl rfl (pc' := 198) rfl ?_
    refine k_iload X12 hx (hb hby at_198) rfl (pc' := 200) rfl ?_
    refine k_iload X12 hx (hb hby at_200) rfl (pc' := 202) rfl ?_
    refine k_iload X12 hx (hb hby at_202) rfl (pc' := 204) rfl ?_
    refine k_callS X12 hx hZ hown (hw _ (List.mem_of_getElem? (i := 6) rfl)) (hw _ (List.mem_of_getElem? (i := 7) rfl)) (hw _ (List.mem_of_getElem? (i := 8) rfl)) (hw _ (List.mem_of_getElem? (i := 9) rfl)) (by decide) (rm2_1283 l Z a0 hw [] b1 v1268 k1 v2 v5 v8 v11 h12 n0 Z12 Vw12) (by decide) (by decide) e12 (by rw [hml]; rfl) (argsL := [(.ref b1), (.int (1 : Int32)), (.int (1 : Int32)), (.int v1268)]) (rest := []) (lenOf pd_1 rfl) rfl (W := 0) (Nat.le_refl _) rfl (hb hby at_204) (by decide) (by decide) (pc' := 207) rfl (fun T1288 L1288 r1288 X1288 q1288 => ?_)
    obtain ⟨N1288, e1288, q1288⟩ := q1288
    have N1288' := Fr.app N12 N1288
    rcases q1288 with ⟨hc1289, rfl⟩ | ⟨hc1290, rfl⟩
    ·
     show KEnds p e below s _ _ _ T1288 (mkF m 207 #[.val (.int i0), .val (.int i1), .val (.int i2), .val (.int i3), .val (.int i4), .val (.int i5), .val (.ref b1), .val (.int (1 : Int32)), .val (.int (1 : Int32)), .val (.int v1243), .val (.int v1268), .val (.int (-1 : Int32))] [(.int (-1 : Int32))])
     exact absurd hc1270 hc1289
    ·
     show KEnds p e below s _ _ _ T1288 (mkF m 207 #[.val (.int i0), .val (.int i1), .val (.int i2), .val (.int i3), .val (.int i4), .val (.int i5), .val (.ref b1), .val (.int (1 : Int32)), .val (.int (1 : Int32)), .val (.int v1243), .val (.int v1268), .val (.int (-1 : Int32))] [(.int (-1 : Int32))])
     refine k_iload X1288 hx (hb hby at_207) rfl (pc' := 209) rfl ?_
     refine k_icmp_ne X1288 hx (hb hby at_209) (pn := 212) rfl (py := 216) (by decide) (fun hc => absurd (by decide) hc) (fun _ => ?_)
     refine k_iconst X1288 hx (hb hby at_212) (pc' := 213) rfl (z := (1 : Int32)) rfl ?_
     refine k_goto X1288 hx (hb hby at_213) (pc' := 217) (by decide) ?_
     exact k_retN X1288 hx (t := .boolean) Bd.returns (by simp) (hb hby at_217) hlk (by decide) (by decide) (z' := (1 : Int32)) rfl ⟨rfl, N1288'⟩
  ·
   show KEnds p e below s _ _ _ T12 (mkF m 44 #[.val (.int i0), .val (.int i1), .val (.int i2), .val (.int i3), .val (.int i4), .val (.int i5), .val (.ref b1), .val (.int (1 : Int32)), .unset, .unset, .unset, .unset] [(.int (2 : Int32))])
   refine k_istore X12 hx (hb hby at_44) (Ls' := #[.val (.int i0), .val (.int i1), .val (.int i2), .val (.int i3), .val (.int i4), .val (.int i5), .val (.ref b1), .val (.int (1 : Int32)), .val (.int (2 : Int32)), .unset, .unset, .unset]) rfl (pc' := 46) rfl ?_
   refine k_iload X12 hx (hb hby at_46) rfl (pc' := 48) rfl ?_
   refine k_iconst X12 hx (hb hby at_48) (pc' := 49) rfl (z := (3 : Int32)) rfl ?_
   refine k_iand X12 hx (hb hby at_49) (pc' := 50) rfl (fun v1292 hv1292 => ?_)
   refine k_istore X12 hx (hb hby at_50) (Ls' := #[.val (.int i0), .val (.int i1), .val (.int i2), .val (.int i3), .val (.int i4), .val (.int i5), .val (.ref b1), .val (.int (1 : Int32)), .val (.int (2 : Int32)), .val (.int v1292), .unset, .unset]) rfl (pc' := 52) rfl ?_
   suffices key1293 : ∀ (v1317 : Int32), KEnds p e below s 16 128 (Q0 n0) T12 (mkF m 97 #[.val (.int i0), .val (.int i1), .val (.int i2), .val (.int i3), .val (.int i4), .val (.int i5), .val (.ref b1), .val (.int (1 : Int32)), .val (.int (2 : Int32)), .val (.int v1292), .val (.int v1317), .unset] []) by
    refine k_iload X12 hx (hb hby at_52) rfl (pc' := 54) rfl ?_
    refine k_if_ne X12 hx (hb hby at_54) (pn := 57) rfl (py := 63) (by decide) (fun hc1294 => ?_) (fun hc1294 => ?_)
    ·
     refine k_iload X12 hx (hb hby at_63) rfl (pc' := 65) rfl ?_
     refine k_iconst X12 hx (hb hby at_65) (pc' := 66) rfl (z := (1 : Int32)) rfl ?_
     refine k_icmp_ne X12 hx (hb hby at_66) (pn := 69) rfl (py := 87) (by decide) (fun hc1295 => ?_) (fun hc1295 => ?_)
     ·
      refine k_iload X12 hx (hb hby at_87) rfl (pc' := 89) rfl ?_
      refine k_iconst X12 hx (hb hby at_89) (pc' := 90) rfl (z := (2 : Int32)) rfl ?_
      refine k_iushr X12 hx (hb hby at_90) (pc' := 91) rfl (fun v1296 hv1296 => ?_)
      refine k_sipush X12 hx (hb hby at_91) (pc' := 94) rfl (z := (255 : Int32)) rfl ?_
      refine k_iand X12 hx (hb hby at_94) (pc' := 95) rfl (fun v1297 hv1297 => ?_)
      refine k_istore X12 hx (hb hby at_95) (Ls' := #[.val (.int i0), .val (.int i1), .val (.int i2), .val (.int i3), .val (.int i4), .val (.int i5), .val (.ref b1), .val (.int (1 : Int32)), .val (.int (2 : Int32)), .val (.int v1292), .val (.int v1297), .unset]) rfl (pc' := 97) rfl ?_
      exact key1293 v1297
     ·
      refine k_aload X12 hx (hb hby at_69) rfl rfl (pc' := 71) rfl ?_
      refine k_iload X12 hx (hb hby at_71) rfl (pc' := 73) rfl ?_
      refine k_iconst X12 hx (hb hby at_73) (pc' := 74) rfl (z := (2 : Int32)) rfl ?_
      refine k_iushr X12 hx (hb hby at_74) (pc' := 75) rfl (fun v1298 hv1298 => ?_)
      refine k_iconst X12 hx (hb hby at_75) (pc' := 76) rfl (z := (3 : Int32)) rfl ?_
      refine k_iand X12 hx (hb hby at_76) (pc' := 77) rfl (fun v1299 hv1299 => ?_)
      have hj1300 : ¬ v1299 < 0 ∧ v1299 < (4 : Int32) := by
       refine ⟨?_, ?_⟩
       ·
        intro hq1301
        have := rng32 v1292
        have := rng32 i5
        have : (3 : Int32).toInt = 3 := (by decide)
        have q1302 : v1292.toInt = i5.toInt % 4 := (by rw [hv1292]; exact c_mask _ _ 2 (by decide) (by decide))
        have : (0 : Int32).toInt = 0 := (by decide)
        have q1303 : ¬ v1292.toInt = (0 : Int32).toInt := fun q => hc1294 (Int32.toInt_inj.mp q)
        have : (1 : Int32).toInt = 1 := (by decide)
        have q1304 := congrArg Int32.toInt hc1295
        have := rng32 v1299
        have := rng32 v1298
        have : (2 : Int32).toInt = 2 := (by decide)
        have q1305 : v1298.toInt = (i5.toInt % 4294967296) / 4 := (by rw [hv1298]; exact c_iushr _ _ 2 (by decide) (by decide))
        have q1306 : v1299.toInt = v1298.toInt % 4 := (by rw [hv1299]; exact c_mask _ _ 2 (by decide) (by decide))
        have q1307 := hq1301; rw [Int32.lt_iff_toInt_lt] at q1307
        omega
       ·
        refine Classical.byContradiction (fun hq1308 => ?_)
        have := rng32 v1292
        have := rng32 i5
        have : (3 : Int32).toInt = 3 := (by decide)
        have q1309 : v1292.toInt = i5.toInt % 4 := (by rw [hv1292]; exact c_mask _ _ 2 (by decide) (by decide))
        have : (0 : Int32).toInt = 0 := (by decide)
        have q1310 : ¬ v1292.toInt = (0 : Int32).toInt := fun q => hc1294 (Int32.toInt_inj.mp q)
        have : (1 : Int32).toInt = 1 := (by decide)
        have q1311 := congrArg Int32.toInt hc1295
        have := rng32 v1299
        have := rng32 v1298
        have : (2 : Int32).toInt = 2 := (by decide)
        have q1312 : v1298.toInt = (i5.toInt % 4294967296) / 4 := (by rw [hv1298]; exact c_iushr _ _ 2 (by decide) (by decide))
        have q1313 : v1299.toInt = v1298.toInt % 4 := (by rw [hv1299]; exact c_mask _ _ 2 (by decide) (by decide))
        have : (4 : Int32).toInt = 4 := (by decide)
        have q1314 := hq1308; rw [Int32.lt_iff_toInt_lt] at q1314
        omega
      refine k_baloadS X12 hx hZ e12 Vw12 hj1300 (hb hby at_77) (pc' := 78) rfl (fun v1315 hv1315 => ?_)
      refine k_sipush X12 hx (hb hby at_78) (pc' := 81) rfl (z := (255 : Int32)) rfl ?_
      refine k_iand X12 hx (hb hby at_81) (pc' := 82) rfl (fun v1316 hv1316 => ?_)
      refine k_istore X12 hx (hb hby at_82) (Ls' := #[.val (.int i0), .val (.int i1), .val (.int i2), .val (.int i3), .val (.int i4), .val (.int i5), .val (.ref b1), .val (.int (1 : Int32)), .val (.int (2 : Int32)), .val (.int v1292), .val (.int v1316), .unset]) rfl (pc' := 84) rfl ?_
      refine k_goto X12 hx (hb hby at_84) (pc' := 97) (by decide) ?_
      exact key1293 v1316
    ·
     refine k_iconst X12 hx (hb hby at_57) (pc' := 58) rfl (z := (-1 : Int32)) rfl ?_
     refine k_istore X12 hx (hb hby at_58) (Ls' := #[.val (.int i0), .val (.int i1), .val (.int i2), .val (.int i3), .val (.int i4), .val (.int i5), .val (.ref b1), .val (.int (1 : Int32)), .val (.int (2 : Int32)), .val (.int v1292), .val (.int (-1 : Int32)), .unset]) rfl (pc' := 60) rfl ?_
     refine k_goto X12 hx (hb hby at_60) (pc' := 97) (by decide) ?_
     exact key1293 (-1 : Int32)
   intro v1317
   refine k_iload X12 hx (hb hby at_97) rfl (pc' := 99) rfl ?_
   refine k_iconst X12 hx (hb hby at_99) (pc' := 100) rfl (z := (-1 : Int32)) rfl ?_
   refine k_icmp_ne X12 hx (hb hby at_100) (pn := 103) rfl (py := 109) (by decide) (fun hc1319 => ?_) (fun hc1319 => ?_)
   ·
    refine k_aload X12 hx (hb hby at_109) rfl rfl (pc' := 111) rfl ?_
    refine k_iconst X12 hx (hb hby at_111) (pc' := 112) rfl (z := (0 : Int32)) rfl ?_
    refine k_iload X12 hx (hb hby at_112) rfl (pc' := 114) rfl ?_
    refine k_iload X12 hx (hb hby at_114) rfl (pc' := 116) rfl ?_
    refine k_iload X12 hx (hb hby at_116) rfl (pc' := 118) rfl ?_
    refine k_callS X12 hx hZ hown (hw _ (List.mem_of_getElem? (i := 2) rfl)) (hw _ (List.mem_of_getElem? (i := 3) rfl)) (hw _ (List.mem_of_getElem? (i := 4) rfl)) (hw _ (List.mem_of_getElem? (i := 5) rfl)) (by decide) (rm1_113 l Z a0 hw [] b1 (1 : Int32) (2 : Int32) v1317 k1 v2 v5 v8 v11 h12 n0 Z12 Vw12) (by decide) (by decide) e12 (by rw [hml]; rfl) (argsL := [(.ref b1), (.int (0 : Int32)), (.int (1 : Int32)), (.int (2 : Int32)), (.int v1317)]) (rest := []) (lenOf pd_0 rfl) rfl (W := 0) (Nat.le_refl _) rfl (hb hby at_118) (by decide) (by decide) (pc' := 121) rfl (fun T1320 L1320 r1320 X1320 q1320 => ?_)
    obtain ⟨N1320, e1320, q1320⟩ := q1320
    have N1320' := Fr.app N12 N1320
    rcases q1320 with ⟨hc1321, rfl⟩ | ⟨hc1322, hc1323, rfl⟩ | ⟨v1324, h1325, hc1326, hc1327, hc1328, rfl⟩ | ⟨v1329, h1330, hc1331, hc1332, hc1333, rfl⟩
    ·
     show KEnds p e below s _ _ _ T1320 (mkF m 121 #[.val (.int i0), .val (.int i1), .val (.int i2), .val (.int i3), .val (.int i4), .val (.int i5), .val (.ref b1), .val (.int (1 : Int32)), .val (.int (2 : Int32)), .val (.int v1292), .val (.int v1317), .unset] [(.int (0 : Int32))])
     refine k_if_eq X1320 hx (hb hby at_121) (pn := 124) rfl (py := 130) (by decide) (fun _ => ?_) (fun hc => absurd (by decide) hc)
     refine k_aload X1320 hx (hb hby at_130) rfl rfl (pc' := 132) rfl ?_
     refine k_iconst X1320 hx (hb hby at_132) (pc' := 133) rfl (z := (1 : Int32)) rfl ?_
     refine k_iload X1320 hx (hb hby at_133) rfl (pc' := 135) rfl ?_
     refine k_iload X1320 hx (hb hby at_135) rfl (pc' := 137) rfl ?_
     refine k_iload X1320 hx (hb hby at_137) rfl (pc' := 139) rfl ?_
     refine k_callS X1320 hx hZ hown (hw _ (List.mem_of_getElem? (i := 2) rfl)) (hw _ (List.mem_of_getElem? (i := 3) rfl)) (hw _ (List.mem_of_getElem? (i := 4) rfl)) (hw _ (List.mem_of_getElem? (i := 5) rfl)) (by decide) (rm1_132 l Z a0 hw [] b1 (1 : Int32) (2 : Int32) v1317 k1 v2 v5 v8 v11 h12 n0 Z12 Vw12) (by decide) (by decide) e1320 (by rw [hml]; rfl) (argsL := [(.ref b1), (.int (1 : Int32)), (.int (1 : Int32)), (.int (2 : Int32)), (.int v1317)]) (rest := []) (lenOf pd_0 rfl) rfl (W := 0) (Nat.le_refl _) rfl (hb hby at_139) (by decide) (by decide) (pc' := 142) rfl (fun T1334 L1334 r1334 X1334 q1334 => ?_)
     obtain ⟨N1334, e1334, q1334⟩ := q1334
     have N1334' := Fr.app N1320' N1334
     rcases q1334 with ⟨hc1335, rfl⟩ | ⟨hc1336, hc1337, rfl⟩ | ⟨v1338, h1339, hc1340, hc1341, hc1342, rfl⟩ | ⟨v1343, h1344, hc1345, hc1346, hc1347, rfl⟩
     ·
      show KEnds p e below s _ _ _ T1334 (mkF m 142 #[.val (.int i0), .val (.int i1), .val (.int i2), .val (.int i3), .val (.int i4), .val (.int i5), .val (.ref b1), .val (.int (1 : Int32)), .val (.int (2 : Int32)), .val (.int v1292), .val (.int v1317), .unset] [(.int (0 : Int32))])
      exact absurd hc1335 (by decide)
     ·
      show KEnds p e below s _ _ _ T1334 (mkF m 142 #[.val (.int i0), .val (.int i1), .val (.int i2), .val (.int i3), .val (.int i4), .val (.int i5), .val (.ref b1), .val (.int (1 : Int32)), .val (.int (2 : Int32)), .val (.int v1292), .val (.int v1317), .unset] [(.int (0 : Int32))])
      exact absurd (by decide) hc1337
     ·
      show KEnds p e below s _ _ _ T1334 (mkF m 142 #[.val (.int i0), .val (.int i1), .val (.int i2), .val (.int i3), .val (.int i4), .val (.int i5), .val (.ref b1), .val (.int (1 : Int32)), .val (.int (2 : Int32)), .val (.int v1292), .val (.int v1317), .unset] [(.int (0 : Int32))])
      refine k_if_eq X1334 hx (hb hby at_142) (pn := 145) rfl (py := 151) (by decide) (fun _ => ?_) (fun hc => absurd (by decide) hc)
      refine k_aload X1334 hx (hb hby at_151) rfl rfl (pc' := 153) rfl ?_
      refine k_iconst X1334 hx (hb hby at_153) (pc' := 154) rfl (z := (2 : Int32)) rfl ?_
      refine k_iload X1334 hx (hb hby at_154) rfl (pc' := 156) rfl ?_
      refine k_iload X1334 hx (hb hby at_156) rfl (pc' := 158) rfl ?_
      refine k_iload X1334 hx (hb hby at_158) rfl (pc' := 160) rfl ?_
      refine k_callS X1334 hx hZ hown (hw _ (List.mem_of_getElem? (i := 2) rfl)) (hw _ (List.mem_of_getElem? (i := 3) rfl)) (hw _ (List.mem_of_getElem? (i := 4) rfl)) (hw _ (List.mem_of_getElem? (i := 5) rfl)) (by decide) (rm1_151 l Z a0 hw [] b1 (1 : Int32) (2 : Int32) v1317 k1 v2 v5 v8 v11 h12 n0 Z12 Vw12) (by decide) (by decide) e1334 (by rw [hml]; rfl) (argsL := [(.ref b1), (.int (2 : Int32)), (.int (1 : Int32)), (.int (2 : Int32)), (.int v1317)]) (rest := []) (lenOf pd_0 rfl) rfl (W := 0) (Nat.le_refl _) rfl (hb hby at_160) (by decide) (by decide) (pc' := 163) rfl (fun T1348 L1348 r1348 X1348 q1348 => ?_)
      obtain ⟨N1348, e1348, q1348⟩ := q1348
      have N1348' := Fr.app N1334' N1348
      rcases q1348 with ⟨hc1349, rfl⟩ | ⟨hc1350, hc1351, rfl⟩ | ⟨v1352, h1353, hc1354, hc1355, hc1356, rfl⟩ | ⟨v1357, h1358, hc1359, hc1360, hc1361, rfl⟩
      ·
       show KEnds p e below s _ _ _ T1348 (mkF m 163 #[.val (.int i0), .val (.int i1), .val (.int i2), .val (.int i3), .val (.int i4), .val (.int i5), .val (.ref b1), .val (.int (1 : Int32)), .val (.int (2 : Int32)), .val (.int v1292), .val (.int v1317), .unset] [(.int (0 : Int32))])
       exact absurd hc1349 (by decide)
      ·
       show KEnds p e below s _ _ _ T1348 (mkF m 163 #[.val (.int i0), .val (.int i1), .val (.int i2), .val (.int i3), .val (.int i4), .val (.int i5), .val (.ref b1), .val (.int (1 : Int32)), .val (.int (2 : Int32)), .val (.int v1292), .val (.int v1317), .unset] [(.int (0 : Int32))])
       refine k_if_eq X1348 hx (hb hby at_163) (pn := 166) rfl (py := 172) (by decide) (fun _ => ?_) (fun hc => absurd (by decide) hc)
       refine k_aload X1348 hx (hb hby at_172) rfl rfl (pc' := 174) rfl ?_
       refine k_iconst X1348 hx (hb hby at_174) (pc' := 175) rfl (z := (3 : Int32)) rfl ?_
       refine k_iload X1348 hx (hb hby at_175) rfl (pc' := 177) rfl ?_
       refine k_iload X1348 hx (hb hby at_177) rfl (pc' := 179) rfl ?_
       refine k_iload X1348 hx (hb hby at_179) rfl (pc' := 181) rfl ?_
       refine k_callS X1348 hx hZ hown (hw _ (List.mem_of_getElem? (i := 2) rfl)) (hw _ (List.mem_of_getElem? (i := 3) rfl)) (hw _ (List.mem_of_getElem? (i := 4) rfl)) (hw _ (List.mem_of_getElem? (i := 5) rfl)) (by decide) (rm1_170 l Z a0 hw [] b1 (1 : Int32) (2 : Int32) v1317 k1 v2 v5 v8 v11 h12 n0 Z12 Vw12) (by decide) (by decide) e1348 (by rw [hml]; rfl) (argsL := [(.ref b1), (.int (3 : Int32)), (.int (1 : Int32)), (.int (2 : Int32)), (.int v1317)]) (rest := []) (lenOf pd_0 rfl) rfl (W := 0) (Nat.le_refl _) rfl (hb hby at_181) (by decide) (by decide) (pc' := 184) rfl (fun T1362 L1362 r1362 X1362 q1362 => ?_)
       obtain ⟨N1362, e1362, q1362⟩ := q1362
       have N1362' := Fr.app N1348' N1362
       rcases q1362 with ⟨hc1363, rfl⟩ | ⟨hc1364, hc1365, rfl⟩ | ⟨v1366, h1367, hc1368, hc1369, hc1370, rfl⟩ | ⟨v1371, h1372, hc1373, hc1374, hc1375, rfl⟩
       ·
        show KEnds p e below s _ _ _ T1362 (mkF m 184 #[.val (.int i0), .val (.int i1), .val (.int i2), .val (.int i3), .val (.int i4), .val (.int i5), .val (.ref b1), .val (.int (1 : Int32)), .val (.int (2 : Int32)), .val (.int v1292), .val (.int v1317), .unset] [(.int (0 : Int32))])
        exact absurd hc1363 (by decide)
       ·
        show KEnds p e below s _ _ _ T1362 (mkF m 184 #[.val (.int i0), .val (.int i1), .val (.int i2), .val (.int i3), .val (.int i4), .val (.int i5), .val (.ref b1), .val (.int (1 : Int32)), .val (.int (2 : Int32)), .val (.int v1292), .val (.int v1317), .unset] [(.int (0 : Int32))])
        refine k_if_eq X1362 hx (hb hby at_184) (pn := 187) rfl (py := 193) (by decide) (fun _ => ?_) (fun hc => absurd (by decide) hc)
        refine k_iconst X1362 hx (hb hby at_193) (pc' := 194) rfl (z := (-1 : Int32)) rfl ?_
        refine k_istore X1362 hx (hb hby at_194) (Ls' := #[.val (.int i0), .val (.int i1), .val (.int i2), .val (.int i3), .val (.int i4), .val (.int i5), .val (.ref b1), .val (.int (1 : Int32)), .val (.int (2 : Int32)), .val (.int v1292), .val (.int v1317), .val (.int (-1 : Int32))]) rfl (pc' := 196) rfl ?_
        refine k_aload X1362 hx (hb hby at_196) rfl rfl (pc' := 198) rfl ?_
        refine k_iload X1362 hx (hb hby at_198) rfl (pc' := 200) rfl ?_
        refine k_iload X1362 hx (hb hby at_200) rfl (pc' := 202) rfl ?_
        refine k_iload X1362 hx (hb hby at_202) rfl (pc' := 204) rfl ?_
        refine k_callS X1362 hx hZ hown (hw _ (List.mem_of_getElem? (i := 6) rfl)) (hw _ (List.mem_of_getElem? (i := 7) rfl)) (hw _ (List.mem_of_getElem? (i := 8) rfl)) (hw _ (List.mem_of_getElem? (i := 9) rfl)) (by decide) (rm2_1376 l Z a0 hw [] b1 v1317 k1 v2 v5 v8 v11 h12 n0 Z12 Vw12) (by decide) (by decide) e1362 (by rw [hml]; rfl) (argsL := [(.ref b1), (.int (1 : Int32)), (.int (2 : Int32)), (.int v1317)]) (rest := []) (lenOf pd_1 rfl) rfl (W := 0) (Nat.le_refl _) rfl (hb hby at_204) (by decide) (by decide) (pc' := 207) rfl (fun T1380 L1380 r1380 X1380 q1380 => ?_)
        obtain ⟨N1380, e1380, q1380⟩ := q1380
        have N1380' := Fr.app N1362' N1380
        rcases q1380 with ⟨v1381, h1382, hc1383, hc1384, rfl⟩ | ⟨v1385, h1386, hc1387, hc1388, rfl⟩ | ⟨hc1389, rfl⟩
        ·
         have hh1390 : v1338 = v1381 := h1339.trans h1382.symm
         subst hh1390
         show KEnds p e below s _ _ _ T1380 (mkF m 207 #[.val (.int i0), .val (.int i1), .val (.int i2), .val (.int i3), .val (.int i4), .val (.int i5), .val (.ref b1), .val (.int (1 : Int32)), .val (.int (2 : Int32)), .val (.int v1292), .val (.int v1317), .val (.int (-1 : Int32))] [(.int (-1 : Int32))])
         refine k_iload X1380 hx (hb hby at_207) rfl (pc' := 209) rfl ?_
         refine k_icmp_ne X1380 hx (hb hby at_209) (pn := 212) rfl (py := 216) (by decide) (fun hc => absurd (by decide) hc) (fun _ => ?_)
         refine k_iconst X1380 hx (hb hby at_212) (pc' := 213) rfl (z := (1 : Int32)) rfl ?_
         refine k_goto X1380 hx (hb hby at_213) (pc' := 217) (by decide) ?_
         exact k_retN X1380 hx (t := .boolean) Bd.returns (by simp) (hb hby at_217) hlk (by decide) (by decide) (z' := (1 : Int32)) rfl ⟨rfl, N1380'⟩
        ·
         have hh1391 : v1338 = v1385 := h1339.trans h1386.symm
         subst hh1391
         show KEnds p e below s _ _ _ T1380 (mkF m 207 #[.val (.int i0), .val (.int i1), .val (.int i2), .val (.int i3), .val (.int i4), .val (.int i5), .val (.ref b1), .val (.int (1 : Int32)), .val (.int (2 : Int32)), .val (.int v1292), .val (.int v1317), .val (.int (-1 : Int32))] [(.int (1 : Int32))])
         exact absurd hc1388 hc1342
        ·
         show KEnds p e below s _ _ _ T1380 (mkF m 207 #[.val (.int i0), .val (.int i1), .val (.int i2), .val (.int i3), .val (.int i4), .val (.int i5), .val (.ref b1), .val (.int (1 : Int32)), .val (.int (2 : Int32)), .val (.int v1292), .val (.int v1317), .val (.int (-1 : Int32))] [(.int (-1 : Int32))])
         exact absurd hc1389 hc1319
       ·
        show KEnds p e below s _ _ _ T1362 (mkF m 184 #[.val (.int i0), .val (.int i1), .val (.int i2), .val (.int i3), .val (.int i4), .val (.int i5), .val (.ref b1), .val (.int (1 : Int32)), .val (.int (2 : Int32)), .val (.int v1292), .val (.int v1317), .unset] [(.int (0 : Int32))])
        exact absurd hc1369 (by decide)
       ·
        show KEnds p e below s _ _ _ T1362 (mkF m 184 #[.val (.int i0), .val (.int i1), .val (.int i2), .val (.int i3), .val (.int i4), .val (.int i5), .val (.ref b1), .val (.int (1 : Int32)), .val (.int (2 : Int32)), .val (.int v1292), .val (.int v1317), .unset] [(.int (1 : Int32))])
        exact absurd hc1374 (by decide)
      ·
       show KEnds p e below s _ _ _ T1348 (mkF m 163 #[.val (.int i0), .val (.int i1), .val (.int i2), .val (.int i3), .val (.int i4), .val (.int i5), .val (.ref b1), .val (.int (1 : Int32)), .val (.int (2 : Int32)), .val (.int v1292), .val (.int v1317), .unset] [(.int (0 : Int32))])
       exact absurd hc1355 (by decide)
      ·
       show KEnds p e below s _ _ _ T1348 (mkF m 163 #[.val (.int i0), .val (.int i1), .val (.int i2), .val (.int i3), .val (.int i4), .val (.int i5), .val (.ref b1), .val (.int (1 : Int32)), .val (.int (2 : Int32)), .val (.int v1292), .val (.int v1317), .unset] [(.int (1 : Int32))])
       exact absurd hc1360 (by decide)
     ·
      show KEnds p e below s _ _ _ T1334 (mkF m 142 #[.val (.int i0), .val (.int i1), .val (.int i2), .val (.int i3), .val (.int i4), .val (.int i5), .val (.ref b1), .val (.int (1 : Int32)), .val (.int (2 : Int32)), .val (.int v1292), .val (.int v1317), .unset] [(.int (1 : Int32))])
      refine k_if_eq X1334 hx (hb hby at_142) (pn := 145) rfl (py := 151) (by decide) (fun hc => absurd hc (by decide)) (fun _ => ?_)
      refine k_iconst X1334 hx (hb hby at_145) (pc' := 146) rfl (z := (1 : Int32)) rfl ?_
      refine k_istore X1334 hx (hb hby at_146) (Ls' := #[.val (.int i0), .val (.int i1), .val (.int i2), .val (.int i3), .val (.int i4), .val (.int i5), .val (.ref b1), .val (.int (1 : Int32)), .val (.int (2 : Int32)), .val (.int v1292), .val (.int v1317), .val (.int (1 : Int32))]) rfl (pc' := 148) rfl ?_
      refine k_goto X1334 hx (hb hby at_148) (pc' := 196) (by decide) ?_
      refine k_aload X1334 hx (hb hby at_196) rfl rfl (pc' := 198) rfl ?_
      refine k_iload X1334 hx (hb hby at_198) rfl (pc' := 200) rfl ?_
      refine k_iload X1334 hx (hb hby at_200) rfl (pc' := 202) rfl ?_
      refine k_iload X1334 hx (hb hby at_202) rfl (pc' := 204) rfl ?_
      refine k_callS X1334 hx hZ hown (hw _ (List.mem_of_getElem? (i := 6) rfl)) (hw _ (List.mem_of_getElem? (i := 7) rfl)) (hw _ (List.mem_of_getElem? (i := 8) rfl)) (hw _ (List.mem_of_getElem? (i := 9) rfl)) (by decide) (rm2_1376 l Z a0 hw [] b1 v1317 k1 v2 v5 v8 v11 h12 n0 Z12 Vw12) (by decide) (by decide) e1334 (by rw [hml]; rfl) (argsL := [(.ref b1), (.int (1 : Int32)), (.int (2 : Int32)), (.int v1317)]) (rest := []) (lenOf pd_1 rfl) rfl (W := 0) (Nat.le_refl _) rfl (hb hby at_204) (by decide) (by decide) (pc' := 207) rfl (fun T1392 L1392 r1392 X1392 q1392 => ?_)
      obtain ⟨N1392, e1392, q1392⟩ := q1392
      have N1392' := Fr.app N1334' N1392
      rcases q1392 with ⟨v1393, h1394, hc1395, hc1396, rfl⟩ | ⟨v1397, h1398, hc1399, hc1400, rfl⟩ | ⟨hc1401, rfl⟩
      ·
       have hh1402 : v1343 = v1393 := h1344.trans h1394.symm
       subst hh1402
       show KEnds p e below s _ _ _ T1392 (mkF m 207 #[.val (.int i0), .val (.int i1), .val (.int i2), .val (.int i3), .val (.int i4), .val (.int i5), .val (.ref b1), .val (.int (1 : Int32)), .val (.int (2 : Int32)), .val (.int v1292), .val (.int v1317), .val (.int (1 : Int32))] [(.int (-1 : Int32))])
       exact absurd hc1347 hc1396
      ·
       have hh1403 : v1343 = v1397 := h1344.trans h1398.symm
       subst hh1403
       show KEnds p e below s _ _ _ T1392 (mkF m 207 #[.val (.int i0), .val (.int i1), .val (.int i2), .val (.int i3), .val (.int i4), .val (.int i5), .val (.ref b1), .val (.int (1 : Int32)), .val (.int (2 : Int32)), .val (.int v1292), .val (.int v1317), .val (.int (1 : Int32))] [(.int (1 : Int32))])
       refine k_iload X1392 hx (hb hby at_207) rfl (pc' := 209) rfl ?_
       refine k_icmp_ne X1392 hx (hb hby at_209) (pn := 212) rfl (py := 216) (by decide) (fun hc => absurd (by decide) hc) (fun _ => ?_)
       refine k_iconst X1392 hx (hb hby at_212) (pc' := 213) rfl (z := (1 : Int32)) rfl ?_
       refine k_goto X1392 hx (hb hby at_213) (pc' := 217) (by decide) ?_
       exact k_retN X1392 hx (t := .boolean) Bd.returns (by simp) (hb hby at_217) hlk (by decide) (by decide) (z' := (1 : Int32)) rfl ⟨rfl, N1392'⟩
      ·
       show KEnds p e below s _ _ _ T1392 (mkF m 207 #[.val (.int i0), .val (.int i1), .val (.int i2), .val (.int i3), .val (.int i4), .val (.int i5), .val (.ref b1), .val (.int (1 : Int32)), .val (.int (2 : Int32)), .val (.int v1292), .val (.int v1317), .val (.int (1 : Int32))] [(.int (-1 : Int32))])
       exact absurd hc1401 hc1319
    ·
     show KEnds p e below s _ _ _ T1320 (mkF m 121 #[.val (.int i0), .val (.int i1), .val (.int i2), .val (.int i3), .val (.int i4), .val (.int i5), .val (.ref b1), .val (.int (1 : Int32)), .val (.int (2 : Int32)), .val (.int v1292), .val (.int v1317), .unset] [(.int (0 : Int32))])
     exact absurd (by decide) hc1322
    ·
     show KEnds p e below s _ _ _ T1320 (mkF m 121 #[.val (.int i0), .val (.int i1), .val (.int i2), .val (.int i3), .val (.int i4), .val (.int i5), .val (.ref b1), .val (.int (1 : Int32)), .val (.int (2 : Int32)), .val (.int v1292), .val (.int v1317), .unset] [(.int (0 : Int32))])
     exact absurd (by decide) hc1326
    ·
     show KEnds p e below s _ _ _ T1320 (mkF m 121 #[.val (.int i0), .val (.int i1), .val (.int i2), .val (.int i3), .val (.int i4), .val (.int i5), .val (.ref b1), .val (.int (1 : Int32)), .val (.int (2 : Int32)), .val (.int v1292), .val (.int v1317), .unset] [(.int (1 : Int32))])
     exact absurd (by decide) hc1331
   ·
    refine k_iconst X12 hx (hb hby at_103) (pc' := 104) rfl (z := (-1 : Int32)) rfl ?_
    refine k_istore X12 hx (hb hby at_104) (Ls' := #[.val (.int i0), .val (.int i1), .val (.int i2), .val (.int i3), .val (.int i4), .val (.int i5), .val (.ref b1), .val (.int (1 : Int32)), .val (.int (2 : Int32)), .val (.int v1292), .val (.int v1317), .val (.int (-1 : Int32))]) rfl (pc' := 106) rfl ?_
    refine k_goto X12 hx (hb hby at_106) (pc' := 196) (by decide) ?_
    refine k_aload X12 hx (hb hby at_196) rfl rfl (pc' := 198) rfl ?_
    refine k_iload X12 hx (hb hby at_198) rfl (pc' := 200) rfl ?_
    refine k_iload X12 hx (hb hby at_200) rfl (pc' := 202) rfl ?_
    refine k_iload X12 hx (hb hby at_202) rfl (pc' := 204) rfl ?_
    refine k_callS X12 hx hZ hown (hw _ (List.mem_of_getElem? (i := 6) rfl)) (hw _ (List.mem_of_getElem? (i := 7) rfl)) (hw _ (List.mem_of_getElem? (i := 8) rfl)) (hw _ (List.mem_of_getElem? (i := 9) rfl)) (by decide) (rm2_1376 l Z a0 hw [] b1 v1317 k1 v2 v5 v8 v11 h12 n0 Z12 Vw12) (by decide) (by decide) e12 (by rw [hml]; rfl) (argsL := [(.ref b1), (.int (1 : Int32)), (.int (2 : Int32)), (.int v1317)]) (rest := []) (lenOf pd_1 rfl) rfl (W := 0) (Nat.le_refl _) rfl (hb hby at_204) (by decide) (by decide) (pc' := 207) rfl (fun T1404 L1404 r1404 X1404 q1404 => ?_)
    obtain ⟨N1404, e1404, q1404⟩ := q1404
    have N1404' := Fr.app N12 N1404
    rcases q1404 with ⟨v1405, h1406, hc1407, hc1408, rfl⟩ | ⟨v1409, h1410, hc1411, hc1412, rfl⟩ | ⟨hc1413, rfl⟩
    ·
     show KEnds p e below s _ _ _ T1404 (mkF m 207 #[.val (.int i0), .val (.int i1), .val (.int i2), .val (.int i3), .val (.int i4), .val (.int i5), .val (.ref b1), .val (.int (1 : Int32)), .val (.int (2 : Int32)), .val (.int v1292), .val (.int v1317), .val (.int (-1 : Int32))] [(.int (-1 : Int32))])
     exact absurd hc1319 hc1407
    ·
     show KEnds p e below s _ _ _ T1404 (mkF m 207 #[.val (.int i0), .val (.int i1), .val (.int i2), .val (.int i3), .val (.int i4), .val (.int i5), .val (.ref b1), .val (.int (1 : Int32)), .val (.int (2 : Int32)), .val (.int v1292), .val (.int v1317), .val (.int (-1 : Int32))] [(.int (1 : Int32))])
     exact absurd hc1319 hc1411
    ·
     show KEnds p e below s _ _ _ T1404 (mkF m 207 #[.val (.int i0), .val (.int i1), .val (.int i2), .val (.int i3), .val (.int i4), .val (.int i5), .val (.ref b1), .val (.int (1 : Int32)), .val (.int (2 : Int32)), .val (.int v1292), .val (.int v1317), .val (.int (-1 : Int32))] [(.int (-1 : Int32))])
     refine k_iload X1404 hx (hb hby at_207) rfl (pc' := 209) rfl ?_
     refine k_icmp_ne X1404 hx (hb hby at_209) (pn := 212) rfl (py := 216) (by decide) (fun hc => absurd (by decide) hc) (fun _ => ?_)
     refine k_iconst X1404 hx (hb hby at_212) (pc' := 213) rfl (z := (1 : Int32)) rfl ?_
     refine k_goto X1404 hx (hb hby at_213) (pc' := 217) (by decide) ?_
     exact k_retN X1404 hx (t := .boolean) Bd.returns (by simp) (hb hby at_217) hlk (by decide) (by decide) (z' := (1 : Int32)) rfl ⟨rfl, N1404'⟩
  ·
   show KEnds p e below s _ _ _ T12 (mkF m 44 #[.val (.int i0), .val (.int i1), .val (.int i2), .val (.int i3), .val (.int i4), .val (.int i5), .val (.ref b1), .val (.int (1 : Int32)), .unset, .unset, .unset, .unset] [(.int (3 : Int32))])
   refine k_istore X12 hx (hb hby at_44) (Ls' := #[.val (.int i0), .val (.int i1), .val (.int i2), .val (.int i3), .val (.int i4), .val (.int i5), .val (.ref b1), .val (.int (1 : Int32)), .val (.int (3 : Int32)), .unset, .unset, .unset]) rfl (pc' := 46) rfl ?_
   refine k_iload X12 hx (hb hby at_46) rfl (pc' := 48) rfl ?_
   refine k_iconst X12 hx (hb hby at_48) (pc' := 49) rfl (z := (3 : Int32)) rfl ?_
   refine k_iand X12 hx (hb hby at_49) (pc' := 50) rfl (fun v1415 hv1415 => ?_)
   refine k_istore X12 hx (hb hby at_50) (Ls' := #[.val (.int i0), .val (.int i1), .val (.int i2), .val (.int i3), .val (.int i4), .val (.int i5), .val (.ref b1), .val (.int (1 : Int32)), .val (.int (3 : Int32)), .val (.int v1415), .unset, .unset]) rfl (pc' := 52) rfl ?_
   suffices key1416 : ∀ (v1440 : Int32), KEnds p e below s 16 128 (Q0 n0) T12 (mkF m 97 #[.val (.int i0), .val (.int i1), .val (.int i2), .val (.int i3), .val (.int i4), .val (.int i5), .val (.ref b1), .val (.int (1 : Int32)), .val (.int (3 : Int32)), .val (.int v1415), .val (.int v1440), .unset] []) by
    refine k_iload X12 hx (hb hby at_52) rfl (pc' := 54) rfl ?_
    refine k_if_ne X12 hx (hb hby at_54) (pn := 57) rfl (py := 63) (by decide) (fun hc1417 => ?_) (fun hc1417 => ?_)
    ·
     refine k_iload X12 hx (hb hby at_63) rfl (pc' := 65) rfl ?_
     refine k_iconst X12 hx (hb hby at_65) (pc' := 66) rfl (z := (1 : Int32)) rfl ?_
     refine k_icmp_ne X12 hx (hb hby at_66) (pn := 69) rfl (py := 87) (by decide) (fun hc1418 => ?_) (fun hc1418 => ?_)
     ·
      refine k_iload X12 hx (hb hby at_87) rfl (pc' := 89) rfl ?_
      refine k_iconst X12 hx (hb hby at_89) (pc' := 90) rfl (z := (2 : Int32)) rfl ?_
      refine k_iushr X12 hx (hb hby at_90) (pc' := 91) rfl (fun v1419 hv1419 => ?_)
      refine k_sipush X12 hx (hb hby at_91) (pc' := 94) rfl (z := (255 : Int32)) rfl ?_
      refine k_iand X12 hx (hb hby at_94) (pc' := 95) rfl (fun v1420 hv1420 => ?_)
      refine k_istore X12 hx (hb hby at_95) (Ls' := #[.val (.int i0), .val (.int i1), .val (.int i2), .val (.int i3), .val (.int i4), .val (.int i5), .val (.ref b1), .val (.int (1 : Int32)), .val (.int (3 : Int32)), .val (.int v1415), .val (.int v1420), .unset]) rfl (pc' := 97) rfl ?_
      exact key1416 v1420
     ·
      refine k_aload X12 hx (hb hby at_69) rfl rfl (pc' := 71) rfl ?_
      refine k_iload X12 hx (hb hby at_71) rfl (pc' := 73) rfl ?_
      refine k_iconst X12 hx (hb hby at_73) (pc' := 74) rfl (z := (2 : Int32)) rfl ?_
      refine k_iushr X12 hx (hb hby at_74) (pc' := 75) rfl (fun v1421 hv1421 => ?_)
      refine k_iconst X12 hx (hb hby at_75) (pc' := 76) rfl (z := (3 : Int32)) rfl ?_
      refine k_iand X12 hx (hb hby at_76) (pc' := 77) rfl (fun v1422 hv1422 => ?_)
      have hj1423 : ¬ v1422 < 0 ∧ v1422 < (4 : Int32) := by
       refine ⟨?_, ?_⟩
       ·
        intro hq1424
        have := rng32 v1415
        have := rng32 i5
        have : (3 : Int32).toInt = 3 := (by decide)
        have q1425 : v1415.toInt = i5.toInt % 4 := (by rw [hv1415]; exact c_mask _ _ 2 (by decide) (by decide))
        have : (0 : Int32).toInt = 0 := (by decide)
        have q1426 : ¬ v1415.toInt = (0 : Int32).toInt := fun q => hc1417 (Int32.toInt_inj.mp q)
        have : (1 : Int32).toInt = 1 := (by decide)
        have q1427 := congrArg Int32.toInt hc1418
        have := rng32 v1422
        have := rng32 v1421
        have : (2 : Int32).toInt = 2 := (by decide)
        have q1428 : v1421.toInt = (i5.toInt % 4294967296) / 4 := (by rw [hv1421]; exact c_iushr _ _ 2 (by decide) (by decide))
        have q1429 : v1422.toInt = v1421.toInt % 4 := (by rw [hv1422]; exact c_mask _ _ 2 (by decide) (by decide))
        have q1430 := hq1424; rw [Int32.lt_iff_toInt_lt] at q1430
        omega
       ·
        refine Classical.byContradiction (fun hq1431 => ?_)
        have := rng32 v1415
        have := rng32 i5
        have : (3 : Int32).toInt = 3 := (by decide)
        have q1432 : v1415.toInt = i5.toInt % 4 := (by rw [hv1415]; exact c_mask _ _ 2 (by decide) (by decide))
        have : (0 : Int32).toInt = 0 := (by decide)
        have q1433 : ¬ v1415.toInt = (0 : Int32).toInt := fun q => hc1417 (Int32.toInt_inj.mp q)
        have : (1 : Int32).toInt = 1 := (by decide)
        have q1434 := congrArg Int32.toInt hc1418
        have := rng32 v1422
        have := rng32 v1421
        have : (2 : Int32).toInt = 2 := (by decide)
        have q1435 : v1421.toInt = (i5.toInt % 4294967296) / 4 := (by rw [hv1421]; exact c_iushr _ _ 2 (by decide) (by decide))
        have q1436 : v1422.toInt = v1421.toInt % 4 := (by rw [hv1422]; exact c_mask _ _ 2 (by decide) (by decide))
        have : (4 : Int32).toInt = 4 := (by decide)
        have q1437 := hq1431; rw [Int32.lt_iff_toInt_lt] at q1437
        omega
      refine k_baloadS X12 hx hZ e12 Vw12 hj1423 (hb hby at_77) (pc' := 78) rfl (fun v1438 hv1438 => ?_)
      refine k_sipush X12 hx (hb hby at_78) (pc' := 81) rfl (z := (255 : Int32)) rfl ?_
      refine k_iand X12 hx (hb hby at_81) (pc' := 82) rfl (fun v1439 hv1439 => ?_)
      refine k_istore X12 hx (hb hby at_82) (Ls' := #[.val (.int i0), .val (.int i1), .val (.int i2), .val (.int i3), .val (.int i4), .val (.int i5), .val (.ref b1), .val (.int (1 : Int32)), .val (.int (3 : Int32)), .val (.int v1415), .val (.int v1439), .unset]) rfl (pc' := 84) rfl ?_
      refine k_goto X12 hx (hb hby at_84) (pc' := 97) (by decide) ?_
      exact key1416 v1439
    ·
     refine k_iconst X12 hx (hb hby at_57) (pc' := 58) rfl (z := (-1 : Int32)) rfl ?_
     refine k_istore X12 hx (hb hby at_58) (Ls' := #[.val (.int i0), .val (.int i1), .val (.int i2), .val (.int i3), .val (.int i4), .val (.int i5), .val (.ref b1), .val (.int (1 : Int32)), .val (.int (3 : Int32)), .val (.int v1415), .val (.int (-1 : Int32)), .unset]) rfl (pc' := 60) rfl ?_
     refine k_goto X12 hx (hb hby at_60) (pc' := 97) (by decide) ?_
     exact key1416 (-1 : Int32)
   intro v1440
   refine k_iload X12 hx (hb hby at_97) rfl (pc' := 99) rfl ?_
   refine k_iconst X12 hx (hb hby at_99) (pc' := 100) rfl (z := (-1 : Int32)) rfl ?_
   refine k_icmp_ne X12 hx (hb hby at_100) (pn := 103) rfl (py := 109) (by decide) (fun hc1442 => ?_) (fun hc1442 => ?_)
   ·
    refine k_aload X12 hx (hb hby at_109) rfl rfl (pc' := 111) rfl ?_
    refine k_iconst X12 hx (hb hby at_111) (pc' := 112) rfl (z := (0 : Int32)) rfl ?_
    refine k_iload X12 hx (hb hby at_112) rfl (pc' := 114) rfl ?_
    refine k_iload X12 hx (hb hby at_114) rfl (pc' := 116) rfl ?_
    refine k_iload X12 hx (hb hby at_116) rfl (pc' := 118) rfl ?_
    refine k_callS X12 hx hZ hown (hw _ (List.mem_of_getElem? (i := 2) rfl)) (hw _ (List.mem_of_getElem? (i := 3) rfl)) (hw _ (List.mem_of_getElem? (i := 4) rfl)) (hw _ (List.mem_of_getElem? (i := 5) rfl)) (by decide) (rm1_113 l Z a0 hw [] b1 (1 : Int32) (3 : Int32) v1440 k1 v2 v5 v8 v11 h12 n0 Z12 Vw12) (by decide) (by decide) e12 (by rw [hml]; rfl) (argsL := [(.ref b1), (.int (0 : Int32)), (.int (1 : Int32)), (.int (3 : Int32)), (.int v1440)]) (rest := []) (lenOf pd_0 rfl) rfl (W := 0) (Nat.le_refl _) rfl (hb hby at_118) (by decide) (by decide) (pc' := 121) rfl (fun T1443 L1443 r1443 X1443 q1443 => ?_)
    obtain ⟨N1443, e1443, q1443⟩ := q1443
    have N1443' := Fr.app N12 N1443
    rcases q1443 with ⟨hc1444, rfl⟩ | ⟨hc1445, hc1446, rfl⟩ | ⟨v1447, h1448, hc1449, hc1450, hc1451, rfl⟩ | ⟨v1452, h1453, hc1454, hc1455, hc1456, rfl⟩
    ·
     show KEnds p e below s _ _ _ T1443 (mkF m 121 #[.val (.int i0), .val (.int i1), .val (.int i2), .val (.int i3), .val (.int i4), .val (.int i5), .val (.ref b1), .val (.int (1 : Int32)), .val (.int (3 : Int32)), .val (.int v1415), .val (.int v1440), .unset] [(.int (0 : Int32))])
     refine k_if_eq X1443 hx (hb hby at_121) (pn := 124) rfl (py := 130) (by decide) (fun _ => ?_) (fun hc => absurd (by decide) hc)
     refine k_aload X1443 hx (hb hby at_130) rfl rfl (pc' := 132) rfl ?_
     refine k_iconst X1443 hx (hb hby at_132) (pc' := 133) rfl (z := (1 : Int32)) rfl ?_
     refine k_iload X1443 hx (hb hby at_133) rfl (pc' := 135) rfl ?_
     refine k_iload X1443 hx (hb hby at_135) rfl (pc' := 137) rfl ?_
     refine k_iload X1443 hx (hb hby at_137) rfl (pc' := 139) rfl ?_
     refine k_callS X1443 hx hZ hown (hw _ (List.mem_of_getElem? (i := 2) rfl)) (hw _ (List.mem_of_getElem? (i := 3) rfl)) (hw _ (List.mem_of_getElem? (i := 4) rfl)) (hw _ (List.mem_of_getElem? (i := 5) rfl)) (by decide) (rm1_132 l Z a0 hw [] b1 (1 : Int32) (3 : Int32) v1440 k1 v2 v5 v8 v11 h12 n0 Z12 Vw12) (by decide) (by decide) e1443 (by rw [hml]; rfl) (argsL := [(.ref b1), (.int (1 : Int32)), (.int (1 : Int32)), (.int (3 : Int32)), (.int v1440)]) (rest := []) (lenOf pd_0 rfl) rfl (W := 0) (Nat.le_refl _) rfl (hb hby at_139) (by decide) (by decide) (pc' := 142) rfl (fun T1457 L1457 r1457 X1457 q1457 => ?_)
     obtain ⟨N1457, e1457, q1457⟩ := q1457
     have N1457' := Fr.app N1443' N1457
     rcases q1457 with ⟨hc1458, rfl⟩ | ⟨hc1459, hc1460, rfl⟩ | ⟨v1461, h1462, hc1463, hc1464, hc1465, rfl⟩ | ⟨v1466, h1467, hc1468, hc1469, hc1470, rfl⟩
     ·
      show KEnds p e below s _ _ _ T1457 (mkF m 142 #[.val (.int i0), .val (.int i1), .val (.int i2), .val (.int i3), .val (.int i4), .val (.int i5), .val (.ref b1), .val (.int (1 : Int32)), .val (.int (3 : Int32)), .val (.int v1415), .val (.int v1440), .unset] [(.int (0 : Int32))])
      exact absurd hc1458 (by decide)
     ·
      show KEnds p e below s _ _ _ T1457 (mkF m 142 #[.val (.int i0), .val (.int i1), .val (.int i2), .val (.int i3), .val (.int i4), .val (.int i5), .val (.ref b1), .val (.int (1 : Int32)), .val (.int (3 : Int32)), .val (.int v1415), .val (.int v1440), .unset] [(.int (0 : Int32))])
      exact absurd (by decide) hc1460
     ·
      show KEnds p e below s _ _ _ T1457 (mkF m 142 #[.val (.int i0), .val (.int i1), .val (.int i2), .val (.int i3), .val (.int i4), .val (.int i5), .val (.ref b1), .val (.int (1 : Int32)), .val (.int (3 : Int32)), .val (.int v1415), .val (.int v1440), .unset] [(.int (0 : Int32))])
      refine k_if_eq X1457 hx (hb hby at_142) (pn := 145) rfl (py := 151) (by decide) (fun _ => ?_) (fun hc => absurd (by decide) hc)
      refine k_aload X1457 hx (hb hby at_151) rfl rfl (pc' := 153) rfl ?_
      refine k_iconst X1457 hx (hb hby at_153) (pc' := 154) rfl (z := (2 : Int32)) rfl ?_
      refine k_iload X1457 hx (hb hby at_154) rfl (pc' := 156) rfl ?_
      refine k_iload X1457 hx (hb hby at_156) rfl (pc' := 158) rfl ?_
      refine k_iload X1457 hx (hb hby at_158) rfl (pc' := 160) rfl ?_
      refine k_callS X1457 hx hZ hown (hw _ (List.mem_of_getElem? (i := 2) rfl)) (hw _ (List.mem_of_getElem? (i := 3) rfl)) (hw _ (List.mem_of_getElem? (i := 4) rfl)) (hw _ (List.mem_of_getElem? (i := 5) rfl)) (by decide) (rm1_151 l Z a0 hw [] b1 (1 : Int32) (3 : Int32) v1440 k1 v2 v5 v8 v11 h12 n0 Z12 Vw12) (by decide) (by decide) e1457 (by rw [hml]; rfl) (argsL := [(.ref b1), (.int (2 : Int32)), (.int (1 : Int32)), (.int (3 : Int32)), (.int v1440)]) (rest := []) (lenOf pd_0 rfl) rfl (W := 0) (Nat.le_refl _) rfl (hb hby at_160) (by decide) (by decide) (pc' := 163) rfl (fun T1471 L1471 r1471 X1471 q1471 => ?_)
      obtain ⟨N1471, e1471, q1471⟩ := q1471
      have N1471' := Fr.app N1457' N1471
      rcases q1471 with ⟨hc1472, rfl⟩ | ⟨hc1473, hc1474, rfl⟩ | ⟨v1475, h1476, hc1477, hc1478, hc1479, rfl⟩ | ⟨v1480, h1481, hc1482, hc1483, hc1484, rfl⟩
      ·
       show KEnds p e below s _ _ _ T1471 (mkF m 163 #[.val (.int i0), .val (.int i1), .val (.int i2), .val (.int i3), .val (.int i4), .val (.int i5), .val (.ref b1), .val (.int (1 : Int32)), .val (.int (3 : Int32)), .val (.int v1415), .val (.int v1440), .unset] [(.int (0 : Int32))])
       exact absurd hc1472 (by decide)
      ·
       show KEnds p e below s _ _ _ T1471 (mkF m 163 #[.val (.int i0), .val (.int i1), .val (.int i2), .val (.int i3), .val (.int i4), .val (.int i5), .val (.ref b1), .val (.int (1 : Int32)), .val (.int (3 : Int32)), .val (.int v1415), .val (.int v1440), .unset] [(.int (0 : Int32))])
       exact absurd (by decide) hc1474
      ·
       show KEnds p e below s _ _ _ T1471 (mkF m 163 #[.val (.int i0), .val (.int i1), .val (.int i2), .val (.int i3), .val (.int i4), .val (.int i5), .val (.ref b1), .val (.int (1 : Int32)), .val (.int (3 : Int32)), .val (.int v1415), .val (.int v1440), .unset] [(.int (0 : Int32))])
       refine k_if_eq X1471 hx (hb hby at_163) (pn := 166) rfl (py := 172) (by decide) (fun _ => ?_) (fun hc => absurd (by decide) hc)
       refine k_aload X1471 hx (hb hby at_172) rfl rfl (pc' := 174) rfl ?_
       refine k_iconst X1471 hx (hb hby at_174) (pc' := 175) rfl (z := (3 : Int32)) rfl ?_
       refine k_iload X1471 hx (hb hby at_175) rfl (pc' := 177) rfl ?_
       refine k_iload X1471 hx (hb hby at_177) rfl (pc' := 179) rfl ?_
       refine k_iload X1471 hx (hb hby at_179) rfl (pc' := 181) rfl ?_
       refine k_callS X1471 hx hZ hown (hw _ (List.mem_of_getElem? (i := 2) rfl)) (hw _ (List.mem_of_getElem? (i := 3) rfl)) (hw _ (List.mem_of_getElem? (i := 4) rfl)) (hw _ (List.mem_of_getElem? (i := 5) rfl)) (by decide) (rm1_170 l Z a0 hw [] b1 (1 : Int32) (3 : Int32) v1440 k1 v2 v5 v8 v11 h12 n0 Z12 Vw12) (by decide) (by decide) e1471 (by rw [hml]; rfl) (argsL := [(.ref b1), (.int (3 : Int32)), (.int (1 : Int32)), (.int (3 : Int32)), (.int v1440)]) (rest := []) (lenOf pd_0 rfl) rfl (W := 0) (Nat.le_refl _) rfl (hb hby at_181) (by decide) (by decide) (pc' := 184) rfl (fun T1485 L1485 r1485 X1485 q1485 => ?_)
       obtain ⟨N1485, e1485, q1485⟩ := q1485
       have N1485' := Fr.app N1471' N1485
       rcases q1485 with ⟨hc1486, rfl⟩ | ⟨hc1487, hc1488, rfl⟩ | ⟨v1489, h1490, hc1491, hc1492, hc1493, rfl⟩ | ⟨v1494, h1495, hc1496, hc1497, hc1498, rfl⟩
       ·
        show KEnds p e below s _ _ _ T1485 (mkF m 184 #[.val (.int i0), .val (.int i1), .val (.int i2), .val (.int i3), .val (.int i4), .val (.int i5), .val (.ref b1), .val (.int (1 : Int32)), .val (.int (3 : Int32)), .val (.int v1415), .val (.int v1440), .unset] [(.int (0 : Int32))])
        exact absurd hc1486 (by decide)
       ·
        show KEnds p e below s _ _ _ T1485 (mkF m 184 #[.val (.int i0), .val (.int i1), .val (.int i2), .val (.int i3), .val (.int i4), .val (.int i5), .val (.ref b1), .val (.int (1 : Int32)), .val (.int (3 : Int32)), .val (.int v1415), .val (.int v1440), .unset] [(.int (0 : Int32))])
        refine k_if_eq X1485 hx (hb hby at_184) (pn := 187) rfl (py := 193) (by decide) (fun _ => ?_) (fun hc => absurd (by decide) hc)
        refine k_iconst X1485 hx (hb hby at_193) (pc' := 194) rfl (z := (-1 : Int32)) rfl ?_
        refine k_istore X1485 hx (hb hby at_194) (Ls' := #[.val (.int i0), .val (.int i1), .val (.int i2), .val (.int i3), .val (.int i4), .val (.int i5), .val (.ref b1), .val (.int (1 : Int32)), .val (.int (3 : Int32)), .val (.int v1415), .val (.int v1440), .val (.int (-1 : Int32))]) rfl (pc' := 196) rfl ?_
        refine k_aload X1485 hx (hb hby at_196) rfl rfl (pc' := 198) rfl ?_
        refine k_iload X1485 hx (hb hby at_198) rfl (pc' := 200) rfl ?_
        refine k_iload X1485 hx (hb hby at_200) rfl (pc' := 202) rfl ?_
        refine k_iload X1485 hx (hb hby at_202) rfl (pc' := 204) rfl ?_
        refine k_callS X1485 hx hZ hown (hw _ (List.mem_of_getElem? (i := 6) rfl)) (hw _ (List.mem_of_getElem? (i := 7) rfl)) (hw _ (List.mem_of_getElem? (i := 8) rfl)) (hw _ (List.mem_of_getElem? (i := 9) rfl)) (by decide) (rm2_1499 l Z a0 hw [] b1 v1440 k1 v2 v5 v8 v11 h12 n0 Z12 Vw12) (by decide) (by decide) e1485 (by rw [hml]; rfl) (argsL := [(.ref b1), (.int (1 : Int32)), (.int (3 : Int32)), (.int v1440)]) (rest := []) (lenOf pd_1 rfl) rfl (W := 0) (Nat.le_refl _) rfl (hb hby at_204) (by decide) (by decide) (pc' := 207) rfl (fun T1505 L1505 r1505 X1505 q1505 => ?_)
        obtain ⟨N1505, e1505, q1505⟩ := q1505
        have N1505' := Fr.app N1485' N1505
        rcases q1505 with ⟨v1506, v1507, h1508, h1509, hc1510, hc1511, hc1512, rfl⟩ | ⟨v1513, v1514, h1515, h1516, hc1517, hc1518, hc1519, rfl⟩ | ⟨v1520, h1521, hc1522, hc1523, rfl⟩ | ⟨hc1524, rfl⟩
        ·
         have hh1525 : v1461 = v1506 := h1462.trans h1508.symm
         subst hh1525
         have hh1526 : v1475 = v1507 := h1476.trans h1509.symm
         subst hh1526
         show KEnds p e below s _ _ _ T1505 (mkF m 207 #[.val (.int i0), .val (.int i1), .val (.int i2), .val (.int i3), .val (.int i4), .val (.int i5), .val (.ref b1), .val (.int (1 : Int32)), .val (.int (3 : Int32)), .val (.int v1415), .val (.int v1440), .val (.int (-1 : Int32))] [(.int (-1 : Int32))])
         refine k_iload X1505 hx (hb hby at_207) rfl (pc' := 209) rfl ?_
         refine k_icmp_ne X1505 hx (hb hby at_209) (pn := 212) rfl (py := 216) (by decide) (fun hc => absurd (by decide) hc) (fun _ => ?_)
         refine k_iconst X1505 hx (hb hby at_212) (pc' := 213) rfl (z := (1 : Int32)) rfl ?_
         refine k_goto X1505 hx (hb hby at_213) (pc' := 217) (by decide) ?_
         exact k_retN X1505 hx (t := .boolean) Bd.returns (by simp) (hb hby at_217) hlk (by decide) (by decide) (z' := (1 : Int32)) rfl ⟨rfl, N1505'⟩
        ·
         have hh1527 : v1461 = v1513 := h1462.trans h1515.symm
         subst hh1527
         have hh1528 : v1475 = v1514 := h1476.trans h1516.symm
         subst hh1528
         show KEnds p e below s _ _ _ T1505 (mkF m 207 #[.val (.int i0), .val (.int i1), .val (.int i2), .val (.int i3), .val (.int i4), .val (.int i5), .val (.ref b1), .val (.int (1 : Int32)), .val (.int (3 : Int32)), .val (.int v1415), .val (.int v1440), .val (.int (-1 : Int32))] [(.int (2 : Int32))])
         exact absurd hc1519 hc1479
        ·
         have hh1529 : v1461 = v1520 := h1462.trans h1521.symm
         subst hh1529
         show KEnds p e below s _ _ _ T1505 (mkF m 207 #[.val (.int i0), .val (.int i1), .val (.int i2), .val (.int i3), .val (.int i4), .val (.int i5), .val (.ref b1), .val (.int (1 : Int32)), .val (.int (3 : Int32)), .val (.int v1415), .val (.int v1440), .val (.int (-1 : Int32))] [(.int (1 : Int32))])
         exact absurd hc1523 hc1465
        ·
         show KEnds p e below s _ _ _ T1505 (mkF m 207 #[.val (.int i0), .val (.int i1), .val (.int i2), .val (.int i3), .val (.int i4), .val (.int i5), .val (.ref b1), .val (.int (1 : Int32)), .val (.int (3 : Int32)), .val (.int v1415), .val (.int v1440), .val (.int (-1 : Int32))] [(.int (-1 : Int32))])
         exact absurd hc1524 hc1442
       ·
        show KEnds p e below s _ _ _ T1485 (mkF m 184 #[.val (.int i0), .val (.int i1), .val (.int i2), .val (.int i3), .val (.int i4), .val (.int i5), .val (.ref b1), .val (.int (1 : Int32)), .val (.int (3 : Int32)), .val (.int v1415), .val (.int v1440), .unset] [(.int (0 : Int32))])
        exact absurd hc1492 (by decide)
       ·
        show KEnds p e below s _ _ _ T1485 (mkF m 184 #[.val (.int i0), .val (.int i1), .val (.int i2), .val (.int i3), .val (.int i4), .val (.int i5), .val (.ref b1), .val (.int (1 : Int32)), .val (.int (3 : Int32)), .val (.int v1415), .val (.int v1440), .unset] [(.int (1 : Int32))])
        exact absurd hc1497 (by decide)
      ·
       show KEnds p e below s _ _ _ T1471 (mkF m 163 #[.val (.int i0), .val (.int i1), .val (.int i2), .val (.int i3), .val (.int i4), .val (.int i5), .val (.ref b1), .val (.int (1 : Int32)), .val (.int (3 : Int32)), .val (.int v1415), .val (.int v1440), .unset] [(.int (1 : Int32))])
       refine k_if_eq X1471 hx (hb hby at_163) (pn := 166) rfl (py := 172) (by decide) (fun hc => absurd hc (by decide)) (fun _ => ?_)
       refine k_iconst X1471 hx (hb hby at_166) (pc' := 167) rfl (z := (2 : Int32)) rfl ?_
       refine k_istore X1471 hx (hb hby at_167) (Ls' := #[.val (.int i0), .val (.int i1), .val (.int i2), .val (.int i3), .val (.int i4), .val (.int i5), .val (.ref b1), .val (.int (1 : Int32)), .val (.int (3 : Int32)), .val (.int v1415), .val (.int v1440), .val (.int (2 : Int32))]) rfl (pc' := 169) rfl ?_
       refine k_goto X1471 hx (hb hby at_169) (pc' := 196) (by decide) ?_
       refine k_aload X1471 hx (hb hby at_196) rfl rfl (pc' := 198) rfl ?_
       refine k_iload X1471 hx (hb hby at_198) rfl (pc' := 200) rfl ?_
       refine k_iload X1471 hx (hb hby at_200) rfl (pc' := 202) rfl ?_
       refine k_iload X1471 hx (hb hby at_202) rfl (pc' := 204) rfl ?_
       refine k_callS X1471 hx hZ hown (hw _ (List.mem_of_getElem? (i := 6) rfl)) (hw _ (List.mem_of_getElem? (i := 7) rfl)) (hw _ (List.mem_of_getElem? (i := 8) rfl)) (hw _ (List.mem_of_getElem? (i := 9) rfl)) (by decide) (rm2_1499 l Z a0 hw [] b1 v1440 k1 v2 v5 v8 v11 h12 n0 Z12 Vw12) (by decide) (by decide) e1471 (by rw [hml]; rfl) (argsL := [(.ref b1), (.int (1 : Int32)), (.int (3 : Int32)), (.int v1440)]) (rest := []) (lenOf pd_1 rfl) rfl (W := 0) (Nat.le_refl _) rfl (hb hby at_204) (by decide) (by decide) (pc' := 207) rfl (fun T1530 L1530 r1530 X1530 q1530 => ?_)
       obtain ⟨N1530, e1530, q1530⟩ := q1530
       have N1530' := Fr.app N1471' N1530
       rcases q1530 with ⟨v1531, v1532, h1533, h1534, hc1535, hc1536, hc1537, rfl⟩ | ⟨v1538, v1539, h1540, h1541, hc1542, hc1543, hc1544, rfl⟩ | ⟨v1545, h1546, hc1547, hc1548, rfl⟩ | ⟨hc1549, rfl⟩
       ·
        have hh1550 : v1461 = v1531 := h1462.trans h1533.symm
        subst hh1550
        have hh1551 : v1480 = v1532 := h1481.trans h1534.symm
        subst hh1551
        show KEnds p e below s _ _ _ T1530 (mkF m 207 #[.val (.int i0), .val (.int i1), .val (.int i2), .val (.int i3), .val (.int i4), .val (.int i5), .val (.ref b1), .val (.int (1 : Int32)), .val (.int (3 : Int32)), .val (.int v1415), .val (.int v1440), .val (.int (2 : Int32))] [(.int (-1 : Int32))])
        exact absurd hc1484 hc1537
       ·
        have hh1552 : v1461 = v1538 := h1462.trans h1540.symm
        subst hh1552
        have hh1553 : v1480 = v1539 := h1481.trans h1541.symm
        subst hh1553
        show KEnds p e below s _ _ _ T1530 (mkF m 207 #[.val (.int i0), .val (.int i1), .val (.int i2), .val (.int i3), .val (.int i4), .val (.int i5), .val (.ref b1), .val (.int (1 : Int32)), .val (.int (3 : Int32)), .val (.int v1415), .val (.int v1440), .val (.int (2 : Int32))] [(.int (2 : Int32))])
        refine k_iload X1530 hx (hb hby at_207) rfl (pc' := 209) rfl ?_
        refine k_icmp_ne X1530 hx (hb hby at_209) (pn := 212) rfl (py := 216) (by decide) (fun hc => absurd (by decide) hc) (fun _ => ?_)
        refine k_iconst X1530 hx (hb hby at_212) (pc' := 213) rfl (z := (1 : Int32)) rfl ?_
        refine k_goto X1530 hx (hb hby at_213) (pc' := 217) (by decide) ?_
        exact k_retN X1530 hx (t := .boolean) Bd.returns (by simp) (hb hby at_217) hlk (by decide) (by decide) (z' := (1 : Int32)) rfl ⟨rfl, N1530'⟩
       ·
        have hh1554 : v1461 = v1545 := h1462.trans h1546.symm
        subst hh1554
        show KEnds p e below s _ _ _ T1530 (mkF m 207 #[.val (.int i0), .val (.int i1), .val (.int i2), .val (.int i3), .val (.int i4), .val (.int i5), .val (.ref b1), .val (.int (1 : Int32)), .val (.int (3 : Int32)), .val (.int v1415), .val (.int v1440), .val (.int (2 : Int32))] [(.int (1 : Int32))])
        exact absurd hc1548 hc1465
       ·
        show KEnds p e below s _ _ _ T1530 (mkF m 207 #[.val (.int i0), .val (.int i1), .val (.int i2), .val (.int i3), .val (.int i4), .val (.int i5), .val (.ref b1), .val (.int (1 : Int32)), .val (.int (3 : Int32)), .val (.int v1415), .val (.int v1440), .val (.int (2 : Int32))] [(.int (-1 : Int32))])
        exact absurd hc1549 hc1442
     ·
      show KEnds p e below s _ _ _ T1457 (mkF m 142 #[.val (.int i0), .val (.int i1), .val (.int i2), .val (.int i3), .val (.int i4), .val (.int i5), .val (.ref b1), .val (.int (1 : Int32)), .val (.int (3 : Int32)), .val (.int v1415), .val (.int v1440), .unset] [(.int (1 : Int32))])
      refine k_if_eq X1457 hx (hb hby at_142) (pn := 145) rfl (py := 151) (by decide) (fun hc => absurd hc (by decide)) (fun _ => ?_)
      refine k_iconst X1457 hx (hb hby at_145) (pc' := 146) rfl (z := (1 : Int32)) rfl ?_
      refine k_istore X1457 hx (hb hby at_146) (Ls' := #[.val (.int i0), .val (.int i1), .val (.int i2), .val (.int i3), .val (.int i4), .val (.int i5), .val (.ref b1), .val (.int (1 : Int32)), .val (.int (3 : Int32)), .val (.int v1415), .val (.int v1440), .val (.int (1 : Int32))]) rfl (pc' := 148) rfl ?_
      refine k_goto X1457 hx (hb hby at_148) (pc' := 196) (by decide) ?_
      refine k_aload X1457 hx (hb hby at_196) rfl rfl (pc' := 198) rfl ?_
      refine k_iload X1457 hx (hb hby at_198) rfl (pc' := 200) rfl ?_
      refine k_iload X1457 hx (hb hby at_200) rfl (pc' := 202) rfl ?_
      refine k_iload X1457 hx (hb hby at_202) rfl (pc' := 204) rfl ?_
      refine k_callS X1457 hx hZ hown (hw _ (List.mem_of_getElem? (i := 6) rfl)) (hw _ (List.mem_of_getElem? (i := 7) rfl)) (hw _ (List.mem_of_getElem? (i := 8) rfl)) (hw _ (List.mem_of_getElem? (i := 9) rfl)) (by decide) (rm2_1499 l Z a0 hw [] b1 v1440 k1 v2 v5 v8 v11 h12 n0 Z12 Vw12) (by decide) (by decide) e1457 (by rw [hml]; rfl) (argsL := [(.ref b1), (.int (1 : Int32)), (.int (3 : Int32)), (.int v1440)]) (rest := []) (lenOf pd_1 rfl) rfl (W := 0) (Nat.le_refl _) rfl (hb hby at_204) (by decide) (by decide) (pc' := 207) rfl (fun T1555 L1555 r1555 X1555 q1555 => ?_)
      obtain ⟨N1555, e1555, q1555⟩ := q1555
      have N1555' := Fr.app N1457' N1555
      rcases q1555 with ⟨v1556, v1557, h1558, h1559, hc1560, hc1561, hc1562, rfl⟩ | ⟨v1563, v1564, h1565, h1566, hc1567, hc1568, hc1569, rfl⟩ | ⟨v1570, h1571, hc1572, hc1573, rfl⟩ | ⟨hc1574, rfl⟩
      ·
       have hh1575 : v1466 = v1556 := h1467.trans h1558.symm
       subst hh1575
       show KEnds p e below s _ _ _ T1555 (mkF m 207 #[.val (.int i0), .val (.int i1), .val (.int i2), .val (.int i3), .val (.int i4), .val (.int i5), .val (.ref b1), .val (.int (1 : Int32)), .val (.int (3 : Int32)), .val (.int v1415), .val (.int v1440), .val (.int (1 : Int32))] [(.int (-1 : Int32))])
       exact absurd hc1470 hc1561
      ·
       have hh1576 : v1466 = v1563 := h1467.trans h1565.symm
       subst hh1576
       show KEnds p e below s _ _ _ T1555 (mkF m 207 #[.val (.int i0), .val (.int i1), .val (.int i2), .val (.int i3), .val (.int i4), .val (.int i5), .val (.ref b1), .val (.int (1 : Int32)), .val (.int (3 : Int32)), .val (.int v1415), .val (.int v1440), .val (.int (1 : Int32))] [(.int (2 : Int32))])
       exact absurd hc1470 hc1568
      ·
       have hh1577 : v1466 = v1570 := h1467.trans h1571.symm
       subst hh1577
       show KEnds p e below s _ _ _ T1555 (mkF m 207 #[.val (.int i0), .val (.int i1), .val (.int i2), .val (.int i3), .val (.int i4), .val (.int i5), .val (.ref b1), .val (.int (1 : Int32)), .val (.int (3 : Int32)), .val (.int v1415), .val (.int v1440), .val (.int (1 : Int32))] [(.int (1 : Int32))])
       refine k_iload X1555 hx (hb hby at_207) rfl (pc' := 209) rfl ?_
       refine k_icmp_ne X1555 hx (hb hby at_209) (pn := 212) rfl (py := 216) (by decide) (fun hc => absurd (by decide) hc) (fun _ => ?_)
       refine k_iconst X1555 hx (hb hby at_212) (pc' := 213) rfl (z := (1 : Int32)) rfl ?_
       refine k_goto X1555 hx (hb hby at_213) (pc' := 217) (by decide) ?_
       exact k_retN X1555 hx (t := .boolean) Bd.returns (by simp) (hb hby at_217) hlk (by decide) (by decide) (z' := (1 : Int32)) rfl ⟨rfl, N1555'⟩
      ·
       show KEnds p e below s _ _ _ T1555 (mkF m 207 #[.val (.int i0), .val (.int i1), .val (.int i2), .val (.int i3), .val (.int i4), .val (.int i5), .val (.ref b1), .val (.int (1 : Int32)), .val (.int (3 : Int32)), .val (.int v1415), .val (.int v1440), .val (.int (1 : Int32))] [(.int (-1 : Int32))])
       exact absurd hc1574 hc1442
    ·
     show KEnds p e below s _ _ _ T1443 (mkF m 121 #[.val (.int i0), .val (.int i1), .val (.int i2), .val (.int i3), .val (.int i4), .val (.int i5), .val (.ref b1), .val (.int (1 : Int32)), .val (.int (3 : Int32)), .val (.int v1415), .val (.int v1440), .unset] [(.int (0 : Int32))])
     exact absurd (by decide) hc1445
    ·
     show KEnds p e below s _ _ _ T1443 (mkF m 121 #[.val (.int i0), .val (.int i1), .val (.int i2), .val (.int i3), .val (.int i4), .val (.int i5), .val (.ref b1), .val (.int (1 : Int32)), .val (.int (3 : Int32)), .val (.int v1415), .val (.int v1440), .unset] [(.int (0 : Int32))])
     exact absurd (by decide) hc1449
    ·
     show KEnds p e below s _ _ _ T1443 (mkF m 121 #[.val (.int i0), .val (.int i1), .val (.int i2), .val (.int i3), .val (.int i4), .val (.int i5), .val (.ref b1), .val (.int (1 : Int32)), .val (.int (3 : Int32)), .val (.int v1415), .val (.int v1440), .unset] [(.int (1 : Int32))])
     exact absurd (by decide) hc1454
   ·
    refine k_iconst X12 hx (hb hby at_103) (pc' := 104) rfl (z := (-1 : Int32)) rfl ?_
    refine k_istore X12 hx (hb hby at_104) (Ls' := #[.val (.int i0), .val (.int i1), .val (.int i2), .val (.int i3), .val (.int i4), .val (.int i5), .val (.ref b1), .val (.int (1 : Int32)), .val (.int (3 : Int32)), .val (.int v1415), .val (.int v1440), .val (.int (-1 : Int32))]) rfl (pc' := 106) rfl ?_
    refine k_goto X12 hx (hb hby at_106) (pc' := 196) (by decide) ?_
    refine k_aload X12 hx (hb hby at_196) rfl rfl (pc' := 198) rfl ?_
    refine k_iload X12 hx (hb hby at_198) rfl (pc' := 200) rfl ?_
    refine k_iload X12 hx (hb hby at_200) rfl (pc' := 202) rfl ?_
    refine k_iload X12 hx (hb hby at_202) rfl (pc' := 204) rfl ?_
    refine k_callS X12 hx hZ hown (hw _ (List.mem_of_getElem? (i := 6) rfl)) (hw _ (List.mem_of_getElem? (i := 7) rfl)) (hw _ (List.mem_of_getElem? (i := 8) rfl)) (hw _ (List.mem_of_getElem? (i := 9) rfl)) (by decide) (rm2_1499 l Z a0 hw [] b1 v1440 k1 v2 v5 v8 v11 h12 n0 Z12 Vw12) (by decide) (by decide) e12 (by rw [hml]; rfl) (argsL := [(.ref b1), (.int (1 : Int32)), (.int (3 : Int32)), (.int v1440)]) (rest := []) (lenOf pd_1 rfl) rfl (W := 0) (Nat.le_refl _) rfl (hb hby at_204) (by decide) (by decide) (pc' := 207) rfl (fun T1578 L1578 r1578 X1578 q1578 => ?_)
    obtain ⟨N1578, e1578, q1578⟩ := q1578
    have N1578' := Fr.app N12 N1578
    rcases q1578 with ⟨v1579, v1580, h1581, h1582, hc1583, hc1584, hc1585, rfl⟩ | ⟨v1586, v1587, h1588, h1589, hc1590, hc1591, hc1592, rfl⟩ | ⟨v1593, h1594, hc1595, hc1596, rfl⟩ | ⟨hc1597, rfl⟩
    ·
     show KEnds p e below s _ _ _ T1578 (mkF m 207 #[.val (.int i0), .val (.int i1), .val (.int i2), .val (.int i3), .val (.int i4), .val (.int i5), .val (.ref b1), .val (.int (1 : Int32)), .val (.int (3 : Int32)), .val (.int v1415), .val (.int v1440), .val (.int (-1 : Int32))] [(.int (-1 : Int32))])
     exact absurd hc1442 hc1583
    ·
     show KEnds p e below s _ _ _ T1578 (mkF m 207 #[.val (.int i0), .val (.int i1), .val (.int i2), .val (.int i3), .val (.int i4), .val (.int i5), .val (.ref b1), .val (.int (1 : Int32)), .val (.int (3 : Int32)), .val (.int v1415), .val (.int v1440), .val (.int (-1 : Int32))] [(.int (2 : Int32))])
     exact absurd hc1442 hc1590
    ·
     show KEnds p e below s _ _ _ T1578 (mkF m 207 #[.val (.int i0), .val (.int i1), .val (.int i2), .val (.int i3), .val (.int i4), .val (.int i5), .val (.ref b1), .val (.int (1 : Int32)), .val (.int (3 : Int32)), .val (.int v1415), .val (.int v1440), .val (.int (-1 : Int32))] [(.int (1 : Int32))])
     exact absurd hc1442 hc1595
    ·
     show KEnds p e below s _ _ _ T1578 (mkF m 207 #[.val (.int i0), .val (.int i1), .val (.int i2), .val (.int i3), .val (.int i4), .val (.int i5), .val (.ref b1), .val (.int (1 : Int32)), .val (.int (3 : Int32)), .val (.int v1415), .val (.int v1440), .val (.int (-1 : Int32))] [(.int (-1 : Int32))])
     refine k_iload X1578 hx (hb hby at_207) rfl (pc' := 209) rfl ?_
     refine k_icmp_ne X1578 hx (hb hby at_209) (pn := 212) rfl (py := 216) (by decide) (fun hc => absurd (by decide) hc) (fun _ => ?_)
     refine k_iconst X1578 hx (hb hby at_212) (pc' := 213) rfl (z := (1 : Int32)) rfl ?_
     refine k_goto X1578 hx (hb hby at_213) (pc' := 217) (by decide) ?_
     exact k_retN X1578 hx (t := .boolean) Bd.returns (by simp) (hb hby at_217) hlk (by decide) (by decide) (z' := (1 : Int32)) rfl ⟨rfl, N1578'⟩
  ·
   show KEnds p e below s _ _ _ T12 (mkF m 44 #[.val (.int i0), .val (.int i1), .val (.int i2), .val (.int i3), .val (.int i4), .val (.int i5), .val (.ref b1), .val (.int (1 : Int32)), .unset, .unset, .unset, .unset] [(.int (4 : Int32))])
   refine k_istore X12 hx (hb hby at_44) (Ls' := #[.val (.int i0), .val (.int i1), .val (.int i2), .val (.int i3), .val (.int i4), .val (.int i5), .val (.ref b1), .val (.int (1 : Int32)), .val (.int (4 : Int32)), .unset, .unset, .unset]) rfl (pc' := 46) rfl ?_
   refine k_iload X12 hx (hb hby at_46) rfl (pc' := 48) rfl ?_
   refine k_iconst X12 hx (hb hby at_48) (pc' := 49) rfl (z := (3 : Int32)) rfl ?_
   refine k_iand X12 hx (hb hby at_49) (pc' := 50) rfl (fun v1599 hv1599 => ?_)
   refine k_istore X12 hx (hb hby at_50) (Ls' := #[.val (.int i0), .val (.int i1), .val (.int i2), .val (.int i3), .val (.int i4), .val (.int i5), .val (.ref b1), .val (.int (1 : Int32)), .val (.int (4 : Int32)), .val (.int v1599), .unset, .unset]) rfl (pc' := 52) rfl ?_
   suffices key1600 : ∀ (v1624 : Int32), KEnds p e below s 16 128 (Q0 n0) T12 (mkF m 97 #[.val (.int i0), .val (.int i1), .val (.int i2), .val (.int i3), .val (.int i4), .val (.int i5), .val (.ref b1), .val (.int (1 : Int32)), .val (.int (4 : Int32)), .val (.int v1599), .val (.int v1624), .unset] []) by
    refine k_iload X12 hx (hb hby at_52) rfl (pc' := 54) rfl ?_
    refine k_if_ne X12 hx (hb hby at_54) (pn := 57) rfl (py := 63) (by decide) (fun hc1601 => ?_) (fun hc1601 => ?_)
    ·
     refine k_iload X12 hx (hb hby at_63) rfl (pc' := 65) rfl ?_
     refine k_iconst X12 hx (hb hby at_65) (pc' := 66) rfl (z := (1 : Int32)) rfl ?_
     refine k_icmp_ne X12 hx (hb hby at_66) (pn := 69) rfl (py := 87) (by decide) (fun hc1602 => ?_) (fun hc1602 => ?_)
     ·
      refine k_iload X12 hx (hb hby at_87) rfl (pc' := 89) rfl ?_
      refine k_iconst X12 hx (hb hby at_89) (pc' := 90) rfl (z := (2 : Int32)) rfl ?_
      refine k_iushr X12 hx (hb hby at_90) (pc' := 91) rfl (fun v1603 hv1603 => ?_)
      refine k_sipush X12 hx (hb hby at_91) (pc' := 94) rfl (z := (255 : Int32)) rfl ?_
      refine k_iand X12 hx (hb hby at_94) (pc' := 95) rfl (fun v1604 hv1604 => ?_)
      refine k_istore X12 hx (hb hby at_95) (Ls' := #[.val (.int i0), .val (.int i1), .val (.int i2), .val (.int i3), .val (.int i4), .val (.int i5), .val (.ref b1), .val (.int (1 : Int32)), .val (.int (4 : Int32)), .val (.int v1599), .val (.int v1604), .unset]) rfl (pc' := 97) rfl ?_
      exact key1600 v1604
     ·
      refine k_aload X12 hx (hb hby at_69) rfl rfl (pc' := 71) rfl ?_
      refine k_iload X12 hx (hb hby at_71) rfl (pc' := 73) rfl ?_
      refine k_iconst X12 hx (hb hby at_73) (pc' := 74) rfl (z := (2 : Int32)) rfl ?_
      refine k_iushr X12 hx (hb hby at_74) (pc' := 75) rfl (fun v1605 hv1605 => ?_)
      refine k_iconst X12 hx (hb hby at_75) (pc' := 76) rfl (z := (3 : Int32)) rfl ?_
      refine k_iand X12 hx (hb hby at_76) (pc' := 77) rfl (fun v1606 hv1606 => ?_)
      have hj1607 : ¬ v1606 < 0 ∧ v1606 < (4 : Int32) := by
       refine ⟨?_, ?_⟩
       ·
        intro hq1608
        have := rng32 v1599
        have := rng32 i5
        have : (3 : Int32).toInt = 3 := (by decide)
        have q1609 : v1599.toInt = i5.toInt % 4 := (by rw [hv1599]; exact c_mask _ _ 2 (by decide) (by decide))
        have : (0 : Int32).toInt = 0 := (by decide)
        have q1610 : ¬ v1599.toInt = (0 : Int32).toInt := fun q => hc1601 (Int32.toInt_inj.mp q)
        have : (1 : Int32).toInt = 1 := (by decide)
        have q1611 := congrArg Int32.toInt hc1602
        have := rng32 v1606
        have := rng32 v1605
        have : (2 : Int32).toInt = 2 := (by decide)
        have q1612 : v1605.toInt = (i5.toInt % 4294967296) / 4 := (by rw [hv1605]; exact c_iushr _ _ 2 (by decide) (by decide))
        have q1613 : v1606.toInt = v1605.toInt % 4 := (by rw [hv1606]; exact c_mask _ _ 2 (by decide) (by decide))
        have q1614 := hq1608; rw [Int32.lt_iff_toInt_lt] at q1614
        omega
       ·
        refine Classical.byContradiction (fun hq1615 => ?_)
        have := rng32 v1599
        have := rng32 i5
        have : (3 : Int32).toInt = 3 := (by decide)
        have q1616 : v1599.toInt = i5.toInt % 4 := (by rw [hv1599]; exact c_mask _ _ 2 (by decide) (by decide))
        have : (0 : Int32).toInt = 0 := (by decide)
        have q1617 : ¬ v1599.toInt = (0 : Int32).toInt := fun q => hc1601 (Int32.toInt_inj.mp q)
        have : (1 : Int32).toInt = 1 := (by decide)
        have q1618 := congrArg Int32.toInt hc1602
        have := rng32 v1606
        have := rng32 v1605
        have : (2 : Int32).toInt = 2 := (by decide)
        have q1619 : v1605.toInt = (i5.toInt % 4294967296) / 4 := (by rw [hv1605]; exact c_iushr _ _ 2 (by decide) (by decide))
        have q1620 : v1606.toInt = v1605.toInt % 4 := (by rw [hv1606]; exact c_mask _ _ 2 (by decide) (by decide))
        have : (4 : Int32).toInt = 4 := (by decide)
        have q1621 := hq1615; rw [Int32.lt_iff_toInt_lt] at q1621
        omega
      refine k_baloadS X12 hx hZ e12 Vw12 hj1607 (hb hby at_77) (pc' := 78) rfl (fun v1622 hv1622 => ?_)
      refine k_sipush X12 hx (hb hby at_78) (pc' := 81) rfl (z := (255 : Int32)) rfl ?_
      refine k_iand X12 hx (hb hby at_81) (pc' := 82) rfl (fun v1623 hv1623 => ?_)
      refine k_istore X12 hx (hb hby at_82) (Ls' := #[.val (.int i0), .val (.int i1), .val (.int i2), .val (.int i3), .val (.int i4), .val (.int i5), .val (.ref b1), .val (.int (1 : Int32)), .val (.int (4 : Int32)), .val (.int v1599), .val (.int v1623), .unset]) rfl (pc' := 84) rfl ?_
      refine k_goto X12 hx (hb hby at_84) (pc' := 97) (by decide) ?_
      exact key1600 v1623
    ·
     refine k_iconst X12 hx (hb hby at_57) (pc' := 58) rfl (z := (-1 : Int32)) rfl ?_
     refine k_istore X12 hx (hb hby at_58) (Ls' := #[.val (.int i0), .val (.int i1), .val (.int i2), .val (.int i3), .val (.int i4), .val (.int i5), .val (.ref b1), .val (.int (1 : Int32)), .val (.int (4 : Int32)), .val (.int v1599), .val (.int (-1 : Int32)), .unset]) rfl (pc' := 60) rfl ?_
     refine k_goto X12 hx (hb hby at_60) (pc' := 97) (by decide) ?_
     exact key1600 (-1 : Int32)
   intro v1624
   refine k_iload X12 hx (hb hby at_97) rfl (pc' := 99) rfl ?_
   refine k_iconst X12 hx (hb hby at_99) (pc' := 100) rfl (z := (-1 : Int32)) rfl ?_
   refine k_icmp_ne X12 hx (hb hby at_100) (pn := 103) rfl (py := 109) (by decide) (fun hc1626 => ?_) (fun hc1626 => ?_)
   ·
    refine k_aload X12 hx (hb hby at_109) rfl rfl (pc' := 111) rfl ?_
    refine k_iconst X12 hx (hb hby at_111) (pc' := 112) rfl (z := (0 : Int32)) rfl ?_
    refine k_iload X12 hx (hb hby at_112) rfl (pc' := 114) rfl ?_
    refine k_iload X12 hx (hb hby at_114) rfl (pc' := 116) rfl ?_
    refine k_iload X12 hx (hb hby at_116) rfl (pc' := 118) rfl ?_
    refine k_callS X12 hx hZ hown (hw _ (List.mem_of_getElem? (i := 2) rfl)) (hw _ (List.mem_of_getElem? (i := 3) rfl)) (hw _ (List.mem_of_getElem? (i := 4) rfl)) (hw _ (List.mem_of_getElem? (i := 5) rfl)) (by decide) (rm1_113 l Z a0 hw [] b1 (1 : Int32) (4 : Int32) v1624 k1 v2 v5 v8 v11 h12 n0 Z12 Vw12) (by decide) (by decide) e12 (by rw [hml]; rfl) (argsL := [(.ref b1), (.int (0 : Int32)), (.int (1 : Int32)), (.int (4 : Int32)), (.int v1624)]) (rest := []) (lenOf pd_0 rfl) rfl (W := 0) (Nat.le_refl _) rfl (hb hby at_118) (by decide) (by decide) (pc' := 121) rfl (fun T1627 L1627 r1627 X1627 q1627 => ?_)
    obtain ⟨N1627, e1627, q1627⟩ := q1627
    have N1627' := Fr.app N12 N1627
    rcases q1627 with ⟨hc1628, rfl⟩ | ⟨hc1629, hc1630, rfl⟩ | ⟨v1631, h1632, hc1633, hc1634, hc1635, rfl⟩ | ⟨v1636, h1637, hc1638, hc1639, hc1640, rfl⟩
    ·
     show KEnds p e below s _ _ _ T1627 (mkF m 121 #[.val (.int i0), .val (.int i1), .val (.int i2), .val (.int i3), .val (.int i4), .val (.int i5), .val (.ref b1), .val (.int (1 : Int32)), .val (.int (4 : Int32)), .val (.int v1599), .val (.int v1624), .unset] [(.int (0 : Int32))])
     refine k_if_eq X1627 hx (hb hby at_121) (pn := 124) rfl (py := 130) (by decide) (fun _ => ?_) (fun hc => absurd (by decide) hc)
     refine k_aload X1627 hx (hb hby at_130) rfl rfl (pc' := 132) rfl ?_
     refine k_iconst X1627 hx (hb hby at_132) (pc' := 133) rfl (z := (1 : Int32)) rfl ?_
     refine k_iload X1627 hx (hb hby at_133) rfl (pc' := 135) rfl ?_
     refine k_iload X1627 hx (hb hby at_135) rfl (pc' := 137) rfl ?_
     refine k_iload X1627 hx (hb hby at_137) rfl (pc' := 139) rfl ?_
     refine k_callS X1627 hx hZ hown (hw _ (List.mem_of_getElem? (i := 2) rfl)) (hw _ (List.mem_of_getElem? (i := 3) rfl)) (hw _ (List.mem_of_getElem? (i := 4) rfl)) (hw _ (List.mem_of_getElem? (i := 5) rfl)) (by decide) (rm1_132 l Z a0 hw [] b1 (1 : Int32) (4 : Int32) v1624 k1 v2 v5 v8 v11 h12 n0 Z12 Vw12) (by decide) (by decide) e1627 (by rw [hml]; rfl) (argsL := [(.ref b1), (.int (1 : Int32)), (.int (1 : Int32)), (.int (4 : Int32)), (.int v1624)]) (rest := []) (lenOf pd_0 rfl) rfl (W := 0) (Nat.le_refl _) rfl (hb hby at_139) (by decide) (by decide) (pc' := 142) rfl (fun T1641 L1641 r1641 X1641 q1641 => ?_)
     obtain ⟨N1641, e1641, q1641⟩ := q1641
     have N1641' := Fr.app N1627' N1641
     rcases q1641 with ⟨hc1642, rfl⟩ | ⟨hc1643, hc1644, rfl⟩ | ⟨v1645, h1646, hc1647, hc1648, hc1649, rfl⟩ | ⟨v1650, h1651, hc1652, hc1653, hc1654, rfl⟩
     ·
      show KEnds p e below s _ _ _ T1641 (mkF m 142 #[.val (.int i0), .val (.int i1), .val (.int i2), .val (.int i3), .val (.int i4), .val (.int i5), .val (.ref b1), .val (.int (1 : Int32)), .val (.int (4 : Int32)), .val (.int v1599), .val (.int v1624), .unset] [(.int (0 : Int32))])
      exact absurd hc1642 (by decide)
     ·
      show KEnds p e below s _ _ _ T1641 (mkF m 142 #[.val (.int i0), .val (.int i1), .val (.int i2), .val (.int i3), .val (.int i4), .val (.int i5), .val (.ref b1), .val (.int (1 : Int32)), .val (.int (4 : Int32)), .val (.int v1599), .val (.int v1624), .unset] [(.int (0 : Int32))])
      exact absurd (by decide) hc1644
     ·
      show KEnds p e below s _ _ _ T1641 (mkF m 142 #[.val (.int i0), .val (.int i1), .val (.int i2), .val (.int i3), .val (.int i4), .val (.int i5), .val (.ref b1), .val (.int (1 : Int32)), .val (.int (4 : Int32)), .val (.int v1599), .val (.int v1624), .unset] [(.int (0 : Int32))])
      refine k_if_eq X1641 hx (hb hby at_142) (pn := 145) rfl (py := 151) (by decide) (fun _ => ?_) (fun hc => absurd (by decide) hc)
      refine k_aload X1641 hx (hb hby at_151) rfl rfl (pc' := 153) rfl ?_
      refine k_iconst X1641 hx (hb hby at_153) (pc' := 154) rfl (z := (2 : Int32)) rfl ?_
      refine k_iload X1641 hx (hb hby at_154) rfl (pc' := 156) rfl ?_
      refine k_iload X1641 hx (hb hby at_156) rfl (pc' := 158) rfl ?_
      refine k_iload X1641 hx (hb hby at_158) rfl (pc' := 160) rfl ?_
      refine k_callS X1641 hx hZ hown (hw _ (List.mem_of_getElem? (i := 2) rfl)) (hw _ (List.mem_of_getElem? (i := 3) rfl)) (hw _ (List.mem_of_getElem? (i := 4) rfl)) (hw _ (List.mem_of_getElem? (i := 5) rfl)) (by decide) (rm1_151 l Z a0 hw [] b1 (1 : Int32) (4 : Int32) v1624 k1 v2 v5 v8 v11 h12 n0 Z12 Vw12) (by decide) (by decide) e1641 (by rw [hml]; rfl) (argsL := [(.ref b1), (.int (2 : Int32)), (.int (1 : Int32)), (.int (4 : Int32)), (.int v1624)]) (rest := []) (lenOf pd_0 rfl) rfl (W := 0) (Nat.le_refl _) rfl (hb hby at_160) (by decide) (by decide) (pc' := 163) rfl (fun T1655 L1655 r1655 X1655 q1655 => ?_)
      obtain ⟨N1655, e1655, q1655⟩ := q1655
      have N1655' := Fr.app N1641' N1655
      rcases q1655 with ⟨hc1656, rfl⟩ | ⟨hc1657, hc1658, rfl⟩ | ⟨v1659, h1660, hc1661, hc1662, hc1663, rfl⟩ | ⟨v1664, h1665, hc1666, hc1667, hc1668, rfl⟩
      ·
       show KEnds p e below s _ _ _ T1655 (mkF m 163 #[.val (.int i0), .val (.int i1), .val (.int i2), .val (.int i3), .val (.int i4), .val (.int i5), .val (.ref b1), .val (.int (1 : Int32)), .val (.int (4 : Int32)), .val (.int v1599), .val (.int v1624), .unset] [(.int (0 : Int32))])
       exact absurd hc1656 (by decide)
      ·
       show KEnds p e below s _ _ _ T1655 (mkF m 163 #[.val (.int i0), .val (.int i1), .val (.int i2), .val (.int i3), .val (.int i4), .val (.int i5), .val (.ref b1), .val (.int (1 : Int32)), .val (.int (4 : Int32)), .val (.int v1599), .val (.int v1624), .unset] [(.int (0 : Int32))])
       exact absurd (by decide) hc1658
      ·
       show KEnds p e below s _ _ _ T1655 (mkF m 163 #[.val (.int i0), .val (.int i1), .val (.int i2), .val (.int i3), .val (.int i4), .val (.int i5), .val (.ref b1), .val (.int (1 : Int32)), .val (.int (4 : Int32)), .val (.int v1599), .val (.int v1624), .unset] [(.int (0 : Int32))])
       refine k_if_eq X1655 hx (hb hby at_163) (pn := 166) rfl (py := 172) (by decide) (fun _ => ?_) (fun hc => absurd (by decide) hc)
       refine k_aload X1655 hx (hb hby at_172) rfl rfl (pc' := 174) rfl ?_
       refine k_iconst X1655 hx (hb hby at_174) (pc' := 175) rfl (z := (3 : Int32)) rfl ?_
       refine k_iload X1655 hx (hb hby at_175) rfl (pc' := 177) rfl ?_
       refine k_iload X1655 hx (hb hby at_177) rfl (pc' := 179) rfl ?_
       refine k_iload X1655 hx (hb hby at_179) rfl (pc' := 181) rfl ?_
       refine k_callS X1655 hx hZ hown (hw _ (List.mem_of_getElem? (i := 2) rfl)) (hw _ (List.mem_of_getElem? (i := 3) rfl)) (hw _ (List.mem_of_getElem? (i := 4) rfl)) (hw _ (List.mem_of_getElem? (i := 5) rfl)) (by decide) (rm1_170 l Z a0 hw [] b1 (1 : Int32) (4 : Int32) v1624 k1 v2 v5 v8 v11 h12 n0 Z12 Vw12) (by decide) (by decide) e1655 (by rw [hml]; rfl) (argsL := [(.ref b1), (.int (3 : Int32)), (.int (1 : Int32)), (.int (4 : Int32)), (.int v1624)]) (rest := []) (lenOf pd_0 rfl) rfl (W := 0) (Nat.le_refl _) rfl (hb hby at_181) (by decide) (by decide) (pc' := 184) rfl (fun T1669 L1669 r1669 X1669 q1669 => ?_)
       obtain ⟨N1669, e1669, q1669⟩ := q1669
       have N1669' := Fr.app N1655' N1669
       rcases q1669 with ⟨hc1670, rfl⟩ | ⟨hc1671, hc1672, rfl⟩ | ⟨v1673, h1674, hc1675, hc1676, hc1677, rfl⟩ | ⟨v1678, h1679, hc1680, hc1681, hc1682, rfl⟩
       ·
        show KEnds p e below s _ _ _ T1669 (mkF m 184 #[.val (.int i0), .val (.int i1), .val (.int i2), .val (.int i3), .val (.int i4), .val (.int i5), .val (.ref b1), .val (.int (1 : Int32)), .val (.int (4 : Int32)), .val (.int v1599), .val (.int v1624), .unset] [(.int (0 : Int32))])
        exact absurd hc1670 (by decide)
       ·
        show KEnds p e below s _ _ _ T1669 (mkF m 184 #[.val (.int i0), .val (.int i1), .val (.int i2), .val (.int i3), .val (.int i4), .val (.int i5), .val (.ref b1), .val (.int (1 : Int32)), .val (.int (4 : Int32)), .val (.int v1599), .val (.int v1624), .unset] [(.int (0 : Int32))])
        exact absurd (by decide) hc1672
       ·
        show KEnds p e below s _ _ _ T1669 (mkF m 184 #[.val (.int i0), .val (.int i1), .val (.int i2), .val (.int i3), .val (.int i4), .val (.int i5), .val (.ref b1), .val (.int (1 : Int32)), .val (.int (4 : Int32)), .val (.int v1599), .val (.int v1624), .unset] [(.int (0 : Int32))])
        refine k_if_eq X1669 hx (hb hby at_184) (pn := 187) rfl (py := 193) (by decide) (fun _ => ?_) (fun hc => absurd (by decide) hc)
        refine k_iconst X1669 hx (hb hby at_193) (pc' := 194) rfl (z := (-1 : Int32)) rfl ?_
        refine k_istore X1669 hx (hb hby at_194) (Ls' := #[.val (.int i0), .val (.int i1), .val (.int i2), .val (.int i3), .val (.int i4), .val (.int i5), .val (.ref b1), .val (.int (1 : Int32)), .val (.int (4 : Int32)), .val (.int v1599), .val (.int v1624), .val (.int (-1 : Int32))]) rfl (pc' := 196) rfl ?_
        refine k_aload X1669 hx (hb hby at_196) rfl rfl (pc' := 198) rfl ?_
        refine k_iload X1669 hx (hb hby at_198) rfl (pc' := 200) rfl ?_
        refine k_iload X1669 hx (hb hby at_200) rfl (pc' := 202) rfl ?_
        refine k_iload X1669 hx (hb hby at_202) rfl (pc' := 204) rfl ?_
        refine k_callS X1669 hx hZ hown (hw _ (List.mem_of_getElem? (i := 6) rfl)) (hw _ (List.mem_of_getElem? (i := 7) rfl)) (hw _ (List.mem_of_getElem? (i := 8) rfl)) (hw _ (List.mem_of_getElem? (i := 9) rfl)) (by decide) (rm2_1683 l Z a0 hw [] b1 v1624 k1 v2 v5 v8 v11 h12 n0 Z12 Vw12) (by decide) (by decide) e1669 (by rw [hml]; rfl) (argsL := [(.ref b1), (.int (1 : Int32)), (.int (4 : Int32)), (.int v1624)]) (rest := []) (lenOf pd_1 rfl) rfl (W := 0) (Nat.le_refl _) rfl (hb hby at_204) (by decide) (by decide) (pc' := 207) rfl (fun T1691 L1691 r1691 X1691 q1691 => ?_)
        obtain ⟨N1691, e1691, q1691⟩ := q1691
        have N1691' := Fr.app N1669' N1691
        rcases q1691 with ⟨v1692, v1693, v1694, h1695, h1696, h1697, hc1698, hc1699, hc1700, hc1701, rfl⟩ | ⟨v1702, v1703, v1704, h1705, h1706, h1707, hc1708, hc1709, hc1710, hc1711, rfl⟩ | ⟨v1712, v1713, h1714, h1715, hc1716, hc1717, hc1718, rfl⟩ | ⟨v1719, h1720, hc1721, hc1722, rfl⟩ | ⟨hc1723, rfl⟩
        ·
         have hh1724 : v1645 = v1692 := h1646.trans h1695.symm
         subst hh1724
         have hh1725 : v1659 = v1693 := h1660.trans h1696.symm
         subst hh1725
         have hh1726 : v1673 = v1694 := h1674.trans h1697.symm
         subst hh1726
         show KEnds p e below s _ _ _ T1691 (mkF m 207 #[.val (.int i0), .val (.int i1), .val (.int i2), .val (.int i3), .val (.int i4), .val (.int i5), .val (.ref b1), .val (.int (1 : Int32)), .val (.int (4 : Int32)), .val (.int v1599), .val (.int v1624), .val (.int (-1 : Int32))] [(.int (-1 : Int32))])
         refine k_iload X1691 hx (hb hby at_207) rfl (pc' := 209) rfl ?_
         refine k_icmp_ne X1691 hx (hb hby at_209) (pn := 212) rfl (py := 216) (by decide) (fun hc => absurd (by decide) hc) (fun _ => ?_)
         refine k_iconst X1691 hx (hb hby at_212) (pc' := 213) rfl (z := (1 : Int32)) rfl ?_
         refine k_goto X1691 hx (hb hby at_213) (pc' := 217) (by decide) ?_
         exact k_retN X1691 hx (t := .boolean) Bd.returns (by simp) (hb hby at_217) hlk (by decide) (by decide) (z' := (1 : Int32)) rfl ⟨rfl, N1691'⟩
        ·
         have hh1727 : v1645 = v1702 := h1646.trans h1705.symm
         subst hh1727
         have hh1728 : v1659 = v1703 := h1660.trans h1706.symm
         subst hh1728
         have hh1729 : v1673 = v1704 := h1674.trans h1707.symm
         subst hh1729
         show KEnds p e below s _ _ _ T1691 (mkF m 207 #[.val (.int i0), .val (.int i1), .val (.int i2), .val (.int i3), .val (.int i4), .val (.int i5), .val (.ref b1), .val (.int (1 : Int32)), .val (.int (4 : Int32)), .val (.int v1599), .val (.int v1624), .val (.int (-1 : Int32))] [(.int (3 : Int32))])
         exact absurd hc1711 hc1677
        ·
         have hh1730 : v1645 = v1712 := h1646.trans h1714.symm
         subst hh1730
         have hh1731 : v1659 = v1713 := h1660.trans h1715.symm
         subst hh1731
         show KEnds p e below s _ _ _ T1691 (mkF m 207 #[.val (.int i0), .val (.int i1), .val (.int i2), .val (.int i3), .val (.int i4), .val (.int i5), .val (.ref b1), .val (.int (1 : Int32)), .val (.int (4 : Int32)), .val (.int v1599), .val (.int v1624), .val (.int (-1 : Int32))] [(.int (2 : Int32))])
         exact absurd hc1718 hc1663
        ·
         have hh1732 : v1645 = v1719 := h1646.trans h1720.symm
         subst hh1732
         show KEnds p e below s _ _ _ T1691 (mkF m 207 #[.val (.int i0), .val (.int i1), .val (.int i2), .val (.int i3), .val (.int i4), .val (.int i5), .val (.ref b1), .val (.int (1 : Int32)), .val (.int (4 : Int32)), .val (.int v1599), .val (.int v1624), .val (.int (-1 : Int32))] [(.int (1 : Int32))])
         exact absurd hc1722 hc1649
        ·
         show KEnds p e below s _ _ _ T1691 (mkF m 207 #[.val (.int i0), .val (.int i1), .val (.int i2), .val (.int i3), .val (.int i4), .val (.int i5), .val (.ref b1), .val (.int (1 : Int32)), .val (.int (4 : Int32)), .val (.int v1599), .val (.int v1624), .val (.int (-1 : Int32))] [(.int (-1 : Int32))])
         exact absurd hc1723 hc1626
       ·
        show KEnds p e below s _ _ _ T1669 (mkF m 184 #[.val (.int i0), .val (.int i1), .val (.int i2), .val (.int i3), .val (.int i4), .val (.int i5), .val (.ref b1), .val (.int (1 : Int32)), .val (.int (4 : Int32)), .val (.int v1599), .val (.int v1624), .unset] [(.int (1 : Int32))])
        refine k_if_eq X1669 hx (hb hby at_184) (pn := 187) rfl (py := 193) (by decide) (fun hc => absurd hc (by decide)) (fun _ => ?_)
        refine k_iconst X1669 hx (hb hby at_187) (pc' := 188) rfl (z := (3 : Int32)) rfl ?_
        refine k_istore X1669 hx (hb hby at_188) (Ls' := #[.val (.int i0), .val (.int i1), .val (.int i2), .val (.int i3), .val (.int i4), .val (.int i5), .val (.ref b1), .val (.int (1 : Int32)), .val (.int (4 : Int32)), .val (.int v1599), .val (.int v1624), .val (.int (3 : Int32))]) rfl (pc' := 190) rfl ?_
        refine k_goto X1669 hx (hb hby at_190) (pc' := 196) (by decide) ?_
        refine k_aload X1669 hx (hb hby at_196) rfl rfl (pc' := 198) rfl ?_
        refine k_iload X1669 hx (hb hby at_198) rfl (pc' := 200) rfl ?_
        refine k_iload X1669 hx (hb hby at_200) rfl (pc' := 202) rfl ?_
        refine k_iload X1669 hx (hb hby at_202) rfl (pc' := 204) rfl ?_
        refine k_callS X1669 hx hZ hown (hw _ (List.mem_of_getElem? (i := 6) rfl)) (hw _ (List.mem_of_getElem? (i := 7) rfl)) (hw _ (List.mem_of_getElem? (i := 8) rfl)) (hw _ (List.mem_of_getElem? (i := 9) rfl)) (by decide) (rm2_1683 l Z a0 hw [] b1 v1624 k1 v2 v5 v8 v11 h12 n0 Z12 Vw12) (by decide) (by decide) e1669 (by rw [hml]; rfl) (argsL := [(.ref b1), (.int (1 : Int32)), (.int (4 : Int32)), (.int v1624)]) (rest := []) (lenOf pd_1 rfl) rfl (W := 0) (Nat.le_refl _) rfl (hb hby at_204) (by decide) (by decide) (pc' := 207) rfl (fun T1733 L1733 r1733 X1733 q1733 => ?_)
        obtain ⟨N1733, e1733, q1733⟩ := q1733
        have N1733' := Fr.app N1669' N1733
        rcases q1733 with ⟨v1734, v1735, v1736, h1737, h1738, h1739, hc1740, hc1741, hc1742, hc1743, rfl⟩ | ⟨v1744, v1745, v1746, h1747, h1748, h1749, hc1750, hc1751, hc1752, hc1753, rfl⟩ | ⟨v1754, v1755, h1756, h1757, hc1758, hc1759, hc1760, rfl⟩ | ⟨v1761, h1762, hc1763, hc1764, rfl⟩ | ⟨hc1765, rfl⟩
        ·
         have hh1766 : v1645 = v1734 := h1646.trans h1737.symm
         subst hh1766
         have hh1767 : v1659 = v1735 := h1660.trans h1738.symm
         subst hh1767
         have hh1768 : v1678 = v1736 := h1679.trans h1739.symm
         subst hh1768
         show KEnds p e below s _ _ _ T1733 (mkF m 207 #[.val (.int i0), .val (.int i1), .val (.int i2), .val (.int i3), .val (.int i4), .val (.int i5), .val (.ref b1), .val (.int (1 : Int32)), .val (.int (4 : Int32)), .val (.int v1599), .val (.int v1624), .val (.int (3 : Int32))] [(.int (-1 : Int32))])
         exact absurd hc1682 hc1743
        ·
         have hh1769 : v1645 = v1744 := h1646.trans h1747.symm
         subst hh1769
         have hh1770 : v1659 = v1745 := h1660.trans h1748.symm
         subst hh1770
         have hh1771 : v1678 = v1746 := h1679.trans h1749.symm
         subst hh1771
         show KEnds p e below s _ _ _ T1733 (mkF m 207 #[.val (.int i0), .val (.int i1), .val (.int i2), .val (.int i3), .val (.int i4), .val (.int i5), .val (.ref b1), .val (.int (1 : Int32)), .val (.int (4 : Int32)), .val (.int v1599), .val (.int v1624), .val (.int (3 : Int32))] [(.int (3 : Int32))])
         refine k_iload X1733 hx (hb hby at_207) rfl (pc' := 209) rfl ?_
         refine k_icmp_ne X1733 hx (hb hby at_209) (pn := 212) rfl (py := 216) (by decide) (fun hc => absurd (by decide) hc) (fun _ => ?_)
         refine k_iconst X1733 hx (hb hby at_212) (pc' := 213) rfl (z := (1 : Int32)) rfl ?_
         refine k_goto X1733 hx (hb hby at_213) (pc' := 217) (by decide) ?_
         exact k_retN X1733 hx (t := .boolean) Bd.returns (by simp) (hb hby at_217) hlk (by decide) (by decide) (z' := (1 : Int32)) rfl ⟨rfl, N1733'⟩
        ·
         have hh1772 : v1645 = v1754 := h1646.trans h1756.symm
         subst hh1772
         have hh1773 : v1659 = v1755 := h1660.trans h1757.symm
         subst hh1773
         show KEnds p e below s _ _ _ T1733 (mkF m 207 #[.val (.int i0), .val (.int i1), .val (.int i2), .val (.int i3), .val (.int i4), .val (.int i5), .val (.ref b1), .val (.int (1 : Int32)), .val (.int (4 : Int32)), .val (.int v1599), .val (.int v1624), .val (.int (3 : Int32))] [(.int (2 : Int32))])
         exact absurd hc1760 hc1663
        ·
         have hh1774 : v1645 = v1761 := h1646.trans h1762.symm
         subst hh1774
         show KEnds p e below s _ _ _ T1733 (mkF m 207 #[.val (.int i0), .val (.int i1), .val (.int i2), .val (.int i3), .val (.int i4), .val (.int i5), .val (.ref b1), .val (.int (1 : Int32)), .val (.int (4 : Int32)), .val (.int v1599), .val (.int v1624), .val (.int (3 : Int32))] [(.int (1 : Int32))])
         exact absurd hc1764 hc1649
        ·
         show KEnds p e below s _ _ _ T1733 (mkF m 207 #[.val (.int i0), .val (.int i1), .val (.int i2), .val (.int i3), .val (.int i4), .val (.int i5), .val (.ref b1), .val (.int (1 : Int32)), .val (.int (4 : Int32)), .val (.int v1599), .val (.int v1624), .val (.int (3 : Int32))] [(.int (-1 : Int32))])
         exact absurd hc1765 hc1626
      ·
       show KEnds p e below s _ _ _ T1655 (mkF m 163 #[.val (.int i0), .val (.int i1), .val (.int i2), .val (.int i3), .val (.int i4), .val (.int i5), .val (.ref b1), .val (.int (1 : Int32)), .val (.int (4 : Int32)), .val (.int v1599), .val (.int v1624), .unset] [(.int (1 : Int32))])
       refine k_if_eq X1655 hx (hb hby at_163) (pn := 166) rfl (py := 172) (by decide) (fun hc => absurd hc (by decide)) (fun _ => ?_)
       refine k_iconst X1655 hx (hb hby at_166) (pc' := 167) rfl (z := (2 : Int32)) rfl ?_
       refine k_istore X1655 hx (hb hby at_167) (Ls' := #[.val (.int i0), .val (.int i1), .val (.int i2), .val (.int i3), .val (.int i4), .val (.int i5), .val (.ref b1), .val (.int (1 : Int32)), .val (.int (4 : Int32)), .val (.int v1599), .val (.int v1624), .val (.int (2 : Int32))]) rfl (pc' := 169) rfl ?_
       refine k_goto X1655 hx (hb hby at_169) (pc' := 196) (by decide) ?_
       refine k_aload X1655 hx (hb hby at_196) rfl rfl (pc' := 198) rfl ?_
       refine k_iload X1655 hx (hb hby at_198) rfl (pc' := 200) rfl ?_
       refine k_iload X1655 hx (hb hby at_200) rfl (pc' := 202) rfl ?_
       refine k_iload X1655 hx (hb hby at_202) rfl (pc' := 204) rfl ?_
       refine k_callS X1655 hx hZ hown (hw _ (List.mem_of_getElem? (i := 6) rfl)) (hw _ (List.mem_of_getElem? (i := 7) rfl)) (hw _ (List.mem_of_getElem? (i := 8) rfl)) (hw _ (List.mem_of_getElem? (i := 9) rfl)) (by decide) (rm2_1683 l Z a0 hw [] b1 v1624 k1 v2 v5 v8 v11 h12 n0 Z12 Vw12) (by decide) (by decide) e1655 (by rw [hml]; rfl) (argsL := [(.ref b1), (.int (1 : Int32)), (.int (4 : Int32)), (.int v1624)]) (rest := []) (lenOf pd_1 rfl) rfl (W := 0) (Nat.le_refl _) rfl (hb hby at_204) (by decide) (by decide) (pc' := 207) rfl (fun T1775 L1775 r1775 X1775 q1775 => ?_)
       obtain ⟨N1775, e1775, q1775⟩ := q1775
       have N1775' := Fr.app N1655' N1775
       rcases q1775 with ⟨v1776, v1777, v1778, h1779, h1780, h1781, hc1782, hc1783, hc1784, hc1785, rfl⟩ | ⟨v1786, v1787, v1788, h1789, h1790, h1791, hc1792, hc1793, hc1794, hc1795, rfl⟩ | ⟨v1796, v1797, h1798, h1799, hc1800, hc1801, hc1802, rfl⟩ | ⟨v1803, h1804, hc1805, hc1806, rfl⟩ | ⟨hc1807, rfl⟩
       ·
        have hh1808 : v1645 = v1776 := h1646.trans h1779.symm
        subst hh1808
        have hh1809 : v1664 = v1777 := h1665.trans h1780.symm
        subst hh1809
        show KEnds p e below s _ _ _ T1775 (mkF m 207 #[.val (.int i0), .val (.int i1), .val (.int i2), .val (.int i3), .val (.int i4), .val (.int i5), .val (.ref b1), .val (.int (1 : Int32)), .val (.int (4 : Int32)), .val (.int v1599), .val (.int v1624), .val (.int (2 : Int32))] [(.int (-1 : Int32))])
        exact absurd hc1668 hc1784
       ·
        have hh1810 : v1645 = v1786 := h1646.trans h1789.symm
        subst hh1810
        have hh1811 : v1664 = v1787 := h1665.trans h1790.symm
        subst hh1811
        show KEnds p e below s _ _ _ T1775 (mkF m 207 #[.val (.int i0), .val (.int i1), .val (.int i2), .val (.int i3), .val (.int i4), .val (.int i5), .val (.ref b1), .val (.int (1 : Int32)), .val (.int (4 : Int32)), .val (.int v1599), .val (.int v1624), .val (.int (2 : Int32))] [(.int (3 : Int32))])
        exact absurd hc1668 hc1794
       ·
        have hh1812 : v1645 = v1796 := h1646.trans h1798.symm
        subst hh1812
        have hh1813 : v1664 = v1797 := h1665.trans h1799.symm
        subst hh1813
        show KEnds p e below s _ _ _ T1775 (mkF m 207 #[.val (.int i0), .val (.int i1), .val (.int i2), .val (.int i3), .val (.int i4), .val (.int i5), .val (.ref b1), .val (.int (1 : Int32)), .val (.int (4 : Int32)), .val (.int v1599), .val (.int v1624), .val (.int (2 : Int32))] [(.int (2 : Int32))])
        refine k_iload X1775 hx (hb hby at_207) rfl (pc' := 209) rfl ?_
        refine k_icmp_ne X1775 hx (hb hby at_209) (pn := 212) rfl (py := 216) (by decide) (fun hc => absurd (by decide) hc) (fun _ => ?_)
        refine k_iconst X1775 hx (hb hby at_212) (pc' := 213) rfl (z := (1 : Int32)) rfl ?_
        refine k_goto X1775 hx (hb hby at_213) (pc' := 217) (by decide) ?_
        exact k_retN X1775 hx (t := .boolean) Bd.returns (by simp) (hb hby at_217) hlk (by decide) (by decide) (z' := (1 : Int32)) rfl ⟨rfl, N1775'⟩
       ·
        have hh1814 : v1645 = v1803 := h1646.trans h1804.symm
        subst hh1814
        show KEnds p e below s _ _ _ T1775 (mkF m 207 #[.val (.int i0), .val (.int i1), .val (.int i2), .val (.int i3), .val (.int i4), .val (.int i5), .val (.ref b1), .val (.int (1 : Int32)), .val (.int (4 : Int32)), .val (.int v1599), .val (.int v1624), .val (.int (2 : Int32))] [(.int (1 : Int32))])
        exact absurd hc1806 hc1649
       ·
        show KEnds p e below s _ _ _ T1775 (mkF m 207 #[.val (.int i0), .val (.int i1), .val (.int i2), .val (.int i3), .val (.int i4), .val (.int i5), .val (.ref b1), .val (.int (1 : Int32)), .val (.int (4 : Int32)), .val (.int v1599), .val (.int v1624), .val (.int (2 : Int32))] [(.int (-1 : Int32))])
        exact absurd hc1807 hc1626
     ·
      show KEnds p e below s _ _ _ T1641 (mkF m 142 #[.val (.int i0), .val (.int i1), .val (.int i2), .val (.int i3), .val (.int i4), .val (.int i5), .val (.ref b1), .val (.int (1 : Int32)), .val (.int (4 : Int32)), .val (.int v1599), .val (.int v1624), .unset] [(.int (1 : Int32))])
      refine k_if_eq X1641 hx (hb hby at_142) (pn := 145) rfl (py := 151) (by decide) (fun hc => absurd hc (by decide)) (fun _ => ?_)
      refine k_iconst X1641 hx (hb hby at_145) (pc' := 146) rfl (z := (1 : Int32)) rfl ?_
      refine k_istore X1641 hx (hb hby at_146) (Ls' := #[.val (.int i0), .val (.int i1), .val (.int i2), .val (.int i3), .val (.int i4), .val (.int i5), .val (.ref b1), .val (.int (1 : Int32)), .val (.int (4 : Int32)), .val (.int v1599), .val (.int v1624), .val (.int (1 : Int32))]) rfl (pc' := 148) rfl ?_
      refine k_goto X1641 hx (hb hby at_148) (pc' := 196) (by decide) ?_
      refine k_aload X1641 hx (hb hby at_196) rfl rfl (pc' := 198) rfl ?_
      refine k_iload X1641 hx (hb hby at_198) rfl (pc' := 200) rfl ?_
      refine k_iload X1641 hx (hb hby at_200) rfl (pc' := 202) rfl ?_
      refine k_iload X1641 hx (hb hby at_202) rfl (pc' := 204) rfl ?_
      refine k_callS X1641 hx hZ hown (hw _ (List.mem_of_getElem? (i := 6) rfl)) (hw _ (List.mem_of_getElem? (i := 7) rfl)) (hw _ (List.mem_of_getElem? (i := 8) rfl)) (hw _ (List.mem_of_getElem? (i := 9) rfl)) (by decide) (rm2_1683 l Z a0 hw [] b1 v1624 k1 v2 v5 v8 v11 h12 n0 Z12 Vw12) (by decide) (by decide) e1641 (by rw [hml]; rfl) (argsL := [(.ref b1), (.int (1 : Int32)), (.int (4 : Int32)), (.int v1624)]) (rest := []) (lenOf pd_1 rfl) rfl (W := 0) (Nat.le_refl _) rfl (hb hby at_204) (by decide) (by decide) (pc' := 207) rfl (fun T1815 L1815 r1815 X1815 q1815 => ?_)
      obtain ⟨N1815, e1815, q1815⟩ := q1815
      have N1815' := Fr.app N1641' N1815
      rcases q1815 with ⟨v1816, v1817, v1818, h1819, h1820, h1821, hc1822, hc1823, hc1824, hc1825, rfl⟩ | ⟨v1826, v1827, v1828, h1829, h1830, h1831, hc1832, hc1833, hc1834, hc1835, rfl⟩ | ⟨v1836, v1837, h1838, h1839, hc1840, hc1841, hc1842, rfl⟩ | ⟨v1843, h1844, hc1845, hc1846, rfl⟩ | ⟨hc1847, rfl⟩
      ·
       have hh1848 : v1650 = v1816 := h1651.trans h1819.symm
       subst hh1848
       show KEnds p e below s _ _ _ T1815 (mkF m 207 #[.val (.int i0), .val (.int i1), .val (.int i2), .val (.int i3), .val (.int i4), .val (.int i5), .val (.ref b1), .val (.int (1 : Int32)), .val (.int (4 : Int32)), .val (.int v1599), .val (.int v1624), .val (.int (1 : Int32))] [(.int (-1 : Int32))])
       exact absurd hc1654 hc1823
      ·
       have hh1849 : v1650 = v1826 := h1651.trans h1829.symm
       subst hh1849
       show KEnds p e below s _ _ _ T1815 (mkF m 207 #[.val (.int i0), .val (.int i1), .val (.int i2), .val (.int i3), .val (.int i4), .val (.int i5), .val (.ref b1), .val (.int (1 : Int32)), .val (.int (4 : Int32)), .val (.int v1599), .val (.int v1624), .val (.int (1 : Int32))] [(.int (3 : Int32))])
       exact absurd hc1654 hc1833
      ·
       have hh1850 : v1650 = v1836 := h1651.trans h1838.symm
       subst hh1850
       show KEnds p e below s _ _ _ T1815 (mkF m 207 #[.val (.int i0), .val (.int i1), .val (.int i2), .val (.int i3), .val (.int i4), .val (.int i5), .val (.ref b1), .val (.int (1 : Int32)), .val (.int (4 : Int32)), .val (.int v1599), .val (.int v1624), .val (.int (1 : Int32))] [(.int (2 : Int32))])
       exact absurd hc1654 hc1841
      ·
       have hh1851 : v1650 = v1843 := h1651.trans h1844.symm
       subst hh1851
       show KEnds p e below s _ _ _ T1815 (mkF m 207 #[.val (.int i0), .val (.int i1), .val (.int i2), .val (.int i3), .val (.int i4), .val (.int i5), .val (.ref b1), .val (.int (1 : Int32)), .val (.int (4 : Int32)), .val (.int v1599), .val (.int v1624), .val (.int (1 : Int32))] [(.int (1 : Int32))])
       refine k_iload X1815 hx (hb hby at_207) rfl (pc' := 209) rfl ?_
       refine k_icmp_ne X1815 hx (hb hby at_209) (pn := 212) rfl (py := 216) (by decide) (fun hc => absurd (by decide) hc) (fun _ => ?_)
       refine k_iconst X1815 hx (hb hby at_212) (pc' := 213) rfl (z := (1 : Int32)) rfl ?_
       refine k_goto X1815 hx (hb hby at_213) (pc' := 217) (by decide) ?_
       exact k_retN X1815 hx (t := .boolean) Bd.returns (by simp) (hb hby at_217) hlk (by decide) (by decide) (z' := (1 : Int32)) rfl ⟨rfl, N1815'⟩
      ·
       show KEnds p e below s _ _ _ T1815 (mkF m 207 #[.val (.int i0), .val (.int i1), .val (.int i2), .val (.int i3), .val (.int i4), .val (.int i5), .val (.ref b1), .val (.int (1 : Int32)), .val (.int (4 : Int32)), .val (.int v1599), .val (.int v1624), .val (.int (1 : Int32))] [(.int (-1 : Int32))])
       exact absurd hc1847 hc1626
    ·
     show KEnds p e below s _ _ _ T1627 (mkF m 121 #[.val (.int i0), .val (.int i1), .val (.int i2), .val (.int i3), .val (.int i4), .val (.int i5), .val (.ref b1), .val (.int (1 : Int32)), .val (.int (4 : Int32)), .val (.int v1599), .val (.int v1624), .unset] [(.int (0 : Int32))])
     exact absurd (by decide) hc1629
    ·
     show KEnds p e below s _ _ _ T1627 (mkF m 121 #[.val (.int i0), .val (.int i1), .val (.int i2), .val (.int i3), .val (.int i4), .val (.int i5), .val (.ref b1), .val (.int (1 : Int32)), .val (.int (4 : Int32)), .val (.int v1599), .val (.int v1624), .unset] [(.int (0 : Int32))])
     exact absurd (by decide) hc1633
    ·
     show KEnds p e below s _ _ _ T1627 (mkF m 121 #[.val (.int i0), .val (.int i1), .val (.int i2), .val (.int i3), .val (.int i4), .val (.int i5), .val (.ref b1), .val (.int (1 : Int32)), .val (.int (4 : Int32)), .val (.int v1599), .val (.int v1624), .unset] [(.int (1 : Int32))])
     exact absurd (by decide) hc1638
   ·
    refine k_iconst X12 hx (hb hby at_103) (pc' := 104) rfl (z := (-1 : Int32)) rfl ?_
    refine k_istore X12 hx (hb hby at_104) (Ls' := #[.val (.int i0), .val (.int i1), .val (.int i2), .val (.int i3), .val (.int i4), .val (.int i5), .val (.ref b1), .val (.int (1 : Int32)), .val (.int (4 : Int32)), .val (.int v1599), .val (.int v1624), .val (.int (-1 : Int32))]) rfl (pc' := 106) rfl ?_
    refine k_goto X12 hx (hb hby at_106) (pc' := 196) (by decide) ?_
    refine k_aload X12 hx (hb hby at_196) rfl rfl (pc' := 198) rfl ?_
    refine k_iload X12 hx (hb hby at_198) rfl (pc' := 200) rfl ?_
    refine k_iload X12 hx (hb hby at_200) rfl (pc' := 202) rfl ?_
    refine k_iload X12 hx (hb hby at_202) rfl (pc' := 204) rfl ?_
    refine k_callS X12 hx hZ hown (hw _ (List.mem_of_getElem? (i := 6) rfl)) (hw _ (List.mem_of_getElem? (i := 7) rfl)) (hw _ (List.mem_of_getElem? (i := 8) rfl)) (hw _ (List.mem_of_getElem? (i := 9) rfl)) (by decide) (rm2_1683 l Z a0 hw [] b1 v1624 k1 v2 v5 v8 v11 h12 n0 Z12 Vw12) (by decide) (by decide) e12 (by rw [hml]; rfl) (argsL := [(.ref b1), (.int (1 : Int32)), (.int (4 : Int32)), (.int v1624)]) (rest := []) (lenOf pd_1 rfl) rfl (W := 0) (Nat.le_refl _) rfl (hb hby at_204) (by decide) (by decide) (pc' := 207) rfl (fun T1852 L1852 r1852 X1852 q1852 => ?_)
    obtain ⟨N1852, e1852, q1852⟩ := q1852
    have N1852' := Fr.app N12 N1852
    rcases q1852 with ⟨v1853, v1854, v1855, h1856, h1857, h1858, hc1859, hc1860, hc1861, hc1862, rfl⟩ | ⟨v1863, v1864, v1865, h1866, h1867, h1868, hc1869, hc1870, hc1871, hc1872, rfl⟩ | ⟨v1873, v1874, h1875, h1876, hc1877, hc1878, hc1879, rfl⟩ | ⟨v1880, h1881, hc1882, hc1883, rfl⟩ | ⟨hc1884, rfl⟩
    ·
     show KEnds p e below s _ _ _ T1852 (mkF m 207 #[.val (.int i0), .val (.int i1), .val (.int i2), .val (.int i3), .val (.int i4), .val (.int i5), .val (.ref b1), .val (.int (1 : Int32)), .val (.int (4 : Int32)), .val (.int v1599), .val (.int v1624), .val (.int (-1 : Int32))] [(.int (-1 : Int32))])
     exact absurd hc1626 hc1859
    ·
     show KEnds p e below s _ _ _ T1852 (mkF m 207 #[.val (.int i0), .val (.int i1), .val (.int i2), .val (.int i3), .val (.int i4), .val (.int i5), .val (.ref b1), .val (.int (1 : Int32)), .val (.int (4 : Int32)), .val (.int v1599), .val (.int v1624), .val (.int (-1 : Int32))] [(.int (3 : Int32))])
     exact absurd hc1626 hc1869
    ·
     show KEnds p e below s _ _ _ T1852 (mkF m 207 #[.val (.int i0), .val (.int i1), .val (.int i2), .val (.int i3), .val (.int i4), .val (.int i5), .val (.ref b1), .val (.int (1 : Int32)), .val (.int (4 : Int32)), .val (.int v1599), .val (.int v1624), .val (.int (-1 : Int32))] [(.int (2 : Int32))])
     exact absurd hc1626 hc1877
    ·
     show KEnds p e below s _ _ _ T1852 (mkF m 207 #[.val (.int i0), .val (.int i1), .val (.int i2), .val (.int i3), .val (.int i4), .val (.int i5), .val (.ref b1), .val (.int (1 : Int32)), .val (.int (4 : Int32)), .val (.int v1599), .val (.int v1624), .val (.int (-1 : Int32))] [(.int (1 : Int32))])
     exact absurd hc1626 hc1882
    ·
     show KEnds p e below s _ _ _ T1852 (mkF m 207 #[.val (.int i0), .val (.int i1), .val (.int i2), .val (.int i3), .val (.int i4), .val (.int i5), .val (.ref b1), .val (.int (1 : Int32)), .val (.int (4 : Int32)), .val (.int v1599), .val (.int v1624), .val (.int (-1 : Int32))] [(.int (-1 : Int32))])
     refine k_iload X1852 hx (hb hby at_207) rfl (pc' := 209) rfl ?_
     refine k_icmp_ne X1852 hx (hb hby at_209) (pn := 212) rfl (py := 216) (by decide) (fun hc => absurd (by decide) hc) (fun _ => ?_)
     refine k_iconst X1852 hx (hb hby at_212) (pc' := 213) rfl (z := (1 : Int32)) rfl ?_
     refine k_goto X1852 hx (hb hby at_213) (pc' := 217) (by decide) ?_
     exact k_retN X1852 hx (t := .boolean) Bd.returns (by simp) (hb hby at_217) hlk (by decide) (by decide) (z' := (1 : Int32)) rfl ⟨rfl, N1852'⟩
 ·
  show KEnds p e below s _ _ _ T12 (mkF m 32 #[.val (.int i0), .val (.int i1), .val (.int i2), .val (.int i3), .val (.int i4), .val (.int i5), .val (.ref b1), .unset, .unset, .unset, .unset, .unset] [(.int (2 : Int32))])
  refine k_istore X12 hx (hb hby at_32) (Ls' := #[.val (.int i0), .val (.int i1), .val (.int i2), .val (.int i3), .val (.int i4), .val (.int i5), .val (.ref b1), .val (.int (2 : Int32)), .unset, .unset, .unset, .unset]) rfl (pc' := 34) rfl ?_
  refine k_iload X12 hx (hb hby at_34) rfl (pc' := 36) rfl ?_
  refine k_bipush X12 hx (hb hby at_36) (pc' := 38) rfl (z := (8 : Int32)) rfl ?_
  refine k_iushr X12 hx (hb hby at_38) (pc' := 39) rfl (fun v1886 hv1886 => ?_)
  refine k_ldc X12 hx hZ hown (hw _ (List.mem_of_getElem? (i := 1) rfl)) (hb hby at_39) (pc' := 41) rfl ?_
  refine k_iand X12 hx (hb hby at_41) (pc' := 42) rfl (fun v1887 hv1887 => ?_)
  refine k_iconst X12 hx (hb hby at_42) (pc' := 43) rfl (z := (5 : Int32)) rfl ?_
  refine k_irem X12 hx (hb hby at_43) (by decide) (pc' := 44) rfl (fun v1888 hv1888 => ?_)
  have hs1889 : v1888 = (0 : Int32) ∨ v1888 = (1 : Int32) ∨ v1888 = (2 : Int32) ∨ v1888 = (3 : Int32) ∨ v1888 = (4 : Int32) := by
   have := rng32 v1888
   have := rng32 v1887
   have := rng32 v1886
   have := rng32 i4
   have : (8 : Int32).toInt = 8 := (by decide)
   have q1890 : v1886.toInt = (i4.toInt % 4294967296) / 256 := (by rw [hv1886]; exact c_iushr _ _ 8 (by decide) (by decide))
   have : (2147483647 : Int32).toInt = 2147483647 := (by decide)
   have q1891 : v1887.toInt = v1886.toInt % 2147483648 := (by rw [hv1887]; exact c_mask _ _ 31 (by decide) (by decide))
   have : (5 : Int32).toInt = 5 := (by decide)
   have q1892 : (0 ≤ v1887.toInt → v1888.toInt = v1887.toInt % 5) ∧ (v1887.toInt < 0 → v1888.toInt = -((-v1887.toInt) % 5)) := (by rw [hv1888]; exact c_irem _ _ 5 (by decide))
   rcases (by omega : v1888.toInt = 0 ∨ v1888.toInt = 1 ∨ v1888.toInt = 2 ∨ v1888.toInt = 3 ∨ v1888.toInt = 4) with hq | hq | hq | hq | hq
   · exact Or.inl (Int32.toInt_inj.mp hq)
   · exact Or.inr (Or.inl (Int32.toInt_inj.mp hq))
   · exact Or.inr (Or.inr (Or.inl (Int32.toInt_inj.mp hq)))
   · exact Or.inr (Or.inr (Or.inr (Or.inl (Int32.toInt_inj.mp hq))))
   · exact Or.inr (Or.inr (Or.inr (Or.inr ((Int32.toInt_inj.mp hq)))))
  rcases hs1889 with rfl | rfl | rfl | rfl | rfl
  ·
   show KEnds p e below s _ _ _ T12 (mkF m 44 #[.val (.int i0), .val (.int i1), .val (.int i2), .val (.int i3), .val (.int i4), .val (.int i5), .val (.ref b1), .val (.int (2 : Int32)), .unset, .unset, .unset, .unset] [(.int (0 : Int32))])
   refine k_istore X12 hx (hb hby at_44) (Ls' := #[.val (.int i0), .val (.int i1), .val (.int i2), .val (.int i3), .val (.int i4), .val (.int i5), .val (.ref b1), .val (.int (2 : Int32)), .val (.int (0 : Int32)), .unset, .unset, .unset]) rfl (pc' := 46) rfl ?_
   refine k_iload X12 hx (hb hby at_46) rfl (pc' := 48) rfl ?_
   refine k_iconst X12 hx (hb hby at_48) (pc' := 49) rfl (z := (3 : Int32)) rfl ?_
   refine k_iand X12 hx (hb hby at_49) (pc' := 50) rfl (fun v1894 hv1894 => ?_)
   refine k_istore X12 hx (hb hby at_50) (Ls' := #[.val (.int i0), .val (.int i1), .val (.int i2), .val (.int i3), .val (.int i4), .val (.int i5), .val (.ref b1), .val (.int (2 : Int32)), .val (.int (0 : Int32)), .val (.int v1894), .unset, .unset]) rfl (pc' := 52) rfl ?_
   suffices key1895 : ∀ (v1919 : Int32), KEnds p e below s 16 128 (Q0 n0) T12 (mkF m 97 #[.val (.int i0), .val (.int i1), .val (.int i2), .val (.int i3), .val (.int i4), .val (.int i5), .val (.ref b1), .val (.int (2 : Int32)), .val (.int (0 : Int32)), .val (.int v1894), .val (.int v1919), .unset] []) by
    refine k_iload X12 hx (hb hby at_52) rfl (pc' := 54) rfl ?_
    refine k_if_ne X12 hx (hb hby at_54) (pn := 57) rfl (py := 63) (by decide) (fun hc1896 => ?_) (fun hc1896 => ?_)
    ·
     refine k_iload X12 hx (hb hby at_63) rfl (pc' := 65) rfl ?_
     refine k_iconst X12 hx (hb hby at_65) (pc' := 66) rfl (z := (1 : Int32)) rfl ?_
     refine k_icmp_ne X12 hx (hb hby at_66) (pn := 69) rfl (py := 87) (by decide) (fun hc1897 => ?_) (fun hc1897 => ?_)
     ·
      refine k_iload X12 hx (hb hby at_87) rfl (pc' := 89) rfl ?_
      refine k_iconst X12 hx (hb hby at_89) (pc' := 90) rfl (z := (2 : Int32)) rfl ?_
      refine k_iushr X12 hx (hb hby at_90) (pc' := 91) rfl (fun v1898 hv1898 => ?_)
      refine k_sipush X12 hx (hb hby at_91) (pc' := 94) rfl (z := (255 : Int32)) rfl ?_
      refine k_iand X12 hx (hb hby at_94) (pc' := 95) rfl (fun v1899 hv1899 => ?_)
      refine k_istore X12 hx (hb hby at_95) (Ls' := #[.val (.int i0), .val (.int i1), .val (.int i2), .val (.int i3), .val (.int i4), .val (.int i5), .val (.ref b1), .val (.int (2 : Int32)), .val (.int (0 : Int32)), .val (.int v1894), .val (.int v1899), .unset]) rfl (pc' := 97) rfl ?_
      exact key1895 v1899
     ·
      refine k_aload X12 hx (hb hby at_69) rfl rfl (pc' := 71) rfl ?_
      refine k_iload X12 hx (hb hby at_71) rfl (pc' := 73) rfl ?_
      refine k_iconst X12 hx (hb hby at_73) (pc' := 74) rfl (z := (2 : Int32)) rfl ?_
      refine k_iushr X12 hx (hb hby at_74) (pc' := 75) rfl (fun v1900 hv1900 => ?_)
      refine k_iconst X12 hx (hb hby at_75) (pc' := 76) rfl (z := (3 : Int32)) rfl ?_
      refine k_iand X12 hx (hb hby at_76) (pc' := 77) rfl (fun v1901 hv1901 => ?_)
      have hj1902 : ¬ v1901 < 0 ∧ v1901 < (4 : Int32) := by
       refine ⟨?_, ?_⟩
       ·
        intro hq1903
        have := rng32 v1894
        have := rng32 i5
        have : (3 : Int32).toInt = 3 := (by decide)
        have q1904 : v1894.toInt = i5.toInt % 4 := (by rw [hv1894]; exact c_mask _ _ 2 (by decide) (by decide))
        have : (0 : Int32).toInt = 0 := (by decide)
        have q1905 : ¬ v1894.toInt = (0 : Int32).toInt := fun q => hc1896 (Int32.toInt_inj.mp q)
        have : (1 : Int32).toInt = 1 := (by decide)
        have q1906 := congrArg Int32.toInt hc1897
        have := rng32 v1901
        have := rng32 v1900
        have : (2 : Int32).toInt = 2 := (by decide)
        have q1907 : v1900.toInt = (i5.toInt % 4294967296) / 4 := (by rw [hv1900]; exact c_iushr _ _ 2 (by decide) (by decide))
        have q1908 : v1901.toInt = v1900.toInt % 4 := (by rw [hv1901]; exact c_mask _ _ 2 (by decide) (by decide))
        have q1909 := hq1903; rw [Int32.lt_iff_toInt_lt] at q1909
        omega
       ·
        refine Classical.byContradiction (fun hq1910 => ?_)
        have := rng32 v1894
        have := rng32 i5
        have : (3 : Int32).toInt = 3 := (by decide)
        have q1911 : v1894.toInt = i5.toInt % 4 := (by rw [hv1894]; exact c_mask _ _ 2 (by decide) (by decide))
        have : (0 : Int32).toInt = 0 := (by decide)
        have q1912 : ¬ v1894.toInt = (0 : Int32).toInt := fun q => hc1896 (Int32.toInt_inj.mp q)
        have : (1 : Int32).toInt = 1 := (by decide)
        have q1913 := congrArg Int32.toInt hc1897
        have := rng32 v1901
        have := rng32 v1900
        have : (2 : Int32).toInt = 2 := (by decide)
        have q1914 : v1900.toInt = (i5.toInt % 4294967296) / 4 := (by rw [hv1900]; exact c_iushr _ _ 2 (by decide) (by decide))
        have q1915 : v1901.toInt = v1900.toInt % 4 := (by rw [hv1901]; exact c_mask _ _ 2 (by decide) (by decide))
        have : (4 : Int32).toInt = 4 := (by decide)
        have q1916 := hq1910; rw [Int32.lt_iff_toInt_lt] at q1916
        omega
      refine k_baloadS X12 hx hZ e12 Vw12 hj1902 (hb hby at_77) (pc' := 78) rfl (fun v1917 hv1917 => ?_)
      refine k_sipush X12 hx (hb hby at_78) (pc' := 81) rfl (z := (255 : Int32)) rfl ?_
      refine k_iand X12 hx (hb hby at_81) (pc' := 82) rfl (fun v1918 hv1918 => ?_)
      refine k_istore X12 hx (hb hby at_82) (Ls' := #[.val (.int i0), .val (.int i1), .val (.int i2), .val (.int i3), .val (.int i4), .val (.int i5), .val (.ref b1), .val (.int (2 : Int32)), .val (.int (0 : Int32)), .val (.int v1894), .val (.int v1918), .unset]) rfl (pc' := 84) rfl ?_
      refine k_goto X12 hx (hb hby at_84) (pc' := 97) (by decide) ?_
      exact key1895 v1918
    ·
     refine k_iconst X12 hx (hb hby at_57) (pc' := 58) rfl (z := (-1 : Int32)) rfl ?_
     refine k_istore X12 hx (hb hby at_58) (Ls' := #[.val (.int i0), .val (.int i1), .val (.int i2), .val (.int i3), .val (.int i4), .val (.int i5), .val (.ref b1), .val (.int (2 : Int32)), .val (.int (0 : Int32)), .val (.int v1894), .val (.int (-1 : Int32)), .unset]) rfl (pc' := 60) rfl ?_
     refine k_goto X12 hx (hb hby at_60) (pc' := 97) (by decide) ?_
     exact key1895 (-1 : Int32)
   intro v1919
   refine k_iload X12 hx (hb hby at_97) rfl (pc' := 99) rfl ?_
   refine k_iconst X12 hx (hb hby at_99) (pc' := 100) rfl (z := (-1 : Int32)) rfl ?_
   refine k_icmp_ne X12 hx (hb hby at_100) (pn := 103) rfl (py := 109) (by decide) (fun hc1921 => ?_) (fun hc1921 => ?_)
   ·
    refine k_aload X12 hx (hb hby at_109) rfl rfl (pc' := 111) rfl ?_
    refine k_iconst X12 hx (hb hby at_111) (pc' := 112) rfl (z := (0 : Int32)) rfl ?_
    refine k_iload X12 hx (hb hby at_112) rfl (pc' := 114) rfl ?_
    refine k_iload X12 hx (hb hby at_114) rfl (pc' := 116) rfl ?_
    refine k_iload X12 hx (hb hby at_116) rfl (pc' := 118) rfl ?_
    refine k_callS X12 hx hZ hown (hw _ (List.mem_of_getElem? (i := 2) rfl)) (hw _ (List.mem_of_getElem? (i := 3) rfl)) (hw _ (List.mem_of_getElem? (i := 4) rfl)) (hw _ (List.mem_of_getElem? (i := 5) rfl)) (by decide) (rm1_113 l Z a0 hw [] b1 (2 : Int32) (0 : Int32) v1919 k1 v2 v5 v8 v11 h12 n0 Z12 Vw12) (by decide) (by decide) e12 (by rw [hml]; rfl) (argsL := [(.ref b1), (.int (0 : Int32)), (.int (2 : Int32)), (.int (0 : Int32)), (.int v1919)]) (rest := []) (lenOf pd_0 rfl) rfl (W := 0) (Nat.le_refl _) rfl (hb hby at_118) (by decide) (by decide) (pc' := 121) rfl (fun T1922 L1922 r1922 X1922 q1922 => ?_)
    obtain ⟨N1922, e1922, q1922⟩ := q1922
    have N1922' := Fr.app N12 N1922
    rcases q1922 with ⟨hc1923, rfl⟩ | ⟨hc1924, hc1925, rfl⟩ | ⟨v1926, h1927, hc1928, hc1929, hc1930, rfl⟩ | ⟨v1931, h1932, hc1933, hc1934, hc1935, rfl⟩
    ·
     show KEnds p e below s _ _ _ T1922 (mkF m 121 #[.val (.int i0), .val (.int i1), .val (.int i2), .val (.int i3), .val (.int i4), .val (.int i5), .val (.ref b1), .val (.int (2 : Int32)), .val (.int (0 : Int32)), .val (.int v1894), .val (.int v1919), .unset] [(.int (0 : Int32))])
     refine k_if_eq X1922 hx (hb hby at_121) (pn := 124) rfl (py := 130) (by decide) (fun _ => ?_) (fun hc => absurd (by decide) hc)
     refine k_aload X1922 hx (hb hby at_130) rfl rfl (pc' := 132) rfl ?_
     refine k_iconst X1922 hx (hb hby at_132) (pc' := 133) rfl (z := (1 : Int32)) rfl ?_
     refine k_iload X1922 hx (hb hby at_133) rfl (pc' := 135) rfl ?_
     refine k_iload X1922 hx (hb hby at_135) rfl (pc' := 137) rfl ?_
     refine k_iload X1922 hx (hb hby at_137) rfl (pc' := 139) rfl ?_
     refine k_callS X1922 hx hZ hown (hw _ (List.mem_of_getElem? (i := 2) rfl)) (hw _ (List.mem_of_getElem? (i := 3) rfl)) (hw _ (List.mem_of_getElem? (i := 4) rfl)) (hw _ (List.mem_of_getElem? (i := 5) rfl)) (by decide) (rm1_132 l Z a0 hw [] b1 (2 : Int32) (0 : Int32) v1919 k1 v2 v5 v8 v11 h12 n0 Z12 Vw12) (by decide) (by decide) e1922 (by rw [hml]; rfl) (argsL := [(.ref b1), (.int (1 : Int32)), (.int (2 : Int32)), (.int (0 : Int32)), (.int v1919)]) (rest := []) (lenOf pd_0 rfl) rfl (W := 0) (Nat.le_refl _) rfl (hb hby at_139) (by decide) (by decide) (pc' := 142) rfl (fun T1936 L1936 r1936 X1936 q1936 => ?_)
     obtain ⟨N1936, e1936, q1936⟩ := q1936
     have N1936' := Fr.app N1922' N1936
     rcases q1936 with ⟨hc1937, rfl⟩ | ⟨hc1938, hc1939, rfl⟩ | ⟨v1940, h1941, hc1942, hc1943, hc1944, rfl⟩ | ⟨v1945, h1946, hc1947, hc1948, hc1949, rfl⟩
     ·
      show KEnds p e below s _ _ _ T1936 (mkF m 142 #[.val (.int i0), .val (.int i1), .val (.int i2), .val (.int i3), .val (.int i4), .val (.int i5), .val (.ref b1), .val (.int (2 : Int32)), .val (.int (0 : Int32)), .val (.int v1894), .val (.int v1919), .unset] [(.int (0 : Int32))])
      refine k_if_eq X1936 hx (hb hby at_142) (pn := 145) rfl (py := 151) (by decide) (fun _ => ?_) (fun hc => absurd (by decide) hc)
      refine k_aload X1936 hx (hb hby at_151) rfl rfl (pc' := 153) rfl ?_
      refine k_iconst X1936 hx (hb hby at_153) (pc' := 154) rfl (z := (2 : Int32)) rfl ?_
      refine k_iload X1936 hx (hb hby at_154) rfl (pc' := 156) rfl ?_
      refine k_iload X1936 hx (hb hby at_156) rfl (pc' := 158) rfl ?_
      refine k_iload X1936 hx (hb hby at_158) rfl (pc' := 160) rfl ?_
      refine k_callS X1936 hx hZ hown (hw _ (List.mem_of_getElem? (i := 2) rfl)) (hw _ (List.mem_of_getElem? (i := 3) rfl)) (hw _ (List.mem_of_getElem? (i := 4) rfl)) (hw _ (List.mem_of_getElem? (i := 5) rfl)) (by decide) (rm1_151 l Z a0 hw [] b1 (2 : Int32) (0 : Int32) v1919 k1 v2 v5 v8 v11 h12 n0 Z12 Vw12) (by decide) (by decide) e1936 (by rw [hml]; rfl) (argsL := [(.ref b1), (.int (2 : Int32)), (.int (2 : Int32)), (.int (0 : Int32)), (.int v1919)]) (rest := []) (lenOf pd_0 rfl) rfl (W := 0) (Nat.le_refl _) rfl (hb hby at_160) (by decide) (by decide) (pc' := 163) rfl (fun T1950 L1950 r1950 X1950 q1950 => ?_)
      obtain ⟨N1950, e1950, q1950⟩ := q1950
      have N1950' := Fr.app N1936' N1950
      rcases q1950 with ⟨hc1951, rfl⟩ | ⟨hc1952, hc1953, rfl⟩ | ⟨v1954, h1955, hc1956, hc1957, hc1958, rfl⟩ | ⟨v1959, h1960, hc1961, hc1962, hc1963, rfl⟩
      ·
       show KEnds p e below s _ _ _ T1950 (mkF m 163 #[.val (.int i0), .val (.int i1), .val (.int i2), .val (.int i3), .val (.int i4), .val (.int i5), .val (.ref b1), .val (.int (2 : Int32)), .val (.int (0 : Int32)), .val (.int v1894), .val (.int v1919), .unset] [(.int (0 : Int32))])
       exact absurd hc1951 (by decide)
      ·
       show KEnds p e below s _ _ _ T1950 (mkF m 163 #[.val (.int i0), .val (.int i1), .val (.int i2), .val (.int i3), .val (.int i4), .val (.int i5), .val (.ref b1), .val (.int (2 : Int32)), .val (.int (0 : Int32)), .val (.int v1894), .val (.int v1919), .unset] [(.int (0 : Int32))])
       refine k_if_eq X1950 hx (hb hby at_163) (pn := 166) rfl (py := 172) (by decide) (fun _ => ?_) (fun hc => absurd (by decide) hc)
       refine k_aload X1950 hx (hb hby at_172) rfl rfl (pc' := 174) rfl ?_
       refine k_iconst X1950 hx (hb hby at_174) (pc' := 175) rfl (z := (3 : Int32)) rfl ?_
       refine k_iload X1950 hx (hb hby at_175) rfl (pc' := 177) rfl ?_
       refine k_iload X1950 hx (hb hby at_177) rfl (pc' := 179) rfl ?_
       refine k_iload X1950 hx (hb hby at_179) rfl (pc' := 181) rfl ?_
       refine k_callS X1950 hx hZ hown (hw _ (List.mem_of_getElem? (i := 2) rfl)) (hw _ (List.mem_of_getElem? (i := 3) rfl)) (hw _ (List.mem_of_getElem? (i := 4) rfl)) (hw _ (List.mem_of_getElem? (i := 5) rfl)) (by decide) (rm1_170 l Z a0 hw [] b1 (2 : Int32) (0 : Int32) v1919 k1 v2 v5 v8 v11 h12 n0 Z12 Vw12) (by decide) (by decide) e1950 (by rw [hml]; rfl) (argsL := [(.ref b1), (.int (3 : Int32)), (.int (2 : Int32)), (.int (0 : Int32)), (.int v1919)]) (rest := []) (lenOf pd_0 rfl) rfl (W := 0) (Nat.le_refl _) rfl (hb hby at_181) (by decide) (by decide) (pc' := 184) rfl (fun T1964 L1964 r1964 X1964 q1964 => ?_)
       obtain ⟨N1964, e1964, q1964⟩ := q1964
       have N1964' := Fr.app N1950' N1964
       rcases q1964 with ⟨hc1965, rfl⟩ | ⟨hc1966, hc1967, rfl⟩ | ⟨v1968, h1969, hc1970, hc1971, hc1972, rfl⟩ | ⟨v1973, h1974, hc1975, hc1976, hc1977, rfl⟩
       ·
        show KEnds p e below s _ _ _ T1964 (mkF m 184 #[.val (.int i0), .val (.int i1), .val (.int i2), .val (.int i3), .val (.int i4), .val (.int i5), .val (.ref b1), .val (.int (2 : Int32)), .val (.int (0 : Int32)), .val (.int v1894), .val (.int v1919), .unset] [(.int (0 : Int32))])
        exact absurd hc1965 (by decide)
       ·
        show KEnds p e below s _ _ _ T1964 (mkF m 184 #[.val (.int i0), .val (.int i1), .val (.int i2), .val (.int i3), .val (.int i4), .val (.int i5), .val (.ref b1), .val (.int (2 : Int32)), .val (.int (0 : Int32)), .val (.int v1894), .val (.int v1919), .unset] [(.int (0 : Int32))])
        refine k_if_eq X1964 hx (hb hby at_184) (pn := 187) rfl (py := 193) (by decide) (fun _ => ?_) (fun hc => absurd (by decide) hc)
        refine k_iconst X1964 hx (hb hby at_193) (pc' := 194) rfl (z := (-1 : Int32)) rfl ?_
        refine k_istore X1964 hx (hb hby at_194) (Ls' := #[.val (.int i0), .val (.int i1), .val (.int i2), .val (.int i3), .val (.int i4), .val (.int i5), .val (.ref b1), .val (.int (2 : Int32)), .val (.int (0 : Int32)), .val (.int v1894), .val (.int v1919), .val (.int (-1 : Int32))]) rfl (pc' := 196) rfl ?_
        refine k_aload X1964 hx (hb hby at_196) rfl rfl (pc' := 198) rfl ?_
        refine k_iload X1964 hx (hb hby at_198) rfl (pc' := 200) rfl ?_
        refine k_iload X1964 hx (hb hby at_200) rfl (pc' := 202) rfl ?_
        refine k_iload X1964 hx (hb hby at_202) rfl (pc' := 204) rfl ?_
        refine k_callS X1964 hx hZ hown (hw _ (List.mem_of_getElem? (i := 6) rfl)) (hw _ (List.mem_of_getElem? (i := 7) rfl)) (hw _ (List.mem_of_getElem? (i := 8) rfl)) (hw _ (List.mem_of_getElem? (i := 9) rfl)) (by decide) (rm2_1978 l Z a0 hw [] b1 v1919 k1 v2 v5 v8 v11 h12 n0 Z12 Vw12) (by decide) (by decide) e1964 (by rw [hml]; rfl) (argsL := [(.ref b1), (.int (2 : Int32)), (.int (0 : Int32)), (.int v1919)]) (rest := []) (lenOf pd_1 rfl) rfl (W := 0) (Nat.le_refl _) rfl (hb hby at_204) (by decide) (by decide) (pc' := 207) rfl (fun T1980 L1980 r1980 X1980 q1980 => ?_)
        obtain ⟨N1980, e1980, q1980⟩ := q1980
        have N1980' := Fr.app N1964' N1980
        rcases q1980 with ⟨hc1981, rfl⟩ | ⟨hc1982, rfl⟩
        ·
         show KEnds p e below s _ _ _ T1980 (mkF m 207 #[.val (.int i0), .val (.int i1), .val (.int i2), .val (.int i3), .val (.int i4), .val (.int i5), .val (.ref b1), .val (.int (2 : Int32)), .val (.int (0 : Int32)), .val (.int v1894), .val (.int v1919), .val (.int (-1 : Int32))] [(.int (-1 : Int32))])
         refine k_iload X1980 hx (hb hby at_207) rfl (pc' := 209) rfl ?_
         refine k_icmp_ne X1980 hx (hb hby at_209) (pn := 212) rfl (py := 216) (by decide) (fun hc => absurd (by decide) hc) (fun _ => ?_)
         refine k_iconst X1980 hx (hb hby at_212) (pc' := 213) rfl (z := (1 : Int32)) rfl ?_
         refine k_goto X1980 hx (hb hby at_213) (pc' := 217) (by decide) ?_
         exact k_retN X1980 hx (t := .boolean) Bd.returns (by simp) (hb hby at_217) hlk (by decide) (by decide) (z' := (1 : Int32)) rfl ⟨rfl, N1980'⟩
        ·
         show KEnds p e below s _ _ _ T1980 (mkF m 207 #[.val (.int i0), .val (.int i1), .val (.int i2), .val (.int i3), .val (.int i4), .val (.int i5), .val (.ref b1), .val (.int (2 : Int32)), .val (.int (0 : Int32)), .val (.int v1894), .val (.int v1919), .val (.int (-1 : Int32))] [(.int (-1 : Int32))])
         exact absurd hc1982 hc1921
       ·
        show KEnds p e below s _ _ _ T1964 (mkF m 184 #[.val (.int i0), .val (.int i1), .val (.int i2), .val (.int i3), .val (.int i4), .val (.int i5), .val (.ref b1), .val (.int (2 : Int32)), .val (.int (0 : Int32)), .val (.int v1894), .val (.int v1919), .unset] [(.int (0 : Int32))])
        exact absurd hc1971 (by decide)
       ·
        show KEnds p e below s _ _ _ T1964 (mkF m 184 #[.val (.int i0), .val (.int i1), .val (.int i2), .val (.int i3), .val (.int i4), .val (.int i5), .val (.ref b1), .val (.int (2 : Int32)), .val (.int (0 : Int32)), .val (.int v1894), .val (.int v1919), .unset] [(.int (1 : Int32))])
        exact absurd hc1976 (by decide)
      ·
       show KEnds p e below s _ _ _ T1950 (mkF m 163 #[.val (.int i0), .val (.int i1), .val (.int i2), .val (.int i3), .val (.int i4), .val (.int i5), .val (.ref b1), .val (.int (2 : Int32)), .val (.int (0 : Int32)), .val (.int v1894), .val (.int v1919), .unset] [(.int (0 : Int32))])
       exact absurd hc1957 (by decide)
      ·
       show KEnds p e below s _ _ _ T1950 (mkF m 163 #[.val (.int i0), .val (.int i1), .val (.int i2), .val (.int i3), .val (.int i4), .val (.int i5), .val (.ref b1), .val (.int (2 : Int32)), .val (.int (0 : Int32)), .val (.int v1894), .val (.int v1919), .unset] [(.int (1 : Int32))])
       exact absurd hc1962 (by decide)
     ·
      show KEnds p e below s _ _ _ T1936 (mkF m 142 #[.val (.int i0), .val (.int i1), .val (.int i2), .val (.int i3), .val (.int i4), .val (.int i5), .val (.ref b1), .val (.int (2 : Int32)), .val (.int (0 : Int32)), .val (.int v1894), .val (.int v1919), .unset] [(.int (0 : Int32))])
      exact absurd (by decide) hc1938
     ·
      show KEnds p e below s _ _ _ T1936 (mkF m 142 #[.val (.int i0), .val (.int i1), .val (.int i2), .val (.int i3), .val (.int i4), .val (.int i5), .val (.ref b1), .val (.int (2 : Int32)), .val (.int (0 : Int32)), .val (.int v1894), .val (.int v1919), .unset] [(.int (0 : Int32))])
      exact absurd (by decide) hc1942
     ·
      show KEnds p e below s _ _ _ T1936 (mkF m 142 #[.val (.int i0), .val (.int i1), .val (.int i2), .val (.int i3), .val (.int i4), .val (.int i5), .val (.ref b1), .val (.int (2 : Int32)), .val (.int (0 : Int32)), .val (.int v1894), .val (.int v1919), .unset] [(.int (1 : Int32))])
      exact absurd (by decide) hc1947
    ·
     show KEnds p e below s _ _ _ T1922 (mkF m 121 #[.val (.int i0), .val (.int i1), .val (.int i2), .val (.int i3), .val (.int i4), .val (.int i5), .val (.ref b1), .val (.int (2 : Int32)), .val (.int (0 : Int32)), .val (.int v1894), .val (.int v1919), .unset] [(.int (0 : Int32))])
     exact absurd (by decide) hc1924
    ·
     show KEnds p e below s _ _ _ T1922 (mkF m 121 #[.val (.int i0), .val (.int i1), .val (.int i2), .val (.int i3), .val (.int i4), .val (.int i5), .val (.ref b1), .val (.int (2 : Int32)), .val (.int (0 : Int32)), .val (.int v1894), .val (.int v1919), .unset] [(.int (0 : Int32))])
     exact absurd (by decide) hc1928
    ·
     show KEnds p e below s _ _ _ T1922 (mkF m 121 #[.val (.int i0), .val (.int i1), .val (.int i2), .val (.int i3), .val (.int i4), .val (.int i5), .val (.ref b1), .val (.int (2 : Int32)), .val (.int (0 : Int32)), .val (.int v1894), .val (.int v1919), .unset] [(.int (1 : Int32))])
     exact absurd (by decide) hc1933
   ·
    refine k_iconst X12 hx (hb hby at_103) (pc' := 104) rfl (z := (-1 : Int32)) rfl ?_
    refine k_istore X12 hx (hb hby at_104) (Ls' := #[.val (.int i0), .val (.int i1), .val (.int i2), .val (.int i3), .val (.int i4), .val (.int i5), .val (.ref b1), .val (.int (2 : Int32)), .val (.int (0 : Int32)), .val (.int v1894), .val (.int v1919), .val (.int (-1 : Int32))]) rfl (pc' := 106) rfl ?_
    refine k_goto X12 hx (hb hby at_106) (pc' := 196) (by decide) ?_
    refine k_aload X12 hx (hb hby at_196) rfl rfl (pc' := 198) rfl ?_
    refine k_iload X12 hx (hb hby at_198) rfl (pc' := 200) rfl ?_
    refine k_iload X12 hx (hb hby at_200) rfl (pc' := 202) rfl ?_
    refine k_iload X12 hx (hb hby at_202) rfl (pc' := 204) rfl ?_
    refine k_callS X12 hx hZ hown (hw _ (List.mem_of_getElem? (i := 6) rfl)) (hw _ (List.mem_of_getElem? (i := 7) rfl)) (hw _ (List.mem_of_getElem? (i := 8) rfl)) (hw _ (List.mem_of_getElem? (i := 9) rfl)) (by decide) (rm2_1978 l Z a0 hw [] b1 v1919 k1 v2 v5 v8 v11 h12 n0 Z12 Vw12) (by decide) (by decide) e12 (by rw [hml]; rfl) (argsL := [(.ref b1), (.int (2 : Int32)), (.int (0 : Int32)), (.int v1919)]) (rest := []) (lenOf pd_1 rfl) rfl (W := 0) (Nat.le_refl _) rfl (hb hby at_204) (by decide) (by decide) (pc' := 207) rfl (fun T1983 L1983 r1983 X1983 q1983 => ?_)
    obtain ⟨N1983, e1983, q1983⟩ := q1983
    have N1983' := Fr.app N12 N1983
    rcases q1983 with ⟨hc1984, rfl⟩ | ⟨hc1985, rfl⟩
    ·
     show KEnds p e below s _ _ _ T1983 (mkF m 207 #[.val (.int i0), .val (.int i1), .val (.int i2), .val (.int i3), .val (.int i4), .val (.int i5), .val (.ref b1), .val (.int (2 : Int32)), .val (.int (0 : Int32)), .val (.int v1894), .val (.int v1919), .val (.int (-1 : Int32))] [(.int (-1 : Int32))])
     exact absurd hc1921 hc1984
    ·
     show KEnds p e below s _ _ _ T1983 (mkF m 207 #[.val (.int i0), .val (.int i1), .val (.int i2), .val (.int i3), .val (.int i4), .val (.int i5), .val (.ref b1), .val (.int (2 : Int32)), .val (.int (0 : Int32)), .val (.int v1894), .val (.int v1919), .val (.int (-1 : Int32))] [(.int (-1 : Int32))])
     refine k_iload X1983 hx (hb hby at_207) rfl (pc' := 209) rfl ?_
     refine k_icmp_ne X1983 hx (hb hby at_209) (pn := 212) rfl (py := 216) (by decide) (fun hc => absurd (by decide) hc) (fun _ => ?_)
     refine k_iconst X1983 hx (hb hby at_212) (pc' := 213) rfl (z := (1 : Int32)) rfl ?_
     refine k_goto X1983 hx (hb hby at_213) (pc' := 217) (by decide) ?_
     exact k_retN X1983 hx (t := .boolean) Bd.returns (by simp) (hb hby at_217) hlk (by decide) (by decide) (z' := (1 : Int32)) rfl ⟨rfl, N1983'⟩
  ·
   show KEnds p e below s _ _ _ T12 (mkF m 44 #[.val (.int i0), .val (.int i1), .val (.int i2), .val (.int i3), .val (.int i4), .val (.int i5), .val (.ref b1), .val (.int (2 : Int32)), .unset, .unset, .unset, .unset] [(.int (1 : Int32))])
   refine k_istore X12 hx (hb hby at_44) (Ls' := #[.val (.int i0), .val (.int i1), .val (.int i2), .val (.int i3), .val (.int i4), .val (.int i5), .val (.ref b1), .val (.int (2 : Int32)), .val (.int (1 : Int32)), .unset, .unset, .unset]) rfl (pc' := 46) rfl ?_
   refine k_iload X12 hx (hb hby at_46) rfl (pc' := 48) rfl ?_
   refine k_iconst X12 hx (hb hby at_48) (pc' := 49) rfl (z := (3 : Int32)) rfl ?_
   refine k_iand X12 hx (hb hby at_49) (pc' := 50) rfl (fun v1987 hv1987 => ?_)
   refine k_istore X12 hx (hb hby at_50) (Ls' := #[.val (.int i0), .val (.int i1), .val (.int i2), .val (.int i3), .val (.int i4), .val (.int i5), .val (.ref b1), .val (.int (2 : Int32)), .val (.int (1 : Int32)), .val (.int v1987), .unset, .unset]) rfl (pc' := 52) rfl ?_
   suffices key1988 : ∀ (v2012 : Int32), KEnds p e below s 16 128 (Q0 n0) T12 (mkF m 97 #[.val (.int i0), .val (.int i1), .val (.int i2), .val (.int i3), .val (.int i4), .val (.int i5), .val (.ref b1), .val (.int (2 : Int32)), .val (.int (1 : Int32)), .val (.int v1987), .val (.int v2012), .unset] []) by
    refine k_iload X12 hx (hb hby at_52) rfl (pc' := 54) rfl ?_
    refine k_if_ne X12 hx (hb hby at_54) (pn := 57) rfl (py := 63) (by decide) (fun hc1989 => ?_) (fun hc1989 => ?_)
    ·
     refine k_iload X12 hx (hb hby at_63) rfl (pc' := 65) rfl ?_
     refine k_iconst X12 hx (hb hby at_65) (pc' := 66) rfl (z := (1 : Int32)) rfl ?_
     refine k_icmp_ne X12 hx (hb hby at_66) (pn := 69) rfl (py := 87) (by decide) (fun hc1990 => ?_) (fun hc1990 => ?_)
     ·
      refine k_iload X12 hx (hb hby at_87) rfl (pc' := 89) rfl ?_
      refine k_iconst X12 hx (hb hby at_89) (pc' := 90) rfl (z := (2 : Int32)) rfl ?_
      refine k_iushr X12 hx (hb hby at_90) (pc' := 91) rfl (fun v1991 hv1991 => ?_)
      refine k_sipush X12 hx (hb hby at_91) (pc' := 94) rfl (z := (255 : Int32)) rfl ?_
      refine k_iand X12 hx (hb hby at_94) (pc' := 95) rfl (fun v1992 hv1992 => ?_)
      refine k_istore X12 hx (hb hby at_95) (Ls' := #[.val (.int i0), .val (.int i1), .val (.int i2), .val (.int i3), .val (.int i4), .val (.int i5), .val (.ref b1), .val (.int (2 : Int32)), .val (.int (1 : Int32)), .val (.int v1987), .val (.int v1992), .unset]) rfl (pc' := 97) rfl ?_
      exact key1988 v1992
     ·
      refine k_aload X12 hx (hb hby at_69) rfl rfl (pc' := 71) rfl ?_
      refine k_iload X12 hx (hb hby at_71) rfl (pc' := 73) rfl ?_
      refine k_iconst X12 hx (hb hby at_73) (pc' := 74) rfl (z := (2 : Int32)) rfl ?_
      refine k_iushr X12 hx (hb hby at_74) (pc' := 75) rfl (fun v1993 hv1993 => ?_)
      refine k_iconst X12 hx (hb hby at_75) (pc' := 76) rfl (z := (3 : Int32)) rfl ?_
      refine k_iand X12 hx (hb hby at_76) (pc' := 77) rfl (fun v1994 hv1994 => ?_)
      have hj1995 : ¬ v1994 < 0 ∧ v1994 < (4 : Int32) := by
       refine ⟨?_, ?_⟩
       ·
        intro hq1996
        have := rng32 v1987
        have := rng32 i5
        have : (3 : Int32).toInt = 3 := (by decide)
        have q1997 : v1987.toInt = i5.toInt % 4 := (by rw [hv1987]; exact c_mask _ _ 2 (by decide) (by decide))
        have : (0 : Int32).toInt = 0 := (by decide)
        have q1998 : ¬ v1987.toInt = (0 : Int32).toInt := fun q => hc1989 (Int32.toInt_inj.mp q)
        have : (1 : Int32).toInt = 1 := (by decide)
        have q1999 := congrArg Int32.toInt hc1990
        have := rng32 v1994
        have := rng32 v1993
        have : (2 : Int32).toInt = 2 := (by decide)
        have q2000 : v1993.toInt = (i5.toInt % 4294967296) / 4 := (by rw [hv1993]; exact c_iushr _ _ 2 (by decide) (by decide))
        have q2001 : v1994.toInt = v1993.toInt % 4 := (by rw [hv1994]; exact c_mask _ _ 2 (by decide) (by decide))
        have q2002 := hq1996; rw [Int32.lt_iff_toInt_lt] at q2002
        omega
       ·
        refine Classical.byContradiction (fun hq2003 => ?_)
        have := rng32 v1987
        have := rng32 i5
        have : (3 : Int32).toInt = 3 := (by decide)
        have q2004 : v1987.toInt = i5.toInt % 4 := (by rw [hv1987]; exact c_mask _ _ 2 (by decide) (by decide))
        have : (0 : Int32).toInt = 0 := (by decide)
        have q2005 : ¬ v1987.toInt = (0 : Int32).toInt := fun q => hc1989 (Int32.toInt_inj.mp q)
        have : (1 : Int32).toInt = 1 := (by decide)
        have q2006 := congrArg Int32.toInt hc1990
        have := rng32 v1994
        have := rng32 v1993
        have : (2 : Int32).toInt = 2 := (by decide)
        have q2007 : v1993.toInt = (i5.toInt % 4294967296) / 4 := (by rw [hv1993]; exact c_iushr _ _ 2 (by decide) (by decide))
        have q2008 : v1994.toInt = v1993.toInt % 4 := (by rw [hv1994]; exact c_mask _ _ 2 (by decide) (by decide))
        have : (4 : Int32).toInt = 4 := (by decide)
        have q2009 := hq2003; rw [Int32.lt_iff_toInt_lt] at q2009
        omega
      refine k_baloadS X12 hx hZ e12 Vw12 hj1995 (hb hby at_77) (pc' := 78) rfl (fun v2010 hv2010 => ?_)
      refine k_sipush X12 hx (hb hby at_78) (pc' := 81) rfl (z := (255 : Int32)) rfl ?_
      refine k_iand X12 hx (hb hby at_81) (pc' := 82) rfl (fun v2011 hv2011 => ?_)
      refine k_istore X12 hx (hb hby at_82) (Ls' := #[.val (.int i0), .val (.int i1), .val (.int i2), .val (.int i3), .val (.int i4), .val (.int i5), .val (.ref b1), .val (.int (2 : Int32)), .val (.int (1 : Int32)), .val (.int v1987), .val (.int v2011), .unset]) rfl (pc' := 84) rfl ?_
      refine k_goto X12 hx (hb hby at_84) (pc' := 97) (by decide) ?_
      exact key1988 v2011
    ·
     refine k_iconst X12 hx (hb hby at_57) (pc' := 58) rfl (z := (-1 : Int32)) rfl ?_
     refine k_istore X12 hx (hb hby at_58) (Ls' := #[.val (.int i0), .val (.int i1), .val (.int i2), .val (.int i3), .val (.int i4), .val (.int i5), .val (.ref b1), .val (.int (2 : Int32)), .val (.int (1 : Int32)), .val (.int v1987), .val (.int (-1 : Int32)), .unset]) rfl (pc' := 60) rfl ?_
     refine k_goto X12 hx (hb hby at_60) (pc' := 97) (by decide) ?_
     exact key1988 (-1 : Int32)
   intro v2012
   refine k_iload X12 hx (hb hby at_97) rfl (pc' := 99) rfl ?_
   refine k_iconst X12 hx (hb hby at_99) (pc' := 100) rfl (z := (-1 : Int32)) rfl ?_
   refine k_icmp_ne X12 hx (hb hby at_100) (pn := 103) rfl (py := 109) (by decide) (fun hc2014 => ?_) (fun hc2014 => ?_)
   ·
    refine k_aload X12 hx (hb hby at_109) rfl rfl (pc' := 111) rfl ?_
    refine k_iconst X12 hx (hb hby at_111) (pc' := 112) rfl (z := (0 : Int32)) rfl ?_
    refine k_iload X12 hx (hb hby at_112) rfl (pc' := 114) rfl ?_
    refine k_iload X12 hx (hb hby at_114) rfl (pc' := 116) rfl ?_
    refine k_iload X12 hx (hb hby at_116) rfl (pc' := 118) rfl ?_
    refine k_callS X12 hx hZ hown (hw _ (List.mem_of_getElem? (i := 2) rfl)) (hw _ (List.mem_of_getElem? (i := 3) rfl)) (hw _ (List.mem_of_getElem? (i := 4) rfl)) (hw _ (List.mem_of_getElem? (i := 5) rfl)) (by decide) (rm1_113 l Z a0 hw [] b1 (2 : Int32) (1 : Int32) v2012 k1 v2 v5 v8 v11 h12 n0 Z12 Vw12) (by decide) (by decide) e12 (by rw [hml]; rfl) (argsL := [(.ref b1), (.int (0 : Int32)), (.int (2 : Int32)), (.int (1 : Int32)), (.int v2012)]) (rest := []) (lenOf pd_0 rfl) rfl (W := 0) (Nat.le_refl _) rfl (hb hby at_118) (by decide) (by decide) (pc' := 121) rfl (fun T2015 L2015 r2015 X2015 q2015 => ?_)
    obtain ⟨N2015, e2015, q2015⟩ := q2015
    have N2015' := Fr.app N12 N2015
    rcases q2015 with ⟨hc2016, rfl⟩ | ⟨hc2017, hc2018, rfl⟩ | ⟨v2019, h2020, hc2021, hc2022, hc2023, rfl⟩ | ⟨v2024, h2025, hc2026, hc2027, hc2028, rfl⟩
    ·
     show KEnds p e below s _ _ _ T2015 (mkF m 121 #[.val (.int i0), .val (.int i1), .val (.int i2), .val (.int i3), .val (.int i4), .val (.int i5), .val (.ref b1), .val (.int (2 : Int32)), .val (.int (1 : Int32)), .val (.int v1987), .val (.int v2012), .unset] [(.int (0 : Int32))])
     refine k_if_eq X2015 hx (hb hby at_121) (pn := 124) rfl (py := 130) (by decide) (fun _ => ?_) (fun hc => absurd (by decide) hc)
     refine k_aload X2015 hx (hb hby at_130) rfl rfl (pc' := 132) rfl ?_
     refine k_iconst X2015 hx (hb hby at_132) (pc' := 133) rfl (z := (1 : Int32)) rfl ?_
     refine k_iload X2015 hx (hb hby at_133) rfl (pc' := 135) rfl ?_
     refine k_iload X2015 hx (hb hby at_135) rfl (pc' := 137) rfl ?_
     refine k_iload X2015 hx (hb hby at_137) rfl (pc' := 139) rfl ?_
     refine k_callS X2015 hx hZ hown (hw _ (List.mem_of_getElem? (i := 2) rfl)) (hw _ (List.mem_of_getElem? (i := 3) rfl)) (hw _ (List.mem_of_getElem? (i := 4) rfl)) (hw _ (List.mem_of_getElem? (i := 5) rfl)) (by decide) (rm1_132 l Z a0 hw [] b1 (2 : Int32) (1 : Int32) v2012 k1 v2 v5 v8 v11 h12 n0 Z12 Vw12) (by decide) (by decide) e2015 (by rw [hml]; rfl) (argsL := [(.ref b1), (.int (1 : Int32)), (.int (2 : Int32)), (.int (1 : Int32)), (.int v2012)]) (rest := []) (lenOf pd_0 rfl) rfl (W := 0) (Nat.le_refl _) rfl (hb hby at_139) (by decide) (by decide) (pc' := 142) rfl (fun T2029 L2029 r2029 X2029 q2029 => ?_)
     obtain ⟨N2029, e2029, q2029⟩ := q2029
     have N2029' := Fr.app N2015' N2029
     rcases q2029 with ⟨hc2030, rfl⟩ | ⟨hc2031, hc2032, rfl⟩ | ⟨v2033, h2034, hc2035, hc2036, hc2037, rfl⟩ | ⟨v2038, h2039, hc2040, hc2041, hc2042, rfl⟩
     ·
      show KEnds p e below s _ _ _ T2029 (mkF m 142 #[.val (.int i0), .val (.int i1), .val (.int i2), .val (.int i3), .val (.int i4), .val (.int i5), .val (.ref b1), .val (.int (2 : Int32)), .val (.int (1 : Int32)), .val (.int v1987), .val (.int v2012), .unset] [(.int (0 : Int32))])
      refine k_if_eq X2029 hx (hb hby at_142) (pn := 145) rfl (py := 151) (by decide) (fun _ => ?_) (fun hc => absurd (by decide) hc)
      refine k_aload X2029 hx (hb hby at_151) rfl rfl (pc' := 153) rfl ?_
      refine k_iconst X2029 hx (hb hby at_153) (pc' := 154) rfl (z := (2 : Int32)) rfl ?_
      refine k_iload X2029 hx (hb hby at_154) rfl (pc' := 156) rfl ?_
      refine k_iload X2029 hx (hb hby at_156) rfl (pc' := 158) rfl ?_
      refine k_iload X2029 hx (hb hby at_158) rfl (pc' := 160) rfl ?_
      refine k_callS X2029 hx hZ hown (hw _ (List.mem_of_getElem? (i := 2) rfl)) (hw _ (List.mem_of_getElem? (i := 3) rfl)) (hw _ (List.mem_of_getElem? (i := 4) rfl)) (hw _ (List.mem_of_getElem? (i := 5) rfl)) (by decide) (rm1_151 l Z a0 hw [] b1 (2 : Int32) (1 : Int32) v2012 k1 v2 v5 v8 v11 h12 n0 Z12 Vw12) (by decide) (by decide) e2029 (by rw [hml]; rfl) (argsL := [(.ref b1), (.int (2 : Int32)), (.int (2 : Int32)), (.int (1 : Int32)), (.int v2012)]) (rest := []) (lenOf pd_0 rfl) rfl (W := 0) (Nat.le_refl _) rfl (hb hby at_160) (by decide) (by decide) (pc' := 163) rfl (fun T2043 L2043 r2043 X2043 q2043 => ?_)
      obtain ⟨N2043, e2043, q2043⟩ := q2043
      have N2043' := Fr.app N2029' N2043
      rcases q2043 with ⟨hc2044, rfl⟩ | ⟨hc2045, hc2046, rfl⟩ | ⟨v2047, h2048, hc2049, hc2050, hc2051, rfl⟩ | ⟨v2052, h2053, hc2054, hc2055, hc2056, rfl⟩
      ·
       show KEnds p e below s _ _ _ T2043 (mkF m 163 #[.val (.int i0), .val (.int i1), .val (.int i2), .val (.int i3), .val (.int i4), .val (.int i5), .val (.ref b1), .val (.int (2 : Int32)), .val (.int (1 : Int32)), .val (.int v1987), .val (.int v2012), .unset] [(.int (0 : Int32))])
       exact absurd hc2044 (by decide)
      ·
       show KEnds p e below s _ _ _ T2043 (mkF m 163 #[.val (.int i0), .val (.int i1), .val (.int i2), .val (.int i3), .val (.int i4), .val (.int i5), .val (.ref b1), .val (.int (2 : Int32)), .val (.int (1 : Int32)), .val (.int v1987), .val (.int v2012), .unset] [(.int (0 : Int32))])
       refine k_if_eq X2043 hx (hb hby at_163) (pn := 166) rfl (py := 172) (by decide) (fun _ => ?_) (fun hc => absurd (by decide) hc)
       refine k_aload X2043 hx (hb hby at_172) rfl rfl (pc' := 174) rfl ?_
       refine k_iconst X2043 hx (hb hby at_174) (pc' := 175) rfl (z := (3 : Int32)) rfl ?_
       refine k_iload X2043 hx (hb hby at_175) rfl (pc' := 177) rfl ?_
       refine k_iload X2043 hx (hb hby at_177) rfl (pc' := 179) rfl ?_
       refine k_iload X2043 hx (hb hby at_179) rfl (pc' := 181) rfl ?_
       refine k_callS X2043 hx hZ hown (hw _ (List.mem_of_getElem? (i := 2) rfl)) (hw _ (List.mem_of_getElem? (i := 3) rfl)) (hw _ (List.mem_of_getElem? (i := 4) rfl)) (hw _ (List.mem_of_getElem? (i := 5) rfl)) (by decide) (rm1_170 l Z a0 hw [] b1 (2 : Int32) (1 : Int32) v2012 k1 v2 v5 v8 v11 h12 n0 Z12 Vw12) (by decide) (by decide) e2043 (by rw [hml]; rfl) (argsL := [(.ref b1), (.int (3 : Int32)), (.int (2 : Int32)), (.int (1 : Int32)), (.int v2012)]) (rest := []) (lenOf pd_0 rfl) rfl (W := 0) (Nat.le_refl _) rfl (hb hby at_181) (by decide) (by decide) (pc' := 184) rfl (fun T2057 L2057 r2057 X2057 q2057 => ?_)
       obtain ⟨N2057, e2057, q2057⟩ := q2057
       have N2057' := Fr.app N2043' N2057
       rcases q2057 with ⟨hc2058, rfl⟩ | ⟨hc2059, hc2060, rfl⟩ | ⟨v2061, h2062, hc2063, hc2064, hc2065, rfl⟩ | ⟨v2066, h2067, hc2068, hc2069, hc2070, rfl⟩
       ·
        show KEnds p e below s _ _ _ T2057 (mkF m 184 #[.val (.int i0), .val (.int i1), .val (.int i2), .val (.int i3), .val (.int i4), .val (.int i5), .val (.ref b1), .val (.int (2 : Int32)), .val (.int (1 : Int32)), .val (.int v1987), .val (.int v2012), .unset] [(.int (0 : Int32))])
        exact absurd hc2058 (by decide)
       ·
        show KEnds p e below s _ _ _ T2057 (mkF m 184 #[.val (.int i0), .val (.int i1), .val (.int i2), .val (.int i3), .val (.int i4), .val (.int i5), .val (.ref b1), .val (.int (2 : Int32)), .val (.int (1 : Int32)), .val (.int v1987), .val (.int v2012), .unset] [(.int (0 : Int32))])
        refine k_if_eq X2057 hx (hb hby at_184) (pn := 187) rfl (py := 193) (by decide) (fun _ => ?_) (fun hc => absurd (by decide) hc)
        refine k_iconst X2057 hx (hb hby at_193) (pc' := 194) rfl (z := (-1 : Int32)) rfl ?_
        refine k_istore X2057 hx (hb hby at_194) (Ls' := #[.val (.int i0), .val (.int i1), .val (.int i2), .val (.int i3), .val (.int i4), .val (.int i5), .val (.ref b1), .val (.int (2 : Int32)), .val (.int (1 : Int32)), .val (.int v1987), .val (.int v2012), .val (.int (-1 : Int32))]) rfl (pc' := 196) rfl ?_
        refine k_aload X2057 hx (hb hby at_196) rfl rfl (pc' := 198) rfl ?_
        refine k_iload X2057 hx (hb hby at_198) rfl (pc' := 200) rfl ?_
        refine k_iload X2057 hx (hb hby at_200) rfl (pc' := 202) rfl ?_
        refine k_iload X2057 hx (hb hby at_202) rfl (pc' := 204) rfl ?_
        refine k_callS X2057 hx hZ hown (hw _ (List.mem_of_getElem? (i := 6) rfl)) (hw _ (List.mem_of_getElem? (i := 7) rfl)) (hw _ (List.mem_of_getElem? (i := 8) rfl)) (hw _ (List.mem_of_getElem? (i := 9) rfl)) (by decide) (rm2_2071 l Z a0 hw [] b1 v2012 k1 v2 v5 v8 v11 h12 n0 Z12 Vw12) (by decide) (by decide) e2057 (by rw [hml]; rfl) (argsL := [(.ref b1), (.int (2 : Int32)), (.int (1 : Int32)), (.int v2012)]) (rest := []) (lenOf pd_1 rfl) rfl (W := 0) (Nat.le_refl _) rfl (hb hby at_204) (by decide) (by decide) (pc' := 207) rfl (fun T2073 L2073 r2073 X2073 q2073 => ?_)
        obtain ⟨N2073, e2073, q2073⟩ := q2073
        have N2073' := Fr.app N2057' N2073
        rcases q2073 with ⟨hc2074, rfl⟩ | ⟨hc2075, rfl⟩
        ·
         show KEnds p e below s _ _ _ T2073 (mkF m 207 #[.val (.int i0), .val (.int i1), .val (.int i2), .val (.int i3), .val (.int i4), .val (.int i5), .val (.ref b1), .val (.int (2 : Int32)), .val (.int (1 : Int32)), .val (.int v1987), .val (.int v2012), .val (.int (-1 : Int32))] [(.int (-1 : Int32))])
         refine k_iload X2073 hx (hb hby at_207) rfl (pc' := 209) rfl ?_
         refine k_icmp_ne X2073 hx (hb hby at_209) (pn := 212) rfl (py := 216) (by decide) (fun hc => absurd (by decide) hc) (fun _ => ?_)
         refine k_iconst X2073 hx (hb hby at_212) (pc' := 213) rfl (z := (1 : Int32)) rfl ?_
         refine k_goto X2073 hx (hb hby at_213) (pc' := 217) (by decide) ?_
         exact k_retN X2073 hx (t := .boolean) Bd.returns (by simp) (hb hby at_217) hlk (by decide) (by decide) (z' := (1 : Int32)) rfl ⟨rfl, N2073'⟩
        ·
         show KEnds p e below s _ _ _ T2073 (mkF m 207 #[.val (.int i0), .val (.int i1), .val (.int i2), .val (.int i3), .val (.int i4), .val (.int i5), .val (.ref b1), .val (.int (2 : Int32)), .val (.int (1 : Int32)), .val (.int v1987), .val (.int v2012), .val (.int (-1 : Int32))] [(.int (-1 : Int32))])
         exact absurd hc2075 hc2014
       ·
        show KEnds p e below s _ _ _ T2057 (mkF m 184 #[.val (.int i0), .val (.int i1), .val (.int i2), .val (.int i3), .val (.int i4), .val (.int i5), .val (.ref b1), .val (.int (2 : Int32)), .val (.int (1 : Int32)), .val (.int v1987), .val (.int v2012), .unset] [(.int (0 : Int32))])
        exact absurd hc2064 (by decide)
       ·
        show KEnds p e below s _ _ _ T2057 (mkF m 184 #[.val (.int i0), .val (.int i1), .val (.int i2), .val (.int i3), .val (.int i4), .val (.int i5), .val (.ref b1), .val (.int (2 : Int32)), .val (.int (1 : Int32)), .val (.int v1987), .val (.int v2012), .unset] [(.int (1 : Int32))])
        exact absurd hc2069 (by decide)
      ·
       show KEnds p e below s _ _ _ T2043 (mkF m 163 #[.val (.int i0), .val (.int i1), .val (.int i2), .val (.int i3), .val (.int i4), .val (.int i5), .val (.ref b1), .val (.int (2 : Int32)), .val (.int (1 : Int32)), .val (.int v1987), .val (.int v2012), .unset] [(.int (0 : Int32))])
       exact absurd hc2050 (by decide)
      ·
       show KEnds p e below s _ _ _ T2043 (mkF m 163 #[.val (.int i0), .val (.int i1), .val (.int i2), .val (.int i3), .val (.int i4), .val (.int i5), .val (.ref b1), .val (.int (2 : Int32)), .val (.int (1 : Int32)), .val (.int v1987), .val (.int v2012), .unset] [(.int (1 : Int32))])
       exact absurd hc2055 (by decide)
     ·
      show KEnds p e below s _ _ _ T2029 (mkF m 142 #[.val (.int i0), .val (.int i1), .val (.int i2), .val (.int i3), .val (.int i4), .val (.int i5), .val (.ref b1), .val (.int (2 : Int32)), .val (.int (1 : Int32)), .val (.int v1987), .val (.int v2012), .unset] [(.int (0 : Int32))])
      exact absurd (by decide) hc2031
     ·
      show KEnds p e below s _ _ _ T2029 (mkF m 142 #[.val (.int i0), .val (.int i1), .val (.int i2), .val (.int i3), .val (.int i4), .val (.int i5), .val (.ref b1), .val (.int (2 : Int32)), .val (.int (1 : Int32)), .val (.int v1987), .val (.int v2012), .unset] [(.int (0 : Int32))])
      exact absurd (by decide) hc2035
     ·
      show KEnds p e below s _ _ _ T2029 (mkF m 142 #[.val (.int i0), .val (.int i1), .val (.int i2), .val (.int i3), .val (.int i4), .val (.int i5), .val (.ref b1), .val (.int (2 : Int32)), .val (.int (1 : Int32)), .val (.int v1987), .val (.int v2012), .unset] [(.int (1 : Int32))])
      exact absurd (by decide) hc2040
    ·
     show KEnds p e below s _ _ _ T2015 (mkF m 121 #[.val (.int i0), .val (.int i1), .val (.int i2), .val (.int i3), .val (.int i4), .val (.int i5), .val (.ref b1), .val (.int (2 : Int32)), .val (.int (1 : Int32)), .val (.int v1987), .val (.int v2012), .unset] [(.int (0 : Int32))])
     exact absurd (by decide) hc2017
    ·
     show KEnds p e below s _ _ _ T2015 (mkF m 121 #[.val (.int i0), .val (.int i1), .val (.int i2), .val (.int i3), .val (.int i4), .val (.int i5), .val (.ref b1), .val (.int (2 : Int32)), .val (.int (1 : Int32)), .val (.int v1987), .val (.int v2012), .unset] [(.int (0 : Int32))])
     exact absurd (by decide) hc2021
    ·
     show KEnds p e below s _ _ _ T2015 (mkF m 121 #[.val (.int i0), .val (.int i1), .val (.int i2), .val (.int i3), .val (.int i4), .val (.int i5), .val (.ref b1), .val (.int (2 : Int32)), .val (.int (1 : Int32)), .val (.int v1987), .val (.int v2012), .unset] [(.int (1 : Int32))])
     exact absurd (by decide) hc2026
   ·
    refine k_iconst X12 hx (hb hby at_103) (pc' := 104) rfl (z := (-1 : Int32)) rfl ?_
    refine k_istore X12 hx (hb hby at_104) (Ls' := #[.val (.int i0), .val (.int i1), .val (.int i2), .val (.int i3), .val (.int i4), .val (.int i5), .val (.ref b1), .val (.int (2 : Int32)), .val (.int (1 : Int32)), .val (.int v1987), .val (.int v2012), .val (.int (-1 : Int32))]) rfl (pc' := 106) rfl ?_
    refine k_goto X12 hx (hb hby at_106) (pc' := 196) (by decide) ?_
    refine k_aload X12 hx (hb hby at_196) rfl rfl (pc' := 198) rfl ?_
    refine k_iload X12 hx (hb hby at_198) rfl (pc' := 200) rfl ?_
    refine k_iload X12 hx (hb hby at_200) rfl (pc' := 202) rfl ?_
    refine k_iload X12 hx (hb hby at_202) rfl (pc' := 204) rfl ?_
    refine k_callS X12 hx hZ hown (hw _ (List.mem_of_getElem? (i := 6) rfl)) (hw _ (List.mem_of_getElem? (i := 7) rfl)) (hw _ (List.mem_of_getElem? (i := 8) rfl)) (hw _ (List.mem_of_getElem? (i := 9) rfl)) (by decide) (rm2_2071 l Z a0 hw [] b1 v2012 k1 v2 v5 v8 v11 h12 n0 Z12 Vw12) (by decide) (by decide) e12 (by rw [hml]; rfl) (argsL := [(.ref b1), (.int (2 : Int32)), (.int (1 : Int32)), (.int v2012)]) (rest := []) (lenOf pd_1 rfl) rfl (W := 0) (Nat.le_refl _) rfl (hb hby at_204) (by decide) (by decide) (pc' := 207) rfl (fun T2076 L2076 r2076 X2076 q2076 => ?_)
    obtain ⟨N2076, e2076, q2076⟩ := q2076
    have N2076' := Fr.app N12 N2076
    rcases q2076 with ⟨hc2077, rfl⟩ | ⟨hc2078, rfl⟩
    ·
     show KEnds p e below s _ _ _ T2076 (mkF m 207 #[.val (.int i0), .val (.int i1), .val (.int i2), .val (.int i3), .val (.int i4), .val (.int i5), .val (.ref b1), .val (.int (2 : Int32)), .val (.int (1 : Int32)), .val (.int v1987), .val (.int v2012), .val (.int (-1 : Int32))] [(.int (-1 : Int32))])
     exact absurd hc2014 hc2077
    ·
     show KEnds p e below s _ _ _ T2076 (mkF m 207 #[.val (.int i0), .val (.int i1), .val (.int i2), .val (.int i3), .val (.int i4), .val (.int i5), .val (.ref b1), .val (.int (2 : Int32)), .val (.int (1 : Int32)), .val (.int v1987), .val (.int v2012), .val (.int (-1 : Int32))] [(.int (-1 : Int32))])
     refine k_iload X2076 hx (hb hby at_207) rfl (pc' := 209) rfl ?_
     refine k_icmp_ne X2076 hx (hb hby at_209) (pn := 212) rfl (py := 216) (by decide) (fun hc => absurd (by decide) hc) (fun _ => ?_)
     refine k_iconst X2076 hx (hb hby at_212) (pc' := 213) rfl (z := (1 : Int32)) rfl ?_
     refine k_goto X2076 hx (hb hby at_213) (pc' := 217) (by decide) ?_
     exact k_retN X2076 hx (t := .boolean) Bd.returns (by simp) (hb hby at_217) hlk (by decide) (by decide) (z' := (1 : Int32)) rfl ⟨rfl, N2076'⟩
  ·
   show KEnds p e below s _ _ _ T12 (mkF m 44 #[.val (.int i0), .val (.int i1), .val (.int i2), .val (.int i3), .val (.int i4), .val (.int i5), .val (.ref b1), .val (.int (2 : Int32)), .unset, .unset, .unset, .unset] [(.int (2 : Int32))])
   refine k_istore X12 hx (hb hby at_44) (Ls' := #[.val (.int i0), .val (.int i1), .val (.int i2), .val (.int i3), .val (.int i4), .val (.int i5), .val (.ref b1), .val (.int (2 : Int32)), .val (.int (2 : Int32)), .unset, .unset, .unset]) rfl (pc' := 46) rfl ?_
   refine k_iload X12 hx (hb hby at_46) rfl (pc' := 48) rfl ?_
   refine k_iconst X12 hx (hb hby at_48) (pc' := 49) rfl (z := (3 : Int32)) rfl ?_
   refine k_iand X12 hx (hb hby at_49) (pc' := 50) rfl (fun v2080 hv2080 => ?_)
   refine k_istore X12 hx (hb hby at_50) (Ls' := #[.val (.int i0), .val (.int i1), .val (.int i2), .val (.int i3), .val (.int i4), .val (.int i5), .val (.ref b1), .val (.int (2 : Int32)), .val (.int (2 : Int32)), .val (.int v2080), .unset, .unset]) rfl (pc' := 52) rfl ?_
   suffices key2081 : ∀ (v2105 : Int32), KEnds p e below s 16 128 (Q0 n0) T12 (mkF m 97 #[.val (.int i0), .val (.int i1), .val (.int i2), .val (.int i3), .val (.int i4), .val (.int i5), .val (.ref b1), .val (.int (2 : Int32)), .val (.int (2 : Int32)), .val (.int v2080), .val (.int v2105), .unset] []) by
    refine k_iload X12 hx (hb hby at_52) rfl (pc' := 54) rfl ?_
    refine k_if_ne X12 hx (hb hby at_54) (pn := 57) rfl (py := 63) (by decide) (fun hc2082 => ?_) (fun hc2082 => ?_)
    ·
     refine k_iload X12 hx (hb hby at_63) rfl (pc' := 65) rfl ?_
     refine k_iconst X12 hx (hb hby at_65) (pc' := 66) rfl (z := (1 : Int32)) rfl ?_
     refine k_icmp_ne X12 hx (hb hby at_66) (pn := 69) rfl (py := 87) (by decide) (fun hc2083 => ?_) (fun hc2083 => ?_)
     ·
      refine k_iload X12 hx (hb hby at_87) rfl (pc' := 89) rfl ?_
      refine k_iconst X12 hx (hb hby at_89) (pc' := 90) rfl (z := (2 : Int32)) rfl ?_
      refine k_iushr X12 hx (hb hby at_90) (pc' := 91) rfl (fun v2084 hv2084 => ?_)
      refine k_sipush X12 hx (hb hby at_91) (pc' := 94) rfl (z := (255 : Int32)) rfl ?_
      refine k_iand X12 hx (hb hby at_94) (pc' := 95) rfl (fun v2085 hv2085 => ?_)
      refine k_istore X12 hx (hb hby at_95) (Ls' := #[.val (.int i0), .val (.int i1), .val (.int i2), .val (.int i3), .val (.int i4), .val (.int i5), .val (.ref b1), .val (.int (2 : Int32)), .val (.int (2 : Int32)), .val (.int v2080), .val (.int v2085), .unset]) rfl (pc' := 97) rfl ?_
      exact key2081 v2085
     ·
      refine k_aload X12 hx (hb hby at_69) rfl rfl (pc' := 71) rfl ?_
      refine k_iload X12 hx (hb hby at_71) rfl (pc' := 73) rfl ?_
      refine k_iconst X12 hx (hb hby at_73) (pc' := 74) rfl (z := (2 : Int32)) rfl ?_
      refine k_iushr X12 hx (hb hby at_74) (pc' := 75) rfl (fun v2086 hv2086 => ?_)
      refine k_iconst X12 hx (hb hby at_75) (pc' := 76) rfl (z := (3 : Int32)) rfl ?_
      refine k_iand X12 hx (hb hby at_76) (pc' := 77) rfl (fun v2087 hv2087 => ?_)
      have hj2088 : ¬ v2087 < 0 ∧ v2087 < (4 : Int32) := by
       refine ⟨?_, ?_⟩
       ·
        intro hq2089
        have := rng32 v2080
        have := rng32 i5
        have : (3 : Int32).toInt = 3 := (by decide)
        have q2090 : v2080.toInt = i5.toInt % 4 := (by rw [hv2080]; exact c_mask _ _ 2 (by decide) (by decide))
        have : (0 : Int32).toInt = 0 := (by decide)
        have q2091 : ¬ v2080.toInt = (0 : Int32).toInt := fun q => hc2082 (Int32.toInt_inj.mp q)
        have : (1 : Int32).toInt = 1 := (by decide)
        have q2092 := congrArg Int32.toInt hc2083
        have := rng32 v2087
        have := rng32 v2086
        have : (2 : Int32).toInt = 2 := (by decide)
        have q2093 : v2086.toInt = (i5.toInt % 4294967296) / 4 := (by rw [hv2086]; exact c_iushr _ _ 2 (by decide) (by decide))
        have q2094 : v2087.toInt = v2086.toInt % 4 := (by rw [hv2087]; exact c_mask _ _ 2 (by decide) (by decide))
        have q2095 := hq2089; rw [Int32.lt_iff_toInt_lt] at q2095
        omega
       ·
        refine Classical.byContradiction (fun hq2096 => ?_)
        have := rng32 v2080
        have := rng32 i5
        have : (3 : Int32).toInt = 3 := (by decide)
        have q2097 : v2080.toInt = i5.toInt % 4 := (by rw [hv2080]; exact c_mask _ _ 2 (by decide) (by decide))
        have : (0 : Int32).toInt = 0 := (by decide)
        have q2098 : ¬ v2080.toInt = (0 : Int32).toInt := fun q => hc2082 (Int32.toInt_inj.mp q)
        have : (1 : Int32).toInt = 1 := (by decide)
        have q2099 := congrArg Int32.toInt hc2083
        have := rng32 v2087
        have := rng32 v2086
        have : (2 : Int32).toInt = 2 := (by decide)
        have q2100 : v2086.toInt = (i5.toInt % 4294967296) / 4 := (by rw [hv2086]; exact c_iushr _ _ 2 (by decide) (by decide))
        have q2101 : v2087.toInt = v2086.toInt % 4 := (by rw [hv2087]; exact c_mask _ _ 2 (by decide) (by decide))
        have : (4 : Int32).toInt = 4 := (by decide)
        have q2102 := hq2096; rw [Int32.lt_iff_toInt_lt] at q2102
        omega
      refine k_baloadS X12 hx hZ e12 Vw12 hj2088 (hb hby at_77) (pc' := 78) rfl (fun v2103 hv2103 => ?_)
      refine k_sipush X12 hx (hb hby at_78) (pc' := 81) rfl (z := (255 : Int32)) rfl ?_
      refine k_iand X12 hx (hb hby at_81) (pc' := 82) rfl (fun v2104 hv2104 => ?_)
      refine k_istore X12 hx (hb hby at_82) (Ls' := #[.val (.int i0), .val (.int i1), .val (.int i2), .val (.int i3), .val (.int i4), .val (.int i5), .val (.ref b1), .val (.int (2 : Int32)), .val (.int (2 : Int32)), .val (.int v2080), .val (.int v2104), .unset]) rfl (pc' := 84) rfl ?_
      refine k_goto X12 hx (hb hby at_84) (pc' := 97) (by decide) ?_
      exact key2081 v2104
    ·
     refine k_iconst X12 hx (hb hby at_57) (pc' := 58) rfl (z := (-1 : Int32)) rfl ?_
     refine k_istore X12 hx (hb hby at_58) (Ls' := #[.val (.int i0), .val (.int i1), .val (.int i2), .val (.int i3), .val (.int i4), .val (.int i5), .val (.ref b1), .val (.int (2 : Int32)), .val (.int (2 : Int32)), .val (.int v2080), .val (.int (-1 : Int32)), .unset]) rfl (pc' := 60) rfl ?_
     refine k_goto X12 hx (hb hby at_60) (pc' := 97) (by decide) ?_
     exact key2081 (-1 : Int32)
   intro v2105
   refine k_iload X12 hx (hb hby at_97) rfl (pc' := 99) rfl ?_
   refine k_iconst X12 hx (hb hby at_99) (pc' := 100) rfl (z := (-1 : Int32)) rfl ?_
   refine k_icmp_ne X12 hx (hb hby at_100) (pn := 103) rfl (py := 109) (by decide) (fun hc2107 => ?_) (fun hc2107 => ?_)
   ·
    refine k_aload X12 hx (hb hby at_109) rfl rfl (pc' := 111) rfl ?_
    refine k_iconst X12 hx (hb hby at_111) (pc' := 112) rfl (z := (0 : Int32)) rfl ?_
    refine k_iload X12 hx (hb hby at_112) rfl (pc' := 114) rfl ?_
    refine k_iload X12 hx (hb hby at_114) rfl (pc' := 116) rfl ?_
    refine k_iload X12 hx (hb hby at_116) rfl (pc' := 118) rfl ?_
    refine k_callS X12 hx hZ hown (hw _ (List.mem_of_getElem? (i := 2) rfl)) (hw _ (List.mem_of_getElem? (i := 3) rfl)) (hw _ (List.mem_of_getElem? (i := 4) rfl)) (hw _ (List.mem_of_getElem? (i := 5) rfl)) (by decide) (rm1_56 l Z a0 hw [] b1 (2 : Int32) v2105 k1 v2 v5 v8 v11 h12 n0 Z12 Vw12) (by decide) (by decide) e12 (by rw [hml]; rfl) (argsL := [(.ref b1), (.int (0 : Int32)), (.int (2 : Int32)), (.int (2 : Int32)), (.int v2105)]) (rest := []) (lenOf pd_0 rfl) rfl (W := 0) (Nat.le_refl _) rfl (hb hby at_118) (by decide) (by decide) (pc' := 121) rfl (fun T2108 L2108 r2108 X2108 q2108 => ?_)
    obtain ⟨N2108, e2108, q2108⟩ := q2108
    have N2108' := Fr.app N12 N2108
    rcases q2108 with ⟨hc2109, rfl⟩ | ⟨hc2110, rfl⟩
    ·
     show KEnds p e below s _ _ _ T2108 (mkF m 121 #[.val (.int i0), .val (.int i1), .val (.int i2), .val (.int i3), .val (.int i4), .val (.int i5), .val (.ref b1), .val (.int (2 : Int32)), .val (.int (2 : Int32)), .val (.int v2080), .val (.int v2105), .unset] [(.int (0 : Int32))])
     refine k_if_eq X2108 hx (hb hby at_121) (pn := 124) rfl (py := 130) (by decide) (fun _ => ?_) (fun hc => absurd (by decide) hc)
     refine k_aload X2108 hx (hb hby at_130) rfl rfl (pc' := 132) rfl ?_
     refine k_iconst X2108 hx (hb hby at_132) (pc' := 133) rfl (z := (1 : Int32)) rfl ?_
     refine k_iload X2108 hx (hb hby at_133) rfl (pc' := 135) rfl ?_
     refine k_iload X2108 hx (hb hby at_135) rfl (pc' := 137) rfl ?_
     refine k_iload X2108 hx (hb hby at_137) rfl (pc' := 139) rfl ?_
     refine k_callS X2108 hx hZ hown (hw _ (List.mem_of_getElem? (i := 2) rfl)) (hw _ (List.mem_of_getElem? (i := 3) rfl)) (hw _ (List.mem_of_getElem? (i := 4) rfl)) (hw _ (List.mem_of_getElem? (i := 5) rfl)) (by decide) (rm1_61 l Z a0 hw [] b1 (2 : Int32) v2105 k1 v2 v5 v8 v11 h12 n0 Z12 Vw12) (by decide) (by decide) e2108 (by rw [hml]; rfl) (argsL := [(.ref b1), (.int (1 : Int32)), (.int (2 : Int32)), (.int (2 : Int32)), (.int v2105)]) (rest := []) (lenOf pd_0 rfl) rfl (W := 0) (Nat.le_refl _) rfl (hb hby at_139) (by decide) (by decide) (pc' := 142) rfl (fun T2111 L2111 r2111 X2111 q2111 => ?_)
     obtain ⟨N2111, e2111, q2111⟩ := q2111
     have N2111' := Fr.app N2108' N2111
     rcases q2111 with ⟨hc2112, rfl⟩ | ⟨hc2113, rfl⟩
     ·
      show KEnds p e below s _ _ _ T2111 (mkF m 142 #[.val (.int i0), .val (.int i1), .val (.int i2), .val (.int i3), .val (.int i4), .val (.int i5), .val (.ref b1), .val (.int (2 : Int32)), .val (.int (2 : Int32)), .val (.int v2080), .val (.int v2105), .unset] [(.int (0 : Int32))])
      refine k_if_eq X2111 hx (hb hby at_142) (pn := 145) rfl (py := 151) (by decide) (fun _ => ?_) (fun hc => absurd (by decide) hc)
      refine k_aload X2111 hx (hb hby at_151) rfl rfl (pc' := 153) rfl ?_
      refine k_iconst X2111 hx (hb hby at_153) (pc' := 154) rfl (z := (2 : Int32)) rfl ?_
      refine k_iload X2111 hx (hb hby at_154) rfl (pc' := 156) rfl ?_
      refine k_iload X2111 hx (hb hby at_156) rfl (pc' := 158) rfl ?_
      refine k_iload X2111 hx (hb hby at_158) rfl (pc' := 160) rfl ?_
      refine k_callS X2111 hx hZ hown (hw _ (List.mem_of_getElem? (i := 2) rfl)) (hw _ (List.mem_of_getElem? (i := 3) rfl)) (hw _ (List.mem_of_getElem? (i := 4) rfl)) (hw _ (List.mem_of_getElem? (i := 5) rfl)) (by decide) (rm1_66 l Z a0 hw [] b1 (2 : Int32) v2105 k1 v2 v5 v8 v11 h12 n0 Z12 Vw12) (by decide) (by decide) e2111 (by rw [hml]; rfl) (argsL := [(.ref b1), (.int (2 : Int32)), (.int (2 : Int32)), (.int (2 : Int32)), (.int v2105)]) (rest := []) (lenOf pd_0 rfl) rfl (W := 0) (Nat.le_refl _) rfl (hb hby at_160) (by decide) (by decide) (pc' := 163) rfl (fun T2114 L2114 r2114 X2114 q2114 => ?_)
      obtain ⟨N2114, e2114, q2114⟩ := q2114
      have N2114' := Fr.app N2111' N2114
      rcases q2114 with ⟨hc2115, rfl⟩ | ⟨hc2116, rfl⟩
      ·
       show KEnds p e below s _ _ _ T2114 (mkF m 163 #[.val (.int i0), .val (.int i1), .val (.int i2), .val (.int i3), .val (.int i4), .val (.int i5), .val (.ref b1), .val (.int (2 : Int32)), .val (.int (2 : Int32)), .val (.int v2080), .val (.int v2105), .unset] [(.int (0 : Int32))])
       exact absurd hc2115 (by decide)
      ·
       show KEnds p e below s _ _ _ T2114 (mkF m 163 #[.val (.int i0), .val (.int i1), .val (.int i2), .val (.int i3), .val (.int i4), .val (.int i5), .val (.ref b1), .val (.int (2 : Int32)), .val (.int (2 : Int32)), .val (.int v2080), .val (.int v2105), .unset] [(.int (0 : Int32))])
       refine k_if_eq X2114 hx (hb hby at_163) (pn := 166) rfl (py := 172) (by decide) (fun _ => ?_) (fun hc => absurd (by decide) hc)
       refine k_aload X2114 hx (hb hby at_172) rfl rfl (pc' := 174) rfl ?_
       refine k_iconst X2114 hx (hb hby at_174) (pc' := 175) rfl (z := (3 : Int32)) rfl ?_
       refine k_iload X2114 hx (hb hby at_175) rfl (pc' := 177) rfl ?_
       refine k_iload X2114 hx (hb hby at_177) rfl (pc' := 179) rfl ?_
       refine k_iload X2114 hx (hb hby at_179) rfl (pc' := 181) rfl ?_
       refine k_callS X2114 hx hZ hown (hw _ (List.mem_of_getElem? (i := 2) rfl)) (hw _ (List.mem_of_getElem? (i := 3) rfl)) (hw _ (List.mem_of_getElem? (i := 4) rfl)) (hw _ (List.mem_of_getElem? (i := 5) rfl)) (by decide) (rm1_71 l Z a0 hw [] b1 (2 : Int32) v2105 k1 v2 v5 v8 v11 h12 n0 Z12 Vw12) (by decide) (by decide) e2114 (by rw [hml]; rfl) (argsL := [(.ref b1), (.int (3 : Int32)), (.int (2 : Int32)), (.int (2 : Int32)), (.int v2105)]) (rest := []) (lenOf pd_0 rfl) rfl (W := 0) (Nat.le_refl _) rfl (hb hby at_181) (by decide) (by decide) (pc' := 184) rfl (fun T2117 L2117 r2117 X2117 q2117 => ?_)
       obtain ⟨N2117, e2117, q2117⟩ := q2117
       have N2117' := Fr.app N2114' N2117
       rcases q2117 with ⟨hc2118, rfl⟩ | ⟨hc2119, rfl⟩
       ·
        show KEnds p e below s _ _ _ T2117 (mkF m 184 #[.val (.int i0), .val (.int i1), .val (.int i2), .val (.int i3), .val (.int i4), .val (.int i5), .val (.ref b1), .val (.int (2 : Int32)), .val (.int (2 : Int32)), .val (.int v2080), .val (.int v2105), .unset] [(.int (0 : Int32))])
        exact absurd hc2118 (by decide)
       ·
        show KEnds p e below s _ _ _ T2117 (mkF m 184 #[.val (.int i0), .val (.int i1), .val (.int i2), .val (.int i3), .val (.int i4), .val (.int i5), .val (.ref b1), .val (.int (2 : Int32)), .val (.int (2 : Int32)), .val (.int v2080), .val (.int v2105), .unset] [(.int (0 : Int32))])
        refine k_if_eq X2117 hx (hb hby at_184) (pn := 187) rfl (py := 193) (by decide) (fun _ => ?_) (fun hc => absurd (by decide) hc)
        refine k_iconst X2117 hx (hb hby at_193) (pc' := 194) rfl (z := (-1 : Int32)) rfl ?_
        refine k_istore X2117 hx (hb hby at_194) (Ls' := #[.val (.int i0), .val (.int i1), .val (.int i2), .val (.int i3), .val (.int i4), .val (.int i5), .val (.ref b1), .val (.int (2 : Int32)), .val (.int (2 : Int32)), .val (.int v2080), .val (.int v2105), .val (.int (-1 : Int32))]) rfl (pc' := 196) rfl ?_
        refine k_aload X2117 hx (hb hby at_196) rfl rfl (pc' := 198) rfl ?_
        refine k_iload X2117 hx (hb hby at_198) rfl (pc' := 200) rfl ?_
        refine k_iload X2117 hx (hb hby at_200) rfl (pc' := 202) rfl ?_
        refine k_iload X2117 hx (hb hby at_202) rfl (pc' := 204) rfl ?_
        refine k_callS X2117 hx hZ hown (hw _ (List.mem_of_getElem? (i := 6) rfl)) (hw _ (List.mem_of_getElem? (i := 7) rfl)) (hw _ (List.mem_of_getElem? (i := 8) rfl)) (hw _ (List.mem_of_getElem? (i := 9) rfl)) (by decide) (rm2_2120 l Z a0 hw [] b1 v2105 k1 v2 v5 v8 v11 h12 n0 Z12 Vw12) (by decide) (by decide) e2117 (by rw [hml]; rfl) (argsL := [(.ref b1), (.int (2 : Int32)), (.int (2 : Int32)), (.int v2105)]) (rest := []) (lenOf pd_1 rfl) rfl (W := 0) (Nat.le_refl _) rfl (hb hby at_204) (by decide) (by decide) (pc' := 207) rfl (fun T2122 L2122 r2122 X2122 q2122 => ?_)
        obtain ⟨N2122, e2122, q2122⟩ := q2122
        have N2122' := Fr.app N2117' N2122
        rcases q2122 with ⟨hc2123, rfl⟩ | ⟨hc2124, rfl⟩
        ·
         show KEnds p e below s _ _ _ T2122 (mkF m 207 #[.val (.int i0), .val (.int i1), .val (.int i2), .val (.int i3), .val (.int i4), .val (.int i5), .val (.ref b1), .val (.int (2 : Int32)), .val (.int (2 : Int32)), .val (.int v2080), .val (.int v2105), .val (.int (-1 : Int32))] [(.int (-1 : Int32))])
         refine k_iload X2122 hx (hb hby at_207) rfl (pc' := 209) rfl ?_
         refine k_icmp_ne X2122 hx (hb hby at_209) (pn := 212) rfl (py := 216) (by decide) (fun hc => absurd (by decide) hc) (fun _ => ?_)
         refine k_iconst X2122 hx (hb hby at_212) (pc' := 213) rfl (z := (1 : Int32)) rfl ?_
         refine k_goto X2122 hx (hb hby at_213) (pc' := 217) (by decide) ?_
         exact k_retN X2122 hx (t := .boolean) Bd.returns (by simp) (hb hby at_217) hlk (by decide) (by decide) (z' := (1 : Int32)) rfl ⟨rfl, N2122'⟩
        ·
         show KEnds p e below s _ _ _ T2122 (mkF m 207 #[.val (.int i0), .val (.int i1), .val (.int i2), .val (.int i3), .val (.int i4), .val (.int i5), .val (.ref b1), .val (.int (2 : Int32)), .val (.int (2 : Int32)), .val (.int v2080), .val (.int v2105), .val (.int (-1 : Int32))] [(.int (-1 : Int32))])
         exact absurd hc2124 hc2107
     ·
      show KEnds p e below s _ _ _ T2111 (mkF m 142 #[.val (.int i0), .val (.int i1), .val (.int i2), .val (.int i3), .val (.int i4), .val (.int i5), .val (.ref b1), .val (.int (2 : Int32)), .val (.int (2 : Int32)), .val (.int v2080), .val (.int v2105), .unset] [(.int (0 : Int32))])
      exact absurd (by decide) hc2113
    ·
     show KEnds p e below s _ _ _ T2108 (mkF m 121 #[.val (.int i0), .val (.int i1), .val (.int i2), .val (.int i3), .val (.int i4), .val (.int i5), .val (.ref b1), .val (.int (2 : Int32)), .val (.int (2 : Int32)), .val (.int v2080), .val (.int v2105), .unset] [(.int (0 : Int32))])
     exact absurd (by decide) hc2110
   ·
    refine k_iconst X12 hx (hb hby at_103) (pc' := 104) rfl (z := (-1 : Int32)) rfl ?_
    refine k_istore X12 hx (hb hby at_104) (Ls' := #[.val (.int i0), .val (.int i1), .val (.int i2), .val (.int i3), .val (.int i4), .val (.int i5), .val (.ref b1), .val (.int (2 : Int32)), .val (.int (2 : Int32)), .val (.int v2080), .val (.int v2105), .val (.int (-1 : Int32))]) rfl (pc' := 106) rfl ?_
    refine k_goto X12 hx (hb hby at_106) (pc' := 196) (by decide) ?_
    refine k_aload X12 hx (hb hby at_196) rfl rfl (pc' := 198) rfl ?_
    refine k_iload X12 hx (hb hby at_198) rfl (pc' := 200) rfl ?_
    refine k_iload X12 hx (hb hby at_200) rfl (pc' := 202) rfl ?_
    refine k_iload X12 hx (hb hby at_202) rfl (pc' := 204) rfl ?_
    refine k_callS X12 hx hZ hown (hw _ (List.mem_of_getElem? (i := 6) rfl)) (hw _ (List.mem_of_getElem? (i := 7) rfl)) (hw _ (List.mem_of_getElem? (i := 8) rfl)) (hw _ (List.mem_of_getElem? (i := 9) rfl)) (by decide) (rm2_2120 l Z a0 hw [] b1 v2105 k1 v2 v5 v8 v11 h12 n0 Z12 Vw12) (by decide) (by decide) e12 (by rw [hml]; rfl) (argsL := [(.ref b1), (.int (2 : Int32)), (.int (2 : Int32)), (.int v2105)]) (rest := []) (lenOf pd_1 rfl) rfl (W := 0) (Nat.le_refl _) rfl (hb hby at_204) (by decide) (by decide) (pc' := 207) rfl (fun T2125 L2125 r2125 X2125 q2125 => ?_)
    obtain ⟨N2125, e2125, q2125⟩ := q2125
    have N2125' := Fr.app N12 N2125
    rcases q2125 with ⟨hc2126, rfl⟩ | ⟨hc2127, rfl⟩
    ·
     show KEnds p e below s _ _ _ T2125 (mkF m 207 #[.val (.int i0), .val (.int i1), .val (.int i2), .val (.int i3), .val (.int i4), .val (.int i5), .val (.ref b1), .val (.int (2 : Int32)), .val (.int (2 : Int32)), .val (.int v2080), .val (.int v2105), .val (.int (-1 : Int32))] [(.int (-1 : Int32))])
     exact absurd hc2107 hc2126
    ·
     show KEnds p e below s _ _ _ T2125 (mkF m 207 #[.val (.int i0), .val (.int i1), .val (.int i2), .val (.int i3), .val (.int i4), .val (.int i5), .val (.ref b1), .val (.int (2 : Int32)), .val (.int (2 : Int32)), .val (.int v2080), .val (.int v2105), .val (.int (-1 : Int32))] [(.int (-1 : Int32))])
     refine k_iload X2125 hx (hb hby at_207) rfl (pc' := 209) rfl ?_
     refine k_icmp_ne X2125 hx (hb hby at_209) (pn := 212) rfl (py := 216) (by decide) (fun hc => absurd (by decide) hc) (fun _ => ?_)
     refine k_iconst X2125 hx (hb hby at_212) (pc' := 213) rfl (z := (1 : Int32)) rfl ?_
     refine k_goto X2125 hx (hb hby at_213) (pc' := 217) (by decide) ?_
     exact k_retN X2125 hx (t := .boolean) Bd.returns (by simp) (hb hby at_217) hlk (by decide) (by decide) (z' := (1 : Int32)) rfl ⟨rfl, N2125'⟩
  ·
   show KEnds p e below s _ _ _ T12 (mkF m 44 #[.val (.int i0), .val (.int i1), .val (.int i2), .val (.int i3), .val (.int i4), .val (.int i5), .val (.ref b1), .val (.int (2 : Int32)), .unset, .unset, .unset, .unset] [(.int (3 : Int32))])
   refine k_istore X12 hx (hb hby at_44) (Ls' := #[.val (.int i0), .val (.int i1), .val (.int i2), .val (.int i3), .val (.int i4), .val (.int i5), .val (.ref b1), .val (.int (2 : Int32)), .val (.int (3 : Int32)), .unset, .unset, .unset]) rfl (pc' := 46) rfl ?_
   refine k_iload X12 hx (hb hby at_46) rfl (pc' := 48) rfl ?_
   refine k_iconst X12 hx (hb hby at_48) (pc' := 49) rfl (z := (3 : Int32)) rfl ?_
   refine k_iand X12 hx (hb hby at_49) (pc' := 50) rfl (fun v2129 hv2129 => ?_)
   refine k_istore X12 hx (hb hby at_50) (Ls' := #[.val (.int i0), .val (.int i1), .val (.int i2), .val (.int i3), .val (.int i4), .val (.int i5), .val (.ref b1), .val (.int (2 : Int32)), .val (.int (3 : Int32)), .val (.int v2129), .unset, .unset]) rfl (pc' := 52) rfl ?_
   suffices key2130 : ∀ (v2154 : Int32), KEnds p e below s 16 128 (Q0 n0) T12 (mkF m 97 #[.val (.int i0), .val (.int i1), .val (.int i2), .val (.int i3), .val (.int i4), .val (.int i5), .val (.ref b1), .val (.int (2 : Int32)), .val (.int (3 : Int32)), .val (.int v2129), .val (.int v2154), .unset] []) by
    refine k_iload X12 hx (hb hby at_52) rfl (pc' := 54) rfl ?_
    refine k_if_ne X12 hx (hb hby at_54) (pn := 57) rfl (py := 63) (by decide) (fun hc2131 => ?_) (fun hc2131 => ?_)
    ·
     refine k_iload X12 hx (hb hby at_63) rfl (pc' := 65) rfl ?_
     refine k_iconst X12 hx (hb hby at_65) (pc' := 66) rfl (z := (1 : Int32)) rfl ?_
     refine k_icmp_ne X12 hx (hb hby at_66) (pn := 69) rfl (py := 87) (by decide) (fun hc2132 => ?_) (fun hc2132 => ?_)
     ·
      refine k_iload X12 hx (hb hby at_87) rfl (pc' := 89) rfl ?_
      refine k_iconst X12 hx (hb hby at_89) (pc' := 90) rfl (z := (2 : Int32)) rfl ?_
      refine k_iushr X12 hx (hb hby at_90) (pc' := 91) rfl (fun v2133 hv2133 => ?_)
      refine k_sipush X12 hx (hb hby at_91) (pc' := 94) rfl (z := (255 : Int32)) rfl ?_
      refine k_iand X12 hx (hb hby at_94) (pc' := 95) rfl (fun v2134 hv2134 => ?_)
      refine k_istore X12 hx (hb hby at_95) (Ls' := #[.val (.int i0), .val (.int i1), .val (.int i2), .val (.int i3), .val (.int i4), .val (.int i5), .val (.ref b1), .val (.int (2 : Int32)), .val (.int (3 : Int32)), .val (.int v2129), .val (.int v2134), .unset]) rfl (pc' := 97) rfl ?_
      exact key2130 v2134
     ·
      refine k_aload X12 hx (hb hby at_69) rfl rfl (pc' := 71) rfl ?_
      refine k_iload X12 hx (hb hby at_71) rfl (pc' := 73) rfl ?_
      refine k_iconst X12 hx (hb hby at_73) (pc' := 74) rfl (z := (2 : Int32)) rfl ?_
      refine k_iushr X12 hx (hb hby at_74) (pc' := 75) rfl (fun v2135 hv2135 => ?_)
      refine k_iconst X12 hx (hb hby at_75) (pc' := 76) rfl (z := (3 : Int32)) rfl ?_
      refine k_iand X12 hx (hb hby at_76) (pc' := 77) rfl (fun v2136 hv2136 => ?_)
      have hj2137 : ¬ v2136 < 0 ∧ v2136 < (4 : Int32) := by
       refine ⟨?_, ?_⟩
       ·
        intro hq2138
        have := rng32 v2129
        have := rng32 i5
        have : (3 : Int32).toInt = 3 := (by decide)
        have q2139 : v2129.toInt = i5.toInt % 4 := (by rw [hv2129]; exact c_mask _ _ 2 (by decide) (by decide))
        have : (0 : Int32).toInt = 0 := (by decide)
        have q2140 : ¬ v2129.toInt = (0 : Int32).toInt := fun q => hc2131 (Int32.toInt_inj.mp q)
        have : (1 : Int32).toInt = 1 := (by decide)
        have q2141 := congrArg Int32.toInt hc2132
        have := rng32 v2136
        have := rng32 v2135
        have : (2 : Int32).toInt = 2 := (by decide)
        have q2142 : v2135.toInt = (i5.toInt % 4294967296) / 4 := (by rw [hv2135]; exact c_iushr _ _ 2 (by decide) (by decide))
        have q2143 : v2136.toInt = v2135.toInt % 4 := (by rw [hv2136]; exact c_mask _ _ 2 (by decide) (by decide))
        have q2144 := hq2138; rw [Int32.lt_iff_toInt_lt] at q2144
        omega
       ·
        refine Classical.byContradiction (fun hq2145 => ?_)
        have := rng32 v2129
        have := rng32 i5
        have : (3 : Int32).toInt = 3 := (by decide)
        have q2146 : v2129.toInt = i5.toInt % 4 := (by rw [hv2129]; exact c_mask _ _ 2 (by decide) (by decide))
        have : (0 : Int32).toInt = 0 := (by decide)
        have q2147 : ¬ v2129.toInt = (0 : Int32).toInt := fun q => hc2131 (Int32.toInt_inj.mp q)
        have : (1 : Int32).toInt = 1 := (by decide)
        have q2148 := congrArg Int32.toInt hc2132
        have := rng32 v2136
        have := rng32 v2135
        have : (2 : Int32).toInt = 2 := (by decide)
        have q2149 : v2135.toInt = (i5.toInt % 4294967296) / 4 := (by rw [hv2135]; exact c_iushr _ _ 2 (by decide) (by decide))
        have q2150 : v2136.toInt = v2135.toInt % 4 := (by rw [hv2136]; exact c_mask _ _ 2 (by decide) (by decide))
        have : (4 : Int32).toInt = 4 := (by decide)
        have q2151 := hq2145; rw [Int32.lt_iff_toInt_lt] at q2151
        omega
      refine k_baloadS X12 hx hZ e12 Vw12 hj2137 (hb hby at_77) (pc' := 78) rfl (fun v2152 hv2152 => ?_)
      refine k_sipush X12 hx (hb hby at_78) (pc' := 81) rfl (z := (255 : Int32)) rfl ?_
      refine k_iand X12 hx (hb hby at_81) (pc' := 82) rfl (fun v2153 hv2153 => ?_)
      refine k_istore X12 hx (hb hby at_82) (Ls' := #[.val (.int i0), .val (.int i1), .val (.int i2), .val (.int i3), .val (.int i4), .val (.int i5), .val (.ref b1), .val (.int (2 : Int32)), .val (.int (3 : Int32)), .val (.int v2129), .val (.int v2153), .unset]) rfl (pc' := 84) rfl ?_
      refine k_goto X12 hx (hb hby at_84) (pc' := 97) (by decide) ?_
      exact key2130 v2153
    ·
     refine k_iconst X12 hx (hb hby at_57) (pc' := 58) rfl (z := (-1 : Int32)) rfl ?_
     refine k_istore X12 hx (hb hby at_58) (Ls' := #[.val (.int i0), .val (.int i1), .val (.int i2), .val (.int i3), .val (.int i4), .val (.int i5), .val (.ref b1), .val (.int (2 : Int32)), .val (.int (3 : Int32)), .val (.int v2129), .val (.int (-1 : Int32)), .unset]) rfl (pc' := 60) rfl ?_
     refine k_goto X12 hx (hb hby at_60) (pc' := 97) (by decide) ?_
     exact key2130 (-1 : Int32)
   intro v2154
   refine k_iload X12 hx (hb hby at_97) rfl (pc' := 99) rfl ?_
   refine k_iconst X12 hx (hb hby at_99) (pc' := 100) rfl (z := (-1 : Int32)) rfl ?_
   refine k_icmp_ne X12 hx (hb hby at_100) (pn := 103) rfl (py := 109) (by decide) (fun hc2156 => ?_) (fun hc2156 => ?_)
   ·
    refine k_aload X12 hx (hb hby at_109) rfl rfl (pc' := 111) rfl ?_
    refine k_iconst X12 hx (hb hby at_111) (pc' := 112) rfl (z := (0 : Int32)) rfl ?_
    refine k_iload X12 hx (hb hby at_112) rfl (pc' := 114) rfl ?_
    refine k_iload X12 hx (hb hby at_114) rfl (pc' := 116) rfl ?_
    refine k_iload X12 hx (hb hby at_116) rfl (pc' := 118) rfl ?_
    refine k_callS X12 hx hZ hown (hw _ (List.mem_of_getElem? (i := 2) rfl)) (hw _ (List.mem_of_getElem? (i := 3) rfl)) (hw _ (List.mem_of_getElem? (i := 4) rfl)) (hw _ (List.mem_of_getElem? (i := 5) rfl)) (by decide) (rm1_113 l Z a0 hw [] b1 (2 : Int32) (3 : Int32) v2154 k1 v2 v5 v8 v11 h12 n0 Z12 Vw12) (by decide) (by decide) e12 (by rw [hml]; rfl) (argsL := [(.ref b1), (.int (0 : Int32)), (.int (2 : Int32)), (.int (3 : Int32)), (.int v2154)]) (rest := []) (lenOf pd_0 rfl) rfl (W := 0) (Nat.le_refl _) rfl (hb hby at_118) (by decide) (by decide) (pc' := 121) rfl (fun T2157 L2157 r2157 X2157 q2157 => ?_)
    obtain ⟨N2157, e2157, q2157⟩ := q2157
    have N2157' := Fr.app N12 N2157
    rcases q2157 with ⟨hc2158, rfl⟩ | ⟨hc2159, hc2160, rfl⟩ | ⟨v2161, h2162, hc2163, hc2164, hc2165, rfl⟩ | ⟨v2166, h2167, hc2168, hc2169, hc2170, rfl⟩
    ·
     show KEnds p e below s _ _ _ T2157 (mkF m 121 #[.val (.int i0), .val (.int i1), .val (.int i2), .val (.int i3), .val (.int i4), .val (.int i5), .val (.ref b1), .val (.int (2 : Int32)), .val (.int (3 : Int32)), .val (.int v2129), .val (.int v2154), .unset] [(.int (0 : Int32))])
     refine k_if_eq X2157 hx (hb hby at_121) (pn := 124) rfl (py := 130) (by decide) (fun _ => ?_) (fun hc => absurd (by decide) hc)
     refine k_aload X2157 hx (hb hby at_130) rfl rfl (pc' := 132) rfl ?_
     refine k_iconst X2157 hx (hb hby at_132) (pc' := 133) rfl (z := (1 : Int32)) rfl ?_
     refine k_iload X2157 hx (hb hby at_133) rfl (pc' := 135) rfl ?_
     refine k_iload X2157 hx (hb hby at_135) rfl (pc' := 137) rfl ?_
     refine k_iload X2157 hx (hb hby at_137) rfl (pc' := 139) rfl ?_
     refine k_callS X2157 hx hZ hown (hw _ (List.mem_of_getElem? (i := 2) rfl)) (hw _ (List.mem_of_getElem? (i := 3) rfl)) (hw _ (List.mem_of_getElem? (i := 4) rfl)) (hw _ (List.mem_of_getElem? (i := 5) rfl)) (by decide) (rm1_132 l Z a0 hw [] b1 (2 : Int32) (3 : Int32) v2154 k1 v2 v5 v8 v11 h12 n0 Z12 Vw12) (by decide) (by decide) e2157 (by rw [hml]; rfl) (argsL := [(.ref b1), (.int (1 : Int32)), (.int (2 : Int32)), (.int (3 : Int32)), (.int v2154)]) (rest := []) (lenOf pd_0 rfl) rfl (W := 0) (Nat.le_refl _) rfl (hb hby at_139) (by decide) (by decide) (pc' := 142) rfl (fun T2171 L2171 r2171 X2171 q2171 => ?_)
     obtain ⟨N2171, e2171, q2171⟩ := q2171
     have N2171' := Fr.app N2157' N2171
     rcases q2171 with ⟨hc2172, rfl⟩ | ⟨hc2173, hc2174, rfl⟩ | ⟨v2175, h2176, hc2177, hc2178, hc2179, rfl⟩ | ⟨v2180, h2181, hc2182, hc2183, hc2184, rfl⟩
     ·
      show KEnds p e below s _ _ _ T2171 (mkF m 142 #[.val (.int i0), .val (.int i1), .val (.int i2), .val (.int i3), .val (.int i4), .val (.int i5), .val (.ref b1), .val (.int (2 : Int32)), .val (.int (3 : Int32)), .val (.int v2129), .val (.int v2154), .unset] [(.int (0 : Int32))])
      refine k_if_eq X2171 hx (hb hby at_142) (pn := 145) rfl (py := 151) (by decide) (fun _ => ?_) (fun hc => absurd (by decide) hc)
      refine k_aload X2171 hx (hb hby at_151) rfl rfl (pc' := 153) rfl ?_
      refine k_iconst X2171 hx (hb hby at_153) (pc' := 154) rfl (z := (2 : Int32)) rfl ?_
      refine k_iload X2171 hx (hb hby at_154) rfl (pc' := 156) rfl ?_
      refine k_iload X2171 hx (hb hby at_156) rfl (pc' := 158) rfl ?_
      refine k_iload X2171 hx (hb hby at_158) rfl (pc' := 160) rfl ?_
      refine k_callS X2171 hx hZ hown (hw _ (List.mem_of_getElem? (i := 2) rfl)) (hw _ (List.mem_of_getElem? (i := 3) rfl)) (hw _ (List.mem_of_getElem? (i := 4) rfl)) (hw _ (List.mem_of_getElem? (i := 5) rfl)) (by decide) (rm1_151 l Z a0 hw [] b1 (2 : Int32) (3 : Int32) v2154 k1 v2 v5 v8 v11 h12 n0 Z12 Vw12) (by decide) (by decide) e2171 (by rw [hml]; rfl) (argsL := [(.ref b1), (.int (2 : Int32)), (.int (2 : Int32)), (.int (3 : Int32)), (.int v2154)]) (rest := []) (lenOf pd_0 rfl) rfl (W := 0) (Nat.le_refl _) rfl (hb hby at_160) (by decide) (by decide) (pc' := 163) rfl (fun T2185 L2185 r2185 X2185 q2185 => ?_)
      obtain ⟨N2185, e2185, q2185⟩ := q2185
      have N2185' := Fr.app N2171' N2185
      rcases q2185 with ⟨hc2186, rfl⟩ | ⟨hc2187, hc2188, rfl⟩ | ⟨v2189, h2190, hc2191, hc2192, hc2193, rfl⟩ | ⟨v2194, h2195, hc2196, hc2197, hc2198, rfl⟩
      ·
       show KEnds p e below s _ _ _ T2185 (mkF m 163 #[.val (.int i0), .val (.int i1), .val (.int i2), .val (.int i3), .val (.int i4), .val (.int i5), .val (.ref b1), .val (.int (2 : Int32)), .val (.int (3 : Int32)), .val (.int v2129), .val (.int v2154), .unset] [(.int (0 : Int32))])
       exact absurd hc2186 (by decide)
      ·
       show KEnds p e below s _ _ _ T2185 (mkF m 163 #[.val (.int i0), .val (.int i1), .val (.int i2), .val (.int i3), .val (.int i4), .val (.int i5), .val (.ref b1), .val (.int (2 : Int32)), .val (.int (3 : Int32)), .val (.int v2129), .val (.int v2154), .unset] [(.int (0 : Int32))])
       exact absurd (by decide) hc2188
      ·
       show KEnds p e below s _ _ _ T2185 (mkF m 163 #[.val (.int i0), .val (.int i1), .val (.int i2), .val (.int i3), .val (.int i4), .val (.int i5), .val (.ref b1), .val (.int (2 : Int32)), .val (.int (3 : Int32)), .val (.int v2129), .val (.int v2154), .unset] [(.int (0 : Int32))])
       refine k_if_eq X2185 hx (hb hby at_163) (pn := 166) rfl (py := 172) (by decide) (fun _ => ?_) (fun hc => absurd (by decide) hc)
       refine k_aload X2185 hx (hb hby at_172) rfl rfl (pc' := 174) rfl ?_
       refine k_iconst X2185 hx (hb hby at_174) (pc' := 175) rfl (z := (3 : Int32)) rfl ?_
       refine k_iload X2185 hx (hb hby at_175) rfl (pc' := 177) rfl ?_
       refine k_iload X2185 hx (hb hby at_177) rfl (pc' := 179) rfl ?_
       refine k_iload X2185 hx (hb hby at_179) rfl (pc' := 181) rfl ?_
       refine k_callS X2185 hx hZ hown (hw _ (List.mem_of_getElem? (i := 2) rfl)) (hw _ (List.mem_of_getElem? (i := 3) rfl)) (hw _ (List.mem_of_getElem? (i := 4) rfl)) (hw _ (List.mem_of_getElem? (i := 5) rfl)) (by decide) (rm1_170 l Z a0 hw [] b1 (2 : Int32) (3 : Int32) v2154 k1 v2 v5 v8 v11 h12 n0 Z12 Vw12) (by decide) (by decide) e2185 (by rw [hml]; rfl) (argsL := [(.ref b1), (.int (3 : Int32)), (.int (2 : Int32)), (.int (3 : Int32)), (.int v2154)]) (rest := []) (lenOf pd_0 rfl) rfl (W := 0) (Nat.le_refl _) rfl (hb hby at_181) (by decide) (by decide) (pc' := 184) rfl (fun T2199 L2199 r2199 X2199 q2199 => ?_)
       obtain ⟨N2199, e2199, q2199⟩ := q2199
       have N2199' := Fr.app N2185' N2199
       rcases q2199 with ⟨hc2200, rfl⟩ | ⟨hc2201, hc2202, rfl⟩ | ⟨v2203, h2204, hc2205, hc2206, hc2207, rfl⟩ | ⟨v2208, h2209, hc2210, hc2211, hc2212, rfl⟩
       ·
        show KEnds p e below s _ _ _ T2199 (mkF m 184 #[.val (.int i0), .val (.int i1), .val (.int i2), .val (.int i3), .val (.int i4), .val (.int i5), .val (.ref b1), .val (.int (2 : Int32)), .val (.int (3 : Int32)), .val (.int v2129), .val (.int v2154), .unset] [(.int (0 : Int32))])
        exact absurd hc2200 (by decide)
       ·
        show KEnds p e below s _ _ _ T2199 (mkF m 184 #[.val (.int i0), .val (.int i1), .val (.int i2), .val (.int i3), .val (.int i4), .val (.int i5), .val (.ref b1), .val (.int (2 : Int32)), .val (.int (3 : Int32)), .val (.int v2129), .val (.int v2154), .unset] [(.int (0 : Int32))])
        refine k_if_eq X2199 hx (hb hby at_184) (pn := 187) rfl (py := 193) (by decide) (fun _ => ?_) (fun hc => absurd (by decide) hc)
        refine k_iconst X2199 hx (hb hby at_193) (pc' := 194) rfl (z := (-1 : Int32)) rfl ?_
        refine k_istore X2199 hx (hb hby at_194) (Ls' := #[.val (.int i0), .val (.int i1), .val (.int i2), .val (.int i3), .val (.int i4), .val (.int i5), .val (.ref b1), .val (.int (2 : Int32)), .val (.int (3 : Int32)), .val (.int v2129), .val (.int v2154), .val (.int (-1 : Int32))]) rfl (pc' := 196) rfl ?_
        refine k_aload X2199 hx (hb hby at_196) rfl rfl (pc' := 198) rfl ?_
        refine k_iload X2199 hx (hb hby at_198) rfl (pc' := 200) rfl ?_
        refine k_iload X2199 hx (hb hby at_200) rfl (pc' := 202) rfl ?_
        refine k_iload X2199 hx (hb hby at_202) rfl (pc' := 204) rfl ?_
        refine k_callS X2199 hx hZ hown (hw _ (List.mem_of_getElem? (i := 6) rfl)) (hw _ (List.mem_of_getElem? (i := 7) rfl)) (hw _ (List.mem_of_getElem? (i := 8) rfl)) (hw _ (List.mem_of_getElem? (i := 9) rfl)) (by decide) (rm2_2213 l Z a0 hw [] b1 v2154 k1 v2 v5 v8 v11 h12 n0 Z12 Vw12) (by decide) (by decide) e2199 (by rw [hml]; rfl) (argsL := [(.ref b1), (.int (2 : Int32)), (.int (3 : Int32)), (.int v2154)]) (rest := []) (lenOf pd_1 rfl) rfl (W := 0) (Nat.le_refl _) rfl (hb hby at_204) (by decide) (by decide) (pc' := 207) rfl (fun T2217 L2217 r2217 X2217 q2217 => ?_)
        obtain ⟨N2217, e2217, q2217⟩ := q2217
        have N2217' := Fr.app N2199' N2217
        rcases q2217 with ⟨v2218, h2219, hc2220, hc2221, rfl⟩ | ⟨v2222, h2223, hc2224, hc2225, rfl⟩ | ⟨hc2226, rfl⟩
        ·
         have hh2227 : v2189 = v2218 := h2190.trans h2219.symm
         subst hh2227
         show KEnds p e below s _ _ _ T2217 (mkF m 207 #[.val (.int i0), .val (.int i1), .val (.int i2), .val (.int i3), .val (.int i4), .val (.int i5), .val (.ref b1), .val (.int (2 : Int32)), .val (.int (3 : Int32)), .val (.int v2129), .val (.int v2154), .val (.int (-1 : Int32))] [(.int (-1 : Int32))])
         refine k_iload X2217 hx (hb hby at_207) rfl (pc' := 209) rfl ?_
         refine k_icmp_ne X2217 hx (hb hby at_209) (pn := 212) rfl (py := 216) (by decide) (fun hc => absurd (by decide) hc) (fun _ => ?_)
         refine k_iconst X2217 hx (hb hby at_212) (pc' := 213) rfl (z := (1 : Int32)) rfl ?_
         refine k_goto X2217 hx (hb hby at_213) (pc' := 217) (by decide) ?_
         exact k_retN X2217 hx (t := .boolean) Bd.returns (by simp) (hb hby at_217) hlk (by decide) (by decide) (z' := (1 : Int32)) rfl ⟨rfl, N2217'⟩
        ·
         have hh2228 : v2189 = v2222 := h2190.trans h2223.symm
         subst hh2228
         show KEnds p e below s _ _ _ T2217 (mkF m 207 #[.val (.int i0), .val (.int i1), .val (.int i2), .val (.int i3), .val (.int i4), .val (.int i5), .val (.ref b1), .val (.int (2 : Int32)), .val (.int (3 : Int32)), .val (.int v2129), .val (.int v2154), .val (.int (-1 : Int32))] [(.int (2 : Int32))])
         exact absurd hc2225 hc2193
        ·
         show KEnds p e below s _ _ _ T2217 (mkF m 207 #[.val (.int i0), .val (.int i1), .val (.int i2), .val (.int i3), .val (.int i4), .val (.int i5), .val (.ref b1), .val (.int (2 : Int32)), .val (.int (3 : Int32)), .val (.int v2129), .val (.int v2154), .val (.int (-1 : Int32))] [(.int (-1 : Int32))])
         exact absurd hc2226 hc2156
       ·
        show KEnds p e below s _ _ _ T2199 (mkF m 184 #[.val (.int i0), .val (.int i1), .val (.int i2), .val (.int i3), .val (.int i4), .val (.int i5), .val (.ref b1), .val (.int (2 : Int32)), .val (.int (3 : Int32)), .val (.int v2129), .val (.int v2154), .unset] [(.int (0 : Int32))])
        exact absurd hc2206 (by decide)
       ·
        show KEnds p e below s _ _ _ T2199 (mkF m 184 #[.val (.int i0), .val (.int i1), .val (.int i2), .val (.int i3), .val (.int i4), .val (.int i5), .val (.ref b1), .val (.int (2 : Int32)), .val (.int (3 : Int32)), .val (.int v2129), .val (.int v2154), .unset] [(.int (1 : Int32))])
        exact absurd hc2211 (by decide)
      ·
       show KEnds p e below s _ _ _ T2185 (mkF m 163 #[.val (.int i0), .val (.int i1), .val (.int i2), .val (.int i3), .val (.int i4), .val (.int i5), .val (.ref b1), .val (.int (2 : Int32)), .val (.int (3 : Int32)), .val (.int v2129), .val (.int v2154), .unset] [(.int (1 : Int32))])
       refine k_if_eq X2185 hx (hb hby at_163) (pn := 166) rfl (py := 172) (by decide) (fun hc => absurd hc (by decide)) (fun _ => ?_)
       refine k_iconst X2185 hx (hb hby at_166) (pc' := 167) rfl (z := (2 : Int32)) rfl ?_
       refine k_istore X2185 hx (hb hby at_167) (Ls' := #[.val (.int i0), .val (.int i1), .val (.int i2), .val (.int i3), .val (.int i4), .val (.int i5), .val (.ref b1), .val (.int (2 : Int32)), .val (.int (3 : Int32)), .val (.int v2129), .val (.int v2154), .val (.int (2 : Int32))]) rfl (pc' := 169) rfl ?_
       refine k_goto X2185 hx (hb hby at_169) (pc' := 196) (by decide) ?_
       refine k_aload X2185 hx (hb hby at_196) rfl rfl (pc' := 198) rfl ?_
       refine k_iload X2185 hx (hb hby at_198) rfl (pc' := 200) rfl ?_
       refine k_iload X2185 hx (hb hby at_200) rfl (pc' := 202) rfl ?_
       refine k_iload X2185 hx (hb hby at_202) rfl (pc' := 204) rfl ?_
       refine k_callS X2185 hx hZ hown (hw _ (List.mem_of_getElem? (i := 6) rfl)) (hw _ (List.mem_of_getElem? (i := 7) rfl)) (hw _ (List.mem_of_getElem? (i := 8) rfl)) (hw _ (List.mem_of_getElem? (i := 9) rfl)) (by decide) (rm2_2213 l Z a0 hw [] b1 v2154 k1 v2 v5 v8 v11 h12 n0 Z12 Vw12) (by decide) (by decide) e2185 (by rw [hml]; rfl) (argsL := [(.ref b1), (.int (2 : Int32)), (.int (3 : Int32)), (.int v2154)]) (rest := []) (lenOf pd_1 rfl) rfl (W := 0) (Nat.le_refl _) rfl (hb hby at_204) (by decide) (by decide) (pc' := 207) rfl (fun T2229 L2229 r2229 X2229 q2229 => ?_)
       obtain ⟨N2229, e2229, q2229⟩ := q2229
       have N2229' := Fr.app N2185' N2229
       rcases q2229 with ⟨v2230, h2231, hc2232, hc2233, rfl⟩ | ⟨v2234, h2235, hc2236, hc2237, rfl⟩ | ⟨hc2238, rfl⟩
       ·
        have hh2239 : v2194 = v2230 := h2195.trans h2231.symm
        subst hh2239
        show KEnds p e below s _ _ _ T2229 (mkF m 207 #[.val (.int i0), .val (.int i1), .val (.int i2), .val (.int i3), .val (.int i4), .val (.int i5), .val (.ref b1), .val (.int (2 : Int32)), .val (.int (3 : Int32)), .val (.int v2129), .val (.int v2154), .val (.int (2 : Int32))] [(.int (-1 : Int32))])
        exact absurd hc2198 hc2233
       ·
        have hh2240 : v2194 = v2234 := h2195.trans h2235.symm
        subst hh2240
        show KEnds p e below s _ _ _ T2229 (mkF m 207 #[.val (.int i0), .val (.int i1), .val (.int i2), .val (.int i3), .val (.int i4), .val (.int i5), .val (.ref b1), .val (.int (2 : Int32)), .val (.int (3 : Int32)), .val (.int v2129), .val (.int v2154), .val (.int (2 : Int32))] [(.int (2 : Int32))])
        refine k_iload X2229 hx (hb hby at_207) rfl (pc' := 209) rfl ?_
        refine k_icmp_ne X2229 hx (hb hby at_209) (pn := 212) rfl (py := 216) (by decide) (fun hc => absurd (by decide) hc) (fun _ => ?_)
        refine k_iconst X2229 hx (hb hby at_212) (pc' := 213) rfl (z := (1 : Int32)) rfl ?_
        refine k_goto X2229 hx (hb hby at_213) (pc' := 217) (by decide) ?_
        exact k_retN X2229 hx (t := .boolean) Bd.returns (by simp) (hb hby at_217) hlk (by decide) (by decide) (z' := (1 : Int32)) rfl ⟨rfl, N2229'⟩
       ·
        show KEnds p e below s _ _ _ T2229 (mkF m 207 #[.val (.int i0), .val (.int i1), .val (.int i2), .val (.int i3), .val (.int i4), .val (.int i5), .val (.ref b1), .val (.int (2 : Int32)), .val (.int (3 : Int32)), .val (.int v2129), .val (.int v2154), .val (.int (2 : Int32))] [(.int (-1 : Int32))])
        exact absurd hc2238 hc2156
     ·
      show KEnds p e below s _ _ _ T2171 (mkF m 142 #[.val (.int i0), .val (.int i1), .val (.int i2), .val (.int i3), .val (.int i4), .val (.int i5), .val (.ref b1), .val (.int (2 : Int32)), .val (.int (3 : Int32)), .val (.int v2129), .val (.int v2154), .unset] [(.int (0 : Int32))])
      exact absurd (by decide) hc2173
     ·
      show KEnds p e below s _ _ _ T2171 (mkF m 142 #[.val (.int i0), .val (.int i1), .val (.int i2), .val (.int i3), .val (.int i4), .val (.int i5), .val (.ref b1), .val (.int (2 : Int32)), .val (.int (3 : Int32)), .val (.int v2129), .val (.int v2154), .unset] [(.int (0 : Int32))])
      exact absurd (by decide) hc2177
     ·
      show KEnds p e below s _ _ _ T2171 (mkF m 142 #[.val (.int i0), .val (.int i1), .val (.int i2), .val (.int i3), .val (.int i4), .val (.int i5), .val (.ref b1), .val (.int (2 : Int32)), .val (.int (3 : Int32)), .val (.int v2129), .val (.int v2154), .unset] [(.int (1 : Int32))])
      exact absurd (by decide) hc2182
    ·
     show KEnds p e below s _ _ _ T2157 (mkF m 121 #[.val (.int i0), .val (.int i1), .val (.int i2), .val (.int i3), .val (.int i4), .val (.int i5), .val (.ref b1), .val (.int (2 : Int32)), .val (.int (3 : Int32)), .val (.int v2129), .val (.int v2154), .unset] [(.int (0 : Int32))])
     exact absurd (by decide) hc2159
    ·
     show KEnds p e below s _ _ _ T2157 (mkF m 121 #[.val (.int i0), .val (.int i1), .val (.int i2), .val (.int i3), .val (.int i4), .val (.int i5), .val (.ref b1), .val (.int (2 : Int32)), .val (.int (3 : Int32)), .val (.int v2129), .val (.int v2154), .unset] [(.int (0 : Int32))])
     exact absurd (by decide) hc2163
    ·
     show KEnds p e below s _ _ _ T2157 (mkF m 121 #[.val (.int i0), .val (.int i1), .val (.int i2), .val (.int i3), .val (.int i4), .val (.int i5), .val (.ref b1), .val (.int (2 : Int32)), .val (.int (3 : Int32)), .val (.int v2129), .val (.int v2154), .unset] [(.int (1 : Int32))])
     exact absurd (by decide) hc2168
   ·
    refine k_iconst X12 hx (hb hby at_103) (pc' := 104) rfl (z := (-1 : Int32)) rfl ?_
    refine k_istore X12 hx (hb hby at_104) (Ls' := #[.val (.int i0), .val (.int i1), .val (.int i2), .val (.int i3), .val (.int i4), .val (.int i5), .val (.ref b1), .val (.int (2 : Int32)), .val (.int (3 : Int32)), .val (.int v2129), .val (.int v2154), .val (.int (-1 : Int32))]) rfl (pc' := 106) rfl ?_
    refine k_goto X12 hx (hb hby at_106) (pc' := 196) (by decide) ?_
    refine k_aload X12 hx (hb hby at_196) rfl rfl (pc' := 198) rfl ?_
    refine k_iload X12 hx (hb hby at_198) rfl (pc' := 200) rfl ?_
    refine k_iload X12 hx (hb hby at_200) rfl (pc' := 202) rfl ?_
    refine k_iload X12 hx (hb hby at_202) rfl (pc' := 204) rfl ?_
    refine k_callS X12 hx hZ hown (hw _ (List.mem_of_getElem? (i := 6) rfl)) (hw _ (List.mem_of_getElem? (i := 7) rfl)) (hw _ (List.mem_of_getElem? (i := 8) rfl)) (hw _ (List.mem_of_getElem? (i := 9) rfl)) (by decide) (rm2_2213 l Z a0 hw [] b1 v2154 k1 v2 v5 v8 v11 h12 n0 Z12 Vw12) (by decide) (by decide) e12 (by rw [hml]; rfl) (argsL := [(.ref b1), (.int (2 : Int32)), (.int (3 : Int32)), (.int v2154)]) (rest := []) (lenOf pd_1 rfl) rfl (W := 0) (Nat.le_refl _) rfl (hb hby at_204) (by decide) (by decide) (pc' := 207) rfl (fun T2241 L2241 r2241 X2241 q2241 => ?_)
    obtain ⟨N2241, e2241, q2241⟩ := q2241
    have N2241' := Fr.app N12 N2241
    rcases q2241 with ⟨v2242, h2243, hc2244, hc2245, rfl⟩ | ⟨v2246, h2247, hc2248, hc2249, rfl⟩ | ⟨hc2250, rfl⟩
    ·
     show KEnds p e below s _ _ _ T2241 (mkF m 207 #[.val (.int i0), .val (.int i1), .val (.int i2), .val (.int i3), .val (.int i4), .val (.int i5), .val (.ref b1), .val (.int (2 : Int32)), .val (.int (3 : Int32)), .val (.int v2129), .val (.int v2154), .val (.int (-1 : Int32))] [(.int (-1 : Int32))])
     exact absurd hc2156 hc2244
    ·
     show KEnds p e below s _ _ _ T2241 (mkF m 207 #[.val (.int i0), .val (.int i1), .val (.int i2), .val (.int i3), .val (.int i4), .val (.int i5), .val (.ref b1), .val (.int (2 : Int32)), .val (.int (3 : Int32)), .val (.int v2129), .val (.int v2154), .val (.int (-1 : Int32))] [(.int (2 : Int32))])
     exact absurd hc2156 hc2248
    ·
     show KEnds p e below s _ _ _ T2241 (mkF m 207 #[.val (.int i0), .val (.int i1), .val (.int i2), .val (.int i3), .val (.int i4), .val (.int i5), .val (.ref b1), .val (.int (2 : Int32)), .val (.int (3 : Int32)), .val (.int v2129), .val (.int v2154), .val (.int (-1 : Int32))] [(.int (-1 : Int32))])
     refine k_iload X2241 hx (hb hby at_207) rfl (pc' := 209) rfl ?_
     refine k_icmp_ne X2241 hx (hb hby at_209) (pn := 212) rfl (py := 216) (by decide) (fun hc => absurd (by decide) hc) (fun _ => ?_)
     refine k_iconst X2241 hx (hb hby at_212) (pc' := 213) rfl (z := (1 : Int32)) rfl ?_
     refine k_goto X2241 hx (hb hby at_213) (pc' := 217) (by decide) ?_
     exact k_retN X2241 hx (t := .boolean) Bd.returns (by simp) (hb hby at_217) hlk (by decide) (by decide) (z' := (1 : Int32)) rfl ⟨rfl, N2241'⟩
  ·
   show KEnds p e below s _ _ _ T12 (mkF m 44 #[.val (.int i0), .val (.int i1), .val (.int i2), .val (.int i3), .val (.int i4), .val (.int i5), .val (.ref b1), .val (.int (2 : Int32)), .unset, .unset, .unset, .unset] [(.int (4 : Int32))])
   refine k_istore X12 hx (hb hby at_44) (Ls' := #[.val (.int i0), .val (.int i1), .val (.int i2), .val (.int i3), .val (.int i4), .val (.int i5), .val (.ref b1), .val (.int (2 : Int32)), .val (.int (4 : Int32)), .unset, .unset, .unset]) rfl (pc' := 46) rfl ?_
   refine k_iload X12 hx (hb hby at_46) rfl (pc' := 48) rfl ?_
   refine k_iconst X12 hx (hb hby at_48) (pc' := 49) rfl (z := (3 : Int32)) rfl ?_
   refine k_iand X12 hx (hb hby at_49) (pc' := 50) rfl (fun v2252 hv2252 => ?_)
   refine k_istore X12 hx (hb hby at_50) (Ls' := #[.val (.int i0), .val (.int i1), .val (.int i2), .val (.int i3), .val (.int i4), .val (.int i5), .val (.ref b1), .val (.int (2 : Int32)), .val (.int (4 : Int32)), .val (.int v2252), .unset, .unset]) rfl (pc' := 52) rfl ?_
   suffices key2253 : ∀ (v2277 : Int32), KEnds p e below s 16 128 (Q0 n0) T12 (mkF m 97 #[.val (.int i0), .val (.int i1), .val (.int i2), .val (.int i3), .val (.int i4), .val (.int i5), .val (.ref b1), .val (.int (2 : Int32)), .val (.int (4 : Int32)), .val (.int v2252), .val (.int v2277), .unset] []) by
    refine k_iload X12 hx (hb hby at_52) rfl (pc' := 54) rfl ?_
    refine k_if_ne X12 hx (hb hby at_54) (pn := 57) rfl (py := 63) (by decide) (fun hc2254 => ?_) (fun hc2254 => ?_)
    ·
     refine k_iload X12 hx (hb hby at_63) rfl (pc' := 65) rfl ?_
     refine k_iconst X12 hx (hb hby at_65) (pc' := 66) rfl (z := (1 : Int32)) rfl ?_
     refine k_icmp_ne X12 hx (hb hby at_66) (pn := 69) rfl (py := 87) (by decide) (fun hc2255 => ?_) (fun hc2255 => ?_)
     ·
      refine k_iload X12 hx (hb hby at_87) rfl (pc' := 89) rfl ?_
      refine k_iconst X12 hx (hb hby at_89) (pc' := 90) rfl (z := (2 : Int32)) rfl ?_
      refine k_iushr X12 hx (hb hby at_90) (pc' := 91) rfl (fun v2256 hv2256 => ?_)
      refine k_sipush X12 hx (hb hby at_91) (pc' := 94) rfl (z := (255 : Int32)) rfl ?_
      refine k_iand X12 hx (hb hby at_94) (pc' := 95) rfl (fun v2257 hv2257 => ?_)
      refine k_istore X12 hx (hb hby at_95) (Ls' := #[.val (.int i0), .val (.int i1), .val (.int i2), .val (.int i3), .val (.int i4), .val (.int i5), .val (.ref b1), .val (.int (2 : Int32)), .val (.int (4 : Int32)), .val (.int v2252), .val (.int v2257), .unset]) rfl (pc' := 97) rfl ?_
      exact key2253 v2257
     ·
      refine k_aload X12 hx (hb hby at_69) rfl rfl (pc' := 71) rfl ?_
      refine k_iload X12 hx (hb hby at_71) rfl (pc' := 73) rfl ?_
      refine k_iconst X12 hx (hb hby at_73) (pc' := 74) rfl (z := (2 : Int32)) rfl ?_
      refine k_iushr X12 hx (hb hby at_74) (pc' := 75) rfl (fun v2258 hv2258 => ?_)
      refine k_iconst X12 hx (hb hby at_75) (pc' := 76) rfl (z := (3 : Int32)) rfl ?_
      refine k_iand X12 hx (hb hby at_76) (pc' := 77) rfl (fun v2259 hv2259 => ?_)
      have hj2260 : ¬ v2259 < 0 ∧ v2259 < (4 : Int32) := by
       refine ⟨?_, ?_⟩
       ·
        intro hq2261
        have := rng32 v2252
        have := rng32 i5
        have : (3 : Int32).toInt = 3 := (by decide)
        have q2262 : v2252.toInt = i5.toInt % 4 := (by rw [hv2252]; exact c_mask _ _ 2 (by decide) (by decide))
        have : (0 : Int32).toInt = 0 := (by decide)
        have q2263 : ¬ v2252.toInt = (0 : Int32).toInt := fun q => hc2254 (Int32.toInt_inj.mp q)
        have : (1 : Int32).toInt = 1 := (by decide)
        have q2264 := congrArg Int32.toInt hc2255
        have := rng32 v2259
        have := rng32 v2258
        have : (2 : Int32).toInt = 2 := (by decide)
        have q2265 : v2258.toInt = (i5.toInt % 4294967296) / 4 := (by rw [hv2258]; exact c_iushr _ _ 2 (by decide) (by decide))
        have q2266 : v2259.toInt = v2258.toInt % 4 := (by rw [hv2259]; exact c_mask _ _ 2 (by decide) (by decide))
        have q2267 := hq2261; rw [Int32.lt_iff_toInt_lt] at q2267
        omega
       ·
        refine Classical.byContradiction (fun hq2268 => ?_)
        have := rng32 v2252
        have := rng32 i5
        have : (3 : Int32).toInt = 3 := (by decide)
        have q2269 : v2252.toInt = i5.toInt % 4 := (by rw [hv2252]; exact c_mask _ _ 2 (by decide) (by decide))
        have : (0 : Int32).toInt = 0 := (by decide)
        have q2270 : ¬ v2252.toInt = (0 : Int32).toInt := fun q => hc2254 (Int32.toInt_inj.mp q)
        have : (1 : Int32).toInt = 1 := (by decide)
        have q2271 := congrArg Int32.toInt hc2255
        have := rng32 v2259
        have := rng32 v2258
        have : (2 : Int32).toInt = 2 := (by decide)
        have q2272 : v2258.toInt = (i5.toInt % 4294967296) / 4 := (by rw [hv2258]; exact c_iushr _ _ 2 (by decide) (by decide))
        have q2273 : v2259.toInt = v2258.toInt % 4 := (by rw [hv2259]; exact c_mask _ _ 2 (by decide) (by decide))
        have : (4 : Int32).toInt = 4 := (by decide)
        have q2274 := hq2268; rw [Int32.lt_iff_toInt_lt] at q2274
        omega
      refine k_baloadS X12 hx hZ e12 Vw12 hj2260 (hb hby at_77) (pc' := 78) rfl (fun v2275 hv2275 => ?_)
      refine k_sipush X12 hx (hb hby at_78) (pc' := 81) rfl (z := (255 : Int32)) rfl ?_
      refine k_iand X12 hx (hb hby at_81) (pc' := 82) rfl (fun v2276 hv2276 => ?_)
      refine k_istore X12 hx (hb hby at_82) (Ls' := #[.val (.int i0), .val (.int i1), .val (.int i2), .val (.int i3), .val (.int i4), .val (.int i5), .val (.ref b1), .val (.int (2 : Int32)), .val (.int (4 : Int32)), .val (.int v2252), .val (.int v2276), .unset]) rfl (pc' := 84) rfl ?_
      refine k_goto X12 hx (hb hby at_84) (pc' := 97) (by decide) ?_
      exact key2253 v2276
    ·
     refine k_iconst X12 hx (hb hby at_57) (pc' := 58) rfl (z := (-1 : Int32)) rfl ?_
     refine k_istore X12 hx (hb hby at_58) (Ls' := #[.val (.int i0), .val (.int i1), .val (.int i2), .val (.int i3), .val (.int i4), .val (.int i5), .val (.ref b1), .val (.int (2 : Int32)), .val (.int (4 : Int32)), .val (.int v2252), .val (.int (-1 : Int32)), .unset]) rfl (pc' := 60) rfl ?_
     refine k_goto X12 hx (hb hby at_60) (pc' := 97) (by decide) ?_
     exact key2253 (-1 : Int32)
   intro v2277
   refine k_iload X12 hx (hb hby at_97) rfl (pc' := 99) rfl ?_
   refine k_iconst X12 hx (hb hby at_99) (pc' := 100) rfl (z := (-1 : Int32)) rfl ?_
   refine k_icmp_ne X12 hx (hb hby at_100) (pn := 103) rfl (py := 109) (by decide) (fun hc2279 => ?_) (fun hc2279 => ?_)
   ·
    refine k_aload X12 hx (hb hby at_109) rfl rfl (pc' := 111) rfl ?_
    refine k_iconst X12 hx (hb hby at_111) (pc' := 112) rfl (z := (0 : Int32)) rfl ?_
    refine k_iload X12 hx (hb hby at_112) rfl (pc' := 114) rfl ?_
    refine k_iload X12 hx (hb hby at_114) rfl (pc' := 116) rfl ?_
    refine k_iload X12 hx (hb hby at_116) rfl (pc' := 118) rfl ?_
    refine k_callS X12 hx hZ hown (hw _ (List.mem_of_getElem? (i := 2) rfl)) (hw _ (List.mem_of_getElem? (i := 3) rfl)) (hw _ (List.mem_of_getElem? (i := 4) rfl)) (hw _ (List.mem_of_getElem? (i := 5) rfl)) (by decide) (rm1_113 l Z a0 hw [] b1 (2 : Int32) (4 : Int32) v2277 k1 v2 v5 v8 v11 h12 n0 Z12 Vw12) (by decide) (by decide) e12 (by rw [hml]; rfl) (argsL := [(.ref b1), (.int (0 : Int32)), (.int (2 : Int32)), (.int (4 : Int32)), (.int v2277)]) (rest := []) (lenOf pd_0 rfl) rfl (W := 0) (Nat.le_refl _) rfl (hb hby at_118) (by decide) (by decide) (pc' := 121) rfl (fun T2280 L2280 r2280 X2280 q2280 => ?_)
    obtain ⟨N2280, e2280, q2280⟩ := q2280
    have N2280' := Fr.app N12 N2280
    rcases q2280 with ⟨hc2281, rfl⟩ | ⟨hc2282, hc2283, rfl⟩ | ⟨v2284, h2285, hc2286, hc2287, hc2288, rfl⟩ | ⟨v2289, h2290, hc2291, hc2292, hc2293, rfl⟩
    ·
     show KEnds p e below s _ _ _ T2280 (mkF m 121 #[.val (.int i0), .val (.int i1), .val (.int i2), .val (.int i3), .val (.int i4), .val (.int i5), .val (.ref b1), .val (.int (2 : Int32)), .val (.int (4 : Int32)), .val (.int v2252), .val (.int v2277), .unset] [(.int (0 : Int32))])
     refine k_if_eq X2280 hx (hb hby at_121) (pn := 124) rfl (py := 130) (by decide) (fun _ => ?_) (fun hc => absurd (by decide) hc)
     refine k_aload X2280 hx (hb hby at_130) rfl rfl (pc' := 132) rfl ?_
     refine k_iconst X2280 hx (hb hby at_132) (pc' := 133) rfl (z := (1 : Int32)) rfl ?_
     refine k_iload X2280 hx (hb hby at_133) rfl (pc' := 135) rfl ?_
     refine k_iload X2280 hx (hb hby at_135) rfl (pc' := 137) rfl ?_
     refine k_iload X2280 hx (hb hby at_137) rfl (pc' := 139) rfl ?_
     refine k_callS X2280 hx hZ hown (hw _ (List.mem_of_getElem? (i := 2) rfl)) (hw _ (List.mem_of_getElem? (i := 3) rfl)) (hw _ (List.mem_of_getElem? (i := 4) rfl)) (hw _ (List.mem_of_getElem? (i := 5) rfl)) (by decide) (rm1_132 l Z a0 hw [] b1 (2 : Int32) (4 : Int32) v2277 k1 v2 v5 v8 v11 h12 n0 Z12 Vw12) (by decide) (by decide) e2280 (by rw [hml]; rfl) (argsL := [(.ref b1), (.int (1 : Int32)), (.int (2 : Int32)), (.int (4 : Int32)), (.int v2277)]) (rest := []) (lenOf pd_0 rfl) rfl (W := 0) (Nat.le_refl _) rfl (hb hby at_139) (by decide) (by decide) (pc' := 142) rfl (fun T2294 L2294 r2294 X2294 q2294 => ?_)
     obtain ⟨N2294, e2294, q2294⟩ := q2294
     have N2294' := Fr.app N2280' N2294
     rcases q2294 with ⟨hc2295, rfl⟩ | ⟨hc2296, hc2297, rfl⟩ | ⟨v2298, h2299, hc2300, hc2301, hc2302, rfl⟩ | ⟨v2303, h2304, hc2305, hc2306, hc2307, rfl⟩
     ·
      show KEnds p e below s _ _ _ T2294 (mkF m 142 #[.val (.int i0), .val (.int i1), .val (.int i2), .val (.int i3), .val (.int i4), .val (.int i5), .val (.ref b1), .val (.int (2 : Int32)), .val (.int (4 : Int32)), .val (.int v2252), .val (.int v2277), .unset] [(.int (0 : Int32))])
      refine k_if_eq X2294 hx (hb hby at_142) (pn := 145) rfl (py := 151) (by decide) (fun _ => ?_) (fun hc => absurd (by decide) hc)
      refine k_aload X2294 hx (hb hby at_151) rfl rfl (pc' := 153) rfl ?_
      refine k_iconst X2294 hx (hb hby at_153) (pc' := 154) rfl (z := (2 : Int32)) rfl ?_
      refine k_iload X2294 hx (hb hby at_154) rfl (pc' := 156) rfl ?_
      refine k_iload X2294 hx (hb hby at_156) rfl (pc' := 158) rfl ?_
      refine k_iload X2294 hx (hb hby at_158) rfl (pc' := 160) rfl ?_
      refine k_callS X2294 hx hZ hown (hw _ (List.mem_of_getElem? (i := 2) rfl)) (hw _ (List.mem_of_getElem? (i := 3) rfl)) (hw _ (List.mem_of_getElem? (i := 4) rfl)) (hw _ (List.mem_of_getElem? (i := 5) rfl)) (by decide) (rm1_151 l Z a0 hw [] b1 (2 : Int32) (4 : Int32) v2277 k1 v2 v5 v8 v11 h12 n0 Z12 Vw12) (by decide) (by decide) e2294 (by rw [hml]; rfl) (argsL := [(.ref b1), (.int (2 : Int32)), (.int (2 : Int32)), (.int (4 : Int32)), (.int v2277)]) (rest := []) (lenOf pd_0 rfl) rfl (W := 0) (Nat.le_refl _) rfl (hb hby at_160) (by decide) (by decide) (pc' := 163) rfl (fun T2308 L2308 r2308 X2308 q2308 => ?_)
      obtain ⟨N2308, e2308, q2308⟩ := q2308
      have N2308' := Fr.app N2294' N2308
      rcases q2308 with ⟨hc2309, rfl⟩ | ⟨hc2310, hc2311, rfl⟩ | ⟨v2312, h2313, hc2314, hc2315, hc2316, rfl⟩ | ⟨v2317, h2318, hc2319, hc2320, hc2321, rfl⟩
      ·
       show KEnds p e below s _ _ _ T2308 (mkF m 163 #[.val (.int i0), .val (.int i1), .val (.int i2), .val (.int i3), .val (.int i4), .val (.int i5), .val (.ref b1), .val (.int (2 : Int32)), .val (.int (4 : Int32)), .val (.int v2252), .val (.int v2277), .unset] [(.int (0 : Int32))])
       exact absurd hc2309 (by decide)
      ·
       show KEnds p e below s _ _ _ T2308 (mkF m 163 #[.val (.int i0), .val (.int i1), .val (.int i2), .val (.int i3), .val (.int i4), .val (.int i5), .val (.ref b1), .val (.int (2 : Int32)), .val (.int (4 : Int32)), .val (.int v2252), .val (.int v2277), .unset] [(.int (0 : Int32))])
       exact absurd (by decide) hc2311
      ·
       show KEnds p e below s _ _ _ T2308 (mkF m 163 #[.val (.int i0), .val (.int i1), .val (.int i2), .val (.int i3), .val (.int i4), .val (.int i5), .val (.ref b1), .val (.int (2 : Int32)), .val (.int (4 : Int32)), .val (.int v2252), .val (.int v2277), .unset] [(.int (0 : Int32))])
       refine k_if_eq X2308 hx (hb hby at_163) (pn := 166) rfl (py := 172) (by decide) (fun _ => ?_) (fun hc => absurd (by decide) hc)
       refine k_aload X2308 hx (hb hby at_172) rfl rfl (pc' := 174) rfl ?_
       refine k_iconst X2308 hx (hb hby at_174) (pc' := 175) rfl (z := (3 : Int32)) rfl ?_
       refine k_iload X2308 hx (hb hby at_175) rfl (pc' := 177) rfl ?_
       refine k_iload X2308 hx (hb hby at_177) rfl (pc' := 179) rfl ?_
       refine k_iload X2308 hx (hb hby at_179) rfl (pc' := 181) rfl ?_
       refine k_callS X2308 hx hZ hown (hw _ (List.mem_of_getElem? (i := 2) rfl)) (hw _ (List.mem_of_getElem? (i := 3) rfl)) (hw _ (List.mem_of_getElem? (i := 4) rfl)) (hw _ (List.mem_of_getElem? (i := 5) rfl)) (by decide) (rm1_170 l Z a0 hw [] b1 (2 : Int32) (4 : Int32) v2277 k1 v2 v5 v8 v11 h12 n0 Z12 Vw12) (by decide) (by decide) e2308 (by rw [hml]; rfl) (argsL := [(.ref b1), (.int (3 : Int32)), (.int (2 : Int32)), (.int (4 : Int32)), (.int v2277)]) (rest := []) (lenOf pd_0 rfl) rfl (W := 0) (Nat.le_refl _) rfl (hb hby at_181) (by decide) (by decide) (pc' := 184) rfl (fun T2322 L2322 r2322 X2322 q2322 => ?_)
       obtain ⟨N2322, e2322, q2322⟩ := q2322
       have N2322' := Fr.app N2308' N2322
       rcases q2322 with ⟨hc2323, rfl⟩ | ⟨hc2324, hc2325, rfl⟩ | ⟨v2326, h2327, hc2328, hc2329, hc2330, rfl⟩ | ⟨v2331, h2332, hc2333, hc2334, hc2335, rfl⟩
       ·
        show KEnds p e below s _ _ _ T2322 (mkF m 184 #[.val (.int i0), .val (.int i1), .val (.int i2), .val (.int i3), .val (.int i4), .val (.int i5), .val (.ref b1), .val (.int (2 : Int32)), .val (.int (4 : Int32)), .val (.int v2252), .val (.int v2277), .unset] [(.int (0 : Int32))])
        exact absurd hc2323 (by decide)
       ·
        show KEnds p e below s _ _ _ T2322 (mkF m 184 #[.val (.int i0), .val (.int i1), .val (.int i2), .val (.int i3), .val (.int i4), .val (.int i5), .val (.ref b1), .val (.int (2 : Int32)), .val (.int (4 : Int32)), .val (.int v2252), .val (.int v2277), .unset] [(.int (0 : Int32))])
        exact absurd (by decide) hc2325
       ·
        show KEnds p e below s _ _ _ T2322 (mkF m 184 #[.val (.int i0), .val (.int i1), .val (.int i2), .val (.int i3), .val (.int i4), .val (.int i5), .val (.ref b1), .val (.int (2 : Int32)), .val (.int (4 : Int32)), .val (.int v2252), .val (.int v2277), .unset] [(.int (0 : Int32))])
        refine k_if_eq X2322 hx (hb hby at_184) (pn := 187) rfl (py := 193) (by decide) (fun _ => ?_) (fun hc => absurd (by decide) hc)
        refine k_iconst X2322 hx (hb hby at_193) (pc' := 194) rfl (z := (-1 : Int32)) rfl ?_
        refine k_istore X2322 hx (hb hby at_194) (Ls' := #[.val (.int i0), .val (.int i1), .val (.int i2), .val (.int i3), .val (.int i4), .val (.int i5), .val (.ref b1), .val (.int (2 : Int32)), .val (.int (4 : Int32)), .val (.int v2252), .val (.int v2277), .val (.int (-1 : Int32))]) rfl (pc' := 196) rfl ?_
        refine k_aload X2322 hx (hb hby at_196) rfl rfl (pc' := 198) rfl ?_
        refine k_iload X2322 hx (hb hby at_198) rfl (pc' := 200) rfl ?_
        refine k_iload X2322 hx (hb hby at_200) rfl (pc' := 202) rfl ?_
        refine k_iload X2322 hx (hb hby at_202) rfl (pc' := 204) rfl ?_
        refine k_callS X2322 hx hZ hown (hw _ (List.mem_of_getElem? (i := 6) rfl)) (hw _ (List.mem_of_getElem? (i := 7) rfl)) (hw _ (List.mem_of_getElem? (i := 8) rfl)) (hw _ (List.mem_of_getElem? (i := 9) rfl)) (by decide) (rm2_2336 l Z a0 hw [] b1 v2277 k1 v2 v5 v8 v11 h12 n0 Z12 Vw12) (by decide) (by decide) e2322 (by rw [hml]; rfl) (argsL := [(.ref b1), (.int (2 : Int32)), (.int (4 : Int32)), (.int v2277)]) (rest := []) (lenOf pd_1 rfl) rfl (W := 0) (Nat.le_refl _) rfl (hb hby at_204) (by decide) (by decide) (pc' := 207) rfl (fun T2342 L2342 r2342 X2342 q2342 => ?_)
        obtain ⟨N2342, e2342, q2342⟩ := q2342
        have N2342' := Fr.app N2322' N2342
        rcases q2342 with ⟨v2343, v2344, h2345, h2346, hc2347, hc2348, hc2349, rfl⟩ | ⟨v2350, v2351, h2352, h2353, hc2354, hc2355, hc2356, rfl⟩ | ⟨v2357, h2358, hc2359, hc2360, rfl⟩ | ⟨hc2361, rfl⟩
        ·
         have hh2362 : v2312 = v2343 := h2313.trans h2345.symm
         subst hh2362
         have hh2363 : v2326 = v2344 := h2327.trans h2346.symm
         subst hh2363
         show KEnds p e below s _ _ _ T2342 (mkF m 207 #[.val (.int i0), .val (.int i1), .val (.int i2), .val (.int i3), .val (.int i4), .val (.int i5), .val (.ref b1), .val (.int (2 : Int32)), .val (.int (4 : Int32)), .val (.int v2252), .val (.int v2277), .val (.int (-1 : Int32))] [(.int (-1 : Int32))])
         refine k_iload X2342 hx (hb hby at_207) rfl (pc' := 209) rfl ?_
         refine k_icmp_ne X2342 hx (hb hby at_209) (pn := 212) rfl (py := 216) (by decide) (fun hc => absurd (by decide) hc) (fun _ => ?_)
         refine k_iconst X2342 hx (hb hby at_212) (pc' := 213) rfl (z := (1 : Int32)) rfl ?_
         refine k_goto X2342 hx (hb hby at_213) (pc' := 217) (by decide) ?_
         exact k_retN X2342 hx (t := .boolean) Bd.returns (by simp) (hb hby at_217) hlk (by decide) (by decide) (z' := (1 : Int32)) rfl ⟨rfl, N2342'⟩
        ·
         have hh2364 : v2312 = v2350 := h2313.trans h2352.symm
         subst hh2364
         have hh2365 : v2326 = v2351 := h2327.trans h2353.symm
         subst hh2365
         show KEnds p e below s _ _ _ T2342 (mkF m 207 #[.val (.int i0), .val (.int i1), .val (.int i2), .val (.int i3), .val (.int i4), .val (.int i5), .val (.ref b1), .val (.int (2 : Int32)), .val (.int (4 : Int32)), .val (.int v2252), .val (.int v2277), .val (.int (-1 : Int32))] [(.int (3 : Int32))])
         exact absurd hc2356 hc2330
        ·
         have hh2366 : v2312 = v2357 := h2313.trans h2358.symm
         subst hh2366
         show KEnds p e below s _ _ _ T2342 (mkF m 207 #[.val (.int i0), .val (.int i1), .val (.int i2), .val (.int i3), .val (.int i4), .val (.int i5), .val (.ref b1), .val (.int (2 : Int32)), .val (.int (4 : Int32)), .val (.int v2252), .val (.int v2277), .val (.int (-1 : Int32))] [(.int (2 : Int32))])
         exact absurd hc2360 hc2316
        ·
         show KEnds p e below s _ _ _ T2342 (mkF m 207 #[.val (.int i0), .val (.int i1), .val (.int i2), .val (.int i3), .val (.int i4), .val (.int i5), .val (.ref b1), .val (.int (2 : Int32)), .val (.int (4 : Int32)), .val (.int v2252), .val (.int v2277), .val (.int (-1 : Int32))] [(.int (-1 : Int32))])
         exact absurd hc2361 hc2279
       ·
        show KEnds p e below s _ _ _ T2322 (mkF m 184 #[.val (.int i0), .val (.int i1), .val (.int i2), .val (.int i3), .val (.int i4), .val (.int i5), .val (.ref b1), .val (.int (2 : Int32)), .val (.int (4 : Int32)), .val (.int v2252), .val (.int v2277), .unset] [(.int (1 : Int32))])
        refine k_if_eq X2322 hx (hb hby at_184) (pn := 187) rfl (py := 193) (by decide) (fun hc => absurd hc (by decide)) (fun _ => ?_)
        refine k_iconst X2322 hx (hb hby at_187) (pc' := 188) rfl (z := (3 : Int32)) rfl ?_
        refine k_istore X2322 hx (hb hby at_188) (Ls' := #[.val (.int i0), .val (.int i1), .val (.int i2), .val (.int i3), .val (.int i4), .val (.int i5), .val (.ref b1), .val (.int (2 : Int32)), .val (.int (4 : Int32)), .val (.int v2252), .val (.int v2277), .val (.int (3 : Int32))]) rfl (pc' := 190) rfl ?_
        refine k_goto X2322 hx (hb hby at_190) (pc' := 196) (by decide) ?_
        refine k_aload X2322 hx (hb hby at_196) rfl rfl (pc' := 198) rfl ?_
        refine k_iload X2322 hx (hb hby at_198) rfl (pc' := 200) rfl ?_
        refine k_iload X2322 hx (hb hby at_200) rfl (pc' := 202) rfl ?_
        refine k_iload X2322 hx (hb hby at_202) rfl (pc' := 204) rfl ?_
        refine k_callS X2322 hx hZ hown (hw _ (List.mem_of_getElem? (i := 6) rfl)) (hw _ (List.mem_of_getElem? (i := 7) rfl)) (hw _ (List.mem_of_getElem? (i := 8) rfl)) (hw _ (List.mem_of_getElem? (i := 9) rfl)) (by decide) (rm2_2336 l Z a0 hw [] b1 v2277 k1 v2 v5 v8 v11 h12 n0 Z12 Vw12) (by decide) (by decide) e2322 (by rw [hml]; rfl) (argsL := [(.ref b1), (.int (2 : Int32)), (.int (4 : Int32)), (.int v2277)]) (rest := []) (lenOf pd_1 rfl) rfl (W := 0) (Nat.le_refl _) rfl (hb hby at_204) (by decide) (by decide) (pc' := 207) rfl (fun T2367 L2367 r2367 X2367 q2367 => ?_)
        obtain ⟨N2367, e2367, q2367⟩ := q2367
        have N2367' := Fr.app N2322' N2367
        rcases q2367 with ⟨v2368, v2369, h2370, h2371, hc2372, hc2373, hc2374, rfl⟩ | ⟨v2375, v2376, h2377, h2378, hc2379, hc2380, hc2381, rfl⟩ | ⟨v2382, h2383, hc2384, hc2385, rfl⟩ | ⟨hc2386, rfl⟩
        ·
         have hh2387 : v2312 = v2368 := h2313.trans h2370.symm
         subst hh2387
         have hh2388 : v2331 = v2369 := h2332.trans h2371.symm
         subst hh2388
         show KEnds p e below s _ _ _ T2367 (mkF m 207 #[.val (.int i0), .val (.int i1), .val (.int i2), .val (.int i3), .val (.int i4), .val (.int i5), .val (.ref b1), .val (.int (2 : Int32)), .val (.int (4 : Int32)), .val (.int v2252), .val (.int v2277), .val (.int (3 : Int32))] [(.int (-1 : Int32))])
         exact absurd hc2335 hc2374
        ·
         have hh2389 : v2312 = v2375 := h2313.trans h2377.symm
         subst hh2389
         have hh2390 : v2331 = v2376 := h2332.trans h2378.symm
         subst hh2390
         show KEnds p e below s _ _ _ T2367 (mkF m 207 #[.val (.int i0), .val (.int i1), .val (.int i2), .val (.int i3), .val (.int i4), .val (.int i5), .val (.ref b1), .val (.int (2 : Int32)), .val (.int (4 : Int32)), .val (.int v2252), .val (.int v2277), .val (.int (3 : Int32))] [(.int (3 : Int32))])
         refine k_iload X2367 hx (hb hby at_207) rfl (pc' := 209) rfl ?_
         refine k_icmp_ne X2367 hx (hb hby at_209) (pn := 212) rfl (py := 216) (by decide) (fun hc => absurd (by decide) hc) (fun _ => ?_)
         refine k_iconst X2367 hx (hb hby at_212) (pc' := 213) rfl (z := (1 : Int32)) rfl ?_
         refine k_goto X2367 hx (hb hby at_213) (pc' := 217) (by decide) ?_
         exact k_retN X2367 hx (t := .boolean) Bd.returns (by simp) (hb hby at_217) hlk (by decide) (by decide) (z' := (1 : Int32)) rfl ⟨rfl, N2367'⟩
        ·
         have hh2391 : v2312 = v2382 := h2313.trans h2383.symm
         subst hh2391
         show KEnds p e below s _ _ _ T2367 (mkF m 207 #[.val (.int i0), .val (.int i1), .val (.int i2), .val (.int i3), .val (.int i4), .val (.int i5), .val (.ref b1), .val (.int (2 : Int32)), .val (.int (4 : Int32)), .val (.int v2252), .val (.int v2277), .val (.int (3 : Int32))] [(.int (2 : Int32))])
         exact absurd hc2385 hc2316
        ·
         show KEnds p e below s _ _ _ T2367 (mkF m 207 #[.val (.int i0), .val (.int i1), .val (.int i2), .val (.int i3), .val (.int i4), .val (.int i5), .val (.ref b1), .val (.int (2 : Int32)), .val (.int (4 : Int32)), .val (.int v2252), .val (.int v2277), .val (.int (3 : Int32))] [(.int (-1 : Int32))])
         exact absurd hc2386 hc2279
      ·
       show KEnds p e below s _ _ _ T2308 (mkF m 163 #[.val (.int i0), .val (.int i1), .val (.int i2), .val (.int i3), .val (.int i4), .val (.int i5), .val (.ref b1), .val (.int (2 : Int32)), .val (.int (4 : Int32)), .val (.int v2252), .val (.int v2277), .unset] [(.int (1 : Int32))])
       refine k_if_eq X2308 hx (hb hby at_163) (pn := 166) rfl (py := 172) (by decide) (fun hc => absurd hc (by decide)) (fun _ => ?_)
       refine k_iconst X2308 hx (hb hby at_166) (pc' := 167) rfl (z := (2 : Int32)) rfl ?_
       refine k_istore X2308 hx (hb hby at_167) (Ls' := #[.val (.int i0), .val (.int i1), .val (.int i2), .val (.int i3), .val (.int i4), .val (.int i5), .val (.ref b1), .val (.int (2 : Int32)), .val (.int (4 : Int32)), .val (.int v2252), .val (.int v2277), .val (.int (2 : Int32))]) rfl (pc' := 169) rfl ?_
       refine k_goto X2308 hx (hb hby at_169) (pc' := 196) (by decide) ?_
       refine k_aload X2308 hx (hb hby at_196) rfl rfl (pc' := 198) rfl ?_
       refine k_iload X2308 hx (hb hby at_198) rfl (pc' := 200) rfl ?_
       refine k_iload X2308 hx (hb hby at_200) rfl (pc' := 202) rfl ?_
       refine k_iload X2308 hx (hb hby at_202) rfl (pc' := 204) rfl ?_
       refine k_callS X2308 hx hZ hown (hw _ (List.mem_of_getElem? (i := 6) rfl)) (hw _ (List.mem_of_getElem? (i := 7) rfl)) (hw _ (List.mem_of_getElem? (i := 8) rfl)) (hw _ (List.mem_of_getElem? (i := 9) rfl)) (by decide) (rm2_2336 l Z a0 hw [] b1 v2277 k1 v2 v5 v8 v11 h12 n0 Z12 Vw12) (by decide) (by decide) e2308 (by rw [hml]; rfl) (argsL := [(.ref b1), (.int (2 : Int32)), (.int (4 : Int32)), (.int v2277)]) (rest := []) (lenOf pd_1 rfl) rfl (W := 0) (Nat.le_refl _) rfl (hb hby at_204) (by decide) (by decide) (pc' := 207) rfl (fun T2392 L2392 r2392 X2392 q2392 => ?_)
       obtain ⟨N2392, e2392, q2392⟩ := q2392
       have N2392' := Fr.app N2308' N2392
       rcases q2392 with ⟨v2393, v2394, h2395, h2396, hc2397, hc2398, hc2399, rfl⟩ | ⟨v2400, v2401, h2402, h2403, hc2404, hc2405, hc2406, rfl⟩ | ⟨v2407, h2408, hc2409, hc2410, rfl⟩ | ⟨hc2411, rfl⟩
       ·
        have hh2412 : v2317 = v2393 := h2318.trans h2395.symm
        subst hh2412
        show KEnds p e below s _ _ _ T2392 (mkF m 207 #[.val (.int i0), .val (.int i1), .val (.int i2), .val (.int i3), .val (.int i4), .val (.int i5), .val (.ref b1), .val (.int (2 : Int32)), .val (.int (4 : Int32)), .val (.int v2252), .val (.int v2277), .val (.int (2 : Int32))] [(.int (-1 : Int32))])
        exact absurd hc2321 hc2398
       ·
        have hh2413 : v2317 = v2400 := h2318.trans h2402.symm
        subst hh2413
        show KEnds p e below s _ _ _ T2392 (mkF m 207 #[.val (.int i0), .val (.int i1), .val (.int i2), .val (.int i3), .val (.int i4), .val (.int i5), .val (.ref b1), .val (.int (2 : Int32)), .val (.int (4 : Int32)), .val (.int v2252), .val (.int v2277), .val (.int (2 : Int32))] [(.int (3 : Int32))])
        exact absurd hc2321 hc2405
       ·
        have hh2414 : v2317 = v2407 := h2318.trans h2408.symm
        subst hh2414
        show KEnds p e below s _ _ _ T2392 (mkF m 207 #[.val (.int i0), .val (.int i1), .val (.int i2), .val (.int i3), .val (.int i4), .val (.int i5), .val (.ref b1), .val (.int (2 : Int32)), .val (.int (4 : Int32)), .val (.int v2252), .val (.int v2277), .val (.int (2 : Int32))] [(.int (2 : Int32))])
        refine k_iload X2392 hx (hb hby at_207) rfl (pc' := 209) rfl ?_
        refine k_icmp_ne X2392 hx (hb hby at_209) (pn := 212) rfl (py := 216) (by decide) (fun hc => absurd (by decide) hc) (fun _ => ?_)
        refine k_iconst X2392 hx (hb hby at_212) (pc' := 213) rfl (z := (1 : Int32)) rfl ?_
        refine k_goto X2392 hx (hb hby at_213) (pc' := 217) (by decide) ?_
        exact k_retN X2392 hx (t := .boolean) Bd.returns (by simp) (hb hby at_217) hlk (by decide) (by decide) (z' := (1 : Int32)) rfl ⟨rfl, N2392'⟩
       ·
        show KEnds p e below s _ _ _ T2392 (mkF m 207 #[.val (.int i0), .val (.int i1), .val (.int i2), .val (.int i3), .val (.int i4), .val (.int i5), .val (.ref b1), .val (.int (2 : Int32)), .val (.int (4 : Int32)), .val (.int v2252), .val (.int v2277), .val (.int (2 : Int32))] [(.int (-1 : Int32))])
        exact absurd hc2411 hc2279
     ·
      show KEnds p e below s _ _ _ T2294 (mkF m 142 #[.val (.int i0), .val (.int i1), .val (.int i2), .val (.int i3), .val (.int i4), .val (.int i5), .val (.ref b1), .val (.int (2 : Int32)), .val (.int (4 : Int32)), .val (.int v2252), .val (.int v2277), .unset] [(.int (0 : Int32))])
      exact absurd (by decide) hc2296
     ·
      show KEnds p e below s _ _ _ T2294 (mkF m 142 #[.val (.int i0), .val (.int i1), .val (.int i2), .val (.int i3), .val (.int i4), .val (.int i5), .val (.ref b1), .val (.int (2 : Int32)), .val (.int (4 : Int32)), .val (.int v2252), .val (.int v2277), .unset] [(.int (0 : Int32))])
      exact absurd (by decide) hc2300
     ·
      show KEnds p e below s _ _ _ T2294 (mkF m 142 #[.val (.int i0), .val (.int i1), .val (.int i2), .val (.int i3), .val (.int i4), .val (.int i5), .val (.ref b1), .val (.int (2 : Int32)), .val (.int (4 : Int32)), .val (.int v2252), .val (.int v2277), .unset] [(.int (1 : Int32))])
      exact absurd (by decide) hc2305
    ·
     show KEnds p e below s _ _ _ T2280 (mkF m 121 #[.val (.int i0), .val (.int i1), .val (.int i2), .val (.int i3), .val (.int i4), .val (.int i5), .val (.ref b1), .val (.int (2 : Int32)), .val (.int (4 : Int32)), .val (.int v2252), .val (.int v2277), .unset] [(.int (0 : Int32))])
     exact absurd (by decide) hc2282
    ·
     show KEnds p e below s _ _ _ T2280 (mkF m 121 #[.val (.int i0), .val (.int i1), .val (.int i2), .val (.int i3), .val (.int i4), .val (.int i5), .val (.ref b1), .val (.int (2 : Int32)), .val (.int (4 : Int32)), .val (.int v2252), .val (.int v2277), .unset] [(.int (0 : Int32))])
     exact absurd (by decide) hc2286
    ·
     show KEnds p e below s _ _ _ T2280 (mkF m 121 #[.val (.int i0), .val (.int i1), .val (.int i2), .val (.int i3), .val (.int i4), .val (.int i5), .val (.ref b1), .val (.int (2 : Int32)), .val (.int (4 : Int32)), .val (.int v2252), .val (.int v2277), .unset] [(.int (1 : Int32))])
     exact absurd (by decide) hc2291
   ·
    refine k_iconst X12 hx (hb hby at_103) (pc' := 104) rfl (z := (-1 : Int32)) rfl ?_
    refine k_istore X12 hx (hb hby at_104) (Ls' := #[.val (.int i0), .val (.int i1), .val (.int i2), .val (.int i3), .val (.int i4), .val (.int i5), .val (.ref b1), .val (.int (2 : Int32)), .val (.int (4 : Int32)), .val (.int v2252), .val (.int v2277), .val (.int (-1 : Int32))]) rfl (pc' := 106) rfl ?_
    refine k_goto X12 hx (hb hby at_106) (pc' := 196) (by decide) ?_
    refine k_aload X12 hx (hb hby at_196) rfl rfl (pc' := 198) rfl ?_
    refine k_iload X12 hx (hb hby at_198) rfl (pc' := 200) rfl ?_
    refine k_iload X12 hx (hb hby at_200) rfl (pc' := 202) rfl ?_
    refine k_iload X12 hx (hb hby at_202) rfl (pc' := 204) rfl ?_
    refine k_callS X12 hx hZ hown (hw _ (List.mem_of_getElem? (i := 6) rfl)) (hw _ (List.mem_of_getElem? (i := 7) rfl)) (hw _ (List.mem_of_getElem? (i := 8) rfl)) (hw _ (List.mem_of_getElem? (i := 9) rfl)) (by decide) (rm2_2336 l Z a0 hw [] b1 v2277 k1 v2 v5 v8 v11 h12 n0 Z12 Vw12) (by decide) (by decide) e12 (by rw [hml]; rfl) (argsL := [(.ref b1), (.int (2 : Int32)), (.int (4 : Int32)), (.int v2277)]) (rest := []) (lenOf pd_1 rfl) rfl (W := 0) (Nat.le_refl _) rfl (hb hby at_204) (by decide) (by decide) (pc' := 207) rfl (fun T2415 L2415 r2415 X2415 q2415 => ?_)
    obtain ⟨N2415, e2415, q2415⟩ := q2415
    have N2415' := Fr.app N12 N2415
    rcases q2415 with ⟨v2416, v2417, h2418, h2419, hc2420, hc2421, hc2422, rfl⟩ | ⟨v2423, v2424, h2425, h2426, hc2427, hc2428, hc2429, rfl⟩ | ⟨v2430, h2431, hc2432, hc2433, rfl⟩ | ⟨hc2434, rfl⟩
    ·
     show KEnds p e below s _ _ _ T2415 (mkF m 207 #[.val (.int i0), .val (.int i1), .val (.int i2), .val (.int i3), .val (.int i4), .val (.int i5), .val (.ref b1), .val (.int (2 : Int32)), .val (.int (4 : Int32)), .val (.int v2252), .val (.int v2277), .val (.int (-1 : Int32))] [(.int (-1 : Int32))])
     exact absurd hc2279 hc2420
    ·
     show KEnds p e below s _ _ _ T2415 (mkF m 207 #[.val (.int i0), .val (.int i1), .val (.int i2), .val (.int i3), .val (.int i4), .val (.int i5), .val (.ref b1), .val (.int (2 : Int32)), .val (.int (4 : Int32)), .val (.int v2252), .val (.int v2277), .val (.int (-1 : Int32))] [(.int (3 : Int32))])
     exact absurd hc2279 hc2427
    ·
     show KEnds p e below s _ _ _ T2415 (mkF m 207 #[.val (.int i0), .val (.int i1), .val (.int i2), .val (.int i3), .val (.int i4), .val (.int i5), .val (.ref b1), .val (.int (2 : Int32)), .val (.int (4 : Int32)), .val (.int v2252), .val (.int v2277), .val (.int (-1 : Int32))] [(.int (2 : Int32))])
     exact absurd hc2279 hc2432
    ·
     show KEnds p e below s _ _ _ T2415 (mkF m 207 #[.val (.int i0), .val (.int i1), .val (.int i2), .val (.int i3), .val (.int i4), .val (.int i5), .val (.ref b1), .val (.int (2 : Int32)), .val (.int (4 : Int32)), .val (.int v2252), .val (.int v2277), .val (.int (-1 : Int32))] [(.int (-1 : Int32))])
     refine k_iload X2415 hx (hb hby at_207) rfl (pc' := 209) rfl ?_
     refine k_icmp_ne X2415 hx (hb hby at_209) (pn := 212) rfl (py := 216) (by decide) (fun hc => absurd (by decide) hc) (fun _ => ?_)
     refine k_iconst X2415 hx (hb hby at_212) (pc' := 213) rfl (z := (1 : Int32)) rfl ?_
     refine k_goto X2415 hx (hb hby at_213) (pc' := 217) (by decide) ?_
     exact k_retN X2415 hx (t := .boolean) Bd.returns (by simp) (hb hby at_217) hlk (by decide) (by decide) (z' := (1 : Int32)) rfl ⟨rfl, N2415'⟩
 ·
  show KEnds p e below s _ _ _ T12 (mkF m 32 #[.val (.int i0), .val (.int i1), .val (.int i2), .val (.int i3), .val (.int i4), .val (.int i5), .val (.ref b1), .unset, .unset, .unset, .unset, .unset] [(.int (3 : Int32))])
  refine k_istore X12 hx (hb hby at_32) (Ls' := #[.val (.int i0), .val (.int i1), .val (.int i2), .val (.int i3), .val (.int i4), .val (.int i5), .val (.ref b1), .val (.int (3 : Int32)), .unset, .unset, .unset, .unset]) rfl (pc' := 34) rfl ?_
  refine k_iload X12 hx (hb hby at_34) rfl (pc' := 36) rfl ?_
  refine k_bipush X12 hx (hb hby at_36) (pc' := 38) rfl (z := (8 : Int32)) rfl ?_
  refine k_iushr X12 hx (hb hby at_38) (pc' := 39) rfl (fun v2436 hv2436 => ?_)
  refine k_ldc X12 hx hZ hown (hw _ (List.mem_of_getElem? (i := 1) rfl)) (hb hby at_39) (pc' := 41) rfl ?_
  refine k_iand X12 hx (hb hby at_41) (pc' := 42) rfl (fun v2437 hv2437 => ?_)
  refine k_iconst X12 hx (hb hby at_42) (pc' := 43) rfl (z := (5 : Int32)) rfl ?_
  refine k_irem X12 hx (hb hby at_43) (by decide) (pc' := 44) rfl (fun v2438 hv2438 => ?_)
  have hs2439 : v2438 = (0 : Int32) ∨ v2438 = (1 : Int32) ∨ v2438 = (2 : Int32) ∨ v2438 = (3 : Int32) ∨ v2438 = (4 : Int32) := by
   have := rng32 v2438
   have := rng32 v2437
   have := rng32 v2436
   have := rng32 i4
   have : (8 : Int32).toInt = 8 := (by decide)
   have q2440 : v2436.toInt = (i4.toInt % 4294967296) / 256 := (by rw [hv2436]; exact c_iushr _ _ 8 (by decide) (by decide))
   have : (2147483647 : Int32).toInt = 2147483647 := (by decide)
   have q2441 : v2437.toInt = v2436.toInt % 2147483648 := (by rw [hv2437]; exact c_mask _ _ 31 (by decide) (by decide))
   have : (5 : Int32).toInt = 5 := (by decide)
   have q2442 : (0 ≤ v2437.toInt → v2438.toInt = v2437.toInt % 5) ∧ (v2437.toInt < 0 → v2438.toInt = -((-v2437.toInt) % 5)) := (by rw [hv2438]; exact c_irem _ _ 5 (by decide))
   rcases (by omega : v2438.toInt = 0 ∨ v2438.toInt = 1 ∨ v2438.toInt = 2 ∨ v2438.toInt = 3 ∨ v2438.toInt = 4) with hq | hq | hq | hq | hq
   · exact Or.inl (Int32.toInt_inj.mp hq)
   · exact Or.inr (Or.inl (Int32.toInt_inj.mp hq))
   · exact Or.inr (Or.inr (Or.inl (Int32.toInt_inj.mp hq)))
   · exact Or.inr (Or.inr (Or.inr (Or.inl (Int32.toInt_inj.mp hq))))
   · exact Or.inr (Or.inr (Or.inr (Or.inr ((Int32.toInt_inj.mp hq)))))
  rcases hs2439 with rfl | rfl | rfl | rfl | rfl
  ·
   show KEnds p e below s _ _ _ T12 (mkF m 44 #[.val (.int i0), .val (.int i1), .val (.int i2), .val (.int i3), .val (.int i4), .val (.int i5), .val (.ref b1), .val (.int (3 : Int32)), .unset, .unset, .unset, .unset] [(.int (0 : Int32))])
   refine k_istore X12 hx (hb hby at_44) (Ls' := #[.val (.int i0), .val (.int i1), .val (.int i2), .val (.int i3), .val (.int i4), .val (.int i5), .val (.ref b1), .val (.int (3 : Int32)), .val (.int (0 : Int32)), .unset, .unset, .unset]) rfl (pc' := 46) rfl ?_
   refine k_iload X12 hx (hb hby at_46) rfl (pc' := 48) rfl ?_
   refine k_iconst X12 hx (hb hby at_48) (pc' := 49) rfl (z := (3 : Int32)) rfl ?_
   refine k_iand X12 hx (hb hby at_49) (pc' := 50) rfl (fun v2444 hv2444 => ?_)
   refine k_istore X12 hx (hb hby at_50) (Ls' := #[.val (.int i0), .val (.int i1), .val (.int i2), .val (.int i3), .val (.int i4), .val (.int i5), .val (.ref b1), .val (.int (3 : Int32)), .val (.int (0 : Int32)), .val (.int v2444), .unset, .unset]) rfl (pc' := 52) rfl ?_
   suffices key2445 : ∀ (v2469 : Int32), KEnds p e below s 16 128 (Q0 n0) T12 (mkF m 97 #[.val (.int i0), .val (.int i1), .val (.int i2), .val (.int i3), .val (.int i4), .val (.int i5), .val (.ref b1), .val (.int (3 : Int32)), .val (.int (0 : Int32)), .val (.int v2444), .val (.int v2469), .unset] []) by
    refine k_iload X12 hx (hb hby at_52) rfl (pc' := 54) rfl ?_
    refine k_if_ne X12 hx (hb hby at_54) (pn := 57) rfl (py := 63) (by decide) (fun hc2446 => ?_) (fun hc2446 => ?_)
    ·
     refine k_iload X12 hx (hb hby at_63) rfl (pc' := 65) rfl ?_
     refine k_iconst X12 hx (hb hby at_65) (pc' := 66) rfl (z := (1 : Int32)) rfl ?_
     refine k_icmp_ne X12 hx (hb hby at_66) (pn := 69) rfl (py := 87) (by decide) (fun hc2447 => ?_) (fun hc2447 => ?_)
     ·
      refine k_iload X12 hx (hb hby at_87) rfl (pc' := 89) rfl ?_
      refine k_iconst X12 hx (hb hby at_89) (pc' := 90) rfl (z := (2 : Int32)) rfl ?_
      refine k_iushr X12 hx (hb hby at_90) (pc' := 91) rfl (fun v2448 hv2448 => ?_)
      refine k_sipush X12 hx (hb hby at_91) (pc' := 94) rfl (z := (255 : Int32)) rfl ?_
      refine k_iand X12 hx (hb hby at_94) (pc' := 95) rfl (fun v2449 hv2449 => ?_)
      refine k_istore X12 hx (hb hby at_95) (Ls' := #[.val (.int i0), .val (.int i1), .val (.int i2), .val (.int i3), .val (.int i4), .val (.int i5), .val (.ref b1), .val (.int (3 : Int32)), .val (.int (0 : Int32)), .val (.int v2444), .val (.int v2449), .unset]) rfl (pc' := 97) rfl ?_
      exact key2445 v2449
     ·
      refine k_aload X12 hx (hb hby at_69) rfl rfl (pc' := 71) rfl ?_
      refine k_iload X12 hx (hb hby at_71) rfl (pc' := 73) rfl ?_
      refine k_iconst X12 hx (hb hby at_73) (pc' := 74) rfl (z := (2 : Int32)) rfl ?_
      refine k_iushr X12 hx (hb hby at_74) (pc' := 75) rfl (fun v2450 hv2450 => ?_)
      refine k_iconst X12 hx (hb hby at_75) (pc' := 76) rfl (z := (3 : Int32)) rfl ?_
      refine k_iand X12 hx (hb hby at_76) (pc' := 77) rfl (fun v2451 hv2451 => ?_)
      have hj2452 : ¬ v2451 < 0 ∧ v2451 < (4 : Int32) := by
       refine ⟨?_, ?_⟩
       ·
        intro hq2453
        have := rng32 v2444
        have := rng32 i5
        have : (3 : Int32).toInt = 3 := (by decide)
        have q2454 : v2444.toInt = i5.toInt % 4 := (by rw [hv2444]; exact c_mask _ _ 2 (by decide) (by decide))
        have : (0 : Int32).toInt = 0 := (by decide)
        have q2455 : ¬ v2444.toInt = (0 : Int32).toInt := fun q => hc2446 (Int32.toInt_inj.mp q)
        have : (1 : Int32).toInt = 1 := (by decide)
        have q2456 := congrArg Int32.toInt hc2447
        have := rng32 v2451
        have := rng32 v2450
        have : (2 : Int32).toInt = 2 := (by decide)
        have q2457 : v2450.toInt = (i5.toInt % 4294967296) / 4 := (by rw [hv2450]; exact c_iushr _ _ 2 (by decide) (by decide))
        have q2458 : v2451.toInt = v2450.toInt % 4 := (by rw [hv2451]; exact c_mask _ _ 2 (by decide) (by decide))
        have q2459 := hq2453; rw [Int32.lt_iff_toInt_lt] at q2459
        omega
       ·
        refine Classical.byContradiction (fun hq2460 => ?_)
        have := rng32 v2444
        have := rng32 i5
        have : (3 : Int32).toInt = 3 := (by decide)
        have q2461 : v2444.toInt = i5.toInt % 4 := (by rw [hv2444]; exact c_mask _ _ 2 (by decide) (by decide))
        have : (0 : Int32).toInt = 0 := (by decide)
        have q2462 : ¬ v2444.toInt = (0 : Int32).toInt := fun q => hc2446 (Int32.toInt_inj.mp q)
        have : (1 : Int32).toInt = 1 := (by decide)
        have q2463 := congrArg Int32.toInt hc2447
        have := rng32 v2451
        have := rng32 v2450
        have : (2 : Int32).toInt = 2 := (by decide)
        have q2464 : v2450.toInt = (i5.toInt % 4294967296) / 4 := (by rw [hv2450]; exact c_iushr _ _ 2 (by decide) (by decide))
        have q2465 : v2451.toInt = v2450.toInt % 4 := (by rw [hv2451]; exact c_mask _ _ 2 (by decide) (by decide))
        have : (4 : Int32).toInt = 4 := (by decide)
        have q2466 := hq2460; rw [Int32.lt_iff_toInt_lt] at q2466
        omega
      refine k_baloadS X12 hx hZ e12 Vw12 hj2452 (hb hby at_77) (pc' := 78) rfl (fun v2467 hv2467 => ?_)
      refine k_sipush X12 hx (hb hby at_78) (pc' := 81) rfl (z := (255 : Int32)) rfl ?_
      refine k_iand X12 hx (hb hby at_81) (pc' := 82) rfl (fun v2468 hv2468 => ?_)
      refine k_istore X12 hx (hb hby at_82) (Ls' := #[.val (.int i0), .val (.int i1), .val (.int i2), .val (.int i3), .val (.int i4), .val (.int i5), .val (.ref b1), .val (.int (3 : Int32)), .val (.int (0 : Int32)), .val (.int v2444), .val (.int v2468), .unset]) rfl (pc' := 84) rfl ?_
      refine k_goto X12 hx (hb hby at_84) (pc' := 97) (by decide) ?_
      exact key2445 v2468
    ·
     refine k_iconst X12 hx (hb hby at_57) (pc' := 58) rfl (z := (-1 : Int32)) rfl ?_
     refine k_istore X12 hx (hb hby at_58) (Ls' := #[.val (.int i0), .val (.int i1), .val (.int i2), .val (.int i3), .val (.int i4), .val (.int i5), .val (.ref b1), .val (.int (3 : Int32)), .val (.int (0 : Int32)), .val (.int v2444), .val (.int (-1 : Int32)), .unset]) rfl (pc' := 60) rfl ?_
     refine k_goto X12 hx (hb hby at_60) (pc' := 97) (by decide) ?_
     exact key2445 (-1 : Int32)
   intro v2469
   refine k_iload X12 hx (hb hby at_97) rfl (pc' := 99) rfl ?_
   refine k_iconst X12 hx (hb hby at_99) (pc' := 100) rfl (z := (-1 : Int32)) rfl ?_
   refine k_icmp_ne X12 hx (hb hby at_100) (pn := 103) rfl (py := 109) (by decide) (fun hc2471 => ?_) (fun hc2471 => ?_)
   ·
    refine k_aload X12 hx (hb hby at_109) rfl rfl (pc' := 111) rfl ?_
    refine k_iconst X12 hx (hb hby at_111) (pc' := 112) rfl (z := (0 : Int32)) rfl ?_
    refine k_iload X12 hx (hb hby at_112) rfl (pc' := 114) rfl ?_
    refine k_iload X12 hx (hb hby at_114) rfl (pc' := 116) rfl ?_
    refine k_iload X12 hx (hb hby at_116) rfl (pc' := 118) rfl ?_
    refine k_callS X12 hx hZ hown (hw _ (List.mem_of_getElem? (i := 2) rfl)) (hw _ (List.mem_of_getElem? (i := 3) rfl)) (hw _ (List.mem_of_getElem? (i := 4) rfl)) (hw _ (List.mem_of_getElem? (i := 5) rfl)) (by decide) (rm1_113 l Z a0 hw [] b1 (3 : Int32) (0 : Int32) v2469 k1 v2 v5 v8 v11 h12 n0 Z12 Vw12) (by decide) (by decide) e12 (by rw [hml]; rfl) (argsL := [(.ref b1), (.int (0 : Int32)), (.int (3 : Int32)), (.int (0 : Int32)), (.int v2469)]) (rest := []) (lenOf pd_0 rfl) rfl (W := 0) (Nat.le_refl _) rfl (hb hby at_118) (by decide) (by decide) (pc' := 121) rfl (fun T2472 L2472 r2472 X2472 q2472 => ?_)
    obtain ⟨N2472, e2472, q2472⟩ := q2472
    have N2472' := Fr.app N12 N2472
    rcases q2472 with ⟨hc2473, rfl⟩ | ⟨hc2474, hc2475, rfl⟩ | ⟨v2476, h2477, hc2478, hc2479, hc2480, rfl⟩ | ⟨v2481, h2482, hc2483, hc2484, hc2485, rfl⟩
    ·
     show KEnds p e below s _ _ _ T2472 (mkF m 121 #[.val (.int i0), .val (.int i1), .val (.int i2), .val (.int i3), .val (.int i4), .val (.int i5), .val (.ref b1), .val (.int (3 : Int32)), .val (.int (0 : Int32)), .val (.int v2444), .val (.int v2469), .unset] [(.int (0 : Int32))])
     refine k_if_eq X2472 hx (hb hby at_121) (pn := 124) rfl (py := 130) (by decide) (fun _ => ?_) (fun hc => absurd (by decide) hc)
     refine k_aload X2472 hx (hb hby at_130) rfl rfl (pc' := 132) rfl ?_
     refine k_iconst X2472 hx (hb hby at_132) (pc' := 133) rfl (z := (1 : Int32)) rfl ?_
     refine k_iload X2472 hx (hb hby at_133) rfl (pc' := 135) rfl ?_
     refine k_iload X2472 hx (hb hby at_135) rfl (pc' := 137) rfl ?_
     refine k_iload X2472 hx (hb hby at_137) rfl (pc' := 139) rfl ?_
     refine k_callS X2472 hx hZ hown (hw _ (List.mem_of_getElem? (i := 2) rfl)) (hw _ (List.mem_of_getElem? (i := 3) rfl)) (hw _ (List.mem_of_getElem? (i := 4) rfl)) (hw _ (List.mem_of_getElem? (i := 5) rfl)) (by decide) (rm1_132 l Z a0 hw [] b1 (3 : Int32) (0 : Int32) v2469 k1 v2 v5 v8 v11 h12 n0 Z12 Vw12) (by decide) (by decide) e2472 (by rw [hml]; rfl) (argsL := [(.ref b1), (.int (1 : Int32)), (.int (3 : Int32)), (.int (0 : Int32)), (.int v2469)]) (rest := []) (lenOf pd_0 rfl) rfl (W := 0) (Nat.le_refl _) rfl (hb hby at_139) (by decide) (by decide) (pc' := 142) rfl (fun T2486 L2486 r2486 X2486 q2486 => ?_)
     obtain ⟨N2486, e2486, q2486⟩ := q2486
     have N2486' := Fr.app N2472' N2486
     rcases q2486 with ⟨hc2487, rfl⟩ | ⟨hc2488, hc2489, rfl⟩ | ⟨v2490, h2491, hc2492, hc2493, hc2494, rfl⟩ | ⟨v2495, h2496, hc2497, hc2498, hc2499, rfl⟩
     ·
      show KEnds p e below s _ _ _ T2486 (mkF m 142 #[.val (.int i0), .val (.int i1), .val (.int i2), .val (.int i3), .val (.int i4), .val (.int i5), .val (.ref b1), .val (.int (3 : Int32)), .val (.int (0 : Int32)), .val (.int v2444), .val (.int v2469), .unset] [(.int (0 : Int32))])
      refine k_if_eq X2486 hx (hb hby at_142) (pn := 145) rfl (py := 151) (by decide) (fun _ => ?_) (fun hc => absurd (by decide) hc)
      refine k_aload X2486 hx (hb hby at_151) rfl rfl (pc' := 153) rfl ?_
      refine k_iconst X2486 hx (hb hby at_153) (pc' := 154) rfl (z := (2 : Int32)) rfl ?_
      refine k_iload X2486 hx (hb hby at_154) rfl (pc' := 156) rfl ?_
      refine k_iload X2486 hx (hb hby at_156) rfl (pc' := 158) rfl ?_
      refine k_iload X2486 hx (hb hby at_158) rfl (pc' := 160) rfl ?_
      refine k_callS X2486 hx hZ hown (hw _ (List.mem_of_getElem? (i := 2) rfl)) (hw _ (List.mem_of_getElem? (i := 3) rfl)) (hw _ (List.mem_of_getElem? (i := 4) rfl)) (hw _ (List.mem_of_getElem? (i := 5) rfl)) (by decide) (rm1_151 l Z a0 hw [] b1 (3 : Int32) (0 : Int32) v2469 k1 v2 v5 v8 v11 h12 n0 Z12 Vw12) (by decide) (by decide) e2486 (by rw [hml]; rfl) (argsL := [(.ref b1), (.int (2 : Int32)), (.int (3 : Int32)), (.int (0 : Int32)), (.int v2469)]) (rest := []) (lenOf pd_0 rfl) rfl (W := 0) (Nat.le_refl _) rfl (hb hby at_160) (by decide) (by decide) (pc' := 163) rfl (fun T2500 L2500 r2500 X2500 q2500 => ?_)
      obtain ⟨N2500, e2500, q2500⟩ := q2500
      have N2500' := Fr.app N2486' N2500
      rcases q2500 with ⟨hc2501, rfl⟩ | ⟨hc2502, hc2503, rfl⟩ | ⟨v2504, h2505, hc2506, hc2507, hc2508, rfl⟩ | ⟨v2509, h2510, hc2511, hc2512, hc2513, rfl⟩
      ·
       show KEnds p e below s _ _ _ T2500 (mkF m 163 #[.val (.int i0), .val (.int i1), .val (.int i2), .val (.int i3), .val (.int i4), .val (.int i5), .val (.ref b1), .val (.int (3 : Int32)), .val (.int (0 : Int32)), .val (.int v2444), .val (.int v2469), .unset] [(.int (0 : Int32))])
       refine k_if_eq X2500 hx (hb hby at_163) (pn := 166) rfl (py := 172) (by decide) (fun _ => ?_) (fun hc => absurd (by decide) hc)
       refine k_aload X2500 hx (hb hby at_172) rfl rfl (pc' := 174) rfl ?_
       refine k_iconst X2500 hx (hb hby at_174) (pc' := 175) rfl (z := (3 : Int32)) rfl ?_
       refine k_iload X2500 hx (hb hby at_175) rfl (pc' := 177) rfl ?_
       refine k_iload X2500 hx (hb hby at_177) rfl (pc' := 179) rfl ?_
       refine k_iload X2500 hx (hb hby at_179) rfl (pc' := 181) rfl ?_
       refine k_callS X2500 hx hZ hown (hw _ (List.mem_of_getElem? (i := 2) rfl)) (hw _ (List.mem_of_getElem? (i := 3) rfl)) (hw _ (List.mem_of_getElem? (i := 4) rfl)) (hw _ (List.mem_of_getElem? (i := 5) rfl)) (by decide) (rm1_170 l Z a0 hw [] b1 (3 : Int32) (0 : Int32) v2469 k1 v2 v5 v8 v11 h12 n0 Z12 Vw12) (by decide) (by decide) e2500 (by rw [hml]; rfl) (argsL := [(.ref b1), (.int (3 : Int32)), (.int (3 : Int32)), (.int (0 : Int32)), (.int v2469)]) (rest := []) (lenOf pd_0 rfl) rfl (W := 0) (Nat.le_refl _) rfl (hb hby at_181) (by decide) (by decide) (pc' := 184) rfl (fun T2514 L2514 r2514 X2514 q2514 => ?_)
       obtain ⟨N2514, e2514, q2514⟩ := q2514
       have N2514' := Fr.app N2500' N2514
       rcases q2514 with ⟨hc2515, rfl⟩ | ⟨hc2516, hc2517, rfl⟩ | ⟨v2518, h2519, hc2520, hc2521, hc2522, rfl⟩ | ⟨v2523, h2524, hc2525, hc2526, hc2527, rfl⟩
       ·
        show KEnds p e below s _ _ _ T2514 (mkF m 184 #[.val (.int i0), .val (.int i1), .val (.int i2), .val (.int i3), .val (.int i4), .val (.int i5), .val (.ref b1), .val (.int (3 : Int32)), .val (.int (0 : Int32)), .val (.int v2444), .val (.int v2469), .unset] [(.int (0 : Int32))])
        exact absurd hc2515 (by decide)
       ·
        show KEnds p e below s _ _ _ T2514 (mkF m 184 #[.val (.int i0), .val (.int i1), .val (.int i2), .val (.int i3), .val (.int i4), .val (.int i5), .val (.ref b1), .val (.int (3 : Int32)), .val (.int (0 : Int32)), .val (.int v2444), .val (.int v2469), .unset] [(.int (0 : Int32))])
        refine k_if_eq X2514 hx (hb hby at_184) (pn := 187) rfl (py := 193) (by decide) (fun _ => ?_) (fun hc => absurd (by decide) hc)
        refine k_iconst X2514 hx (hb hby at_193) (pc' := 194) rfl (z := (-1 : Int32)) rfl ?_
        refine k_istore X2514 hx (hb hby at_194) (Ls' := #[.val (.int i0), .val (.int i1), .val (.int i2), .val (.int i3), .val (.int i4), .val (.int i5), .val (.ref b1), .val (.int (3 : Int32)), .val (.int (0 : Int32)), .val (.int v2444), .val (.int v2469), .val (.int (-1 : Int32))]) rfl (pc' := 196) rfl ?_
        refine k_aload X2514 hx (hb hby at_196) rfl rfl (pc' := 198) rfl ?_
        refine k_iload X2514 hx (hb hby at_198) rfl (pc' := 200) rfl ?_
        refine k_iload X2514 hx (hb hby at_200) rfl (pc' := 202) rfl ?_
        refine k_iload X2514 hx (hb hby at_202) rfl (pc' := 204) rfl ?_
        refine k_callS X2514 hx hZ hown (hw _ (List.mem_of_getElem? (i := 6) rfl)) (hw _ (List.mem_of_getElem? (i := 7) rfl)) (hw _ (List.mem_of_getElem? (i := 8) rfl)) (hw _ (List.mem_of_getElem? (i := 9) rfl)) (by decide) (rm2_2528 l Z a0 hw [] b1 v2469 k1 v2 v5 v8 v11 h12 n0 Z12 Vw12) (by decide) (by decide) e2514 (by rw [hml]; rfl) (argsL := [(.ref b1), (.int (3 : Int32)), (.int (0 : Int32)), (.int v2469)]) (rest := []) (lenOf pd_1 rfl) rfl (W := 0) (Nat.le_refl _) rfl (hb hby at_204) (by decide) (by decide) (pc' := 207) rfl (fun T2530 L2530 r2530 X2530 q2530 => ?_)
        obtain ⟨N2530, e2530, q2530⟩ := q2530
        have N2530' := Fr.app N2514' N2530
        rcases q2530 with ⟨hc2531, rfl⟩ | ⟨hc2532, rfl⟩
        ·
         show KEnds p e below s _ _ _ T2530 (mkF m 207 #[.val (.int i0), .val (.int i1), .val (.int i2), .val (.int i3), .val (.int i4), .val (.int i5), .val (.ref b1), .val (.int (3 : Int32)), .val (.int (0 : Int32)), .val (.int v2444), .val (.int v2469), .val (.int (-1 : Int32))] [(.int (-1 : Int32))])
         refine k_iload X2530 hx (hb hby at_207) rfl (pc' := 209) rfl ?_
         refine k_icmp_ne X2530 hx (hb hby at_209) (pn := 212) rfl (py := 216) (by decide) (fun hc => absurd (by decide) hc) (fun _ => ?_)
         refine k_iconst X2530 hx (hb hby at_212) (pc' := 213) rfl (z := (1 : Int32)) rfl ?_
         refine k_goto X2530 hx (hb hby at_213) (pc' := 217) (by decide) ?_
         exact k_retN X2530 hx (t := .boolean) Bd.returns (by simp) (hb hby at_217) hlk (by decide) (by decide) (z' := (1 : Int32)) rfl ⟨rfl, N2530'⟩
        ·
         show KEnds p e below s _ _ _ T2530 (mkF m 207 #[.val (.int i0), .val (.int i1), .val (.int i2), .val (.int i3), .val (.int i4), .val (.int i5), .val (.ref b1), .val (.int (3 : Int32)), .val (.int (0 : Int32)), .val (.int v2444), .val (.int v2469), .val (.int (-1 : Int32))] [(.int (-1 : Int32))])
         exact absurd hc2532 hc2471
       ·
        show KEnds p e below s _ _ _ T2514 (mkF m 184 #[.val (.int i0), .val (.int i1), .val (.int i2), .val (.int i3), .val (.int i4), .val (.int i5), .val (.ref b1), .val (.int (3 : Int32)), .val (.int (0 : Int32)), .val (.int v2444), .val (.int v2469), .unset] [(.int (0 : Int32))])
        exact absurd hc2521 (by decide)
       ·
        show KEnds p e below s _ _ _ T2514 (mkF m 184 #[.val (.int i0), .val (.int i1), .val (.int i2), .val (.int i3), .val (.int i4), .val (.int i5), .val (.ref b1), .val (.int (3 : Int32)), .val (.int (0 : Int32)), .val (.int v2444), .val (.int v2469), .unset] [(.int (1 : Int32))])
        exact absurd hc2526 (by decide)
      ·
       show KEnds p e below s _ _ _ T2500 (mkF m 163 #[.val (.int i0), .val (.int i1), .val (.int i2), .val (.int i3), .val (.int i4), .val (.int i5), .val (.ref b1), .val (.int (3 : Int32)), .val (.int (0 : Int32)), .val (.int v2444), .val (.int v2469), .unset] [(.int (0 : Int32))])
       exact absurd (by decide) hc2502
      ·
       show KEnds p e below s _ _ _ T2500 (mkF m 163 #[.val (.int i0), .val (.int i1), .val (.int i2), .val (.int i3), .val (.int i4), .val (.int i5), .val (.ref b1), .val (.int (3 : Int32)), .val (.int (0 : Int32)), .val (.int v2444), .val (.int v2469), .unset] [(.int (0 : Int32))])
       exact absurd (by decide) hc2506
      ·
       show KEnds p e below s _ _ _ T2500 (mkF m 163 #[.val (.int i0), .val (.int i1), .val (.int i2), .val (.int i3), .val (.int i4), .val (.int i5), .val (.ref b1), .val (.int (3 : Int32)), .val (.int (0 : Int32)), .val (.int v2444), .val (.int v2469), .unset] [(.int (1 : Int32))])
       exact absurd (by decide) hc2511
     ·
      show KEnds p e below s _ _ _ T2486 (mkF m 142 #[.val (.int i0), .val (.int i1), .val (.int i2), .val (.int i3), .val (.int i4), .val (.int i5), .val (.ref b1), .val (.int (3 : Int32)), .val (.int (0 : Int32)), .val (.int v2444), .val (.int v2469), .unset] [(.int (0 : Int32))])
      exact absurd (by decide) hc2488
     ·
      show KEnds p e below s _ _ _ T2486 (mkF m 142 #[.val (.int i0), .val (.int i1), .val (.int i2), .val (.int i3), .val (.int i4), .val (.int i5), .val (.ref b1), .val (.int (3 : Int32)), .val (.int (0 : Int32)), .val (.int v2444), .val (.int v2469), .unset] [(.int (0 : Int32))])
      exact absurd (by decide) hc2492
     ·
      show KEnds p e below s _ _ _ T2486 (mkF m 142 #[.val (.int i0), .val (.int i1), .val (.int i2), .val (.int i3), .val (.int i4), .val (.int i5), .val (.ref b1), .val (.int (3 : Int32)), .val (.int (0 : Int32)), .val (.int v2444), .val (.int v2469), .unset] [(.int (1 : Int32))])
      exact absurd (by decide) hc2497
    ·
     show KEnds p e below s _ _ _ T2472 (mkF m 121 #[.val (.int i0), .val (.int i1), .val (.int i2), .val (.int i3), .val (.int i4), .val (.int i5), .val (.ref b1), .val (.int (3 : Int32)), .val (.int (0 : Int32)), .val (.int v2444), .val (.int v2469), .unset] [(.int (0 : Int32))])
     exact absurd (by decide) hc2474
    ·
     show KEnds p e below s _ _ _ T2472 (mkF m 121 #[.val (.int i0), .val (.int i1), .val (.int i2), .val (.int i3), .val (.int i4), .val (.int i5), .val (.ref b1), .val (.int (3 : Int32)), .val (.int (0 : Int32)), .val (.int v2444), .val (.int v2469), .unset] [(.int (0 : Int32))])
     exact absurd (by decide) hc2478
    ·
     show KEnds p e below s _ _ _ T2472 (mkF m 121 #[.val (.int i0), .val (.int i1), .val (.int i2), .val (.int i3), .val (.int i4), .val (.int i5), .val (.ref b1), .val (.int (3 : Int32)), .val (.int (0 : Int32)), .val (.int v2444), .val (.int v2469), .unset] [(.int (1 : Int32))])
     exact absurd (by decide) hc2483
   ·
    refine k_iconst X12 hx (hb hby at_103) (pc' := 104) rfl (z := (-1 : Int32)) rfl ?_
    refine k_istore X12 hx (hb hby at_104) (Ls' := #[.val (.int i0), .val (.int i1), .val (.int i2), .val (.int i3), .val (.int i4), .val (.int i5), .val (.ref b1), .val (.int (3 : Int32)), .val (.int (0 : Int32)), .val (.int v2444), .val (.int v2469), .val (.int (-1 : Int32))]) rfl (pc' := 106) rfl ?_
    refine k_goto X12 hx (hb hby at_106) (pc' := 196) (by decide) ?_
    refine k_aload X12 hx (hb hby at_196) rfl rfl (pc' := 198) rfl ?_
    refine k_iload X12 hx (hb hby at_198) rfl (pc' := 200) rfl ?_
    refine k_iload X12 hx (hb hby at_200) rfl (pc' := 202) rfl ?_
    refine k_iload X12 hx (hb hby at_202) rfl (pc' := 204) rfl ?_
    refine k_callS X12 hx hZ hown (hw _ (List.mem_of_getElem? (i := 6) rfl)) (hw _ (List.mem_of_getElem? (i := 7) rfl)) (hw _ (List.mem_of_getElem? (i := 8) rfl)) (hw _ (List.mem_of_getElem? (i := 9) rfl)) (by decide) (rm2_2528 l Z a0 hw [] b1 v2469 k1 v2 v5 v8 v11 h12 n0 Z12 Vw12) (by decide) (by decide) e12 (by rw [hml]; rfl) (argsL := [(.ref b1), (.int (3 : Int32)), (.int (0 : Int32)), (.int v2469)]) (rest := []) (lenOf pd_1 rfl) rfl (W := 0) (Nat.le_refl _) rfl (hb hby at_204) (by decide) (by decide) (pc' := 207) rfl (fun T2533 L2533 r2533 X2533 q2533 => ?_)
    obtain ⟨N2533, e2533, q2533⟩ := q2533
    have N2533' := Fr.app N12 N2533
    rcases q2533 with ⟨hc2534, rfl⟩ | ⟨hc2535, rfl⟩
    ·
     show KEnds p e below s _ _ _ T2533 (mkF m 207 #[.val (.int i0), .val (.int i1), .val (.int i2), .val (.int i3), .val (.int i4), .val (.int i5), .val (.ref b1), .val (.int (3 : Int32)), .val (.int (0 : Int32)), .val (.int v2444), .val (.int v2469), .val (.int (-1 : Int32))] [(.int (-1 : Int32))])
     exact absurd hc2471 hc2534
    ·
     show KEnds p e below s _ _ _ T2533 (mkF m 207 #[.val (.int i0), .val (.int i1), .val (.int i2), .val (.int i3), .val (.int i4), .val (.int i5), .val (.ref b1), .val (.int (3 : Int32)), .val (.int (0 : Int32)), .val (.int v2444), .val (.int v2469), .val (.int (-1 : Int32))] [(.int (-1 : Int32))])
     refine k_iload X2533 hx (hb hby at_207) rfl (pc' := 209) rfl ?_
     refine k_icmp_ne X2533 hx (hb hby at_209) (pn := 212) rfl (py := 216) (by decide) (fun hc => absurd (by decide) hc) (fun _ => ?_)
     refine k_iconst X2533 hx (hb hby at_212) (pc' := 213) rfl (z := (1 : Int32)) rfl ?_
     refine k_goto X2533 hx (hb hby at_213) (pc' := 217) (by decide) ?_
     exact k_retN X2533 hx (t := .boolean) Bd.returns (by simp) (hb hby at_217) hlk (by decide) (by decide) (z' := (1 : Int32)) rfl ⟨rfl, N2533'⟩
  ·
   show KEnds p e below s _ _ _ T12 (mkF m 44 #[.val (.int i0), .val (.int i1), .val (.int i2), .val (.int i3), .val (.int i4), .val (.int i5), .val (.ref b1), .val (.int (3 : Int32)), .unset, .unset, .unset, .unset] [(.int (1 : Int32))])
   refine k_istore X12 hx (hb hby at_44) (Ls' := #[.val (.int i0), .val (.int i1), .val (.int i2), .val (.int i3), .val (.int i4), .val (.int i5), .val (.ref b1), .val (.int (3 : Int32)), .val (.int (1 : Int32)), .unset, .unset, .unset]) rfl (pc' := 46) rfl ?_
   refine k_iload X12 hx (hb hby at_46) rfl (pc' := 48) rfl ?_
   refine k_iconst X12 hx (hb hby at_48) (pc' := 49) rfl (z := (3 : Int32)) rfl ?_
   refine k_iand X12 hx (hb hby at_49) (pc' := 50) rfl (fun v2537 hv2537 => ?_)
   refine k_istore X12 hx (hb hby at_50) (Ls' := #[.val (.int i0), .val (.int i1), .val (.int i2), .val (.int i3), .val (.int i4), .val (.int i5), .val (.ref b1), .val (.int (3 : Int32)), .val (.int (1 : Int32)), .val (.int v2537), .unset, .unset]) rfl (pc' := 52) rfl ?_
   suffices key2538 : ∀ (v2562 : Int32), KEnds p e below s 16 128 (Q0 n0) T12 (mkF m 97 #[.val (.int i0), .val (.int i1), .val (.int i2), .val (.int i3), .val (.int i4), .val (.int i5), .val (.ref b1), .val (.int (3 : Int32)), .val (.int (1 : Int32)), .val (.int v2537), .val (.int v2562), .unset] []) by
    refine k_iload X12 hx (hb hby at_52) rfl (pc' := 54) rfl ?_
    refine k_if_ne X12 hx (hb hby at_54) (pn := 57) rfl (py := 63) (by decide) (fun hc2539 => ?_) (fun hc2539 => ?_)
    ·
     refine k_iload X12 hx (hb hby at_63) rfl (pc' := 65) rfl ?_
     refine k_iconst X12 hx (hb hby at_65) (pc' := 66) rfl (z := (1 : Int32)) rfl ?_
     refine k_icmp_ne X12 hx (hb hby at_66) (pn := 69) rfl (py := 87) (by decide) (fun hc2540 => ?_) (fun hc2540 => ?_)
     ·
      refine k_iload X12 hx (hb hby at_87) rfl (pc' := 89) rfl ?_
      refine k_iconst X12 hx (hb hby at_89) (pc' := 90) rfl (z := (2 : Int32)) rfl ?_
      refine k_iushr X12 hx (hb hby at_90) (pc' := 91) rfl (fun v2541 hv2541 => ?_)
      refine k_sipush X12 hx (hb hby at_91) (pc' := 94) rfl (z := (255 : Int32)) rfl ?_
      refine k_iand X12 hx (hb hby at_94) (pc' := 95) rfl (fun v2542 hv2542 => ?_)
      refine k_istore X12 hx (hb hby at_95) (Ls' := #[.val (.int i0), .val (.int i1), .val (.int i2), .val (.int i3), .val (.int i4), .val (.int i5), .val (.ref b1), .val (.int (3 : Int32)), .val (.int (1 : Int32)), .val (.int v2537), .val (.int v2542), .unset]) rfl (pc' := 97) rfl ?_
      exact key2538 v2542
     ·
      refine k_aload X12 hx (hb hby at_69) rfl rfl (pc' := 71) rfl ?_
      refine k_iload X12 hx (hb hby at_71) rfl (pc' := 73) rfl ?_
      refine k_iconst X12 hx (hb hby at_73) (pc' := 74) rfl (z := (2 : Int32)) rfl ?_
      refine k_iushr X12 hx (hb hby at_74) (pc' := 75) rfl (fun v2543 hv2543 => ?_)
      refine k_iconst X12 hx (hb hby at_75) (pc' := 76) rfl (z := (3 : Int32)) rfl ?_
      refine k_iand X12 hx (hb hby at_76) (pc' := 77) rfl (fun v2544 hv2544 => ?_)
      have hj2545 : ¬ v2544 < 0 ∧ v2544 < (4 : Int32) := by
       refine ⟨?_, ?_⟩
       ·
        intro hq2546
        have := rng32 v2537
        have := rng32 i5
        have : (3 : Int32).toInt = 3 := (by decide)
        have q2547 : v2537.toInt = i5.toInt % 4 := (by rw [hv2537]; exact c_mask _ _ 2 (by decide) (by decide))
        have : (0 : Int32).toInt = 0 := (by decide)
        have q2548 : ¬ v2537.toInt = (0 : Int32).toInt := fun q => hc2539 (Int32.toInt_inj.mp q)
        have : (1 : Int32).toInt = 1 := (by decide)
        have q2549 := congrArg Int32.toInt hc2540
        have := rng32 v2544
        have := rng32 v2543
        have : (2 : Int32).toInt = 2 := (by decide)
        have q2550 : v2543.toInt = (i5.toInt % 4294967296) / 4 := (by rw [hv2543]; exact c_iushr _ _ 2 (by decide) (by decide))
        have q2551 : v2544.toInt = v2543.toInt % 4 := (by rw [hv2544]; exact c_mask _ _ 2 (by decide) (by decide))
        have q2552 := hq2546; rw [Int32.lt_iff_toInt_lt] at q2552
        omega
       ·
        refine Classical.byContradiction (fun hq2553 => ?_)
        have := rng32 v2537
        have := rng32 i5
        have : (3 : Int32).toInt = 3 := (by decide)
        have q2554 : v2537.toInt = i5.toInt % 4 := (by rw [hv2537]; exact c_mask _ _ 2 (by decide) (by decide))
        have : (0 : Int32).toInt = 0 := (by decide)
        have q2555 : ¬ v2537.toInt = (0 : Int32).toInt := fun q => hc2539 (Int32.toInt_inj.mp q)
        have : (1 : Int32).toInt = 1 := (by decide)
        have q2556 := congrArg Int32.toInt hc2540
        have := rng32 v2544
        have := rng32 v2543
        have : (2 : Int32).toInt = 2 := (by decide)
        have q2557 : v2543.toInt = (i5.toInt % 4294967296) / 4 := (by rw [hv2543]; exact c_iushr _ _ 2 (by decide) (by decide))
        have q2558 : v2544.toInt = v2543.toInt % 4 := (by rw [hv2544]; exact c_mask _ _ 2 (by decide) (by decide))
        have : (4 : Int32).toInt = 4 := (by decide)
        have q2559 := hq2553; rw [Int32.lt_iff_toInt_lt] at q2559
        omega
      refine k_baloadS X12 hx hZ e12 Vw12 hj2545 (hb hby at_77) (pc' := 78) rfl (fun v2560 hv2560 => ?_)
      refine k_sipush X12 hx (hb hby at_78) (pc' := 81) rfl (z := (255 : Int32)) rfl ?_
      refine k_iand X12 hx (hb hby at_81) (pc' := 82) rfl (fun v2561 hv2561 => ?_)
      refine k_istore X12 hx (hb hby at_82) (Ls' := #[.val (.int i0), .val (.int i1), .val (.int i2), .val (.int i3), .val (.int i4), .val (.int i5), .val (.ref b1), .val (.int (3 : Int32)), .val (.int (1 : Int32)), .val (.int v2537), .val (.int v2561), .unset]) rfl (pc' := 84) rfl ?_
      refine k_goto X12 hx (hb hby at_84) (pc' := 97) (by decide) ?_
      exact key2538 v2561
    ·
     refine k_iconst X12 hx (hb hby at_57) (pc' := 58) rfl (z := (-1 : Int32)) rfl ?_
     refine k_istore X12 hx (hb hby at_58) (Ls' := #[.val (.int i0), .val (.int i1), .val (.int i2), .val (.int i3), .val (.int i4), .val (.int i5), .val (.ref b1), .val (.int (3 : Int32)), .val (.int (1 : Int32)), .val (.int v2537), .val (.int (-1 : Int32)), .unset]) rfl (pc' := 60) rfl ?_
     refine k_goto X12 hx (hb hby at_60) (pc' := 97) (by decide) ?_
     exact key2538 (-1 : Int32)
   intro v2562
   refine k_iload X12 hx (hb hby at_97) rfl (pc' := 99) rfl ?_
   refine k_iconst X12 hx (hb hby at_99) (pc' := 100) rfl (z := (-1 : Int32)) rfl ?_
   refine k_icmp_ne X12 hx (hb hby at_100) (pn := 103) rfl (py := 109) (by decide) (fun hc2564 => ?_) (fun hc2564 => ?_)
   ·
    refine k_aload X12 hx (hb hby at_109) rfl rfl (pc' := 111) rfl ?_
    refine k_iconst X12 hx (hb hby at_111) (pc' := 112) rfl (z := (0 : Int32)) rfl ?_
    refine k_iload X12 hx (hb hby at_112) rfl (pc' := 114) rfl ?_
    refine k_iload X12 hx (hb hby at_114) rfl (pc' := 116) rfl ?_
    refine k_iload X12 hx (hb hby at_116) rfl (pc' := 118) rfl ?_
    refine k_callS X12 hx hZ hown (hw _ (List.mem_of_getElem? (i := 2) rfl)) (hw _ (List.mem_of_getElem? (i := 3) rfl)) (hw _ (List.mem_of_getElem? (i := 4) rfl)) (hw _ (List.mem_of_getElem? (i := 5) rfl)) (by decide) (rm1_113 l Z a0 hw [] b1 (3 : Int32) (1 : Int32) v2562 k1 v2 v5 v8 v11 h12 n0 Z12 Vw12) (by decide) (by decide) e12 (by rw [hml]; rfl) (argsL := [(.ref b1), (.int (0 : Int32)), (.int (3 : Int32)), (.int (1 : Int32)), (.int v2562)]) (rest := []) (lenOf pd_0 rfl) rfl (W := 0) (Nat.le_refl _) rfl (hb hby at_118) (by decide) (by decide) (pc' := 121) rfl (fun T2565 L2565 r2565 X2565 q2565 => ?_)
    obtain ⟨N2565, e2565, q2565⟩ := q2565
    have N2565' := Fr.app N12 N2565
    rcases q2565 with ⟨hc2566, rfl⟩ | ⟨hc2567, hc2568, rfl⟩ | ⟨v2569, h2570, hc2571, hc2572, hc2573, rfl⟩ | ⟨v2574, h2575, hc2576, hc2577, hc2578, rfl⟩
    ·
     show KEnds p e below s _ _ _ T2565 (mkF m 121 #[.val (.int i0), .val (.int i1), .val (.int i2), .val (.int i3), .val (.int i4), .val (.int i5), .val (.ref b1), .val (.int (3 : Int32)), .val (.int (1 : Int32)), .val (.int v2537), .val (.int v2562), .unset] [(.int (0 : Int32))])
     refine k_if_eq X2565 hx (hb hby at_121) (pn := 124) rfl (py := 130) (by decide) (fun _ => ?_) (fun hc => absurd (by decide) hc)
     refine k_aload X2565 hx (hb hby at_130) rfl rfl (pc' := 132) rfl ?_
     refine k_iconst X2565 hx (hb hby at_132) (pc' := 133) rfl (z := (1 : Int32)) rfl ?_
     refine k_iload X2565 hx (hb hby at_133) rfl (pc' := 135) rfl ?_
     refine k_iload X2565 hx (hb hby at_135) rfl (pc' := 137) rfl ?_
     refine k_iload X2565 hx (hb hby at_137) rfl (pc' := 139) rfl ?_
     refine k_callS X2565 hx hZ hown (hw _ (List.mem_of_getElem? (i := 2) rfl)) (hw _ (List.mem_of_getElem? (i := 3) rfl)) (hw _ (List.mem_of_getElem? (i := 4) rfl)) (hw _ (List.mem_of_getElem? (i := 5) rfl)) (by decide) (rm1_132 l Z a0 hw [] b1 (3 : Int32) (1 : Int32) v2562 k1 v2 v5 v8 v11 h12 n0 Z12 Vw12) (by decide) (by decide) e2565 (by rw [hml]; rfl) (argsL := [(.ref b1), (.int (1 : Int32)), (.int (3 : Int32)), (.int (1 : Int32)), (.int v2562)]) (rest := []) (lenOf pd_0 rfl) rfl (W := 0) (Nat.le_refl _) rfl (hb hby at_139) (by decide) (by decide) (pc' := 142) rfl (fun T2579 L2579 r2579 X2579 q2579 => ?_)
     obtain ⟨N2579, e2579, q2579⟩ := q2579
     have N2579' := Fr.app N2565' N2579
     rcases q2579 with ⟨hc2580, rfl⟩ | ⟨hc2581, hc2582, rfl⟩ | ⟨v2583, h2584, hc2585, hc2586, hc2587, rfl⟩ | ⟨v2588, h2589, hc2590, hc2591, hc2592, rfl⟩
     ·
      show KEnds p e below s _ _ _ T2579 (mkF m 142 #[.val (.int i0), .val (.int i1), .val (.int i2), .val (.int i3), .val (.int i4), .val (.int i5), .val (.ref b1), .val (.int (3 : Int32)), .val (.int (1 : Int32)), .val (.int v2537), .val (.int v2562), .unset] [(.int (0 : Int32))])
      refine k_if_eq X2579 hx (hb hby at_142) (pn := 145) rfl (py := 151) (by decide) (fun _ => ?_) (fun hc => absurd (by decide) hc)
      refine k_aload X2579 hx (hb hby at_151) rfl rfl (pc' := 153) rfl ?_
      refine k_iconst X2579 hx (hb hby at_153) (pc' := 154) rfl (z := (2 : Int32)) rfl ?_
      refine k_iload X2579 hx (hb hby at_154) rfl (pc' := 156) rfl ?_
      refine k_iload X2579 hx (hb hby at_156) rfl (pc' := 158) rfl ?_
      refine k_iload X2579 hx (hb hby at_158) rfl (pc' := 160) rfl ?_
      refine k_callS X2579 hx hZ hown (hw _ (List.mem_of_getElem? (i := 2) rfl)) (hw _ (List.mem_of_getElem? (i := 3) rfl)) (hw _ (List.mem_of_getElem? (i := 4) rfl)) (hw _ (List.mem_of_getElem? (i := 5) rfl)) (by decide) (rm1_151 l Z a0 hw [] b1 (3 : Int32) (1 : Int32) v2562 k1 v2 v5 v8 v11 h12 n0 Z12 Vw12) (by decide) (by decide) e2579 (by rw [hml]; rfl) (argsL := [(.ref b1), (.int (2 : Int32)), (.int (3 : Int32)), (.int (1 : Int32)), (.int v2562)]) (rest := []) (lenOf pd_0 rfl) rfl (W := 0) (Nat.le_refl _) rfl (hb hby at_160) (by decide) (by decide) (pc' := 163) rfl (fun T2593 L2593 r2593 X2593 q2593 => ?_)
      obtain ⟨N2593, e2593, q2593⟩ := q2593
      have N2593' := Fr.app N2579' N2593
      rcases q2593 with ⟨hc2594, rfl⟩ | ⟨hc2595, hc2596, rfl⟩ | ⟨v2597, h2598, hc2599, hc2600, hc2601, rfl⟩ | ⟨v2602, h2603, hc2604, hc2605, hc2606, rfl⟩
      ·
       show KEnds p e below s _ _ _ T2593 (mkF m 163 #[.val (.int i0), .val (.int i1), .val (.int i2), .val (.int i3), .val (.int i4), .val (.int i5), .val (.ref b1), .val (.int (3 : Int32)), .val (.int (1 : Int32)), .val (.int v2537), .val (.int v2562), .unset] [(.int (0 : Int32))])
       refine k_if_eq X2593 hx (hb hby at_163) (pn := 166) rfl (py := 172) (by decide) (fun _ => ?_) (fun hc => absurd (by decide) hc)
       refine k_aload X2593 hx (hb hby at_172) rfl rfl (pc' := 174) rfl ?_
       refine k_iconst X2593 hx (hb hby at_174) (pc' := 175) rfl (z := (3 : Int32)) rfl ?_
       refine k_iload X2593 hx (hb hby at_175) rfl (pc' := 177) rfl ?_
       refine k_iload X2593 hx (hb hby at_177) rfl (pc' := 179) rfl ?_
       refine k_iload X2593 hx (hb hby at_179) rfl (pc' := 181) rfl ?_
       refine k_callS X2593 hx hZ hown (hw _ (List.mem_of_getElem? (i := 2) rfl)) (hw _ (List.mem_of_getElem? (i := 3) rfl)) (hw _ (List.mem_of_getElem? (i := 4) rfl)) (hw _ (List.mem_of_getElem? (i := 5) rfl)) (by decide) (rm1_170 l Z a0 hw [] b1 (3 : Int32) (1 : Int32) v2562 k1 v2 v5 v8 v11 h12 n0 Z12 Vw12) (by decide) (by decide) e2593 (by rw [hml]; rfl) (argsL := [(.ref b1), (.int (3 : Int32)), (.int (3 : Int32)), (.int (1 : Int32)), (.int v2562)]) (rest := []) (lenOf pd_0 rfl) rfl (W := 0) (Nat.le_refl _) rfl (hb hby at_181) (by decide) (by decide) (pc' := 184) rfl (fun T2607 L2607 r2607 X2607 q2607 => ?_)
       obtain ⟨N2607, e2607, q2607⟩ := q2607
       have N2607' := Fr.app N2593' N2607
       rcases q2607 with ⟨hc2608, rfl⟩ | ⟨hc2609, hc2610, rfl⟩ | ⟨v2611, h2612, hc2613, hc2614, hc2615, rfl⟩ | ⟨v2616, h2617, hc2618, hc2619, hc2620, rfl⟩
       ·
        show KEnds p e below s _ _ _ T2607 (mkF m 184 #[.val (.int i0), .val (.int i1), .val (.int i2), .val (.int i3), .val (.int i4), .val (.int i5), .val (.ref b1), .val (.int (3 : Int32)), .val (.int (1 : Int32)), .val (.int v2537), .val (.int v2562), .unset] [(.int (0 : Int32))])
        exact absurd hc2608 (by decide)
       ·
        show KEnds p e below s _ _ _ T2607 (mkF m 184 #[.val (.int i0), .val (.int i1), .val (.int i2), .val (.int i3), .val (.int i4), .val (.int i5), .val (.ref b1), .val (.int (3 : Int32)), .val (.int (1 : Int32)), .val (.int v2537), .val (.int v2562), .unset] [(.int (0 : Int32))])
        refine k_if_eq X2607 hx (hb hby at_184) (pn := 187) rfl (py := 193) (by decide) (fun _ => ?_) (fun hc => absurd (by decide) hc)
        refine k_iconst X2607 hx (hb hby at_193) (pc' := 194) rfl (z := (-1 : Int32)) rfl ?_
        refine k_istore X2607 hx (hb hby at_194) (Ls' := #[.val (.int i0), .val (.int i1), .val (.int i2), .val (.int i3), .val (.int i4), .val (.int i5), .val (.ref b1), .val (.int (3 : Int32)), .val (.int (1 : Int32)), .val (.int v2537), .val (.int v2562), .val (.int (-1 : Int32))]) rfl (pc' := 196) rfl ?_
        refine k_aload X2607 hx (hb hby at_196) rfl rfl (pc' := 198) rfl ?_
        refine k_iload X2607 hx (hb hby at_198) rfl (pc' := 200) rfl ?_
        refine k_iload X2607 hx (hb hby at_200) rfl (pc' := 202) rfl ?_
        refine k_iload X2607 hx (hb hby at_202) rfl (pc' := 204) rfl ?_
        refine k_callS X2607 hx hZ hown (hw _ (List.mem_of_getElem? (i := 6) rfl)) (hw _ (List.mem_of_getElem? (i := 7) rfl)) (hw _ (List.mem_of_getElem? (i := 8) rfl)) (hw _ (List.mem_of_getElem? (i := 9) rfl)) (by decide) (rm2_2621 l Z a0 hw [] b1 v2562 k1 v2 v5 v8 v11 h12 n0 Z12 Vw12) (by decide) (by decide) e2607 (by rw [hml]; rfl) (argsL := [(.ref b1), (.int (3 : Int32)), (.int (1 : Int32)), (.int v2562)]) (rest := []) (lenOf pd_1 rfl) rfl (W := 0) (Nat.le_refl _) rfl (hb hby at_204) (by decide) (by decide) (pc' := 207) rfl (fun T2623 L2623 r2623 X2623 q2623 => ?_)
        obtain ⟨N2623, e2623, q2623⟩ := q2623
        have N2623' := Fr.app N2607' N2623
        rcases q2623 with ⟨hc2624, rfl⟩ | ⟨hc2625, rfl⟩
        ·
         show KEnds p e below s _ _ _ T2623 (mkF m 207 #[.val (.int i0), .val (.int i1), .val (.int i2), .val (.int i3), .val (.int i4), .val (.int i5), .val (.ref b1), .val (.int (3 : Int32)), .val (.int (1 : Int32)), .val (.int v2537), .val (.int v2562), .val (.int (-1 : Int32))] [(.int (-1 : Int32))])
         refine k_iload X2623 hx (hb hby at_207) rfl (pc' := 209) rfl ?_
         refine k_icmp_ne X2623 hx (hb hby at_209) (pn := 212) rfl (py := 216) (by decide) (fun hc => absurd (by decide) hc) (fun _ => ?_)
         refine k_iconst X2623 hx (hb hby at_212) (pc' := 213) rfl (z := (1 : Int32)) rfl ?_
         refine k_goto X2623 hx (hb hby at_213) (pc' := 217) (by decide) ?_
         exact k_retN X2623 hx (t := .boolean) Bd.returns (by simp) (hb hby at_217) hlk (by decide) (by decide) (z' := (1 : Int32)) rfl ⟨rfl, N2623'⟩
        ·
         show KEnds p e below s _ _ _ T2623 (mkF m 207 #[.val (.int i0), .val (.int i1), .val (.int i2), .val (.int i3), .val (.int i4), .val (.int i5), .val (.ref b1), .val (.int (3 : Int32)), .val (.int (1 : Int32)), .val (.int v2537), .val (.int v2562), .val (.int (-1 : Int32))] [(.int (-1 : Int32))])
         exact absurd hc2625 hc2564
       ·
        show KEnds p e below s _ _ _ T2607 (mkF m 184 #[.val (.int i0), .val (.int i1), .val (.int i2), .val (.int i3), .val (.int i4), .val (.int i5), .val (.ref b1), .val (.int (3 : Int32)), .val (.int (1 : Int32)), .val (.int v2537), .val (.int v2562), .unset] [(.int (0 : Int32))])
        exact absurd hc2614 (by decide)
       ·
        show KEnds p e below s _ _ _ T2607 (mkF m 184 #[.val (.int i0), .val (.int i1), .val (.int i2), .val (.int i3), .val (.int i4), .val (.int i5), .val (.ref b1), .val (.int (3 : Int32)), .val (.int (1 : Int32)), .val (.int v2537), .val (.int v2562), .unset] [(.int (1 : Int32))])
        exact absurd hc2619 (by decide)
      ·
       show KEnds p e below s _ _ _ T2593 (mkF m 163 #[.val (.int i0), .val (.int i1), .val (.int i2), .val (.int i3), .val (.int i4), .val (.int i5), .val (.ref b1), .val (.int (3 : Int32)), .val (.int (1 : Int32)), .val (.int v2537), .val (.int v2562), .unset] [(.int (0 : Int32))])
       exact absurd (by decide) hc2595
      ·
       show KEnds p e below s _ _ _ T2593 (mkF m 163 #[.val (.int i0), .val (.int i1), .val (.int i2), .val (.int i3), .val (.int i4), .val (.int i5), .val (.ref b1), .val (.int (3 : Int32)), .val (.int (1 : Int32)), .val (.int v2537), .val (.int v2562), .unset] [(.int (0 : Int32))])
       exact absurd (by decide) hc2599
      ·
       show KEnds p e below s _ _ _ T2593 (mkF m 163 #[.val (.int i0), .val (.int i1), .val (.int i2), .val (.int i3), .val (.int i4), .val (.int i5), .val (.ref b1), .val (.int (3 : Int32)), .val (.int (1 : Int32)), .val (.int v2537), .val (.int v2562), .unset] [(.int (1 : Int32))])
       exact absurd (by decide) hc2604
     ·
      show KEnds p e below s _ _ _ T2579 (mkF m 142 #[.val (.int i0), .val (.int i1), .val (.int i2), .val (.int i3), .val (.int i4), .val (.int i5), .val (.ref b1), .val (.int (3 : Int32)), .val (.int (1 : Int32)), .val (.int v2537), .val (.int v2562), .unset] [(.int (0 : Int32))])
      exact absurd (by decide) hc2581
     ·
      show KEnds p e below s _ _ _ T2579 (mkF m 142 #[.val (.int i0), .val (.int i1), .val (.int i2), .val (.int i3), .val (.int i4), .val (.int i5), .val (.ref b1), .val (.int (3 : Int32)), .val (.int (1 : Int32)), .val (.int v2537), .val (.int v2562), .unset] [(.int (0 : Int32))])
      exact absurd (by decide) hc2585
     ·
      show KEnds p e below s _ _ _ T2579 (mkF m 142 #[.val (.int i0), .val (.int i1), .val (.int i2), .val (.int i3), .val (.int i4), .val (.int i5), .val (.ref b1), .val (.int (3 : Int32)), .val (.int (1 : Int32)), .val (.int v2537), .val (.int v2562), .unset] [(.int (1 : Int32))])
      exact absurd (by decide) hc2590
    ·
     show KEnds p e below s _ _ _ T2565 (mkF m 121 #[.val (.int i0), .val (.int i1), .val (.int i2), .val (.int i3), .val (.int i4), .val (.int i5), .val (.ref b1), .val (.int (3 : Int32)), .val (.int (1 : Int32)), .val (.int v2537), .val (.int v2562), .unset] [(.int (0 : Int32))])
     exact absurd (by decide) hc2567
    ·
     show KEnds p e below s _ _ _ T2565 (mkF m 121 #[.val (.int i0), .val (.int i1), .val (.int i2), .val (.int i3), .val (.int i4), .val (.int i5), .val (.ref b1), .val (.int (3 : Int32)), .val (.int (1 : Int32)), .val (.int v2537), .val (.int v2562), .unset] [(.int (0 : Int32))])
     exact absurd (by decide) hc2571
    ·
     show KEnds p e below s _ _ _ T2565 (mkF m 121 #[.val (.int i0), .val (.int i1), .val (.int i2), .val (.int i3), .val (.int i4), .val (.int i5), .val (.ref b1), .val (.int (3 : Int32)), .val (.int (1 : Int32)), .val (.int v2537), .val (.int v2562), .unset] [(.int (1 : Int32))])
     exact absurd (by decide) hc2576
   ·
    refine k_iconst X12 hx (hb hby at_103) (pc' := 104) rfl (z := (-1 : Int32)) rfl ?_
    refine k_istore X12 hx (hb hby at_104) (Ls' := #[.val (.int i0), .val (.int i1), .val (.int i2), .val (.int i3), .val (.int i4), .val (.int i5), .val (.ref b1), .val (.int (3 : Int32)), .val (.int (1 : Int32)), .val (.int v2537), .val (.int v2562), .val (.int (-1 : Int32))]) rfl (pc' := 106) rfl ?_
    refine k_goto X12 hx (hb hby at_106) (pc' := 196) (by decide) ?_
    refine k_aload X12 hx (hb hby at_196) rfl rfl (pc' := 198) rfl ?_
    refine k_iload X12 hx (hb hby at_198) rfl (pc' := 200) rfl ?_
    refine k_iload X12 hx (hb hby at_200) rfl (pc' := 202) rfl ?_
    refine k_iload X12 hx (hb hby at_202) rfl (pc' := 204) rfl ?_
    refine k_callS X12 hx hZ hown (hw _ (List.mem_of_getElem? (i := 6) rfl)) (hw _ (List.mem_of_getElem? (i := 7) rfl)) (hw _ (List.mem_of_getElem? (i := 8) rfl)) (hw _ (List.mem_of_getElem? (i := 9) rfl)) (by decide) (rm2_2621 l Z a0 hw [] b1 v2562 k1 v2 v5 v8 v11 h12 n0 Z12 Vw12) (by decide) (by decide) e12 (by rw [hml]; rfl) (argsL := [(.ref b1), (.int (3 : Int32)), (.int (1 : Int32)), (.int v2562)]) (rest := []) (lenOf pd_1 rfl) rfl (W := 0) (Nat.le_refl _) rfl (hb hby at_204) (by decide) (by decide) (pc' := 207) rfl (fun T2626 L2626 r2626 X2626 q2626 => ?_)
    obtain ⟨N2626, e2626, q2626⟩ := q2626
    have N2626' := Fr.app N12 N2626
    rcases q2626 with ⟨hc2627, rfl⟩ | ⟨hc2628, rfl⟩
    ·
     show KEnds p e below s _ _ _ T2626 (mkF m 207 #[.val (.int i0), .val (.int i1), .val (.int i2), .val (.int i3), .val (.int i4), .val (.int i5), .val (.ref b1), .val (.int (3 : Int32)), .val (.int (1 : Int32)), .val (.int v2537), .val (.int v2562), .val (.int (-1 : Int32))] [(.int (-1 : Int32))])
     exact absurd hc2564 hc2627
    ·
     show KEnds p e below s _ _ _ T2626 (mkF m 207 #[.val (.int i0), .val (.int i1), .val (.int i2), .val (.int i3), .val (.int i4), .val (.int i5), .val (.ref b1), .val (.int (3 : Int32)), .val (.int (1 : Int32)), .val (.int v2537), .val (.int v2562), .val (.int (-1 : Int32))] [(.int (-1 : Int32))])
     refine k_iload X2626 hx (hb hby at_207) rfl (pc' := 209) rfl ?_
     refine k_icmp_ne X2626 hx (hb hby at_209) (pn := 212) rfl (py := 216) (by decide) (fun hc => absurd (by decide) hc) (fun _ => ?_)
     refine k_iconst X2626 hx (hb hby at_212) (pc' := 213) rfl (z := (1 : Int32)) rfl ?_
     refine k_goto X2626 hx (hb hby at_213) (pc' := 217) (by decide) ?_
     exact k_retN X2626 hx (t := .boolean) Bd.returns (by simp) (hb hby at_217) hlk (by decide) (by decide) (z' := (1 : Int32)) rfl ⟨rfl, N2626'⟩
  ·
   show KEnds p e below s _ _ _ T12 (mkF m 44 #[.val (.int i0), .val (.int i1), .val (.int i2), .val (.int i3), .val (.int i4), .val (.int i5), .val (.ref b1), .val (.int (3 : Int32)), .unset, .unset, .unset, .unset] [(.int (2 : Int32))])
   refine k_istore X12 hx (hb hby at_44) (Ls' := #[.val (.int i0), .val (.int i1), .val (.int i2), .val (.int i3), .val (.int i4), .val (.int i5), .val (.ref b1), .val (.int (3 : Int32)), .val (.int (2 : Int32)), .unset, .unset, .unset]) rfl (pc' := 46) rfl ?_
   refine k_iload X12 hx (hb hby at_46) rfl (pc' := 48) rfl ?_
   refine k_iconst X12 hx (hb hby at_48) (pc' := 49) rfl (z := (3 : Int32)) rfl ?_
   refine k_iand X12 hx (hb hby at_49) (pc' := 50) rfl (fun v2630 hv2630 => ?_)
   refine k_istore X12 hx (hb hby at_50) (Ls' := #[.val (.int i0), .val (.int i1), .val (.int i2), .val (.int i3), .val (.int i4), .val (.int i5), .val (.ref b1), .val (.int (3 : Int32)), .val (.int (2 : Int32)), .val (.int v2630), .unset, .unset]) rfl (pc' := 52) rfl ?_
   suffices key2631 : ∀ (v2655 : Int32), KEnds p e below s 16 128 (Q0 n0) T12 (mkF m 97 #[.val (.int i0), .val (.int i1), .val (.int i2), .val (.int i3), .val (.int i4), .val (.int i5), .val (.ref b1), .val (.int (3 : Int32)), .val (.int (2 : Int32)), .val (.int v2630), .val (.int v2655), .unset] []) by
    refine k_iload X12 hx (hb hby at_52) rfl (pc' := 54) rfl ?_
    refine k_if_ne X12 hx (hb hby at_54) (pn := 57) rfl (py := 63) (by decide) (fun hc2632 => ?_) (fun hc2632 => ?_)
    ·
     refine k_iload X12 hx (hb hby at_63) rfl (pc' := 65) rfl ?_
     refine k_iconst X12 hx (hb hby at_65) (pc' := 66) rfl (z := (1 : Int32)) rfl ?_
     refine k_icmp_ne X12 hx (hb hby at_66) (pn := 69) rfl (py := 87) (by decide) (fun hc2633 => ?_) (fun hc2633 => ?_)
     ·
      refine k_iload X12 hx (hb hby at_87) rfl (pc' := 89) rfl ?_
      refine k_iconst X12 hx (hb hby at_89) (pc' := 90) rfl (z := (2 : Int32)) rfl ?_
      refine k_iushr X12 hx (hb hby at_90) (pc' := 91) rfl (fun v2634 hv2634 => ?_)
      refine k_sipush X12 hx (hb hby at_91) (pc' := 94) rfl (z := (255 : Int32)) rfl ?_
      refine k_iand X12 hx (hb hby at_94) (pc' := 95) rfl (fun v2635 hv2635 => ?_)
      refine k_istore X12 hx (hb hby at_95) (Ls' := #[.val (.int i0), .val (.int i1), .val (.int i2), .val (.int i3), .val (.int i4), .val (.int i5), .val (.ref b1), .val (.int (3 : Int32)), .val (.int (2 : Int32)), .val (.int v2630), .val (.int v2635), .unset]) rfl (pc' := 97) rfl ?_
      exact key2631 v2635
     ·
      refine k_aload X12 hx (hb hby at_69) rfl rfl (pc' := 71) rfl ?_
      refine k_iload X12 hx (hb hby at_71) rfl (pc' := 73) rfl ?_
      refine k_iconst X12 hx (hb hby at_73) (pc' := 74) rfl (z := (2 : Int32)) rfl ?_
      refine k_iushr X12 hx (hb hby at_74) (pc' := 75) rfl (fun v2636 hv2636 => ?_)
      refine k_iconst X12 hx (hb hby at_75) (pc' := 76) rfl (z := (3 : Int32)) rfl ?_
      refine k_iand X12 hx (hb hby at_76) (pc' := 77) rfl (fun v2637 hv2637 => ?_)
      have hj2638 : ¬ v2637 < 0 ∧ v2637 < (4 : Int32) := by
       refine ⟨?_, ?_⟩
       ·
        intro hq2639
        have := rng32 v2630
        have := rng32 i5
        have : (3 : Int32).toInt = 3 := (by decide)
        have q2640 : v2630.toInt = i5.toInt % 4 := (by rw [hv2630]; exact c_mask _ _ 2 (by decide) (by decide))
        have : (0 : Int32).toInt = 0 := (by decide)
        have q2641 : ¬ v2630.toInt = (0 : Int32).toInt := fun q => hc2632 (Int32.toInt_inj.mp q)
        have : (1 : Int32).toInt = 1 := (by decide)
        have q2642 := congrArg Int32.toInt hc2633
        have := rng32 v2637
        have := rng32 v2636
        have : (2 : Int32).toInt = 2 := (by decide)
        have q2643 : v2636.toInt = (i5.toInt % 4294967296) / 4 := (by rw [hv2636]; exact c_iushr _ _ 2 (by decide) (by decide))
        have q2644 : v2637.toInt = v2636.toInt % 4 := (by rw [hv2637]; exact c_mask _ _ 2 (by decide) (by decide))
        have q2645 := hq2639; rw [Int32.lt_iff_toInt_lt] at q2645
        omega
       ·
        refine Classical.byContradiction (fun hq2646 => ?_)
        have := rng32 v2630
        have := rng32 i5
        have : (3 : Int32).toInt = 3 := (by decide)
        have q2647 : v2630.toInt = i5.toInt % 4 := (by rw [hv2630]; exact c_mask _ _ 2 (by decide) (by decide))
        have : (0 : Int32).toInt = 0 := (by decide)
        have q2648 : ¬ v2630.toInt = (0 : Int32).toInt := fun q => hc2632 (Int32.toInt_inj.mp q)
        have : (1 : Int32).toInt = 1 := (by decide)
        have q2649 := congrArg Int32.toInt hc2633
        have := rng32 v2637
        have := rng32 v2636
        have : (2 : Int32).toInt = 2 := (by decide)
        have q2650 : v2636.toInt = (i5.toInt % 4294967296) / 4 := (by rw [hv2636]; exact c_iushr _ _ 2 (by decide) (by decide))
        have q2651 : v2637.toInt = v2636.toInt % 4 := (by rw [hv2637]; exact c_mask _ _ 2 (by decide) (by decide))
        have : (4 : Int32).toInt = 4 := (by decide)
        have q2652 := hq2646; rw [Int32.lt_iff_toInt_lt] at q2652
        omega
      refine k_baloadS X12 hx hZ e12 Vw12 hj2638 (hb hby at_77) (pc' := 78) rfl (fun v2653 hv2653 => ?_)
      refine k_sipush X12 hx (hb hby at_78) (pc' := 81) rfl (z := (255 : Int32)) rfl ?_
      refine k_iand X12 hx (hb hby at_81) (pc' := 82) rfl (fun v2654 hv2654 => ?_)
      refine k_istore X12 hx (hb hby at_82) (Ls' := #[.val (.int i0), .val (.int i1), .val (.int i2), .val (.int i3), .val (.int i4), .val (.int i5), .val (.ref b1), .val (.int (3 : Int32)), .val (.int (2 : Int32)), .val (.int v2630), .val (.int v2654), .unset]) rfl (pc' := 84) rfl ?_
      refine k_goto X12 hx (hb hby at_84) (pc' := 97) (by decide) ?_
      exact key2631 v2654
    ·
     refine k_iconst X12 hx (hb hby at_57) (pc' := 58) rfl (z := (-1 : Int32)) rfl ?_
     refine k_istore X12 hx (hb hby at_58) (Ls' := #[.val (.int i0), .val (.int i1), .val (.int i2), .val (.int i3), .val (.int i4), .val (.int i5), .val (.ref b1), .val (.int (3 : Int32)), .val (.int (2 : Int32)), .val (.int v2630), .val (.int (-1 : Int32)), .unset]) rfl (pc' := 60) rfl ?_
     refine k_goto X12 hx (hb hby at_60) (pc' := 97) (by decide) ?_
     exact key2631 (-1 : Int32)
   intro v2655
   refine k_iload X12 hx (hb hby at_97) rfl (pc' := 99) rfl ?_
   refine k_iconst X12 hx (hb hby at_99) (pc' := 100) rfl (z := (-1 : Int32)) rfl ?_
   refine k_icmp_ne X12 hx (hb hby at_100) (pn := 103) rfl (py := 109) (by decide) (fun hc2657 => ?_) (fun hc2657 => ?_)
   ·
    refine k_aload X12 hx (hb hby at_109) rfl rfl (pc' := 111) rfl ?_
    refine k_iconst X12 hx (hb hby at_111) (pc' := 112) rfl (z := (0 : Int32)) rfl ?_
    refine k_iload X12 hx (hb hby at_112) rfl (pc' := 114) rfl ?_
    refine k_iload X12 hx (hb hby at_114) rfl (pc' := 116) rfl ?_
    refine k_iload X12 hx (hb hby at_116) rfl (pc' := 118) rfl ?_
    refine k_callS X12 hx hZ hown (hw _ (List.mem_of_getElem? (i := 2) rfl)) (hw _ (List.mem_of_getElem? (i := 3) rfl)) (hw _ (List.mem_of_getElem? (i := 4) rfl)) (hw _ (List.mem_of_getElem? (i := 5) rfl)) (by decide) (rm1_113 l Z a0 hw [] b1 (3 : Int32) (2 : Int32) v2655 k1 v2 v5 v8 v11 h12 n0 Z12 Vw12) (by decide) (by decide) e12 (by rw [hml]; rfl) (argsL := [(.ref b1), (.int (0 : Int32)), (.int (3 : Int32)), (.int (2 : Int32)), (.int v2655)]) (rest := []) (lenOf pd_0 rfl) rfl (W := 0) (Nat.le_refl _) rfl (hb hby at_118) (by decide) (by decide) (pc' := 121) rfl (fun T2658 L2658 r2658 X2658 q2658 => ?_)
    obtain ⟨N2658, e2658, q2658⟩ := q2658
    have N2658' := Fr.app N12 N2658
    rcases q2658 with ⟨hc2659, rfl⟩ | ⟨hc2660, hc2661, rfl⟩ | ⟨v2662, h2663, hc2664, hc2665, hc2666, rfl⟩ | ⟨v2667, h2668, hc2669, hc2670, hc2671, rfl⟩
    ·
     show KEnds p e below s _ _ _ T2658 (mkF m 121 #[.val (.int i0), .val (.int i1), .val (.int i2), .val (.int i3), .val (.int i4), .val (.int i5), .val (.ref b1), .val (.int (3 : Int32)), .val (.int (2 : Int32)), .val (.int v2630), .val (.int v2655), .unset] [(.int (0 : Int32))])
     refine k_if_eq X2658 hx (hb hby at_121) (pn := 124) rfl (py := 130) (by decide) (fun _ => ?_) (fun hc => absurd (by decide) hc)
     refine k_aload X2658 hx (hb hby at_130) rfl rfl (pc' := 132) rfl ?_
     refine k_iconst X2658 hx (hb hby at_132) (pc' := 133) rfl (z := (1 : Int32)) rfl ?_
     refine k_iload X2658 hx (hb hby at_133) rfl (pc' := 135) rfl ?_
     refine k_iload X2658 hx (hb hby at_135) rfl (pc' := 137) rfl ?_
     refine k_iload X2658 hx (hb hby at_137) rfl (pc' := 139) rfl ?_
     refine k_callS X2658 hx hZ hown (hw _ (List.mem_of_getElem? (i := 2) rfl)) (hw _ (List.mem_of_getElem? (i := 3) rfl)) (hw _ (List.mem_of_getElem? (i := 4) rfl)) (hw _ (List.mem_of_getElem? (i := 5) rfl)) (by decide) (rm1_132 l Z a0 hw [] b1 (3 : Int32) (2 : Int32) v2655 k1 v2 v5 v8 v11 h12 n0 Z12 Vw12) (by decide) (by decide) e2658 (by rw [hml]; rfl) (argsL := [(.ref b1), (.int (1 : Int32)), (.int (3 : Int32)), (.int (2 : Int32)), (.int v2655)]) (rest := []) (lenOf pd_0 rfl) rfl (W := 0) (Nat.le_refl _) rfl (hb hby at_139) (by decide) (by decide) (pc' := 142) rfl (fun T2672 L2672 r2672 X2672 q2672 => ?_)
     obtain ⟨N2672, e2672, q2672⟩ := q2672
     have N2672' := Fr.app N2658' N2672
     rcases q2672 with ⟨hc2673, rfl⟩ | ⟨hc2674, hc2675, rfl⟩ | ⟨v2676, h2677, hc2678, hc2679, hc2680, rfl⟩ | ⟨v2681, h2682, hc2683, hc2684, hc2685, rfl⟩
     ·
      show KEnds p e below s _ _ _ T2672 (mkF m 142 #[.val (.int i0), .val (.int i1), .val (.int i2), .val (.int i3), .val (.int i4), .val (.int i5), .val (.ref b1), .val (.int (3 : Int32)), .val (.int (2 : Int32)), .val (.int v2630), .val (.int v2655), .unset] [(.int (0 : Int32))])
      refine k_if_eq X2672 hx (hb hby at_142) (pn := 145) rfl (py := 151) (by decide) (fun _ => ?_) (fun hc => absurd (by decide) hc)
      refine k_aload X2672 hx (hb hby at_151) rfl rfl (pc' := 153) rfl ?_
      refine k_iconst X2672 hx (hb hby at_153) (pc' := 154) rfl (z := (2 : Int32)) rfl ?_
      refine k_iload X2672 hx (hb hby at_154) rfl (pc' := 156) rfl ?_
      refine k_iload X2672 hx (hb hby at_156) rfl (pc' := 158) rfl ?_
      refine k_iload X2672 hx (hb hby at_158) rfl (pc' := 160) rfl ?_
      refine k_callS X2672 hx hZ hown (hw _ (List.mem_of_getElem? (i := 2) rfl)) (hw _ (List.mem_of_getElem? (i := 3) rfl)) (hw _ (List.mem_of_getElem? (i := 4) rfl)) (hw _ (List.mem_of_getElem? (i := 5) rfl)) (by decide) (rm1_151 l Z a0 hw [] b1 (3 : Int32) (2 : Int32) v2655 k1 v2 v5 v8 v11 h12 n0 Z12 Vw12) (by decide) (by decide) e2672 (by rw [hml]; rfl) (argsL := [(.ref b1), (.int (2 : Int32)), (.int (3 : Int32)), (.int (2 : Int32)), (.int v2655)]) (rest := []) (lenOf pd_0 rfl) rfl (W := 0) (Nat.le_refl _) rfl (hb hby at_160) (by decide) (by decide) (pc' := 163) rfl (fun T2686 L2686 r2686 X2686 q2686 => ?_)
      obtain ⟨N2686, e2686, q2686⟩ := q2686
      have N2686' := Fr.app N2672' N2686
      rcases q2686 with ⟨hc2687, rfl⟩ | ⟨hc2688, hc2689, rfl⟩ | ⟨v2690, h2691, hc2692, hc2693, hc2694, rfl⟩ | ⟨v2695, h2696, hc2697, hc2698, hc2699, rfl⟩
      ·
       show KEnds p e below s _ _ _ T2686 (mkF m 163 #[.val (.int i0), .val (.int i1), .val (.int i2), .val (.int i3), .val (.int i4), .val (.int i5), .val (.ref b1), .val (.int (3 : Int32)), .val (.int (2 : Int32)), .val (.int v2630), .val (.int v2655), .unset] [(.int (0 : Int32))])
       refine k_if_eq X2686 hx (hb hby at_163) (pn := 166) rfl (py := 172) (by decide) (fun _ => ?_) (fun hc => absurd (by decide) hc)
       refine k_aload X2686 hx (hb hby at_172) rfl rfl (pc' := 174) rfl ?_
       refine k_iconst X2686 hx (hb hby at_174) (pc' := 175) rfl (z := (3 : Int32)) rfl ?_
       refine k_iload X2686 hx (hb hby at_175) rfl (pc' := 177) rfl ?_
       refine k_iload X2686 hx (hb hby at_177) rfl (pc' := 179) rfl ?_
       refine k_iload X2686 hx (hb hby at_179) rfl (pc' := 181) rfl ?_
       refine k_callS X2686 hx hZ hown (hw _ (List.mem_of_getElem? (i := 2) rfl)) (hw _ (List.mem_of_getElem? (i := 3) rfl)) (hw _ (List.mem_of_getElem? (i := 4) rfl)) (hw _ (List.mem_of_getElem? (i := 5) rfl)) (by decide) (rm1_170 l Z a0 hw [] b1 (3 : Int32) (2 : Int32) v2655 k1 v2 v5 v8 v11 h12 n0 Z12 Vw12) (by decide) (by decide) e2686 (by rw [hml]; rfl) (argsL := [(.ref b1), (.int (3 : Int32)), (.int (3 : Int32)), (.int (2 : Int32)), (.int v2655)]) (rest := []) (lenOf pd_0 rfl) rfl (W := 0) (Nat.le_refl _) rfl (hb hby at_181) (by decide) (by decide) (pc' := 184) rfl (fun T2700 L2700 r2700 X2700 q2700 => ?_)
       obtain ⟨N2700, e2700, q2700⟩ := q2700
       have N2700' := Fr.app N2686' N2700
       rcases q2700 with ⟨hc2701, rfl⟩ | ⟨hc2702, hc2703, rfl⟩ | ⟨v2704, h2705, hc2706, hc2707, hc2708, rfl⟩ | ⟨v2709, h2710, hc2711, hc2712, hc2713, rfl⟩
       ·
        show KEnds p e below s _ _ _ T2700 (mkF m 184 #[.val (.int i0), .val (.int i1), .val (.int i2), .val (.int i3), .val (.int i4), .val (.int i5), .val (.ref b1), .val (.int (3 : Int32)), .val (.int (2 : Int32)), .val (.int v2630), .val (.int v2655), .unset] [(.int (0 : Int32))])
        exact absurd hc2701 (by decide)
       ·
        show KEnds p e below s _ _ _ T2700 (mkF m 184 #[.val (.int i0), .val (.int i1), .val (.int i2), .val (.int i3), .val (.int i4), .val (.int i5), .val (.ref b1), .val (.int (3 : Int32)), .val (.int (2 : Int32)), .val (.int v2630), .val (.int v2655), .unset] [(.int (0 : Int32))])
        refine k_if_eq X2700 hx (hb hby at_184) (pn := 187) rfl (py := 193) (by decide) (fun _ => ?_) (fun hc => absurd (by decide) hc)
        refine k_iconst X2700 hx (hb hby at_193) (pc' := 194) rfl (z := (-1 : Int32)) rfl ?_
        refine k_istore X2700 hx (hb hby at_194) (Ls' := #[.val (.int i0), .val (.int i1), .val (.int i2), .val (.int i3), .val (.int i4), .val (.int i5), .val (.ref b1), .val (.int (3 : Int32)), .val (.int (2 : Int32)), .val (.int v2630), .val (.int v2655), .val (.int (-1 : Int32))]) rfl (pc' := 196) rfl ?_
        refine k_aload X2700 hx (hb hby at_196) rfl rfl (pc' := 198) rfl ?_
        refine k_iload X2700 hx (hb hby at_198) rfl (pc' := 200) rfl ?_
        refine k_iload X2700 hx (hb hby at_200) rfl (pc' := 202) rfl ?_
        refine k_iload X2700 hx (hb hby at_202) rfl (pc' := 204) rfl ?_
        refine k_callS X2700 hx hZ hown (hw _ (List.mem_of_getElem? (i := 6) rfl)) (hw _ (List.mem_of_getElem? (i := 7) rfl)) (hw _ (List.mem_of_getElem? (i := 8) rfl)) (hw _ (List.mem_of_getElem? (i := 9) rfl)) (by decide) (rm2_2714 l Z a0 hw [] b1 v2655 k1 v2 v5 v8 v11 h12 n0 Z12 Vw12) (by decide) (by decide) e2700 (by rw [hml]; rfl) (argsL := [(.ref b1), (.int (3 : Int32)), (.int (2 : Int32)), (.int v2655)]) (rest := []) (lenOf pd_1 rfl) rfl (W := 0) (Nat.le_refl _) rfl (hb hby at_204) (by decide) (by decide) (pc' := 207) rfl (fun T2716 L2716 r2716 X2716 q2716 => ?_)
        obtain ⟨N2716, e2716, q2716⟩ := q2716
        have N2716' := Fr.app N2700' N2716
        rcases q2716 with ⟨hc2717, rfl⟩ | ⟨hc2718, rfl⟩
        ·
         show KEnds p e below s _ _ _ T2716 (mkF m 207 #[.val (.int i0), .val (.int i1), .val (.int i2), .val (.int i3), .val (.int i4), .val (.int i5), .val (.ref b1), .val (.int (3 : Int32)), .val (.int (2 : Int32)), .val (.int v2630), .val (.int v2655), .val (.int (-1 : Int32))] [(.int (-1 : Int32))])
         refine k_iload X2716 hx (hb hby at_207) rfl (pc' := 209) rfl ?_
         refine k_icmp_ne X2716 hx (hb hby at_209) (pn := 212) rfl (py := 216) (by decide) (fun hc => absurd (by decide) hc) (fun _ => ?_)
         refine k_iconst X2716 hx (hb hby at_212) (pc' := 213) rfl (z := (1 : Int32)) rfl ?_
         refine k_goto X2716 hx (hb hby at_213) (pc' := 217) (by decide) ?_
         exact k_retN X2716 hx (t := .boolean) Bd.returns (by simp) (hb hby at_217) hlk (by decide) (by decide) (z' := (1 : Int32)) rfl ⟨rfl, N2716'⟩
        ·
         show KEnds p e below s _ _ _ T2716 (mkF m 207 #[.val (.int i0), .val (.int i1), .val (.int i2), .val (.int i3), .val (.int i4), .val (.int i5), .val (.ref b1), .val (.int (3 : Int32)), .val (.int (2 : Int32)), .val (.int v2630), .val (.int v2655), .val (.int (-1 : Int32))] [(.int (-1 : Int32))])
         exact absurd hc2718 hc2657
       ·
        show KEnds p e below s _ _ _ T2700 (mkF m 184 #[.val (.int i0), .val (.int i1), .val (.int i2), .val (.int i3), .val (.int i4), .val (.int i5), .val (.ref b1), .val (.int (3 : Int32)), .val (.int (2 : Int32)), .val (.int v2630), .val (.int v2655), .unset] [(.int (0 : Int32))])
        exact absurd hc2707 (by decide)
       ·
        show KEnds p e below s _ _ _ T2700 (mkF m 184 #[.val (.int i0), .val (.int i1), .val (.int i2), .val (.int i3), .val (.int i4), .val (.int i5), .val (.ref b1), .val (.int (3 : Int32)), .val (.int (2 : Int32)), .val (.int v2630), .val (.int v2655), .unset] [(.int (1 : Int32))])
        exact absurd hc2712 (by decide)
      ·
       show KEnds p e below s _ _ _ T2686 (mkF m 163 #[.val (.int i0), .val (.int i1), .val (.int i2), .val (.int i3), .val (.int i4), .val (.int i5), .val (.ref b1), .val (.int (3 : Int32)), .val (.int (2 : Int32)), .val (.int v2630), .val (.int v2655), .unset] [(.int (0 : Int32))])
       exact absurd (by decide) hc2688
      ·
       show KEnds p e below s _ _ _ T2686 (mkF m 163 #[.val (.int i0), .val (.int i1), .val (.int i2), .val (.int i3), .val (.int i4), .val (.int i5), .val (.ref b1), .val (.int (3 : Int32)), .val (.int (2 : Int32)), .val (.int v2630), .val (.int v2655), .unset] [(.int (0 : Int32))])
       exact absurd (by decide) hc2692
      ·
       show KEnds p e below s _ _ _ T2686 (mkF m 163 #[.val (.int i0), .val (.int i1), .val (.int i2), .val (.int i3), .val (.int i4), .val (.int i5), .val (.ref b1), .val (.int (3 : Int32)), .val (.int (2 : Int32)), .val (.int v2630), .val (.int v2655), .unset] [(.int (1 : Int32))])
       exact absurd (by decide) hc2697
     ·
      show KEnds p e below s _ _ _ T2672 (mkF m 142 #[.val (.int i0), .val (.int i1), .val (.int i2), .val (.int i3), .val (.int i4), .val (.int i5), .val (.ref b1), .val (.int (3 : Int32)), .val (.int (2 : Int32)), .val (.int v2630), .val (.int v2655), .unset] [(.int (0 : Int32))])
      exact absurd (by decide) hc2674
     ·
      show KEnds p e below s _ _ _ T2672 (mkF m 142 #[.val (.int i0), .val (.int i1), .val (.int i2), .val (.int i3), .val (.int i4), .val (.int i5), .val (.ref b1), .val (.int (3 : Int32)), .val (.int (2 : Int32)), .val (.int v2630), .val (.int v2655), .unset] [(.int (0 : Int32))])
      exact absurd (by decide) hc2678
     ·
      show KEnds p e below s _ _ _ T2672 (mkF m 142 #[.val (.int i0), .val (.int i1), .val (.int i2), .val (.int i3), .val (.int i4), .val (.int i5), .val (.ref b1), .val (.int (3 : Int32)), .val (.int (2 : Int32)), .val (.int v2630), .val (.int v2655), .unset] [(.int (1 : Int32))])
      exact absurd (by decide) hc2683
    ·
     show KEnds p e below s _ _ _ T2658 (mkF m 121 #[.val (.int i0), .val (.int i1), .val (.int i2), .val (.int i3), .val (.int i4), .val (.int i5), .val (.ref b1), .val (.int (3 : Int32)), .val (.int (2 : Int32)), .val (.int v2630), .val (.int v2655), .unset] [(.int (0 : Int32))])
     exact absurd (by decide) hc2660
    ·
     show KEnds p e below s _ _ _ T2658 (mkF m 121 #[.val (.int i0), .val (.int i1), .val (.int i2), .val (.int i3), .val (.int i4), .val (.int i5), .val (.ref b1), .val (.int (3 : Int32)), .val (.int (2 : Int32)), .val (.int v2630), .val (.int v2655), .unset] [(.int (0 : Int32))])
     exact absurd (by decide) hc2664
    ·
     show KEnds p e below s _ _ _ T2658 (mkF m 121 #[.val (.int i0), .val (.int i1), .val (.int i2), .val (.int i3), .val (.int i4), .val (.int i5), .val (.ref b1), .val (.int (3 : Int32)), .val (.int (2 : Int32)), .val (.int v2630), .val (.int v2655), .unset] [(.int (1 : Int32))])
     exact absurd (by decide) hc2669
   ·
    refine k_iconst X12 hx (hb hby at_103) (pc' := 104) rfl (z := (-1 : Int32)) rfl ?_
    refine k_istore X12 hx (hb hby at_104) (Ls' := #[.val (.int i0), .val (.int i1), .val (.int i2), .val (.int i3), .val (.int i4), .val (.int i5), .val (.ref b1), .val (.int (3 : Int32)), .val (.int (2 : Int32)), .val (.int v2630), .val (.int v2655), .val (.int (-1 : Int32))]) rfl (pc' := 106) rfl ?_
    refine k_goto X12 hx (hb hby at_106) (pc' := 196) (by decide) ?_
    refine k_aload X12 hx (hb hby at_196) rfl rfl (pc' := 198) rfl ?_
    refine k_iload X12 hx (hb hby at_198) rfl (pc' := 200) rfl ?_
    refine k_iload X12 hx (hb hby at_200) rfl (pc' := 202) rfl ?_
    refine k_iload X12 hx (hb hby at_202) rfl (pc' := 204) rfl ?_
    refine k_callS X12 hx hZ hown (hw _ (List.mem_of_getElem? (i := 6) rfl)) (hw _ (List.mem_of_getElem? (i := 7) rfl)) (hw _ (List.mem_of_getElem? (i := 8) rfl)) (hw _ (List.mem_of_getElem? (i := 9) rfl)) (by decide) (rm2_2714 l Z a0 hw [] b1 v2655 k1 v2 v5 v8 v11 h12 n0 Z12 Vw12) (by decide) (by decide) e12 (by rw [hml]; rfl) (argsL := [(.ref b1), (.int (3 : Int32)), (.int (2 : Int32)), (.int v2655)]) (rest := []) (lenOf pd_1 rfl) rfl (W := 0) (Nat.le_refl _) rfl (hb hby at_204) (by decide) (by decide) (pc' := 207) rfl (fun T2719 L2719 r2719 X2719 q2719 => ?_)
    obtain ⟨N2719, e2719, q2719⟩ := q2719
    have N2719' := Fr.app N12 N2719
    rcases q2719 with ⟨hc2720, rfl⟩ | ⟨hc2721, rfl⟩
    ·
     show KEnds p e below s _ _ _ T2719 (mkF m 207 #[.val (.int i0), .val (.int i1), .val (.int i2), .val (.int i3), .val (.int i4), .val (.int i5), .val (.ref b1), .val (.int (3 : Int32)), .val (.int (2 : Int32)), .val (.int v2630), .val (.int v2655), .val (.int (-1 : Int32))] [(.int (-1 : Int32))])
     exact absurd hc2657 hc2720
    ·
     show KEnds p e below s _ _ _ T2719 (mkF m 207 #[.val (.int i0), .val (.int i1), .val (.int i2), .val (.int i3), .val (.int i4), .val (.int i5), .val (.ref b1), .val (.int (3 : Int32)), .val (.int (2 : Int32)), .val (.int v2630), .val (.int v2655), .val (.int (-1 : Int32))] [(.int (-1 : Int32))])
     refine k_iload X2719 hx (hb hby at_207) rfl (pc' := 209) rfl ?_
     refine k_icmp_ne X2719 hx (hb hby at_209) (pn := 212) rfl (py := 216) (by decide) (fun hc => absurd (by decide) hc) (fun _ => ?_)
     refine k_iconst X2719 hx (hb hby at_212) (pc' := 213) rfl (z := (1 : Int32)) rfl ?_
     refine k_goto X2719 hx (hb hby at_213) (pc' := 217) (by decide) ?_
     exact k_retN X2719 hx (t := .boolean) Bd.returns (by simp) (hb hby at_217) hlk (by decide) (by decide) (z' := (1 : Int32)) rfl ⟨rfl, N2719'⟩
  ·
   show KEnds p e below s _ _ _ T12 (mkF m 44 #[.val (.int i0), .val (.int i1), .val (.int i2), .val (.int i3), .val (.int i4), .val (.int i5), .val (.ref b1), .val (.int (3 : Int32)), .unset, .unset, .unset, .unset] [(.int (3 : Int32))])
   refine k_istore X12 hx (hb hby at_44) (Ls' := #[.val (.int i0), .val (.int i1), .val (.int i2), .val (.int i3), .val (.int i4), .val (.int i5), .val (.ref b1), .val (.int (3 : Int32)), .val (.int (3 : Int32)), .unset, .unset, .unset]) rfl (pc' := 46) rfl ?_
   refine k_iload X12 hx (hb hby at_46) rfl (pc' := 48) rfl ?_
   refine k_iconst X12 hx (hb hby at_48) (pc' := 49) rfl (z := (3 : Int32)) rfl ?_
   refine k_iand X12 hx (hb hby at_49) (pc' := 50) rfl (fun v2723 hv2723 => ?_)
   refine k_istore X12 hx (hb hby at_50) (Ls' := #[.val (.int i0), .val (.int i1), .val (.int i2), .val (.int i3), .val (.int i4), .val (.int i5), .val (.ref b1), .val (.int (3 : Int32)), .val (.int (3 : Int32)), .val (.int v2723), .unset, .unset]) rfl (pc' := 52) rfl ?_
   suffices key2724 : ∀ (v2748 : Int32), KEnds p e below s 16 128 (Q0 n0) T12 (mkF m 97 #[.val (.int i0), .val (.int i1), .val (.int i2), .val (.int i3), .val (.int i4), .val (.int i5), .val (.ref b1), .val (.int (3 : Int32)), .val (.int (3 : Int32)), .val (.int v2723), .val (.int v2748), .unset] []) by
    refine k_iload X12 hx (hb hby at_52) rfl (pc' := 54) rfl ?_
    refine k_if_ne X12 hx (hb hby at_54) (pn := 57) rfl (py := 63) (by decide) (fun hc2725 => ?_) (fun hc2725 => ?_)
    ·
     refine k_iload X12 hx (hb hby at_63) rfl (pc' := 65) rfl ?_
     refine k_iconst X12 hx (hb hby at_65) (pc' := 66) rfl (z := (1 : Int32)) rfl ?_
     refine k_icmp_ne X12 hx (hb hby at_66) (pn := 69) rfl (py := 87) (by decide) (fun hc2726 => ?_) (fun hc2726 => ?_)
     ·
      refine k_iload X12 hx (hb hby at_87) rfl (pc' := 89) rfl ?_
      refine k_iconst X12 hx (hb hby at_89) (pc' := 90) rfl (z := (2 : Int32)) rfl ?_
      refine k_iushr X12 hx (hb hby at_90) (pc' := 91) rfl (fun v2727 hv2727 => ?_)
      refine k_sipush X12 hx (hb hby at_91) (pc' := 94) rfl (z := (255 : Int32)) rfl ?_
      refine k_iand X12 hx (hb hby at_94) (pc' := 95) rfl (fun v2728 hv2728 => ?_)
      refine k_istore X12 hx (hb hby at_95) (Ls' := #[.val (.int i0), .val (.int i1), .val (.int i2), .val (.int i3), .val (.int i4), .val (.int i5), .val (.ref b1), .val (.int (3 : Int32)), .val (.int (3 : Int32)), .val (.int v2723), .val (.int v2728), .unset]) rfl (pc' := 97) rfl ?_
      exact key2724 v2728
     ·
      refine k_aload X12 hx (hb hby at_69) rfl rfl (pc' := 71) rfl ?_
      refine k_iload X12 hx (hb hby at_71) rfl (pc' := 73) rfl ?_
      refine k_iconst X12 hx (hb hby at_73) (pc' := 74) rfl (z := (2 : Int32)) rfl ?_
      refine k_iushr X12 hx (hb hby at_74) (pc' := 75) rfl (fun v2729 hv2729 => ?_)
      refine k_iconst X12 hx (hb hby at_75) (pc' := 76) rfl (z := (3 : Int32)) rfl ?_
      refine k_iand X12 hx (hb hby at_76) (pc' := 77) rfl (fun v2730 hv2730 => ?_)
      have hj2731 : ¬ v2730 < 0 ∧ v2730 < (4 : Int32) := by
       refine ⟨?_, ?_⟩
       ·
        intro hq2732
        have := rng32 v2723
        have := rng32 i5
        have : (3 : Int32).toInt = 3 := (by decide)
        have q2733 : v2723.toInt = i5.toInt % 4 := (by rw [hv2723]; exact c_mask _ _ 2 (by decide) (by decide))
        have : (0 : Int32).toInt = 0 := (by decide)
        have q2734 : ¬ v2723.toInt = (0 : Int32).toInt := fun q => hc2725 (Int32.toInt_inj.mp q)
        have : (1 : Int32).toInt = 1 := (by decide)
        have q2735 := congrArg Int32.toInt hc2726
        have := rng32 v2730
        have := rng32 v2729
        have : (2 : Int32).toInt = 2 := (by decide)
        have q2736 : v2729.toInt = (i5.toInt % 4294967296) / 4 := (by rw [hv2729]; exact c_iushr _ _ 2 (by decide) (by decide))
        have q2737 : v2730.toInt = v2729.toInt % 4 := (by rw [hv2730]; exact c_mask _ _ 2 (by decide) (by decide))
        have q2738 := hq2732; rw [Int32.lt_iff_toInt_lt] at q2738
        omega
       ·
        refine Classical.byContradiction (fun hq2739 => ?_)
        have := rng32 v2723
        have := rng32 i5
        have : (3 : Int32).toInt = 3 := (by decide)
        have q2740 : v2723.toInt = i5.toInt % 4 := (by rw [hv2723]; exact c_mask _ _ 2 (by decide) (by decide))
        have : (0 : Int32).toInt = 0 := (by decide)
        have q2741 : ¬ v2723.toInt = (0 : Int32).toInt := fun q => hc2725 (Int32.toInt_inj.mp q)
        have : (1 : Int32).toInt = 1 := (by decide)
        have q2742 := congrArg Int32.toInt hc2726
        have := rng32 v2730
        have := rng32 v2729
        have : (2 : Int32).toInt = 2 := (by decide)
        have q2743 : v2729.toInt = (i5.toInt % 4294967296) / 4 := (by rw [hv2729]; exact c_iushr _ _ 2 (by decide) (by decide))
        have q2744 : v2730.toInt = v2729.toInt % 4 := (by rw [hv2730]; exact c_mask _ _ 2 (by decide) (by decide))
        have : (4 : Int32).toInt = 4 := (by decide)
        have q2745 := hq2739; rw [Int32.lt_iff_toInt_lt] at q2745
        omega
      refine k_baloadS X12 hx hZ e12 Vw12 hj2731 (hb hby at_77) (pc' := 78) rfl (fun v2746 hv2746 => ?_)
      refine k_sipush X12 hx (hb hby at_78) (pc' := 81) rfl (z := (255 : Int32)) rfl ?_
      refine k_iand X12 hx (hb hby at_81) (pc' := 82) rfl (fun v2747 hv2747 => ?_)
      refine k_istore X12 hx (hb hby at_82) (Ls' := #[.val (.int i0), .val (.int i1), .val (.int i2), .val (.int i3), .val (.int i4), .val (.int i5), .val (.ref b1), .val (.int (3 : Int32)), .val (.int (3 : Int32)), .val (.int v2723), .val (.int v2747), .unset]) rfl (pc' := 84) rfl ?_
      refine k_goto X12 hx (hb hby at_84) (pc' := 97) (by decide) ?_
      exact key2724 v2747
    ·
     refine k_iconst X12 hx (hb hby at_57) (pc' := 58) rfl (z := (-1 : Int32)) rfl ?_
     refine k_istore X12 hx (hb hby at_58) (Ls' := #[.val (.int i0), .val (.int i1), .val (.int i2), .val (.int i3), .val (.int i4), .val (.int i5), .val (.ref b1), .val (.int (3 : Int32)), .val (.int (3 : Int32)), .val (.int v2723), .val (.int (-1 : Int32)), .unset]) rfl (pc' := 60) rfl ?_
     refine k_goto X12 hx (hb hby at_60) (pc' := 97) (by decide) ?_
     exact key2724 (-1 : Int32)
   intro v2748
   refine k_iload X12 hx (hb hby at_97) rfl (pc' := 99) rfl ?_
   refine k_iconst X12 hx (hb hby at_99) (pc' := 100) rfl (z := (-1 : Int32)) rfl ?_
   refine k_icmp_ne X12 hx (hb hby at_100) (pn := 103) rfl (py := 109) (by decide) (fun hc2750 => ?_) (fun hc2750 => ?_)
   ·
    refine k_aload X12 hx (hb hby at_109) rfl rfl (pc' := 111) rfl ?_
    refine k_iconst X12 hx (hb hby at_111) (pc' := 112) rfl (z := (0 : Int32)) rfl ?_
    refine k_iload X12 hx (hb hby at_112) rfl (pc' := 114) rfl ?_
    refine k_iload X12 hx (hb hby at_114) rfl (pc' := 116) rfl ?_
    refine k_iload X12 hx (hb hby at_116) rfl (pc' := 118) rfl ?_
    refine k_callS X12 hx hZ hown (hw _ (List.mem_of_getElem? (i := 2) rfl)) (hw _ (List.mem_of_getElem? (i := 3) rfl)) (hw _ (List.mem_of_getElem? (i := 4) rfl)) (hw _ (List.mem_of_getElem? (i := 5) rfl)) (by decide) (rm1_56 l Z a0 hw [] b1 (3 : Int32) v2748 k1 v2 v5 v8 v11 h12 n0 Z12 Vw12) (by decide) (by decide) e12 (by rw [hml]; rfl) (argsL := [(.ref b1), (.int (0 : Int32)), (.int (3 : Int32)), (.int (3 : Int32)), (.int v2748)]) (rest := []) (lenOf pd_0 rfl) rfl (W := 0) (Nat.le_refl _) rfl (hb hby at_118) (by decide) (by decide) (pc' := 121) rfl (fun T2751 L2751 r2751 X2751 q2751 => ?_)
    obtain ⟨N2751, e2751, q2751⟩ := q2751
    have N2751' := Fr.app N12 N2751
    rcases q2751 with ⟨hc2752, rfl⟩ | ⟨hc2753, rfl⟩
    ·
     show KEnds p e below s _ _ _ T2751 (mkF m 121 #[.val (.int i0), .val (.int i1), .val (.int i2), .val (.int i3), .val (.int i4), .val (.int i5), .val (.ref b1), .val (.int (3 : Int32)), .val (.int (3 : Int32)), .val (.int v2723), .val (.int v2748), .unset] [(.int (0 : Int32))])
     refine k_if_eq X2751 hx (hb hby at_121) (pn := 124) rfl (py := 130) (by decide) (fun _ => ?_) (fun hc => absurd (by decide) hc)
     refine k_aload X2751 hx (hb hby at_130) rfl rfl (pc' := 132) rfl ?_
     refine k_iconst X2751 hx (hb hby at_132) (pc' := 133) rfl (z := (1 : Int32)) rfl ?_
     refine k_iload X2751 hx (hb hby at_133) rfl (pc' := 135) rfl ?_
     refine k_iload X2751 hx (hb hby at_135) rfl (pc' := 137) rfl ?_
     refine k_iload X2751 hx (hb hby at_137) rfl (pc' := 139) rfl ?_
     refine k_callS X2751 hx hZ hown (hw _ (List.mem_of_getElem? (i := 2) rfl)) (hw _ (List.mem_of_getElem? (i := 3) rfl)) (hw _ (List.mem_of_getElem? (i := 4) rfl)) (hw _ (List.mem_of_getElem? (i := 5) rfl)) (by decide) (rm1_61 l Z a0 hw [] b1 (3 : Int32) v2748 k1 v2 v5 v8 v11 h12 n0 Z12 Vw12) (by decide) (by decide) e2751 (by rw [hml]; rfl) (argsL := [(.ref b1), (.int (1 : Int32)), (.int (3 : Int32)), (.int (3 : Int32)), (.int v2748)]) (rest := []) (lenOf pd_0 rfl) rfl (W := 0) (Nat.le_refl _) rfl (hb hby at_139) (by decide) (by decide) (pc' := 142) rfl (fun T2754 L2754 r2754 X2754 q2754 => ?_)
     obtain ⟨N2754, e2754, q2754⟩ := q2754
     have N2754' := Fr.app N2751' N2754
     rcases q2754 with ⟨hc2755, rfl⟩ | ⟨hc2756, rfl⟩
     ·
      show KEnds p e below s _ _ _ T2754 (mkF m 142 #[.val (.int i0), .val (.int i1), .val (.int i2), .val (.int i3), .val (.int i4), .val (.int i5), .val (.ref b1), .val (.int (3 : Int32)), .val (.int (3 : Int32)), .val (.int v2723), .val (.int v2748), .unset] [(.int (0 : Int32))])
      refine k_if_eq X2754 hx (hb hby at_142) (pn := 145) rfl (py := 151) (by decide) (fun _ => ?_) (fun hc => absurd (by decide) hc)
      refine k_aload X2754 hx (hb hby at_151) rfl rfl (pc' := 153) rfl ?_
      refine k_iconst X2754 hx (hb hby at_153) (pc' := 154) rfl (z := (2 : Int32)) rfl ?_
      refine k_iload X2754 hx (hb hby at_154) rfl (pc' := 156) rfl ?_
      refine k_iload X2754 hx (hb hby at_156) rfl (pc' := 158) rfl ?_
      refine k_iload X2754 hx (hb hby at_158) rfl (pc' := 160) rfl ?_
      refine k_callS X2754 hx hZ hown (hw _ (List.mem_of_getElem? (i := 2) rfl)) (hw _ (List.mem_of_getElem? (i := 3) rfl)) (hw _ (List.mem_of_getElem? (i := 4) rfl)) (hw _ (List.mem_of_getElem? (i := 5) rfl)) (by decide) (rm1_66 l Z a0 hw [] b1 (3 : Int32) v2748 k1 v2 v5 v8 v11 h12 n0 Z12 Vw12) (by decide) (by decide) e2754 (by rw [hml]; rfl) (argsL := [(.ref b1), (.int (2 : Int32)), (.int (3 : Int32)), (.int (3 : Int32)), (.int v2748)]) (rest := []) (lenOf pd_0 rfl) rfl (W := 0) (Nat.le_refl _) rfl (hb hby at_160) (by decide) (by decide) (pc' := 163) rfl (fun T2757 L2757 r2757 X2757 q2757 => ?_)
      obtain ⟨N2757, e2757, q2757⟩ := q2757
      have N2757' := Fr.app N2754' N2757
      rcases q2757 with ⟨hc2758, rfl⟩ | ⟨hc2759, rfl⟩
      ·
       show KEnds p e below s _ _ _ T2757 (mkF m 163 #[.val (.int i0), .val (.int i1), .val (.int i2), .val (.int i3), .val (.int i4), .val (.int i5), .val (.ref b1), .val (.int (3 : Int32)), .val (.int (3 : Int32)), .val (.int v2723), .val (.int v2748), .unset] [(.int (0 : Int32))])
       refine k_if_eq X2757 hx (hb hby at_163) (pn := 166) rfl (py := 172) (by decide) (fun _ => ?_) (fun hc => absurd (by decide) hc)
       refine k_aload X2757 hx (hb hby at_172) rfl rfl (pc' := 174) rfl ?_
       refine k_iconst X2757 hx (hb hby at_174) (pc' := 175) rfl (z := (3 : Int32)) rfl ?_
       refine k_iload X2757 hx (hb hby at_175) rfl (pc' := 177) rfl ?_
       refine k_iload X2757 hx (hb hby at_177) rfl (pc' := 179) rfl ?_
       refine k_iload X2757 hx (hb hby at_179) rfl (pc' := 181) rfl ?_
       refine k_callS X2757 hx hZ hown (hw _ (List.mem_of_getElem? (i := 2) rfl)) (hw _ (List.mem_of_getElem? (i := 3) rfl)) (hw _ (List.mem_of_getElem? (i := 4) rfl)) (hw _ (List.mem_of_getElem? (i := 5) rfl)) (by decide) (rm1_71 l Z a0 hw [] b1 (3 : Int32) v2748 k1 v2 v5 v8 v11 h12 n0 Z12 Vw12) (by decide) (by decide) e2757 (by rw [hml]; rfl) (argsL := [(.ref b1), (.int (3 : Int32)), (.int (3 : Int32)), (.int (3 : Int32)), (.int v2748)]) (rest := []) (lenOf pd_0 rfl) rfl (W := 0) (Nat.le_refl _) rfl (hb hby at_181) (by decide) (by decide) (pc' := 184) rfl (fun T2760 L2760 r2760 X2760 q2760 => ?_)
       obtain ⟨N2760, e2760, q2760⟩ := q2760
       have N2760' := Fr.app N2757' N2760
       rcases q2760 with ⟨hc2761, rfl⟩ | ⟨hc2762, rfl⟩
       ·
        show KEnds p e below s _ _ _ T2760 (mkF m 184 #[.val (.int i0), .val (.int i1), .val (.int i2), .val (.int i3), .val (.int i4), .val (.int i5), .val (.ref b1), .val (.int (3 : Int32)), .val (.int (3 : Int32)), .val (.int v2723), .val (.int v2748), .unset] [(.int (0 : Int32))])
        exact absurd hc2761 (by decide)
       ·
        show KEnds p e below s _ _ _ T2760 (mkF m 184 #[.val (.int i0), .val (.int i1), .val (.int i2), .val (.int i3), .val (.int i4), .val (.int i5), .val (.ref b1), .val (.int (3 : Int32)), .val (.int (3 : Int32)), .val (.int v2723), .val (.int v2748), .unset] [(.int (0 : Int32))])
        refine k_if_eq X2760 hx (hb hby at_184) (pn := 187) rfl (py := 193) (by decide) (fun _ => ?_) (fun hc => absurd (by decide) hc)
        refine k_iconst X2760 hx (hb hby at_193) (pc' := 194) rfl (z := (-1 : Int32)) rfl ?_
        refine k_istore X2760 hx (hb hby at_194) (Ls' := #[.val (.int i0), .val (.int i1), .val (.int i2), .val (.int i3), .val (.int i4), .val (.int i5), .val (.ref b1), .val (.int (3 : Int32)), .val (.int (3 : Int32)), .val (.int v2723), .val (.int v2748), .val (.int (-1 : Int32))]) rfl (pc' := 196) rfl ?_
        refine k_aload X2760 hx (hb hby at_196) rfl rfl (pc' := 198) rfl ?_
        refine k_iload X2760 hx (hb hby at_198) rfl (pc' := 200) rfl ?_
        refine k_iload X2760 hx (hb hby at_200) rfl (pc' := 202) rfl ?_
        refine k_iload X2760 hx (hb hby at_202) rfl (pc' := 204) rfl ?_
        refine k_callS X2760 hx hZ hown (hw _ (List.mem_of_getElem? (i := 6) rfl)) (hw _ (List.mem_of_getElem? (i := 7) rfl)) (hw _ (List.mem_of_getElem? (i := 8) rfl)) (hw _ (List.mem_of_getElem? (i := 9) rfl)) (by decide) (rm2_2763 l Z a0 hw [] b1 v2748 k1 v2 v5 v8 v11 h12 n0 Z12 Vw12) (by decide) (by decide) e2760 (by rw [hml]; rfl) (argsL := [(.ref b1), (.int (3 : Int32)), (.int (3 : Int32)), (.int v2748)]) (rest := []) (lenOf pd_1 rfl) rfl (W := 0) (Nat.le_refl _) rfl (hb hby at_204) (by decide) (by decide) (pc' := 207) rfl (fun T2765 L2765 r2765 X2765 q2765 => ?_)
        obtain ⟨N2765, e2765, q2765⟩ := q2765
        have N2765' := Fr.app N2760' N2765
        rcases q2765 with ⟨hc2766, rfl⟩ | ⟨hc2767, rfl⟩
        ·
         show KEnds p e below s _ _ _ T2765 (mkF m 207 #[.val (.int i0), .val (.int i1), .val (.int i2), .val (.int i3), .val (.int i4), .val (.int i5), .val (.ref b1), .val (.int (3 : Int32)), .val (.int (3 : Int32)), .val (.int v2723), .val (.int v2748), .val (.int (-1 : Int32))] [(.int (-1 : Int32))])
         refine k_iload X2765 hx (hb hby at_207) rfl (pc' := 209) rfl ?_
         refine k_icmp_ne X2765 hx (hb hby at_209) (pn := 212) rfl (py := 216) (by decide) (fun hc => absurd (by decide) hc) (fun _ => ?_)
         refine k_iconst X2765 hx (hb hby at_212) (pc' := 213) rfl (z := (1 : Int32)) rfl ?_
         refine k_goto X2765 hx (hb hby at_213) (pc' := 217) (by decide) ?_
         exact k_retN X2765 hx (t := .boolean) Bd.returns (by simp) (hb hby at_217) hlk (by decide) (by decide) (z' := (1 : Int32)) rfl ⟨rfl, N2765'⟩
        ·
         show KEnds p e below s _ _ _ T2765 (mkF m 207 #[.val (.int i0), .val (.int i1), .val (.int i2), .val (.int i3), .val (.int i4), .val (.int i5), .val (.ref b1), .val (.int (3 : Int32)), .val (.int (3 : Int32)), .val (.int v2723), .val (.int v2748), .val (.int (-1 : Int32))] [(.int (-1 : Int32))])
         exact absurd hc2767 hc2750
      ·
       show KEnds p e below s _ _ _ T2757 (mkF m 163 #[.val (.int i0), .val (.int i1), .val (.int i2), .val (.int i3), .val (.int i4), .val (.int i5), .val (.ref b1), .val (.int (3 : Int32)), .val (.int (3 : Int32)), .val (.int v2723), .val (.int v2748), .unset] [(.int (0 : Int32))])
       exact absurd (by decide) hc2759
     ·
      show KEnds p e below s _ _ _ T2754 (mkF m 142 #[.val (.int i0), .val (.int i1), .val (.int i2), .val (.int i3), .val (.int i4), .val (.int i5), .val (.ref b1), .val (.int (3 : Int32)), .val (.int (3 : Int32)), .val (.int v2723), .val (.int v2748), .unset] [(.int (0 : Int32))])
      exact absurd (by decide) hc2756
    ·
     show KEnds p e below s _ _ _ T2751 (mkF m 121 #[.val (.int i0), .val (.int i1), .val (.int i2), .val (.int i3), .val (.int i4), .val (.int i5), .val (.ref b1), .val (.int (3 : Int32)), .val (.int (3 : Int32)), .val (.int v2723), .val (.int v2748), .unset] [(.int (0 : Int32))])
     exact absurd (by decide) hc2753
   ·
    refine k_iconst X12 hx (hb hby at_103) (pc' := 104) rfl (z := (-1 : Int32)) rfl ?_
    refine k_istore X12 hx (hb hby at_104) (Ls' := #[.val (.int i0), .val (.int i1), .val (.int i2), .val (.int i3), .val (.int i4), .val (.int i5), .val (.ref b1), .val (.int (3 : Int32)), .val (.int (3 : Int32)), .val (.int v2723), .val (.int v2748), .val (.int (-1 : Int32))]) rfl (pc' := 106) rfl ?_
    refine k_goto X12 hx (hb hby at_106) (pc' := 196) (by decide) ?_
    refine k_aload X12 hx (hb hby at_196) rfl rfl (pc' := 198) rfl ?_
    refine k_iload X12 hx (hb hby at_198) rfl (pc' := 200) rfl ?_
    refine k_iload X12 hx (hb hby at_200) rfl (pc' := 202) rfl ?_
    refine k_iload X12 hx (hb hby at_202) rfl (pc' := 204) rfl ?_
    refine k_callS X12 hx hZ hown (hw _ (List.mem_of_getElem? (i := 6) rfl)) (hw _ (List.mem_of_getElem? (i := 7) rfl)) (hw _ (List.mem_of_getElem? (i := 8) rfl)) (hw _ (List.mem_of_getElem? (i := 9) rfl)) (by decide) (rm2_2763 l Z a0 hw [] b1 v2748 k1 v2 v5 v8 v11 h12 n0 Z12 Vw12) (by decide) (by decide) e12 (by rw [hml]; rfl) (argsL := [(.ref b1), (.int (3 : Int32)), (.int (3 : Int32)), (.int v2748)]) (rest := []) (lenOf pd_1 rfl) rfl (W := 0) (Nat.le_refl _) rfl (hb hby at_204) (by decide) (by decide) (pc' := 207) rfl (fun T2768 L2768 r2768 X2768 q2768 => ?_)
    obtain ⟨N2768, e2768, q2768⟩ := q2768
    have N2768' := Fr.app N12 N2768
    rcases q2768 with ⟨hc2769, rfl⟩ | ⟨hc2770, rfl⟩
    ·
     show KEnds p e below s _ _ _ T2768 (mkF m 207 #[.val (.int i0), .val (.int i1), .val (.int i2), .val (.int i3), .val (.int i4), .val (.int i5), .val (.ref b1), .val (.int (3 : Int32)), .val (.int (3 : Int32)), .val (.int v2723), .val (.int v2748), .val (.int (-1 : Int32))] [(.int (-1 : Int32))])
     exact absurd hc2750 hc2769
    ·
     show KEnds p e below s _ _ _ T2768 (mkF m 207 #[.val (.int i0), .val (.int i1), .val (.int i2), .val (.int i3), .val (.int i4), .val (.int i5), .val (.ref b1), .val (.int (3 : Int32)), .val (.int (3 : Int32)), .val (.int v2723), .val (.int v2748), .val (.int (-1 : Int32))] [(.int (-1 : Int32))])
     refine k_iload X2768 hx (hb hby at_207) rfl (pc' := 209) rfl ?_
     refine k_icmp_ne X2768 hx (hb hby at_209) (pn := 212) rfl (py := 216) (by decide) (fun hc => absurd (by decide) hc) (fun _ => ?_)
     refine k_iconst X2768 hx (hb hby at_212) (pc' := 213) rfl (z := (1 : Int32)) rfl ?_
     refine k_goto X2768 hx (hb hby at_213) (pc' := 217) (by decide) ?_
     exact k_retN X2768 hx (t := .boolean) Bd.returns (by simp) (hb hby at_217) hlk (by decide) (by decide) (z' := (1 : Int32)) rfl ⟨rfl, N2768'⟩
  ·
   show KEnds p e below s _ _ _ T12 (mkF m 44 #[.val (.int i0), .val (.int i1), .val (.int i2), .val (.int i3), .val (.int i4), .val (.int i5), .val (.ref b1), .val (.int (3 : Int32)), .unset, .unset, .unset, .unset] [(.int (4 : Int32))])
   refine k_istore X12 hx (hb hby at_44) (Ls' := #[.val (.int i0), .val (.int i1), .val (.int i2), .val (.int i3), .val (.int i4), .val (.int i5), .val (.ref b1), .val (.int (3 : Int32)), .val (.int (4 : Int32)), .unset, .unset, .unset]) rfl (pc' := 46) rfl ?_
   refine k_iload X12 hx (hb hby at_46) rfl (pc' := 48) rfl ?_
   refine k_iconst X12 hx (hb hby at_48) (pc' := 49) rfl (z := (3 : Int32)) rfl ?_
   refine k_iand X12 hx (hb hby at_49) (pc' := 50) rfl (fun v2772 hv2772 => ?_)
   refine k_istore X12 hx (hb hby at_50) (Ls' := #[.val (.int i0), .val (.int i1), .val (.int i2), .val (.int i3), .val (.int i4), .val (.int i5), .val (.ref b1), .val (.int (3 : Int32)), .val (.int (4 : Int32)), .val (.int v2772), .unset, .unset]) rfl (pc' := 52) rfl ?_
   suffices key2773 : ∀ (v2797 : Int32), KEnds p e below s 16 128 (Q0 n0) T12 (mkF m 97 #[.val (.int i0), .val (.int i1), .val (.int i2), .val (.int i3), .val (.int i4), .val (.int i5), .val (.ref b1), .val (.int (3 : Int32)), .val (.int (4 : Int32)), .val (.int v2772), .val (.int v2797), .unset] []) by
    refine k_iload X12 hx (hb hby at_52) rfl (pc' := 54) rfl ?_
    refine k_if_ne X12 hx (hb hby at_54) (pn := 57) rfl (py := 63) (by decide) (fun hc2774 => ?_) (fun hc2774 => ?_)
    ·
     refine k_iload X12 hx (hb hby at_63) rfl (pc' := 65) rfl ?_
     refine k_iconst X12 hx (hb hby at_65) (pc' := 66) rfl (z := (1 : Int32)) rfl ?_
     refine k_icmp_ne X12 hx (hb hby at_66) (pn := 69) rfl (py := 87) (by decide) (fun hc2775 => ?_) (fun hc2775 => ?_)
     ·
      refine k_iload X12 hx (hb hby at_87) rfl (pc' := 89) rfl ?_
      refine k_iconst X12 hx (hb hby at_89) (pc' := 90) rfl (z := (2 : Int32)) rfl ?_
      refine k_iushr X12 hx (hb hby at_90) (pc' := 91) rfl (fun v2776 hv2776 => ?_)
      refine k_sipush X12 hx (hb hby at_91) (pc' := 94) rfl (z := (255 : Int32)) rfl ?_
      refine k_iand X12 hx (hb hby at_94) (pc' := 95) rfl (fun v2777 hv2777 => ?_)
      refine k_istore X12 hx (hb hby at_95) (Ls' := #[.val (.int i0), .val (.int i1), .val (.int i2), .val (.int i3), .val (.int i4), .val (.int i5), .val (.ref b1), .val (.int (3 : Int32)), .val (.int (4 : Int32)), .val (.int v2772), .val (.int v2777), .unset]) rfl (pc' := 97) rfl ?_
      exact key2773 v2777
     ·
      refine k_aload X12 hx (hb hby at_69) rfl rfl (pc' := 71) rfl ?_
      refine k_iload X12 hx (hb hby at_71) rfl (pc' := 73) rfl ?_
      refine k_iconst X12 hx (hb hby at_73) (pc' := 74) rfl (z := (2 : Int32)) rfl ?_
      refine k_iushr X12 hx (hb hby at_74) (pc' := 75) rfl (fun v2778 hv2778 => ?_)
      refine k_iconst X12 hx (hb hby at_75) (pc' := 76) rfl (z := (3 : Int32)) rfl ?_
      refine k_iand X12 hx (hb hby at_76) (pc' := 77) rfl (fun v2779 hv2779 => ?_)
      have hj2780 : ¬ v2779 < 0 ∧ v2779 < (4 : Int32) := by
       refine ⟨?_, ?_⟩
       ·
        intro hq2781
        have := rng32 v2772
        have := rng32 i5
        have : (3 : Int32).toInt = 3 := (by decide)
        have q2782 : v2772.toInt = i5.toInt % 4 := (by rw [hv2772]; exact c_mask _ _ 2 (by decide) (by decide))
        have : (0 : Int32).toInt = 0 := (by decide)
        have q2783 : ¬ v2772.toInt = (0 : Int32).toInt := fun q => hc2774 (Int32.toInt_inj.mp q)
        have : (1 : Int32).toInt = 1 := (by decide)
        have q2784 := congrArg Int32.toInt hc2775
        have := rng32 v2779
        have := rng32 v2778
        have : (2 : Int32).toInt = 2 := (by decide)
        have q2785 : v2778.toInt = (i5.toInt % 4294967296) / 4 := (by rw [hv2778]; exact c_iushr _ _ 2 (by decide) (by decide))
        have q2786 : v2779.toInt = v2778.toInt % 4 := (by rw [hv2779]; exact c_mask _ _ 2 (by decide) (by decide))
        have q2787 := hq2781; rw [Int32.lt_iff_toInt_lt] at q2787
        omega
       ·
        refine Classical.byContradiction (fun hq2788 => ?_)
        have := rng32 v2772
        have := rng32 i5
        have : (3 : Int32).toInt = 3 := (by decide)
        have q2789 : v2772.toInt = i5.toInt % 4 := (by rw [hv2772]; exact c_mask _ _ 2 (by decide) (by decide))
        have : (0 : Int32).toInt = 0 := (by decide)
        have q2790 : ¬ v2772.toInt = (0 : Int32).toInt := fun q => hc2774 (Int32.toInt_inj.mp q)
        have : (1 : Int32).toInt = 1 := (by decide)
        have q2791 := congrArg Int32.toInt hc2775
        have := rng32 v2779
        have := rng32 v2778
        have : (2 : Int32).toInt = 2 := (by decide)
        have q2792 : v2778.toInt = (i5.toInt % 4294967296) / 4 := (by rw [hv2778]; exact c_iushr _ _ 2 (by decide) (by decide))
        have q2793 : v2779.toInt = v2778.toInt % 4 := (by rw [hv2779]; exact c_mask _ _ 2 (by decide) (by decide))
        have : (4 : Int32).toInt = 4 := (by decide)
        have q2794 := hq2788; rw [Int32.lt_iff_toInt_lt] at q2794
        omega
      refine k_baloadS X12 hx hZ e12 Vw12 hj2780 (hb hby at_77) (pc' := 78) rfl (fun v2795 hv2795 => ?_)
      refine k_sipush X12 hx (hb hby at_78) (pc' := 81) rfl (z := (255 : Int32)) rfl ?_
      refine k_iand X12 hx (hb hby at_81) (pc' := 82) rfl (fun v2796 hv2796 => ?_)
      refine k_istore X12 hx (hb hby at_82) (Ls' := #[.val (.int i0), .val (.int i1), .val (.int i2), .val (.int i3), .val (.int i4), .val (.int i5), .val (.ref b1), .val (.int (3 : Int32)), .val (.int (4 : Int32)), .val (.int v2772), .val (.int v2796), .unset]) rfl (pc' := 84) rfl ?_
      refine k_goto X12 hx (hb hby at_84) (pc' := 97) (by decide) ?_
      exact key2773 v2796
    ·
     refine k_iconst X12 hx (hb hby at_57) (pc' := 58) rfl (z := (-1 : Int32)) rfl ?_
     refine k_istore X12 hx (hb hby at_58) (Ls' := #[.val (.int i0), .val (.int i1), .val (.int i2), .val (.int i3), .val (.int i4), .val (.int i5), .val (.ref b1), .val (.int (3 : Int32)), .val (.int (4 : Int32)), .val (.int v2772), .val (.int (-1 : Int32)), .unset]) rfl (pc' := 60) rfl ?_
     refine k_goto X12 hx (hb hby at_60) (pc' := 97) (by decide) ?_
     exact key2773 (-1 : Int32)
   intro v2797
   refine k_iload X12 hx (hb hby at_97) rfl (pc' := 99) rfl ?_
   refine k_iconst X12 hx (hb hby at_99) (pc' := 100) rfl (z := (-1 : Int32)) rfl ?_
   refine k_icmp_ne X12 hx (hb hby at_100) (pn := 103) rfl (py := 109) (by decide) (fun hc2799 => ?_) (fun hc2799 => ?_)
   ·
    refine k_aload X12 hx (hb hby at_109) rfl rfl (pc' := 111) rfl ?_
    refine k_iconst X12 hx (hb hby at_111) (pc' := 112) rfl (z := (0 : Int32)) rfl ?_
    refine k_iload X12 hx (hb hby at_112) rfl (pc' := 114) rfl ?_
    refine k_iload X12 hx (hb hby at_114) rfl (pc' := 116) rfl ?_
    refine k_iload X12 hx (hb hby at_116) rfl (pc' := 118) rfl ?_
    refine k_callS X12 hx hZ hown (hw _ (List.mem_of_getElem? (i := 2) rfl)) (hw _ (List.mem_of_getElem? (i := 3) rfl)) (hw _ (List.mem_of_getElem? (i := 4) rfl)) (hw _ (List.mem_of_getElem? (i := 5) rfl)) (by decide) (rm1_113 l Z a0 hw [] b1 (3 : Int32) (4 : Int32) v2797 k1 v2 v5 v8 v11 h12 n0 Z12 Vw12) (by decide) (by decide) e12 (by rw [hml]; rfl) (argsL := [(.ref b1), (.int (0 : Int32)), (.int (3 : Int32)), (.int (4 : Int32)), (.int v2797)]) (rest := []) (lenOf pd_0 rfl) rfl (W := 0) (Nat.le_refl _) rfl (hb hby at_118) (by decide) (by decide) (pc' := 121) rfl (fun T2800 L2800 r2800 X2800 q2800 => ?_)
    obtain ⟨N2800, e2800, q2800⟩ := q2800
    have N2800' := Fr.app N12 N2800
    rcases q2800 with ⟨hc2801, rfl⟩ | ⟨hc2802, hc2803, rfl⟩ | ⟨v2804, h2805, hc2806, hc2807, hc2808, rfl⟩ | ⟨v2809, h2810, hc2811, hc2812, hc2813, rfl⟩
    ·
     show KEnds p e below s _ _ _ T2800 (mkF m 121 #[.val (.int i0), .val (.int i1), .val (.int i2), .val (.int i3), .val (.int i4), .val (.int i5), .val (.ref b1), .val (.int (3 : Int32)), .val (.int (4 : Int32)), .val (.int v2772), .val (.int v2797), .unset] [(.int (0 : Int32))])
     refine k_if_eq X2800 hx (hb hby at_121) (pn := 124) rfl (py := 130) (by decide) (fun _ => ?_) (fun hc => absurd (by decide) hc)
     refine k_aload X2800 hx (hb hby at_130) rfl rfl (pc' := 132) rfl ?_
     refine k_iconst X2800 hx (hb hby at_132) (pc' := 133) rfl (z := (1 : Int32)) rfl ?_
     refine k_iload X2800 hx (hb hby at_133) rfl (pc' := 135) rfl ?_
     refine k_iload X2800 hx (hb hby at_135) rfl (pc' := 137) rfl ?_
     refine k_iload X2800 hx (hb hby at_137) rfl (pc' := 139) rfl ?_
     refine k_callS X2800 hx hZ hown (hw _ (List.mem_of_getElem? (i := 2) rfl)) (hw _ (List.mem_of_getElem? (i := 3) rfl)) (hw _ (List.mem_of_getElem? (i := 4) rfl)) (hw _ (List.mem_of_getElem? (i := 5) rfl)) (by decide) (rm1_132 l Z a0 hw [] b1 (3 : Int32) (4 : Int32) v2797 k1 v2 v5 v8 v11 h12 n0 Z12 Vw12) (by decide) (by decide) e2800 (by rw [hml]; rfl) (argsL := [(.ref b1), (.int (1 : Int32)), (.int (3 : Int32)), (.int (4 : Int32)), (.int v2797)]) (rest := []) (lenOf pd_0 rfl) rfl (W := 0) (Nat.le_refl _) rfl (hb hby at_139) (by decide) (by decide) (pc' := 142) rfl (fun T2814 L2814 r2814 X2814 q2814 => ?_)
     obtain ⟨N2814, e2814, q2814⟩ := q2814
     have N2814' := Fr.app N2800' N2814
     rcases q2814 with ⟨hc2815, rfl⟩ | ⟨hc2816, hc2817, rfl⟩ | ⟨v2818, h2819, hc2820, hc2821, hc2822, rfl⟩ | ⟨v2823, h2824, hc2825, hc2826, hc2827, rfl⟩
     ·
      show KEnds p e below s _ _ _ T2814 (mkF m 142 #[.val (.int i0), .val (.int i1), .val (.int i2), .val (.int i3), .val (.int i4), .val (.int i5), .val (.ref b1), .val (.int (3 : Int32)), .val (.int (4 : Int32)), .val (.int v2772), .val (.int v2797), .unset] [(.int (0 : Int32))])
      refine k_if_eq X2814 hx (hb hby at_142) (pn := 145) rfl (py := 151) (by decide) (fun _ => ?_) (fun hc => absurd (by decide) hc)
      refine k_aload X2814 hx (hb hby at_151) rfl rfl (pc' := 153) rfl ?_
      refine k_iconst X2814 hx (hb hby at_153) (pc' := 154) rfl (z := (2 : Int32)) rfl ?_
      refine k_iload X2814 hx (hb hby at_154) rfl (pc' := 156) rfl ?_
      refine k_iload X2814 hx (hb hby at_156) rfl (pc' := 158) rfl ?_
      refine k_iload X2814 hx (hb hby at_158) rfl (pc' := 160) rfl ?_
      refine k_callS X2814 hx hZ hown (hw _ (List.mem_of_getElem? (i := 2) rfl)) (hw _ (List.mem_of_getElem? (i := 3) rfl)) (hw _ (List.mem_of_getElem? (i := 4) rfl)) (hw _ (List.mem_of_getElem? (i := 5) rfl)) (by decide) (rm1_151 l Z a0 hw [] b1 (3 : Int32) (4 : Int32) v2797 k1 v2 v5 v8 v11 h12 n0 Z12 Vw12) (by decide) (by decide) e2814 (by rw [hml]; rfl) (argsL := [(.ref b1), (.int (2 : Int32)), (.int (3 : Int32)), (.int (4 : Int32)), (.int v2797)]) (rest := []) (lenOf pd_0 rfl) rfl (W := 0) (Nat.le_refl _) rfl (hb hby at_160) (by decide) (by decide) (pc' := 163) rfl (fun T2828 L2828 r2828 X2828 q2828 => ?_)
      obtain ⟨N2828, e2828, q2828⟩ := q2828
      have N2828' := Fr.app N2814' N2828
      rcases q2828 with ⟨hc2829, rfl⟩ | ⟨hc2830, hc2831, rfl⟩ | ⟨v2832, h2833, hc2834, hc2835, hc2836, rfl⟩ | ⟨v2837, h2838, hc2839, hc2840, hc2841, rfl⟩
      ·
       show KEnds p e below s _ _ _ T2828 (mkF m 163 #[.val (.int i0), .val (.int i1), .val (.int i2), .val (.int i3), .val (.int i4), .val (.int i5), .val (.ref b1), .val (.int (3 : Int32)), .val (.int (4 : Int32)), .val (.int v2772), .val (.int v2797), .unset] [(.int (0 : Int32))])
       refine k_if_eq X2828 hx (hb hby at_163) (pn := 166) rfl (py := 172) (by decide) (fun _ => ?_) (fun hc => absurd (by decide) hc)
       refine k_aload X2828 hx (hb hby at_172) rfl rfl (pc' := 174) rfl ?_
       refine k_iconst X2828 hx (hb hby at_174) (pc' := 175) rfl (z := (3 : Int32)) rfl ?_
       refine k_iload X2828 hx (hb hby at_175) rfl (pc' := 177) rfl ?_
       refine k_iload X2828 hx (hb hby at_177) rfl (pc' := 179) rfl ?_
       refine k_iload X2828 hx (hb hby at_179) rfl (pc' := 181) rfl ?_
       refine k_callS X2828 hx hZ hown (hw _ (List.mem_of_getElem? (i := 2) rfl)) (hw _ (List.mem_of_getElem? (i := 3) rfl)) (hw _ (List.mem_of_getElem? (i := 4) rfl)) (hw _ (List.mem_of_getElem? (i := 5) rfl)) (by decide) (rm1_170 l Z a0 hw [] b1 (3 : Int32) (4 : Int32) v2797 k1 v2 v5 v8 v11 h12 n0 Z12 Vw12) (by decide) (by decide) e2828 (by rw [hml]; rfl) (argsL := [(.ref b1), (.int (3 : Int32)), (.int (3 : Int32)), (.int (4 : Int32)), (.int v2797)]) (rest := []) (lenOf pd_0 rfl) rfl (W := 0) (Nat.le_refl _) rfl (hb hby at_181) (by decide) (by decide) (pc' := 184) rfl (fun T2842 L2842 r2842 X2842 q2842 => ?_)
       obtain ⟨N2842, e2842, q2842⟩ := q2842
       have N2842' := Fr.app N2828' N2842
       rcases q2842 with ⟨hc2843, rfl⟩ | ⟨hc2844, hc2845, rfl⟩ | ⟨v2846, h2847, hc2848, hc2849, hc2850, rfl⟩ | ⟨v2851, h2852, hc2853, hc2854, hc2855, rfl⟩
       ·
        show KEnds p e below s _ _ _ T2842 (mkF m 184 #[.val (.int i0), .val (.int i1), .val (.int i2), .val (.int i3), .val (.int i4), .val (.int i5), .val (.ref b1), .val (.int (3 : Int32)), .val (.int (4 : Int32)), .val (.int v2772), .val (.int v2797), .unset] [(.int (0 : Int32))])
        exact absurd hc2843 (by decide)
       ·
        show KEnds p e below s _ _ _ T2842 (mkF m 184 #[.val (.int i0), .val (.int i1), .val (.int i2), .val (.int i3), .val (.int i4), .val (.int i5), .val (.ref b1), .val (.int (3 : Int32)), .val (.int (4 : Int32)), .val (.int v2772), .val (.int v2797), .unset] [(.int (0 : Int32))])
        exact absurd (by decide) hc2845
       ·
        show KEnds p e below s _ _ _ T2842 (mkF m 184 #[.val (.int i0), .val (.int i1), .val (.int i2), .val (.int i3), .val (.int i4), .val (.int i5), .val (.ref b1), .val (.int (3 : Int32)), .val (.int (4 : Int32)), .val (.int v2772), .val (.int v2797), .unset] [(.int (0 : Int32))])
        refine k_if_eq X2842 hx (hb hby at_184) (pn := 187) rfl (py := 193) (by decide) (fun _ => ?_) (fun hc => absurd (by decide) hc)
        refine k_iconst X2842 hx (hb hby at_193) (pc' := 194) rfl (z := (-1 : Int32)) rfl ?_
        refine k_istore X2842 hx (hb hby at_194) (Ls' := #[.val (.int i0), .val (.int i1), .val (.int i2), .val (.int i3), .val (.int i4), .val (.int i5), .val (.ref b1), .val (.int (3 : Int32)), .val (.int (4 : Int32)), .val (.int v2772), .val (.int v2797), .val (.int (-1 : Int32))]) rfl (pc' := 196) rfl ?_
        refine k_aload X2842 hx (hb hby at_196) rfl rfl (pc' := 198) rfl ?_
        refine k_iload X2842 hx (hb hby at_198) rfl (pc' := 200) rfl ?_
        refine k_iload X2842 hx (hb hby at_200) rfl (pc' := 202) rfl ?_
        refine k_iload X2842 hx (hb hby at_202) rfl (pc' := 204) rfl ?_
        refine k_callS X2842 hx hZ hown (hw _ (List.mem_of_getElem? (i := 6) rfl)) (hw _ (List.mem_of_getElem? (i := 7) rfl)) (hw _ (List.mem_of_getElem? (i := 8) rfl)) (hw _ (List.mem_of_getElem? (i := 9) rfl)) (by decide) (rm2_2856 l Z a0 hw [] b1 v2797 k1 v2 v5 v8 v11 h12 n0 Z12 Vw12) (by decide) (by decide) e2842 (by rw [hml]; rfl) (argsL := [(.ref b1), (.int (3 : Int32)), (.int (4 : Int32)), (.int v2797)]) (rest := []) (lenOf pd_1 rfl) rfl (W := 0) (Nat.le_refl _) rfl (hb hby at_204) (by decide) (by decide) (pc' := 207) rfl (fun T2860 L2860 r2860 X2860 q2860 => ?_)
        obtain ⟨N2860, e2860, q2860⟩ := q2860
        have N2860' := Fr.app N2842' N2860
        rcases q2860 with ⟨v2861, h2862, hc2863, hc2864, rfl⟩ | ⟨v2865, h2866, hc2867, hc2868, rfl⟩ | ⟨hc2869, rfl⟩
        ·
         have hh2870 : v2846 = v2861 := h2847.trans h2862.symm
         subst hh2870
         show KEnds p e below s _ _ _ T2860 (mkF m 207 #[.val (.int i0), .val (.int i1), .val (.int i2), .val (.int i3), .val (.int i4), .val (.int i5), .val (.ref b1), .val (.int (3 : Int32)), .val (.int (4 : Int32)), .val (.int v2772), .val (.int v2797), .val (.int (-1 : Int32))] [(.int (-1 : Int32))])
         refine k_iload X2860 hx (hb hby at_207) rfl (pc' := 209) rfl ?_
         refine k_icmp_ne X2860 hx (hb hby at_209) (pn := 212) rfl (py := 216) (by decide) (fun hc => absurd (by decide) hc) (fun _ => ?_)
         refine k_iconst X2860 hx (hb hby at_212) (pc' := 213) rfl (z := (1 : Int32)) rfl ?_
         refine k_goto X2860 hx (hb hby at_213) (pc' := 217) (by decide) ?_
         exact k_retN X2860 hx (t := .boolean) Bd.returns (by simp) (hb hby at_217) hlk (by decide) (by decide) (z' := (1 : Int32)) rfl ⟨rfl, N2860'⟩
        ·
         have hh2871 : v2846 = v2865 := h2847.trans h2866.symm
         subst hh2871
         show KEnds p e below s _ _ _ T2860 (mkF m 207 #[.val (.int i0), .val (.int i1), .val (.int i2), .val (.int i3), .val (.int i4), .val (.int i5), .val (.ref b1), .val (.int (3 : Int32)), .val (.int (4 : Int32)), .val (.int v2772), .val (.int v2797), .val (.int (-1 : Int32))] [(.int (3 : Int32))])
         exact absurd hc2868 hc2850
        ·
         show KEnds p e below s _ _ _ T2860 (mkF m 207 #[.val (.int i0), .val (.int i1), .val (.int i2), .val (.int i3), .val (.int i4), .val (.int i5), .val (.ref b1), .val (.int (3 : Int32)), .val (.int (4 : Int32)), .val (.int v2772), .val (.int v2797), .val (.int (-1 : Int32))] [(.int (-1 : Int32))])
         exact absurd hc2869 hc2799
       ·
        show KEnds p e below s _ _ _ T2842 (mkF m 184 #[.val (.int i0), .val (.int i1), .val (.int i2), .val (.int i3), .val (.int i4), .val (.int i5), .val (.ref b1), .val (.int (3 : Int32)), .val (.int (4 : Int32)), .val (.int v2772), .val (.int v2797), .unset] [(.int (1 : Int32))])
        refine k_if_eq X2842 hx (hb hby at_184) (pn := 187) rfl (py := 193) (by decide) (fun hc => absurd hc (by decide)) (fun _ => ?_)
        refine k_iconst X2842 hx (hb hby at_187) (pc' := 188) rfl (z := (3 : Int32)) rfl ?_
        refine k_istore X2842 hx (hb hby at_188) (Ls' := #[.val (.int i0), .val (.int i1), .val (.int i2), .val (.int i3), .val (.int i4), .val (.int i5), .val (.ref b1), .val (.int (3 : Int32)), .val (.int (4 : Int32)), .val (.int v2772), .val (.int v2797), .val (.int (3 : Int32))]) rfl (pc' := 190) rfl ?_
        refine k_goto X2842 hx (hb hby at_190) (pc' := 196) (by decide) ?_
        refine k_aload X2842 hx (hb hby at_196) rfl rfl (pc' := 198) rfl ?_
        refine k_iload X2842 hx (hb hby at_198) rfl (pc' := 200) rfl ?_
        refine k_iload X2842 hx (hb hby at_200) rfl (pc' := 202) rfl ?_
        refine k_iload X2842 hx (hb hby at_202) rfl (pc' := 204) rfl ?_
        refine k_callS X2842 hx hZ hown (hw _ (List.mem_of_getElem? (i := 6) rfl)) (hw _ (List.mem_of_getElem? (i := 7) rfl)) (hw _ (List.mem_of_getElem? (i := 8) rfl)) (hw _ (List.mem_of_getElem? (i := 9) rfl)) (by decide) (rm2_2856 l Z a0 hw [] b1 v2797 k1 v2 v5 v8 v11 h12 n0 Z12 Vw12) (by decide) (by decide) e2842 (by rw [hml]; rfl) (argsL := [(.ref b1), (.int (3 : Int32)), (.int (4 : Int32)), (.int v2797)]) (rest := []) (lenOf pd_1 rfl) rfl (W := 0) (Nat.le_refl _) rfl (hb hby at_204) (by decide) (by decide) (pc' := 207) rfl (fun T2872 L2872 r2872 X2872 q2872 => ?_)
        obtain ⟨N2872, e2872, q2872⟩ := q2872
        have N2872' := Fr.app N2842' N2872
        rcases q2872 with ⟨v2873, h2874, hc2875, hc2876, rfl⟩ | ⟨v2877, h2878, hc2879, hc2880, rfl⟩ | ⟨hc2881, rfl⟩
        ·
         have hh2882 : v2851 = v2873 := h2852.trans h2874.symm
         subst hh2882
         show KEnds p e below s _ _ _ T2872 (mkF m 207 #[.val (.int i0), .val (.int i1), .val (.int i2), .val (.int i3), .val (.int i4), .val (.int i5), .val (.ref b1), .val (.int (3 : Int32)), .val (.int (4 : Int32)), .val (.int v2772), .val (.int v2797), .val (.int (3 : Int32))] [(.int (-1 : Int32))])
         exact absurd hc2855 hc2876
        ·
         have hh2883 : v2851 = v2877 := h2852.trans h2878.symm
         subst hh2883
         show KEnds p e below s _ _ _ T2872 (mkF m 207 #[.val (.int i0), .val (.int i1), .val (.int i2), .val (.int i3), .val (.int i4), .val (.int i5), .val (.ref b1), .val (.int (3 : Int32)), .val (.int (4 : Int32)), .val (.int v2772), .val (.int v2797), .val (.int (3 : Int32))] [(.int (3 : Int32))])
         refine k_iload X2872 hx (hb hby at_207) rfl (pc' := 209) rfl ?_
         refine k_icmp_ne X2872 hx (hb hby at_209) (pn := 212) rfl (py := 216) (by decide) (fun hc => absurd (by decide) hc) (fun _ => ?_)
         refine k_iconst X2872 hx (hb hby at_212) (pc' := 213) rfl (z := (1 : Int32)) rfl ?_
         refine k_goto X2872 hx (hb hby at_213) (pc' := 217) (by decide) ?_
         exact k_retN X2872 hx (t := .boolean) Bd.returns (by simp) (hb hby at_217) hlk (by decide) (by decide) (z' := (1 : Int32)) rfl ⟨rfl, N2872'⟩
        ·
         show KEnds p e below s _ _ _ T2872 (mkF m 207 #[.val (.int i0), .val (.int i1), .val (.int i2), .val (.int i3), .val (.int i4), .val (.int i5), .val (.ref b1), .val (.int (3 : Int32)), .val (.int (4 : Int32)), .val (.int v2772), .val (.int v2797), .val (.int (3 : Int32))] [(.int (-1 : Int32))])
         exact absurd hc2881 hc2799
      ·
       show KEnds p e below s _ _ _ T2828 (mkF m 163 #[.val (.int i0), .val (.int i1), .val (.int i2), .val (.int i3), .val (.int i4), .val (.int i5), .val (.ref b1), .val (.int (3 : Int32)), .val (.int (4 : Int32)), .val (.int v2772), .val (.int v2797), .unset] [(.int (0 : Int32))])
       exact absurd (by decide) hc2830
      ·
       show KEnds p e below s _ _ _ T2828 (mkF m 163 #[.val (.int i0), .val (.int i1), .val (.int i2), .val (.int i3), .val (.int i4), .val (.int i5), .val (.ref b1), .val (.int (3 : Int32)), .val (.int (4 : Int32)), .val (.int v2772), .val (.int v2797), .unset] [(.int (0 : Int32))])
       exact absurd (by decide) hc2834
      ·
       show KEnds p e below s _ _ _ T2828 (mkF m 163 #[.val (.int i0), .val (.int i1), .val (.int i2), .val (.int i3), .val (.int i4), .val (.int i5), .val (.ref b1), .val (.int (3 : Int32)), .val (.int (4 : Int32)), .val (.int v2772), .val (.int v2797), .unset] [(.int (1 : Int32))])
       exact absurd (by decide) hc2839
     ·
      show KEnds p e below s _ _ _ T2814 (mkF m 142 #[.val (.int i0), .val (.int i1), .val (.int i2), .val (.int i3), .val (.int i4), .val (.int i5), .val (.ref b1), .val (.int (3 : Int32)), .val (.int (4 : Int32)), .val (.int v2772), .val (.int v2797), .unset] [(.int (0 : Int32))])
      exact absurd (by decide) hc2816
     ·
      show KEnds p e below s _ _ _ T2814 (mkF m 142 #[.val (.int i0), .val (.int i1), .val (.int i2), .val (.int i3), .val (.int i4), .val (.int i5), .val (.ref b1), .val (.int (3 : Int32)), .val (.int (4 : Int32)), .val (.int v2772), .val (.int v2797), .unset] [(.int (0 : Int32))])
      exact absurd (by decide) hc2820
     ·
      show KEnds p e below s _ _ _ T2814 (mkF m 142 #[.val (.int i0), .val (.int i1), .val (.int i2), .val (.int i3), .val (.int i4), .val (.int i5), .val (.ref b1), .val (.int (3 : Int32)), .val (.int (4 : Int32)), .val (.int v2772), .val (.int v2797), .unset] [(.int (1 : Int32))])
      exact absurd (by decide) hc2825
    ·
     show KEnds p e below s _ _ _ T2800 (mkF m 121 #[.val (.int i0), .val (.int i1), .val (.int i2), .val (.int i3), .val (.int i4), .val (.int i5), .val (.ref b1), .val (.int (3 : Int32)), .val (.int (4 : Int32)), .val (.int v2772), .val (.int v2797), .unset] [(.int (0 : Int32))])
     exact absurd (by decide) hc2802
    ·
     show KEnds p e below s _ _ _ T2800 (mkF m 121 #[.val (.int i0), .val (.int i1), .val (.int i2), .val (.int i3), .val (.int i4), .val (.int i5), .val (.ref b1), .val (.int (3 : Int32)), .val (.int (4 : Int32)), .val (.int v2772), .val (.int v2797), .unset] [(.int (0 : Int32))])
     exact absurd (by decide) hc2806
    ·
     show KEnds p e below s _ _ _ T2800 (mkF m 121 #[.val (.int i0), .val (.int i1), .val (.int i2), .val (.int i3), .val (.int i4), .val (.int i5), .val (.ref b1), .val (.int (3 : Int32)), .val (.int (4 : Int32)), .val (.int v2772), .val (.int v2797), .unset] [(.int (1 : Int32))])
     exact absurd (by decide) hc2811
   ·
    refine k_iconst X12 hx (hb hby at_103) (pc' := 104) rfl (z := (-1 : Int32)) rfl ?_
    refine k_istore X12 hx (hb hby at_104) (Ls' := #[.val (.int i0), .val (.int i1), .val (.int i2), .val (.int i3), .val (.int i4), .val (.int i5), .val (.ref b1), .val (.int (3 : Int32)), .val (.int (4 : Int32)), .val (.int v2772), .val (.int v2797), .val (.int (-1 : Int32))]) rfl (pc' := 106) rfl ?_
    refine k_goto X12 hx (hb hby at_106) (pc' := 196) (by decide) ?_
    refine k_aload X12 hx (hb hby at_196) rfl rfl (pc' := 198) rfl ?_
    refine k_iload X12 hx (hb hby at_198) rfl (pc' := 200) rfl ?_
    refine k_iload X12 hx (hb hby at_200) rfl (pc' := 202) rfl ?_
    refine k_iload X12 hx (hb hby at_202) rfl (pc' := 204) rfl ?_
    refine k_callS X12 hx hZ hown (hw _ (List.mem_of_getElem? (i := 6) rfl)) (hw _ (List.mem_of_getElem? (i := 7) rfl)) (hw _ (List.mem_of_getElem? (i := 8) rfl)) (hw _ (List.mem_of_getElem? (i := 9) rfl)) (by decide) (rm2_2856 l Z a0 hw [] b1 v2797 k1 v2 v5 v8 v11 h12 n0 Z12 Vw12) (by decide) (by decide) e12 (by rw [hml]; rfl) (argsL := [(.ref b1), (.int (3 : Int32)), (.int (4 : Int32)), (.int v2797)]) (rest := []) (lenOf pd_1 rfl) rfl (W := 0) (Nat.le_refl _) rfl (hb hby at_204) (by decide) (by decide) (pc' := 207) rfl (fun T2884 L2884 r2884 X2884 q2884 => ?_)
    obtain ⟨N2884, e2884, q2884⟩ := q2884
    have N2884' := Fr.app N12 N2884
    rcases q2884 with ⟨v2885, h2886, hc2887, hc2888, rfl⟩ | ⟨v2889, h2890, hc2891, hc2892, rfl⟩ | ⟨hc2893, rfl⟩
    ·
     show KEnds p e below s _ _ _ T2884 (mkF m 207 #[.val (.int i0), .val (.int i1), .val (.int i2), .val (.int i3), .val (.int i4), .val (.int i5), .val (.ref b1), .val (.int (3 : Int32)), .val (.int (4 : Int32)), .val (.int v2772), .val (.int v2797), .val (.int (-1 : Int32))] [(.int (-1 : Int32))])
     exact absurd hc2799 hc2887
    ·
     show KEnds p e below s _ _ _ T2884 (mkF m 207 #[.val (.int i0), .val (.int i1), .val (.int i2), .val (.int i3), .val (.int i4), .val (.int i5), .val (.ref b1), .val (.int (3 : Int32)), .val (.int (4 : Int32)), .val (.int v2772), .val (.int v2797), .val (.int (-1 : Int32))] [(.int (3 : Int32))])
     exact absurd hc2799 hc2891
    ·
     show KEnds p e below s _ _ _ T2884 (mkF m 207 #[.val (.int i0), .val (.int i1), .val (.int i2), .val (.int i3), .val (.int i4), .val (.int i5), .val (.ref b1), .val (.int (3 : Int32)), .val (.int (4 : Int32)), .val (.int v2772), .val (.int v2797), .val (.int (-1 : Int32))] [(.int (-1 : Int32))])
     refine k_iload X2884 hx (hb hby at_207) rfl (pc' := 209) rfl ?_
     refine k_icmp_ne X2884 hx (hb hby at_209) (pn := 212) rfl (py := 216) (by decide) (fun hc => absurd (by decide) hc) (fun _ => ?_)
     refine k_iconst X2884 hx (hb hby at_212) (pc' := 213) rfl (z := (1 : Int32)) rfl ?_
     refine k_goto X2884 hx (hb hby at_213) (pc' := 217) (by decide) ?_
     exact k_retN X2884 hx (t := .boolean) Bd.returns (by simp) (hb hby at_217) hlk (by decide) (by decide) (z' := (1 : Int32)) rfl ⟨rfl, N2884'⟩
 ·
  show KEnds p e below s _ _ _ T12 (mkF m 32 #[.val (.int i0), .val (.int i1), .val (.int i2), .val (.int i3), .val (.int i4), .val (.int i5), .val (.ref b1), .unset, .unset, .unset, .unset, .unset] [(.int (4 : Int32))])
  refine k_istore X12 hx (hb hby at_32) (Ls' := #[.val (.int i0), .val (.int i1), .val (.int i2), .val (.int i3), .val (.int i4), .val (.int i5), .val (.ref b1), .val (.int (4 : Int32)), .unset, .unset, .unset, .unset]) rfl (pc' := 34) rfl ?_
  refine k_iload X12 hx (hb hby at_34) rfl (pc' := 36) rfl ?_
  refine k_bipush X12 hx (hb hby at_36) (pc' := 38) rfl (z := (8 : Int32)) rfl ?_
  refine k_iushr X12 hx (hb hby at_38) (pc' := 39) rfl (fun v2895 hv2895 => ?_)
  refine k_ldc X12 hx hZ hown (hw _ (List.mem_of_getElem? (i := 1) rfl)) (hb hby at_39) (pc' := 41) rfl ?_
  refine k_iand X12 hx (hb hby at_41) (pc' := 42) rfl (fun v2896 hv2896 => ?_)
  refine k_iconst X12 hx (hb hby at_42) (pc' := 43) rfl (z := (5 : Int32)) rfl ?_
  refine k_irem X12 hx (hb hby at_43) (by decide) (pc' := 44) rfl (fun v2897 hv2897 => ?_)
  have hs2898 : v2897 = (0 : Int32) ∨ v2897 = (1 : Int32) ∨ v2897 = (2 : Int32) ∨ v2897 = (3 : Int32) ∨ v2897 = (4 : Int32) := by
   have := rng32 v2897
   have := rng32 v2896
   have := rng32 v2895
   have := rng32 i4
   have : (8 : Int32).toInt = 8 := (by decide)
   have q2899 : v2895.toInt = (i4.toInt % 4294967296) / 256 := (by rw [hv2895]; exact c_iushr _ _ 8 (by decide) (by decide))
   have : (2147483647 : Int32).toInt = 2147483647 := (by decide)
   have q2900 : v2896.toInt = v2895.toInt % 2147483648 := (by rw [hv2896]; exact c_mask _ _ 31 (by decide) (by decide))
   have : (5 : Int32).toInt = 5 := (by decide)
   have q2901 : (0 ≤ v2896.toInt → v2897.toInt = v2896.toInt % 5) ∧ (v2896.toInt < 0 → v2897.toInt = -((-v2896.toInt) % 5)) := (by rw [hv2897]; exact c_irem _ _ 5 (by decide))
   rcases (by omega : v2897.toInt = 0 ∨ v2897.toInt = 1 ∨ v2897.toInt = 2 ∨ v2897.toInt = 3 ∨ v2897.toInt = 4) with hq | hq | hq | hq | hq
   · exact Or.inl (Int32.toInt_inj.mp hq)
   · exact Or.inr (Or.inl (Int32.toInt_inj.mp hq))
   · exact Or.inr (Or.inr (Or.inl (Int32.toInt_inj.mp hq)))
   · exact Or.inr (Or.inr (Or.inr (Or.inl (Int32.toInt_inj.mp hq))))
   · exact Or.inr (Or.inr (Or.inr (Or.inr ((Int32.toInt_inj.mp hq)))))
  rcases hs2898 with rfl | rfl | rfl | rfl | rfl
  ·
   show KEnds p e below s _ _ _ T12 (mkF m 44 #[.val (.int i0), .val (.int i1), .val (.int i2), .val (.int i3), .val (.int i4), .val (.int i5), .val (.ref b1), .val (.int (4 : Int32)), .unset, .unset, .unset, .unset] [(.int (0 : Int32))])
   refine k_istore X12 hx (hb hby at_44) (Ls' := #[.val (.int i0), .val (.int i1), .val (.int i2), .val (.int i3), .val (.int i4), .val (.int i5), .val (.ref b1), .val (.int (4 : Int32)), .val (.int (0 : Int32)), .unset, .unset, .unset]) rfl (pc' := 46) rfl ?_
   refine k_iload X12 hx (hb hby at_46) rfl (pc' := 48) rfl ?_
   refine k_iconst X12 hx (hb hby at_48) (pc' := 49) rfl (z := (3 : Int32)) rfl ?_
   refine k_iand X12 hx (hb hby at_49) (pc' := 50) rfl (fun v2903 hv2903 => ?_)
   refine k_istore X12 hx (hb hby at_50) (Ls' := #[.val (.int i0), .val (.int i1), .val (.int i2), .val (.int i3), .val (.int i4), .val (.int i5), .val (.ref b1), .val (.int (4 : Int32)), .val (.int (0 : Int32)), .val (.int v2903), .unset, .unset]) rfl (pc' := 52) rfl ?_
   suffices key2904 : ∀ (v2928 : Int32), KEnds p e below s 16 128 (Q0 n0) T12 (mkF m 97 #[.val (.int i0), .val (.int i1), .val (.int i2), .val (.int i3), .val (.int i4), .val (.int i5), .val (.ref b1), .val (.int (4 : Int32)), .val (.int (0 : Int32)), .val (.int v2903), .val (.int v2928), .unset] []) by
    refine k_iload X12 hx (hb hby at_52) rfl (pc' := 54) rfl ?_
    refine k_if_ne X12 hx (hb hby at_54) (pn := 57) rfl (py := 63) (by decide) (fun hc2905 => ?_) (fun hc2905 => ?_)
    ·
     refine k_iload X12 hx (hb hby at_63) rfl (pc' := 65) rfl ?_
     refine k_iconst X12 hx (hb hby at_65) (pc' := 66) rfl (z := (1 : Int32)) rfl ?_
     refine k_icmp_ne X12 hx (hb hby at_66) (pn := 69) rfl (py := 87) (by decide) (fun hc2906 => ?_) (fun hc2906 => ?_)
     ·
      refine k_iload X12 hx (hb hby at_87) rfl (pc' := 89) rfl ?_
      refine k_iconst X12 hx (hb hby at_89) (pc' := 90) rfl (z := (2 : Int32)) rfl ?_
      refine k_iushr X12 hx (hb hby at_90) (pc' := 91) rfl (fun v2907 hv2907 => ?_)
      refine k_sipush X12 hx (hb hby at_91) (pc' := 94) rfl (z := (255 : Int32)) rfl ?_
      refine k_iand X12 hx (hb hby at_94) (pc' := 95) rfl (fun v2908 hv2908 => ?_)
      refine k_istore X12 hx (hb hby at_95) (Ls' := #[.val (.int i0), .val (.int i1), .val (.int i2), .val (.int i3), .val (.int i4), .val (.int i5), .val (.ref b1), .val (.int (4 : Int32)), .val (.int (0 : Int32)), .val (.int v2903), .val (.int v2908), .unset]) rfl (pc' := 97) rfl ?_
      exact key2904 v2908
     ·
      refine k_aload X12 hx (hb hby at_69) rfl rfl (pc' := 71) rfl ?_
      refine k_iload X12 hx (hb hby at_71) rfl (pc' := 73) rfl ?_
      refine k_iconst X12 hx (hb hby at_73) (pc' := 74) rfl (z := (2 : Int32)) rfl ?_
      refine k_iushr X12 hx (hb hby at_74) (pc' := 75) rfl (fun v2909 hv2909 => ?_)
      refine k_iconst X12 hx (hb hby at_75) (pc' := 76) rfl (z := (3 : Int32)) rfl ?_
      refine k_iand X12 hx (hb hby at_76) (pc' := 77) rfl (fun v2910 hv2910 => ?_)
      have hj2911 : ¬ v2910 < 0 ∧ v2910 < (4 : Int32) := by
       refine ⟨?_, ?_⟩
       ·
        intro hq2912
        have := rng32 v2903
        have := rng32 i5
        have : (3 : Int32).toInt = 3 := (by decide)
        have q2913 : v2903.toInt = i5.toInt % 4 := (by rw [hv2903]; exact c_mask _ _ 2 (by decide) (by decide))
        have : (0 : Int32).toInt = 0 := (by decide)
        have q2914 : ¬ v2903.toInt = (0 : Int32).toInt := fun q => hc2905 (Int32.toInt_inj.mp q)
        have : (1 : Int32).toInt = 1 := (by decide)
        have q2915 := congrArg Int32.toInt hc2906
        have := rng32 v2910
        have := rng32 v2909
        have : (2 : Int32).toInt = 2 := (by decide)
        have q2916 : v2909.toInt = (i5.toInt % 4294967296) / 4 := (by rw [hv2909]; exact c_iushr _ _ 2 (by decide) (by decide))
        have q2917 : v2910.toInt = v2909.toInt % 4 := (by rw [hv2910]; exact c_mask _ _ 2 (by decide) (by decide))
        have q2918 := hq2912; rw [Int32.lt_iff_toInt_lt] at q2918
        omega
       ·
        refine Classical.byContradiction (fun hq2919 => ?_)
        have := rng32 v2903
        have := rng32 i5
        have : (3 : Int32).toInt = 3 := (by decide)
        have q2920 : v2903.toInt = i5.toInt % 4 := (by rw [hv2903]; exact c_mask _ _ 2 (by decide) (by decide))
        have : (0 : Int32).toInt = 0 := (by decide)
        have q2921 : ¬ v2903.toInt = (0 : Int32).toInt := fun q => hc2905 (Int32.toInt_inj.mp q)
        have : (1 : Int32).toInt = 1 := (by decide)
        have q2922 := congrArg Int32.toInt hc2906
        have := rng32 v2910
        have := rng32 v2909
        have : (2 : Int32).toInt = 2 := (by decide)
        have q2923 : v2909.toInt = (i5.toInt % 4294967296) / 4 := (by rw [hv2909]; exact c_iushr _ _ 2 (by decide) (by decide))
        have q2924 : v2910.toInt = v2909.toInt % 4 := (by rw [hv2910]; exact c_mask _ _ 2 (by decide) (by decide))
        have : (4 : Int32).toInt = 4 := (by decide)
        have q2925 := hq2919; rw [Int32.lt_iff_toInt_lt] at q2925
        omega
      refine k_baloadS X12 hx hZ e12 Vw12 hj2911 (hb hby at_77) (pc' := 78) rfl (fun v2926 hv2926 => ?_)
      refine k_sipush X12 hx (hb hby at_78) (pc' := 81) rfl (z := (255 : Int32)) rfl ?_
      refine k_iand X12 hx (hb hby at_81) (pc' := 82) rfl (fun v2927 hv2927 => ?_)
      refine k_istore X12 hx (hb hby at_82) (Ls' := #[.val (.int i0), .val (.int i1), .val (.int i2), .val (.int i3), .val (.int i4), .val (.int i5), .val (.ref b1), .val (.int (4 : Int32)), .val (.int (0 : Int32)), .val (.int v2903), .val (.int v2927), .unset]) rfl (pc' := 84) rfl ?_
      refine k_goto X12 hx (hb hby at_84) (pc' := 97) (by decide) ?_
      exact key2904 v2927
    ·
     refine k_iconst X12 hx (hb hby at_57) (pc' := 58) rfl (z := (-1 : Int32)) rfl ?_
     refine k_istore X12 hx (hb hby at_58) (Ls' := #[.val (.int i0), .val (.int i1), .val (.int i2), .val (.int i3), .val (.int i4), .val (.int i5), .val (.ref b1), .val (.int (4 : Int32)), .val (.int (0 : Int32)), .val (.int v2903), .val (.int (-1 : Int32)), .unset]) rfl (pc' := 60) rfl ?_
     refine k_goto X12 hx (hb hby at_60) (pc' := 97) (by decide) ?_
     exact key2904 (-1 : Int32)
   intro v2928
   refine k_iload X12 hx (hb hby at_97) rfl (pc' := 99) rfl ?_
   refine k_iconst X12 hx (hb hby at_99) (pc' := 100) rfl (z := (-1 : Int32)) rfl ?_
   refine k_icmp_ne X12 hx (hb hby at_100) (pn := 103) rfl (py := 109) (by decide) (fun hc2930 => ?_) (fun hc2930 => ?_)
   ·
    refine k_aload X12 hx (hb hby at_109) rfl rfl (pc' := 111) rfl ?_
    refine k_iconst X12 hx (hb hby at_111) (pc' := 112) rfl (z := (0 : Int32)) rfl ?_
    refine k_iload X12 hx (hb hby at_112) rfl (pc' := 114) rfl ?_
    refine k_iload X12 hx (hb hby at_114) rfl (pc' := 116) rfl ?_
    refine k_iload X12 hx (hb hby at_116) rfl (pc' := 118) rfl ?_
    refine k_callS X12 hx hZ hown (hw _ (List.mem_of_getElem? (i := 2) rfl)) (hw _ (List.mem_of_getElem? (i := 3) rfl)) (hw _ (List.mem_of_getElem? (i := 4) rfl)) (hw _ (List.mem_of_getElem? (i := 5) rfl)) (by decide) (rm1_113 l Z a0 hw [] b1 (4 : Int32) (0 : Int32) v2928 k1 v2 v5 v8 v11 h12 n0 Z12 Vw12) (by decide) (by decide) e12 (by rw [hml]; rfl) (argsL := [(.ref b1), (.int (0 : Int32)), (.int (4 : Int32)), (.int (0 : Int32)), (.int v2928)]) (rest := []) (lenOf pd_0 rfl) rfl (W := 0) (Nat.le_refl _) rfl (hb hby at_118) (by decide) (by decide) (pc' := 121) rfl (fun T2931 L2931 r2931 X2931 q2931 => ?_)
    obtain ⟨N2931, e2931, q2931⟩ := q2931
    have N2931' := Fr.app N12 N2931
    rcases q2931 with ⟨hc2932, rfl⟩ | ⟨hc2933, hc2934, rfl⟩ | ⟨v2935, h2936, hc2937, hc2938, hc2939, rfl⟩ | ⟨v2940, h2941, hc2942, hc2943, hc2944, rfl⟩
    ·
     show KEnds p e below s _ _ _ T2931 (mkF m 121 #[.val (.int i0), .val (.int i1), .val (.int i2), .val (.int i3), .val (.int i4), .val (.int i5), .val (.ref b1), .val (.int (4 : Int32)), .val (.int (0 : Int32)), .val (.int v2903), .val (.int v2928), .unset] [(.int (0 : Int32))])
     refine k_if_eq X2931 hx (hb hby at_121) (pn := 124) rfl (py := 130) (by decide) (fun _ => ?_) (fun hc => absurd (by decide) hc)
     refine k_aload X2931 hx (hb hby at_130) rfl rfl (pc' := 132) rfl ?_
     refine k_iconst X2931 hx (hb hby at_132) (pc' := 133) rfl (z := (1 : Int32)) rfl ?_
     refine k_iload X2931 hx (hb hby at_133) rfl (pc' := 135) rfl ?_
     refine k_iload X2931 hx (hb hby at_135) rfl (pc' := 137) rfl ?_
     refine k_iload X2931 hx (hb hby at_137) rfl (pc' := 139) rfl ?_
     refine k_callS X2931 hx hZ hown (hw _ (List.mem_of_getElem? (i := 2) rfl)) (hw _ (List.mem_of_getElem? (i := 3) rfl)) (hw _ (List.mem_of_getElem? (i := 4) rfl)) (hw _ (List.mem_of_getElem? (i := 5) rfl)) (by decide) (rm1_132 l Z a0 hw [] b1 (4 : Int32) (0 : Int32) v2928 k1 v2 v5 v8 v11 h12 n0 Z12 Vw12) (by decide) (by decide) e2931 (by rw [hml]; rfl) (argsL := [(.ref b1), (.int (1 : Int32)), (.int (4 : Int32)), (.int (0 : Int32)), (.int v2928)]) (rest := []) (lenOf pd_0 rfl) rfl (W := 0) (Nat.le_refl _) rfl (hb hby at_139) (by decide) (by decide) (pc' := 142) rfl (fun T2945 L2945 r2945 X2945 q2945 => ?_)
     obtain ⟨N2945, e2945, q2945⟩ := q2945
     have N2945' := Fr.app N2931' N2945
     rcases q2945 with ⟨hc2946, rfl⟩ | ⟨hc2947, hc2948, rfl⟩ | ⟨v2949, h2950, hc2951, hc2952, hc2953, rfl⟩ | ⟨v2954, h2955, hc2956, hc2957, hc2958, rfl⟩
     ·
      show KEnds p e below s _ _ _ T2945 (mkF m 142 #[.val (.int i0), .val (.int i1), .val (.int i2), .val (.int i3), .val (.int i4), .val (.int i5), .val (.ref b1), .val (.int (4 : Int32)), .val (.int (0 : Int32)), .val (.int v2903), .val (.int v2928), .unset] [(.int (0 : Int32))])
      refine k_if_eq X2945 hx (hb hby at_142) (pn := 145) rfl (py := 151) (by decide) (fun _ => ?_) (fun hc => absurd (by decide) hc)
      refine k_aload X2945 hx (hb hby at_151) rfl rfl (pc' := 153) rfl ?_
      refine k_iconst X2945 hx (hb hby at_153) (pc' := 154) rfl (z := (2 : Int32)) rfl ?_
      refine k_iload X2945 hx (hb hby at_154) rfl (pc' := 156) rfl ?_
      refine k_iload X2945 hx (hb hby at_156) rfl (pc' := 158) rfl ?_
      refine k_iload X2945 hx (hb hby at_158) rfl (pc' := 160) rfl ?_
      refine k_callS X2945 hx hZ hown (hw _ (List.mem_of_getElem? (i := 2) rfl)) (hw _ (List.mem_of_getElem? (i := 3) rfl)) (hw _ (List.mem_of_getElem? (i := 4) rfl)) (hw _ (List.mem_of_getElem? (i := 5) rfl)) (by decide) (rm1_151 l Z a0 hw [] b1 (4 : Int32) (0 : Int32) v2928 k1 v2 v5 v8 v11 h12 n0 Z12 Vw12) (by decide) (by decide) e2945 (by rw [hml]; rfl) (argsL := [(.ref b1), (.int (2 : Int32)), (.int (4 : Int32)), (.int (0 : Int32)), (.int v2928)]) (rest := []) (lenOf pd_0 rfl) rfl (W := 0) (Nat.le_refl _) rfl (hb hby at_160) (by decide) (by decide) (pc' := 163) rfl (fun T2959 L2959 r2959 X2959 q2959 => ?_)
      obtain ⟨N2959, e2959, q2959⟩ := q2959
      have N2959' := Fr.app N2945' N2959
      rcases q2959 with ⟨hc2960, rfl⟩ | ⟨hc2961, hc2962, rfl⟩ | ⟨v2963, h2964, hc2965, hc2966, hc2967, rfl⟩ | ⟨v2968, h2969, hc2970, hc2971, hc2972, rfl⟩
      ·
       show KEnds p e below s _ _ _ T2959 (mkF m 163 #[.val (.int i0), .val (.int i1), .val (.int i2), .val (.int i3), .val (.int i4), .val (.int i5), .val (.ref b1), .val (.int (4 : Int32)), .val (.int (0 : Int32)), .val (.int v2903), .val (.int v2928), .unset] [(.int (0 : Int32))])
       refine k_if_eq X2959 hx (hb hby at_163) (pn := 166) rfl (py := 172) (by decide) (fun _ => ?_) (fun hc => absurd (by decide) hc)
       refine k_aload X2959 hx (hb hby at_172) rfl rfl (pc' := 174) rfl ?_
       refine k_iconst X2959 hx (hb hby at_174) (pc' := 175) rfl (z := (3 : Int32)) rfl ?_
       refine k_iload X2959 hx (hb hby at_175) rfl (pc' := 177) rfl ?_
       refine k_iload X2959 hx (hb hby at_177) rfl (pc' := 179) rfl ?_
       refine k_iload X2959 hx (hb hby at_179) rfl (pc' := 181) rfl ?_
       refine k_callS X2959 hx hZ hown (hw _ (List.mem_of_getElem? (i := 2) rfl)) (hw _ (List.mem_of_getElem? (i := 3) rfl)) (hw _ (List.mem_of_getElem? (i := 4) rfl)) (hw _ (List.mem_of_getElem? (i := 5) rfl)) (by decide) (rm1_170 l Z a0 hw [] b1 (4 : Int32) (0 : Int32) v2928 k1 v2 v5 v8 v11 h12 n0 Z12 Vw12) (by decide) (by decide) e2959 (by rw [hml]; rfl) (argsL := [(.ref b1), (.int (3 : Int32)), (.int (4 : Int32)), (.int (0 : Int32)), (.int v2928)]) (rest := []) (lenOf pd_0 rfl) rfl (W := 0) (Nat.le_refl _) rfl (hb hby at_181) (by decide) (by decide) (pc' := 184) rfl (fun T2973 L2973 r2973 X2973 q2973 => ?_)
       obtain ⟨N2973, e2973, q2973⟩ := q2973
       have N2973' := Fr.app N2959' N2973
       rcases q2973 with ⟨hc2974, rfl⟩ | ⟨hc2975, hc2976, rfl⟩ | ⟨v2977, h2978, hc2979, hc2980, hc2981, rfl⟩ | ⟨v2982, h2983, hc2984, hc2985, hc2986, rfl⟩
       ·
        show KEnds p e below s _ _ _ T2973 (mkF m 184 #[.val (.int i0), .val (.int i1), .val (.int i2), .val (.int i3), .val (.int i4), .val (.int i5), .val (.ref b1), .val (.int (4 : Int32)), .val (.int (0 : Int32)), .val (.int v2903), .val (.int v2928), .unset] [(.int (0 : Int32))])
        refine k_if_eq X2973 hx (hb hby at_184) (pn := 187) rfl (py := 193) (by decide) (fun _ => ?_) (fun hc => absurd (by decide) hc)
        refine k_iconst X2973 hx (hb hby at_193) (pc' := 194) rfl (z := (-1 : Int32)) rfl ?_
        refine k_istore X2973 hx (hb hby at_194) (Ls' := #[.val (.int i0), .val (.int i1), .val (.int i2), .val (.int i3), .val (.int i4), .val (.int i5), .val (.ref b1), .val (.int (4 : Int32)), .val (.int (0 : Int32)), .val (.int v2903), .val (.int v2928), .val (.int (-1 : Int32))]) rfl (pc' := 196) rfl ?_
        refine k_aload X2973 hx (hb hby at_196) rfl rfl (pc' := 198) rfl ?_
        refine k_iload X2973 hx (hb hby at_198) rfl (pc' := 200) rfl ?_
        refine k_iload X2973 hx (hb hby at_200) rfl (pc' := 202) rfl ?_
        refine k_iload X2973 hx (hb hby at_202) rfl (pc' := 204) rfl ?_
        refine k_callS X2973 hx hZ hown (hw _ (List.mem_of_getElem? (i := 6) rfl)) (hw _ (List.mem_of_getElem? (i := 7) rfl)) (hw _ (List.mem_of_getElem? (i := 8) rfl)) (hw _ (List.mem_of_getElem? (i := 9) rfl)) (by decide) (rm2_2987 l Z a0 hw [] b1 v2928 k1 v2 v5 v8 v11 h12 n0 Z12 Vw12) (by decide) (by decide) e2973 (by rw [hml]; rfl) (argsL := [(.ref b1), (.int (4 : Int32)), (.int (0 : Int32)), (.int v2928)]) (rest := []) (lenOf pd_1 rfl) rfl (W := 0) (Nat.le_refl _) rfl (hb hby at_204) (by decide) (by decide) (pc' := 207) rfl (fun T2989 L2989 r2989 X2989 q2989 => ?_)
        obtain ⟨N2989, e2989, q2989⟩ := q2989
        have N2989' := Fr.app N2973' N2989
        rcases q2989 with ⟨hc2990, rfl⟩ | ⟨hc2991, rfl⟩
        ·
         show KEnds p e below s _ _ _ T2989 (mkF m 207 #[.val (.int i0), .val (.int i1), .val (.int i2), .val (.int i3), .val (.int i4), .val (.int i5), .val (.ref b1), .val (.int (4 : Int32)), .val (.int (0 : Int32)), .val (.int v2903), .val (.int v2928), .val (.int (-1 : Int32))] [(.int (-1 : Int32))])
         refine k_iload X2989 hx (hb hby at_207) rfl (pc' := 209) rfl ?_
         refine k_icmp_ne X2989 hx (hb hby at_209) (pn := 212) rfl (py := 216) (by decide) (fun hc => absurd (by decide) hc) (fun _ => ?_)
         refine k_iconst X2989 hx (hb hby at_212) (pc' := 213) rfl (z := (1 : Int32)) rfl ?_
         refine k_goto X2989 hx (hb hby at_213) (pc' := 217) (by decide) ?_
         exact k_retN X2989 hx (t := .boolean) Bd.returns (by simp) (hb hby at_217) hlk (by decide) (by decide) (z' := (1 : Int32)) rfl ⟨rfl, N2989'⟩
        ·
         show KEnds p e below s _ _ _ T2989 (mkF m 207 #[.val (.int i0), .val (.int i1), .val (.int i2), .val (.int i3), .val (.int i4), .val (.int i5), .val (.ref b1), .val (.int (4 : Int32)), .val (.int (0 : Int32)), .val (.int v2903), .val (.int v2928), .val (.int (-1 : Int32))] [(.int (-1 : Int32))])
         exact absurd hc2991 hc2930
       ·
        show KEnds p e below s _ _ _ T2973 (mkF m 184 #[.val (.int i0), .val (.int i1), .val (.int i2), .val (.int i3), .val (.int i4), .val (.int i5), .val (.ref b1), .val (.int (4 : Int32)), .val (.int (0 : Int32)), .val (.int v2903), .val (.int v2928), .unset] [(.int (0 : Int32))])
        exact absurd (by decide) hc2975
       ·
        show KEnds p e below s _ _ _ T2973 (mkF m 184 #[.val (.int i0), .val (.int i1), .val (.int i2), .val (.int i3), .val (.int i4), .val (.int i5), .val (.ref b1), .val (.int (4 : Int32)), .val (.int (0 : Int32)), .val (.int v2903), .val (.int v2928), .unset] [(.int (0 : Int32))])
        exact absurd (by decide) hc2979
       ·
        show KEnds p e below s _ _ _ T2973 (mkF m 184 #[.val (.int i0), .val (.int i1), .val (.int i2), .val (.int i3), .val (.int i4), .val (.int i5), .val (.ref b1), .val (.int (4 : Int32)), .val (.int (0 : Int32)), .val (.int v2903), .val (.int v2928), .unset] [(.int (1 : Int32))])
        exact absurd (by decide) hc2984
      ·
       show KEnds p e below s _ _ _ T2959 (mkF m 163 #[.val (.int i0), .val (.int i1), .val (.int i2), .val (.int i3), .val (.int i4), .val (.int i5), .val (.ref b1), .val (.int (4 : Int32)), .val (.int (0 : Int32)), .val (.int v2903), .val (.int v2928), .unset] [(.int (0 : Int32))])
       exact absurd (by decide) hc2961
      ·
       show KEnds p e below s _ _ _ T2959 (mkF m 163 #[.val (.int i0), .val (.int i1), .val (.int i2), .val (.int i3), .val (.int i4), .val (.int i5), .val (.ref b1), .val (.int (4 : Int32)), .val (.int (0 : Int32)), .val (.int v2903), .val (.int v2928), .unset] [(.int (0 : Int32))])
       exact absurd (by decide) hc2965
      ·
       show KEnds p e below s _ _ _ T2959 (mkF m 163 #[.val (.int i0), .val (.int i1), .val (.int i2), .val (.int i3), .val (.int i4), .val (.int i5), .val (.ref b1), .val (.int (4 : Int32)), .val (.int (0 : Int32)), .val (.int v2903), .val (.int v2928), .unset] [(.int (1 : Int32))])
       exact absurd (by decide) hc2970
     ·
      show KEnds p e below s _ _ _ T2945 (mkF m 142 #[.val (.int i0), .val (.int i1), .val (.int i2), .val (.int i3), .val (.int i4), .val (.int i5), .val (.ref b1), .val (.int (4 : Int32)), .val (.int (0 : Int32)), .val (.int v2903), .val (.int v2928), .unset] [(.int (0 : Int32))])
      exact absurd (by decide) hc2947
     ·
      show KEnds p e below s _ _ _ T2945 (mkF m 142 #[.val (.int i0), .val (.int i1), .val (.int i2), .val (.int i3), .val (.int i4), .val (.int i5), .val (.ref b1), .val (.int (4 : Int32)), .val (.int (0 : Int32)), .val (.int v2903), .val (.int v2928), .unset] [(.int (0 : Int32))])
      exact absurd (by decide) hc2951
     ·
      show KEnds p e below s _ _ _ T2945 (mkF m 142 #[.val (.int i0), .val (.int i1), .val (.int i2), .val (.int i3), .val (.int i4), .val (.int i5), .val (.ref b1), .val (.int (4 : Int32)), .val (.int (0 : Int32)), .val (.int v2903), .val (.int v2928), .unset] [(.int (1 : Int32))])
      exact absurd (by decide) hc2956
    ·
     show KEnds p e below s _ _ _ T2931 (mkF m 121 #[.val (.int i0), .val (.int i1), .val (.int i2), .val (.int i3), .val (.int i4), .val (.int i5), .val (.ref b1), .val (.int (4 : Int32)), .val (.int (0 : Int32)), .val (.int v2903), .val (.int v2928), .unset] [(.int (0 : Int32))])
     exact absurd (by decide) hc2933
    ·
     show KEnds p e below s _ _ _ T2931 (mkF m 121 #[.val (.int i0), .val (.int i1), .val (.int i2), .val (.int i3), .val (.int i4), .val (.int i5), .val (.ref b1), .val (.int (4 : Int32)), .val (.int (0 : Int32)), .val (.int v2903), .val (.int v2928), .unset] [(.int (0 : Int32))])
     exact absurd (by decide) hc2937
    ·
     show KEnds p e below s _ _ _ T2931 (mkF m 121 #[.val (.int i0), .val (.int i1), .val (.int i2), .val (.int i3), .val (.int i4), .val (.int i5), .val (.ref b1), .val (.int (4 : Int32)), .val (.int (0 : Int32)), .val (.int v2903), .val (.int v2928), .unset] [(.int (1 : Int32))])
     exact absurd (by decide) hc2942
   ·
    refine k_iconst X12 hx (hb hby at_103) (pc' := 104) rfl (z := (-1 : Int32)) rfl ?_
    refine k_istore X12 hx (hb hby at_104) (Ls' := #[.val (.int i0), .val (.int i1), .val (.int i2), .val (.int i3), .val (.int i4), .val (.int i5), .val (.ref b1), .val (.int (4 : Int32)), .val (.int (0 : Int32)), .val (.int v2903), .val (.int v2928), .val (.int (-1 : Int32))]) rfl (pc' := 106) rfl ?_
    refine k_goto X12 hx (hb hby at_106) (pc' := 196) (by decide) ?_
    refine k_aload X12 hx (hb hby at_196) rfl rfl (pc' := 198) rfl ?_
    refine k_iload X12 hx (hb hby at_198) rfl (pc' := 200) rfl ?_
    refine k_iload X12 hx (hb hby at_200) rfl (pc' := 202) rfl ?_
    refine k_iload X12 hx (hb hby at_202) rfl (pc' := 204) rfl ?_
    refine k_callS X12 hx hZ hown (hw _ (List.mem_of_getElem? (i := 6) rfl)) (hw _ (List.mem_of_getElem? (i := 7) rfl)) (hw _ (List.mem_of_getElem? (i := 8) rfl)) (hw _ (List.mem_of_getElem? (i := 9) rfl)) (by decide) (rm2_2987 l Z a0 hw [] b1 v2928 k1 v2 v5 v8 v11 h12 n0 Z12 Vw12) (by decide) (by decide) e12 (by rw [hml]; rfl) (argsL := [(.ref b1), (.int (4 : Int32)), (.int (0 : Int32)), (.int v2928)]) (rest := []) (lenOf pd_1 rfl) rfl (W := 0) (Nat.le_refl _) rfl (hb hby at_204) (by decide) (by decide) (pc' := 207) rfl (fun T2992 L2992 r2992 X2992 q2992 => ?_)
    obtain ⟨N2992, e2992, q2992⟩ := q2992
    have N2992' := Fr.app N12 N2992
    rcases q2992 with ⟨hc2993, rfl⟩ | ⟨hc2994, rfl⟩
    ·
     show KEnds p e below s _ _ _ T2992 (mkF m 207 #[.val (.int i0), .val (.int i1), .val (.int i2), .val (.int i3), .val (.int i4), .val (.int i5), .val (.ref b1), .val (.int (4 : Int32)), .val (.int (0 : Int32)), .val (.int v2903), .val (.int v2928), .val (.int (-1 : Int32))] [(.int (-1 : Int32))])
     exact absurd hc2930 hc2993
    ·
     show KEnds p e below s _ _ _ T2992 (mkF m 207 #[.val (.int i0), .val (.int i1), .val (.int i2), .val (.int i3), .val (.int i4), .val (.int i5), .val (.ref b1), .val (.int (4 : Int32)), .val (.int (0 : Int32)), .val (.int v2903), .val (.int v2928), .val (.int (-1 : Int32))] [(.int (-1 : Int32))])
     refine k_iload X2992 hx (hb hby at_207) rfl (pc' := 209) rfl ?_
     refine k_icmp_ne X2992 hx (hb hby at_209) (pn := 212) rfl (py := 216) (by decide) (fun hc => absurd (by decide) hc) (fun _ => ?_)
     refine k_iconst X2992 hx (hb hby at_212) (pc' := 213) rfl (z := (1 : Int32)) rfl ?_
     refine k_goto X2992 hx (hb hby at_213) (pc' := 217) (by decide) ?_
     exact k_retN X2992 hx (t := .boolean) Bd.returns (by simp) (hb hby at_217) hlk (by decide) (by decide) (z' := (1 : Int32)) rfl ⟨rfl, N2992'⟩
  ·
   show KEnds p e below s _ _ _ T12 (mkF m 44 #[.val (.int i0), .val (.int i1), .val (.int i2), .val (.int i3), .val (.int i4), .val (.int i5), .val (.ref b1), .val (.int (4 : Int32)), .unset, .unset, .unset, .unset] [(.int (1 : Int32))])
   refine k_istore X12 hx (hb hby at_44) (Ls' := #[.val (.int i0), .val (.int i1), .val (.int i2), .val (.int i3), .val (.int i4), .val (.int i5), .val (.ref b1), .val (.int (4 : Int32)), .val (.int (1 : Int32)), .unset, .unset, .unset]) rfl (pc' := 46) rfl ?_
   refine k_iload X12 hx (hb hby at_46) rfl (pc' := 48) rfl ?_
   refine k_iconst X12 hx (hb hby at_48) (pc' := 49) rfl (z := (3 : Int32)) rfl ?_
   refine k_iand X12 hx (hb hby at_49) (pc' := 50) rfl (fun v2996 hv2996 => ?_)
   refine k_istore X12 hx (hb hby at_50) (Ls' := #[.val (.int i0), .val (.int i1), .val (.int i2), .val (.int i3), .val (.int i4), .val (.int i5), .val (.ref b1), .val (.int (4 : Int32)), .val (.int (1 : Int32)), .val (.int v2996), .unset, .unset]) rfl (pc' := 52) rfl ?_
   suffices key2997 : ∀ (v3021 : Int32), KEnds p e below s 16 128 (Q0 n0) T12 (mkF m 97 #[.val (.int i0), .val (.int i1), .val (.int i2), .val (.int i3), .val (.int i4), .val (.int i5), .val (.ref b1), .val (.int (4 : Int32)), .val (.int (1 : Int32)), .val (.int v2996), .val (.int v3021), .unset] []) by
    refine k_iload X12 hx (hb hby at_52) rfl (pc' := 54) rfl ?_
    refine k_if_ne X12 hx (hb hby at_54) (pn := 57) rfl (py := 63) (by decide) (fun hc2998 => ?_) (fun hc2998 => ?_)
    ·
     refine k_iload X12 hx (hb hby at_63) rfl (pc' := 65) rfl ?_
     refine k_iconst X12 hx (hb hby at_65) (pc' := 66) rfl (z := (1 : Int32)) rfl ?_
     refine k_icmp_ne X12 hx (hb hby at_66) (pn := 69) rfl (py := 87) (by decide) (fun hc2999 => ?_) (fun hc2999 => ?_)
     ·
      refine k_iload X12 hx (hb hby at_87) rfl (pc' := 89) rfl ?_
      refine k_iconst X12 hx (hb hby at_89) (pc' := 90) rfl (z := (2 : Int32)) rfl ?_
      refine k_iushr X12 hx (hb hby at_90) (pc' := 91) rfl (fun v3000 hv3000 => ?_)
      refine k_sipush X12 hx (hb hby at_91) (pc' := 94) rfl (z := (255 : Int32)) rfl ?_
      refine k_iand X12 hx (hb hby at_94) (pc' := 95) rfl (fun v3001 hv3001 => ?_)
      refine k_istore X12 hx (hb hby at_95) (Ls' := #[.val (.int i0), .val (.int i1), .val (.int i2), .val (.int i3), .val (.int i4), .val (.int i5), .val (.ref b1), .val (.int (4 : Int32)), .val (.int (1 : Int32)), .val (.int v2996), .val (.int v3001), .unset]) rfl (pc' := 97) rfl ?_
      exact key2997 v3001
     ·
      refine k_aload X12 hx (hb hby at_69) rfl rfl (pc' := 71) rfl ?_
      refine k_iload X12 hx (hb hby at_71) rfl (pc' := 73) rfl ?_
      refine k_iconst X12 hx (hb hby at_73) (pc' := 74) rfl (z := (2 : Int32)) rfl ?_
      refine k_iushr X12 hx (hb hby at_74) (pc' := 75) rfl (fun v3002 hv3002 => ?_)
      refine k_iconst X12 hx (hb hby at_75) (pc' := 76) rfl (z := (3 : Int32)) rfl ?_
      refine k_iand X12 hx (hb hby at_76) (pc' := 77) rfl (fun v3003 hv3003 => ?_)
      have hj3004 : ¬ v3003 < 0 ∧ v3003 < (4 : Int32) := by
       refine ⟨?_, ?_⟩
       ·
        intro hq3005
        have := rng32 v2996
        have := rng32 i5
        have : (3 : Int32).toInt = 3 := (by decide)
        have q3006 : v2996.toInt = i5.toInt % 4 := (by rw [hv2996]; exact c_mask _ _ 2 (by decide) (by decide))
        have : (0 : Int32).toInt = 0 := (by decide)
        have q3007 : ¬ v2996.toInt = (0 : Int32).toInt := fun q => hc2998 (Int32.toInt_inj.mp q)
        have : (1 : Int32).toInt = 1 := (by decide)
        have q3008 := congrArg Int32.toInt hc2999
        have := rng32 v3003
        have := rng32 v3002
        have : (2 : Int32).toInt = 2 := (by decide)
        have q3009 : v3002.toInt = (i5.toInt % 4294967296) / 4 := (by rw [hv3002]; exact c_iushr _ _ 2 (by decide) (by decide))
        have q3010 : v3003.toInt = v3002.toInt % 4 := (by rw [hv3003]; exact c_mask _ _ 2 (by decide) (by decide))
        have q3011 := hq3005; rw [Int32.lt_iff_toInt_lt] at q3011
        omega
       ·
        refine Classical.byContradiction (fun hq3012 => ?_)
        have := rng32 v2996
        have := rng32 i5
        have : (3 : Int32).toInt = 3 := (by decide)
        have q3013 : v2996.toInt = i5.toInt % 4 := (by rw [hv2996]; exact c_mask _ _ 2 (by decide) (by decide))
        have : (0 : Int32).toInt = 0 := (by decide)
        have q3014 : ¬ v2996.toInt = (0 : Int32).toInt := fun q => hc2998 (Int32.toInt_inj.mp q)
        have : (1 : Int32).toInt = 1 := (by decide)
        have q3015 := congrArg Int32.toInt hc2999
        have := rng32 v3003
        have := rng32 v3002
        have : (2 : Int32).toInt = 2 := (by decide)
        have q3016 : v3002.toInt = (i5.toInt % 4294967296) / 4 := (by rw [hv3002]; exact c_iushr _ _ 2 (by decide) (by decide))
        have q3017 : v3003.toInt = v3002.toInt % 4 := (by rw [hv3003]; exact c_mask _ _ 2 (by decide) (by decide))
        have : (4 : Int32).toInt = 4 := (by decide)
        have q3018 := hq3012; rw [Int32.lt_iff_toInt_lt] at q3018
        omega
      refine k_baloadS X12 hx hZ e12 Vw12 hj3004 (hb hby at_77) (pc' := 78) rfl (fun v3019 hv3019 => ?_)
      refine k_sipush X12 hx (hb hby at_78) (pc' := 81) rfl (z := (255 : Int32)) rfl ?_
      refine k_iand X12 hx (hb hby at_81) (pc' := 82) rfl (fun v3020 hv3020 => ?_)
      refine k_istore X12 hx (hb hby at_82) (Ls' := #[.val (.int i0), .val (.int i1), .val (.int i2), .val (.int i3), .val (.int i4), .val (.int i5), .val (.ref b1), .val (.int (4 : Int32)), .val (.int (1 : Int32)), .val (.int v2996), .val (.int v3020), .unset]) rfl (pc' := 84) rfl ?_
      refine k_goto X12 hx (hb hby at_84) (pc' := 97) (by decide) ?_
      exact key2997 v3020
    ·
     refine k_iconst X12 hx (hb hby at_57) (pc' := 58) rfl (z := (-1 : Int32)) rfl ?_
     refine k_istore X12 hx (hb hby at_58) (Ls' := #[.val (.int i0), .val (.int i1), .val (.int i2), .val (.int i3), .val (.int i4), .val (.int i5), .val (.ref b1), .val (.int (4 : Int32)), .val (.int (1 : Int32)), .val (.int v2996), .val (.int (-1 : Int32)), .unset]) rfl (pc' := 60) rfl ?_
     refine k_goto X12 hx (hb hby at_60) (pc' := 97) (by decide) ?_
     exact key2997 (-1 : Int32)
   intro v3021
   refine k_iload X12 hx (hb hby at_97) rfl (pc' := 99) rfl ?_
   refine k_iconst X12 hx (hb hby at_99) (pc' := 100) rfl (z := (-1 : Int32)) rfl ?_
   refine k_icmp_ne X12 hx (hb hby at_100) (pn := 103) rfl (py := 109) (by decide) (fun hc3023 => ?_) (fun hc3023 => ?_)
   ·
    refine k_aload X12 hx (hb hby at_109) rfl rfl (pc' := 111) rfl ?_
    refine k_iconst X12 hx (hb hby at_111) (pc' := 112) rfl (z := (0 : Int32)) rfl ?_
    refine k_iload X12 hx (hb hby at_112) rfl (pc' := 114) rfl ?_
    refine k_iload X12 hx (hb hby at_114) rfl (pc' := 116) rfl ?_
    refine k_iload X12 hx (hb hby at_116) rfl (pc' := 118) rfl ?_
    refine k_callS X12 hx hZ hown (hw _ (List.mem_of_getElem? (i := 2) rfl)) (hw _ (List.mem_of_getElem? (i := 3) rfl)) (hw _ (List.mem_of_getElem? (i := 4) rfl)) (hw _ (List.mem_of_getElem? (i := 5) rfl)) (by decide) (rm1_113 l Z a0 hw [] b1 (4 : Int32) (1 : Int32) v3021 k1 v2 v5 v8 v11 h12 n0 Z12 Vw12) (by decide) (by decide) e12 (by rw [hml]; rfl) (argsL := [(.ref b1), (.int (0 : Int32)), (.int (4 : Int32)), (.int (1 : Int32)), (.int v3021)]) (rest := []) (lenOf pd_0 rfl) rfl (W := 0) (Nat.le_refl _) rfl (hb hby at_118) (by decide) (by decide) (pc' := 121) rfl (fun T3024 L3024 r3024 X3024 q3024 => ?_)
    obtain ⟨N3024, e3024, q3024⟩ := q3024
    have N3024' := Fr.app N12 N3024
    rcases q3024 with ⟨hc3025, rfl⟩ | ⟨hc3026, hc3027, rfl⟩ | ⟨v3028, h3029, hc3030, hc3031, hc3032, rfl⟩ | ⟨v3033, h3034, hc3035, hc3036, hc3037, rfl⟩
    ·
     show KEnds p e below s _ _ _ T3024 (mkF m 121 #[.val (.int i0), .val (.int i1), .val (.int i2), .val (.int i3), .val (.int i4), .val (.int i5), .val (.ref b1), .val (.int (4 : Int32)), .val (.int (1 : Int32)), .val (.int v2996), .val (.int v3021), .unset] [(.int (0 : Int32))])
     refine k_if_eq X3024 hx (hb hby at_121) (pn := 124) rfl (py := 130) (by decide) (fun _ => ?_) (fun hc => absurd (by decide) hc)
     refine k_aload X3024 hx (hb hby at_130) rfl rfl (pc' := 132) rfl ?_
     refine k_iconst X3024 hx (hb hby at_132) (pc' := 133) rfl (z := (1 : Int32)) rfl ?_
     refine k_iload X3024 hx (hb hby at_133) rfl (pc' := 135) rfl ?_
     refine k_iload X3024 hx (hb hby at_135) rfl (pc' := 137) rfl ?_
     refine k_iload X3024 hx (hb hby at_137) rfl (pc' := 139) rfl ?_
     refine k_callS X3024 hx hZ hown (hw _ (List.mem_of_getElem? (i := 2) rfl)) (hw _ (List.mem_of_getElem? (i := 3) rfl)) (hw _ (List.mem_of_getElem? (i := 4) rfl)) (hw _ (List.mem_of_getElem? (i := 5) rfl)) (by decide) (rm1_132 l Z a0 hw [] b1 (4 : Int32) (1 : Int32) v3021 k1 v2 v5 v8 v11 h12 n0 Z12 Vw12) (by decide) (by decide) e3024 (by rw [hml]; rfl) (argsL := [(.ref b1), (.int (1 : Int32)), (.int (4 : Int32)), (.int (1 : Int32)), (.int v3021)]) (rest := []) (lenOf pd_0 rfl) rfl (W := 0) (Nat.le_refl _) rfl (hb hby at_139) (by decide) (by decide) (pc' := 142) rfl (fun T3038 L3038 r3038 X3038 q3038 => ?_)
     obtain ⟨N3038, e3038, q3038⟩ := q3038
     have N3038' := Fr.app N3024' N3038
     rcases q3038 with ⟨hc3039, rfl⟩ | ⟨hc3040, hc3041, rfl⟩ | ⟨v3042, h3043, hc3044, hc3045, hc3046, rfl⟩ | ⟨v3047, h3048, hc3049, hc3050, hc3051, rfl⟩
     ·
      show KEnds p e below s _ _ _ T3038 (mkF m 142 #[.val (.int i0), .val (.int i1), .val (.int i2), .val (.int i3), .val (.int i4), .val (.int i5), .val (.ref b1), .val (.int (4 : Int32)), .val (.int (1 : Int32)), .val (.int v2996), .val (.int v3021), .unset] [(.int (0 : Int32))])
      refine k_if_eq X3038 hx (hb hby at_142) (pn := 145) rfl (py := 151) (by decide) (fun _ => ?_) (fun hc => absurd (by decide) hc)
      refine k_aload X3038 hx (hb hby at_151) rfl rfl (pc' := 153) rfl ?_
      refine k_iconst X3038 hx (hb hby at_153) (pc' := 154) rfl (z := (2 : Int32)) rfl ?_
      refine k_iload X3038 hx (hb hby at_154) rfl (pc' := 156) rfl ?_
      refine k_iload X3038 hx (hb hby at_156) rfl (pc' := 158) rfl ?_
      refine k_iload X3038 hx (hb hby at_158) rfl (pc' := 160) rfl ?_
      refine k_callS X3038 hx hZ hown (hw _ (List.mem_of_getElem? (i := 2) rfl)) (hw _ (List.mem_of_getElem? (i := 3) rfl)) (hw _ (List.mem_of_getElem? (i := 4) rfl)) (hw _ (List.mem_of_getElem? (i := 5) rfl)) (by decide) (rm1_151 l Z a0 hw [] b1 (4 : Int32) (1 : Int32) v3021 k1 v2 v5 v8 v11 h12 n0 Z12 Vw12) (by decide) (by decide) e3038 (by rw [hml]; rfl) (argsL := [(.ref b1), (.int (2 : Int32)), (.int (4 : Int32)), (.int (1 : Int32)), (.int v3021)]) (rest := []) (lenOf pd_0 rfl) rfl (W := 0) (Nat.le_refl _) rfl (hb hby at_160) (by decide) (by decide) (pc' := 163) rfl (fun T3052 L3052 r3052 X3052 q3052 => ?_)
      obtain ⟨N3052, e3052, q3052⟩ := q3052
      have N3052' := Fr.app N3038' N3052
      rcases q3052 with ⟨hc3053, rfl⟩ | ⟨hc3054, hc3055, rfl⟩ | ⟨v3056, h3057, hc3058, hc3059, hc3060, rfl⟩ | ⟨v3061, h3062, hc3063, hc3064, hc3065, rfl⟩
      ·
       show KEnds p e below s _ _ _ T3052 (mkF m 163 #[.val (.int i0), .val (.int i1), .val (.int i2), .val (.int i3), .val (.int i4), .val (.int i5), .val (.ref b1), .val (.int (4 : Int32)), .val (.int (1 : Int32)), .val (.int v2996), .val (.int v3021), .unset] [(.int (0 : Int32))])
       refine k_if_eq X3052 hx (hb hby at_163) (pn := 166) rfl (py := 172) (by decide) (fun _ => ?_) (fun hc => absurd (by decide) hc)
       refine k_aload X3052 hx (hb hby at_172) rfl rfl (pc' := 174) rfl ?_
       refine k_iconst X3052 hx (hb hby at_174) (pc' := 175) rfl (z := (3 : Int32)) rfl ?_
       refine k_iload X3052 hx (hb hby at_175) rfl (pc' := 177) rfl ?_
       refine k_iload X3052 hx (hb hby at_177) rfl (pc' := 179) rfl ?_
       refine k_iload X3052 hx (hb hby at_179) rfl (pc' := 181) rfl ?_
       refine k_callS X3052 hx hZ hown (hw _ (List.mem_of_getElem? (i := 2) rfl)) (hw _ (List.mem_of_getElem? (i := 3) rfl)) (hw _ (List.mem_of_getElem? (i := 4) rfl)) (hw _ (List.mem_of_getElem? (i := 5) rfl)) (by decide) (rm1_170 l Z a0 hw [] b1 (4 : Int32) (1 : Int32) v3021 k1 v2 v5 v8 v11 h12 n0 Z12 Vw12) (by decide) (by decide) e3052 (by rw [hml]; rfl) (argsL := [(.ref b1), (.int (3 : Int32)), (.int (4 : Int32)), (.int (1 : Int32)), (.int v3021)]) (rest := []) (lenOf pd_0 rfl) rfl (W := 0) (Nat.le_refl _) rfl (hb hby at_181) (by decide) (by decide) (pc' := 184) rfl (fun T3066 L3066 r3066 X3066 q3066 => ?_)
       obtain ⟨N3066, e3066, q3066⟩ := q3066
       have N3066' := Fr.app N3052' N3066
       rcases q3066 with ⟨hc3067, rfl⟩ | ⟨hc3068, hc3069, rfl⟩ | ⟨v3070, h3071, hc3072, hc3073, hc3074, rfl⟩ | ⟨v3075, h3076, hc3077, hc3078, hc3079, rfl⟩
       ·
        show KEnds p e below s _ _ _ T3066 (mkF m 184 #[.val (.int i0), .val (.int i1), .val (.int i2), .val (.int i3), .val (.int i4), .val (.int i5), .val (.ref b1), .val (.int (4 : Int32)), .val (.int (1 : Int32)), .val (.int v2996), .val (.int v3021), .unset] [(.int (0 : Int32))])
        refine k_if_eq X3066 hx (hb hby at_184) (pn := 187) rfl (py := 193) (by decide) (fun _ => ?_) (fun hc => absurd (by decide) hc)
        refine k_iconst X3066 hx (hb hby at_193) (pc' := 194) rfl (z := (-1 : Int32)) rfl ?_
        refine k_istore X3066 hx (hb hby at_194) (Ls' := #[.val (.int i0), .val (.int i1), .val (.int i2), .val (.int i3), .val (.int i4), .val (.int i5), .val (.ref b1), .val (.int (4 : Int32)), .val (.int (1 : Int32)), .val (.int v2996), .val (.int v3021), .val (.int (-1 : Int32))]) rfl (pc' := 196) rfl ?_
        refine k_aload X3066 hx (hb hby at_196) rfl rfl (pc' := 198) rfl ?_
        refine k_iload X3066 hx (hb hby at_198) rfl (pc' := 200) rfl ?_
        refine k_iload X3066 hx (hb hby at_200) rfl (pc' := 202) rfl ?_
        refine k_iload X3066 hx (hb hby at_202) rfl (pc' := 204) rfl ?_
        refine k_callS X3066 hx hZ hown (hw _ (List.mem_of_getElem? (i := 6) rfl)) (hw _ (List.mem_of_getElem? (i := 7) rfl)) (hw _ (List.mem_of_getElem? (i := 8) rfl)) (hw _ (List.mem_of_getElem? (i := 9) rfl)) (by decide) (rm2_3080 l Z a0 hw [] b1 v3021 k1 v2 v5 v8 v11 h12 n0 Z12 Vw12) (by decide) (by decide) e3066 (by rw [hml]; rfl) (argsL := [(.ref b1), (.int (4 : Int32)), (.int (1 : Int32)), (.int v3021)]) (rest := []) (lenOf pd_1 rfl) rfl (W := 0) (Nat.le_refl _) rfl (hb hby at_204) (by decide) (by decide) (pc' := 207) rfl (fun T3082 L3082 r3082 X3082 q3082 => ?_)
        obtain ⟨N3082, e3082, q3082⟩ := q3082
        have N3082' := Fr.app N3066' N3082
        rcases q3082 with ⟨hc3083, rfl⟩ | ⟨hc3084, rfl⟩
        ·
         show KEnds p e below s _ _ _ T3082 (mkF m 207 #[.val (.int i0), .val (.int i1), .val (.int i2), .val (.int i3), .val (.int i4), .val (.int i5), .val (.ref b1), .val (.int (4 : Int32)), .val (.int (1 : Int32)), .val (.int v2996), .val (.int v3021), .val (.int (-1 : Int32))] [(.int (-1 : Int32))])
         refine k_iload X3082 hx (hb hby at_207) rfl (pc' := 209) rfl ?_
         refine k_icmp_ne X3082 hx (hb hby at_209) (pn := 212) rfl (py := 216) (by decide) (fun hc => absurd (by decide) hc) (fun _ => ?_)
         refine k_iconst X3082 hx (hb hby at_212) (pc' := 213) rfl (z := (1 : Int32)) rfl ?_
         refine k_goto X3082 hx (hb hby at_213) (pc' := 217) (by decide) ?_
         exact k_retN X3082 hx (t := .boolean) Bd.returns (by simp) (hb hby at_217) hlk (by decide) (by decide) (z' := (1 : Int32)) rfl ⟨rfl, N3082'⟩
        ·
         show KEnds p e below s _ _ _ T3082 (mkF m 207 #[.val (.int i0), .val (.int i1), .val (.int i2), .val (.int i3), .val (.int i4), .val (.int i5), .val (.ref b1), .val (.int (4 : Int32)), .val (.int (1 : Int32)), .val (.int v2996), .val (.int v3021), .val (.int (-1 : Int32))] [(.int (-1 : Int32))])
         exact absurd hc3084 hc3023
       ·
        show KEnds p e below s _ _ _ T3066 (mkF m 184 #[.val (.int i0), .val (.int i1), .val (.int i2), .val (.int i3), .val (.int i4), .val (.int i5), .val (.ref b1), .val (.int (4 : Int32)), .val (.int (1 : Int32)), .val (.int v2996), .val (.int v3021), .unset] [(.int (0 : Int32))])
        exact absurd (by decide) hc3068
       ·
        show KEnds p e below s _ _ _ T3066 (mkF m 184 #[.val (.int i0), .val (.int i1), .val (.int i2), .val (.int i3), .val (.int i4), .val (.int i5), .val (.ref b1), .val (.int (4 : Int32)), .val (.int (1 : Int32)), .val (.int v2996), .val (.int v3021), .unset] [(.int (0 : Int32))])
        exact absurd (by decide) hc3072
       ·
        show KEnds p e below s _ _ _ T3066 (mkF m 184 #[.val (.int i0), .val (.int i1), .val (.int i2), .val (.int i3), .val (.int i4), .val (.int i5), .val (.ref b1), .val (.int (4 : Int32)), .val (.int (1 : Int32)), .val (.int v2996), .val (.int v3021), .unset] [(.int (1 : Int32))])
        exact absurd (by decide) hc3077
      ·
       show KEnds p e below s _ _ _ T3052 (mkF m 163 #[.val (.int i0), .val (.int i1), .val (.int i2), .val (.int i3), .val (.int i4), .val (.int i5), .val (.ref b1), .val (.int (4 : Int32)), .val (.int (1 : Int32)), .val (.int v2996), .val (.int v3021), .unset] [(.int (0 : Int32))])
       exact absurd (by decide) hc3054
      ·
       show KEnds p e below s _ _ _ T3052 (mkF m 163 #[.val (.int i0), .val (.int i1), .val (.int i2), .val (.int i3), .val (.int i4), .val (.int i5), .val (.ref b1), .val (.int (4 : Int32)), .val (.int (1 : Int32)), .val (.int v2996), .val (.int v3021), .unset] [(.int (0 : Int32))])
       exact absurd (by decide) hc3058
      ·
       show KEnds p e below s _ _ _ T3052 (mkF m 163 #[.val (.int i0), .val (.int i1), .val (.int i2), .val (.int i3), .val (.int i4), .val (.int i5), .val (.ref b1), .val (.int (4 : Int32)), .val (.int (1 : Int32)), .val (.int v2996), .val (.int v3021), .unset] [(.int (1 : Int32))])
       exact absurd (by decide) hc3063
     ·
      show KEnds p e below s _ _ _ T3038 (mkF m 142 #[.val (.int i0), .val (.int i1), .val (.int i2), .val (.int i3), .val (.int i4), .val (.int i5), .val (.ref b1), .val (.int (4 : Int32)), .val (.int (1 : Int32)), .val (.int v2996), .val (.int v3021), .unset] [(.int (0 : Int32))])
      exact absurd (by decide) hc3040
     ·
      show KEnds p e below s _ _ _ T3038 (mkF m 142 #[.val (.int i0), .val (.int i1), .val (.int i2), .val (.int i3), .val (.int i4), .val (.int i5), .val (.ref b1), .val (.int (4 : Int32)), .val (.int (1 : Int32)), .val (.int v2996), .val (.int v3021), .unset] [(.int (0 : Int32))])
      exact absurd (by decide) hc3044
     ·
      show KEnds p e below s _ _ _ T3038 (mkF m 142 #[.val (.int i0), .val (.int i1), .val (.int i2), .val (.int i3), .val (.int i4), .val (.int i5), .val (.ref b1), .val (.int (4 : Int32)), .val (.int (1 : Int32)), .val (.int v2996), .val (.int v3021), .unset] [(.int (1 : Int32))])
      exact absurd (by decide) hc3049
    ·
     show KEnds p e below s _ _ _ T3024 (mkF m 121 #[.val (.int i0), .val (.int i1), .val (.int i2), .val (.int i3), .val (.int i4), .val (.int i5), .val (.ref b1), .val (.int (4 : Int32)), .val (.int (1 : Int32)), .val (.int v2996), .val (.int v3021), .unset] [(.int (0 : Int32))])
     exact absurd (by decide) hc3026
    ·
     show KEnds p e below s _ _ _ T3024 (mkF m 121 #[.val (.int i0), .val (.int i1), .val (.int i2), .val (.int i3), .val (.int i4), .val (.int i5), .val (.ref b1), .val (.int (4 : Int32)), .val (.int (1 : Int32)), .val (.int v2996), .val (.int v3021), .unset] [(.int (0 : Int32))])
     exact absurd (by decide) hc3030
    ·
     show KEnds p e below s _ _ _ T3024 (mkF m 121 #[.val (.int i0), .val (.int i1), .val (.int i2), .val (.int i3), .val (.int i4), .val (.int i5), .val (.ref b1), .val (.int (4 : Int32)), .val (.int (1 : Int32)), .val (.int v2996), .val (.int v3021), .unset] [(.int (1 : Int32))])
     exact absurd (by decide) hc3035
   ·
    refine k_iconst X12 hx (hb hby at_103) (pc' := 104) rfl (z := (-1 : Int32)) rfl ?_
    refine k_istore X12 hx (hb hby at_104) (Ls' := #[.val (.int i0), .val (.int i1), .val (.int i2), .val (.int i3), .val (.int i4), .val (.int i5), .val (.ref b1), .val (.int (4 : Int32)), .val (.int (1 : Int32)), .val (.int v2996), .val (.int v3021), .val (.int (-1 : Int32))]) rfl (pc' := 106) rfl ?_
    refine k_goto X12 hx (hb hby at_106) (pc' := 196) (by decide) ?_
    refine k_aload X12 hx (hb hby at_196) rfl rfl (pc' := 198) rfl ?_
    refine k_iload X12 hx (hb hby at_198) rfl (pc' := 200) rfl ?_
    refine k_iload X12 hx (hb hby at_200) rfl (pc' := 202) rfl ?_
    refine k_iload X12 hx (hb hby at_202) rfl (pc' := 204) rfl ?_
    refine k_callS X12 hx hZ hown (hw _ (List.mem_of_getElem? (i := 6) rfl)) (hw _ (List.mem_of_getElem? (i := 7) rfl)) (hw _ (List.mem_of_getElem? (i := 8) rfl)) (hw _ (List.mem_of_getElem? (i := 9) rfl)) (by decide) (rm2_3080 l Z a0 hw [] b1 v3021 k1 v2 v5 v8 v11 h12 n0 Z12 Vw12) (by decide) (by decide) e12 (by rw [hml]; rfl) (argsL := [(.ref b1), (.int (4 : Int32)), (.int (1 : Int32)), (.int v3021)]) (rest := []) (lenOf pd_1 rfl) rfl (W := 0) (Nat.le_refl _) rfl (hb hby at_204) (by decide) (by decide) (pc' := 207) rfl (fun T3085 L3085 r3085 X3085 q3085 => ?_)
    obtain ⟨N3085, e3085, q3085⟩ := q3085
    have N3085' := Fr.app N12 N3085
    rcases q3085 with ⟨hc3086, rfl⟩ | ⟨hc3087, rfl⟩
    ·
     show KEnds p e below s _ _ _ T3085 (mkF m 207 #[.val (.int i0), .val (.int i1), .val (.int i2), .val (.int i3), .val (.int i4), .val (.int i5), .val (.ref b1), .val (.int (4 : Int32)), .val (.int (1 : Int32)), .val (.int v2996), .val (.int v3021), .val (.int (-1 : Int32))] [(.int (-1 : Int32))])
     exact absurd hc3023 hc3086
    ·
     show KEnds p e below s _ _ _ T3085 (mkF m 207 #[.val (.int i0), .val (.int i1), .val (.int i2), .val (.int i3), .val (.int i4), .val (.int i5), .val (.ref b1), .val (.int (4 : Int32)), .val (.int (1 : Int32)), .val (.int v2996), .val (.int v3021), .val (.int (-1 : Int32))] [(.int (-1 : Int32))])
     refine k_iload X3085 hx (hb hby at_207) rfl (pc' := 209) rfl ?_
     refine k_icmp_ne X3085 hx (hb hby at_209) (pn := 212) rfl (py := 216) (by decide) (fun hc => absurd (by decide) hc) (fun _ => ?_)
     refine k_iconst X3085 hx (hb hby at_212) (pc' := 213) rfl (z := (1 : Int32)) rfl ?_
     refine k_goto X3085 hx (hb hby at_213) (pc' := 217) (by decide) ?_
     exact k_retN X3085 hx (t := .boolean) Bd.returns (by simp) (hb hby at_217) hlk (by decide) (by decide) (z' := (1 : Int32)) rfl ⟨rfl, N3085'⟩
  ·
   show KEnds p e below s _ _ _ T12 (mkF m 44 #[.val (.int i0), .val (.int i1), .val (.int i2), .val (.int i3), .val (.int i4), .val (.int i5), .val (.ref b1), .val (.int (4 : Int32)), .unset, .unset, .unset, .unset] [(.int (2 : Int32))])
   refine k_istore X12 hx (hb hby at_44) (Ls' := #[.val (.int i0), .val (.int i1), .val (.int i2), .val (.int i3), .val (.int i4), .val (.int i5), .val (.ref b1), .val (.int (4 : Int32)), .val (.int (2 : Int32)), .unset, .unset, .unset]) rfl (pc' := 46) rfl ?_
   refine k_iload X12 hx (hb hby at_46) rfl (pc' := 48) rfl ?_
   refine k_iconst X12 hx (hb hby at_48) (pc' := 49) rfl (z := (3 : Int32)) rfl ?_
   refine k_iand X12 hx (hb hby at_49) (pc' := 50) rfl (fun v3089 hv3089 => ?_)
   refine k_istore X12 hx (hb hby at_50) (Ls' := #[.val (.int i0), .val (.int i1), .val (.int i2), .val (.int i3), .val (.int i4), .val (.int i5), .val (.ref b1), .val (.int (4 : Int32)), .val (.int (2 : Int32)), .val (.int v3089), .unset, .unset]) rfl (pc' := 52) rfl ?_
   suffices key3090 : ∀ (v3114 : Int32), KEnds p e below s 16 128 (Q0 n0) T12 (mkF m 97 #[.val (.int i0), .val (.int i1), .val (.int i2), .val (.int i3), .val (.int i4), .val (.int i5), .val (.ref b1), .val (.int (4 : Int32)), .val (.int (2 : Int32)), .val (.int v3089), .val (.int v3114), .unset] []) by
    refine k_iload X12 hx (hb hby at_52) rfl (pc' := 54) rfl ?_
    refine k_if_ne X12 hx (hb hby at_54) (pn := 57) rfl (py := 63) (by decide) (fun hc3091 => ?_) (fun hc3091 => ?_)
    ·
     refine k_iload X12 hx (hb hby at_63) rfl (pc' := 65) rfl ?_
     refine k_iconst X12 hx (hb hby at_65) (pc' := 66) rfl (z := (1 : Int32)) rfl ?_
     refine k_icmp_ne X12 hx (hb hby at_66) (pn := 69) rfl (py := 87) (by decide) (fun hc3092 => ?_) (fun hc3092 => ?_)
     ·
      refine k_iload X12 hx (hb hby at_87) rfl (pc' := 89) rfl ?_
      refine k_iconst X12 hx (hb hby at_89) (pc' := 90) rfl (z := (2 : Int32)) rfl ?_
      refine k_iushr X12 hx (hb hby at_90) (pc' := 91) rfl (fun v3093 hv3093 => ?_)
      refine k_sipush X12 hx (hb hby at_91) (pc' := 94) rfl (z := (255 : Int32)) rfl ?_
      refine k_iand X12 hx (hb hby at_94) (pc' := 95) rfl (fun v3094 hv3094 => ?_)
      refine k_istore X12 hx (hb hby at_95) (Ls' := #[.val (.int i0), .val (.int i1), .val (.int i2), .val (.int i3), .val (.int i4), .val (.int i5), .val (.ref b1), .val (.int (4 : Int32)), .val (.int (2 : Int32)), .val (.int v3089), .val (.int v3094), .unset]) rfl (pc' := 97) rfl ?_
      exact key3090 v3094
     ·
      refine k_aload X12 hx (hb hby at_69) rfl rfl (pc' := 71) rfl ?_
      refine k_iload X12 hx (hb hby at_71) rfl (pc' := 73) rfl ?_
      refine k_iconst X12 hx (hb hby at_73) (pc' := 74) rfl (z := (2 : Int32)) rfl ?_
      refine k_iushr X12 hx (hb hby at_74) (pc' := 75) rfl (fun v3095 hv3095 => ?_)
      refine k_iconst X12 hx (hb hby at_75) (pc' := 76) rfl (z := (3 : Int32)) rfl ?_
      refine k_iand X12 hx (hb hby at_76) (pc' := 77) rfl (fun v3096 hv3096 => ?_)
      have hj3097 : ¬ v3096 < 0 ∧ v3096 < (4 : Int32) := by
       refine ⟨?_, ?_⟩
       ·
        intro hq3098
        have := rng32 v3089
        have := rng32 i5
        have : (3 : Int32).toInt = 3 := (by decide)
        have q3099 : v3089.toInt = i5.toInt % 4 := (by rw [hv3089]; exact c_mask _ _ 2 (by decide) (by decide))
        have : (0 : Int32).toInt = 0 := (by decide)
        have q3100 : ¬ v3089.toInt = (0 : Int32).toInt := fun q => hc3091 (Int32.toInt_inj.mp q)
        have : (1 : Int32).toInt = 1 := (by decide)
        have q3101 := congrArg Int32.toInt hc3092
        have := rng32 v3096
        have := rng32 v3095
        have : (2 : Int32).toInt = 2 := (by decide)
        have q3102 : v3095.toInt = (i5.toInt % 4294967296) / 4 := (by rw [hv3095]; exact c_iushr _ _ 2 (by decide) (by decide))
        have q3103 : v3096.toInt = v3095.toInt % 4 := (by rw [hv3096]; exact c_mask _ _ 2 (by decide) (by decide))
        have q3104 := hq3098; rw [Int32.lt_iff_toInt_lt] at q3104
        omega
       ·
        refine Classical.byContradiction (fun hq3105 => ?_)
        have := rng32 v3089
        have := rng32 i5
        have : (3 : Int32).toInt = 3 := (by decide)
        have q3106 : v3089.toInt = i5.toInt % 4 := (by rw [hv3089]; exact c_mask _ _ 2 (by decide) (by decide))
        have : (0 : Int32).toInt = 0 := (by decide)
        have q3107 : ¬ v3089.toInt = (0 : Int32).toInt := fun q => hc3091 (Int32.toInt_inj.mp q)
        have : (1 : Int32).toInt = 1 := (by decide)
        have q3108 := congrArg Int32.toInt hc3092
        have := rng32 v3096
        have := rng32 v3095
        have : (2 : Int32).toInt = 2 := (by decide)
        have q3109 : v3095.toInt = (i5.toInt % 4294967296) / 4 := (by rw [hv3095]; exact c_iushr _ _ 2 (by decide) (by decide))
        have q3110 : v3096.toInt = v3095.toInt % 4 := (by rw [hv3096]; exact c_mask _ _ 2 (by decide) (by decide))
        have : (4 : Int32).toInt = 4 := (by decide)
        have q3111 := hq3105; rw [Int32.lt_iff_toInt_lt] at q3111
        omega
      refine k_baloadS X12 hx hZ e12 Vw12 hj3097 (hb hby at_77) (pc' := 78) rfl (fun v3112 hv3112 => ?_)
      refine k_sipush X12 hx (hb hby at_78) (pc' := 81) rfl (z := (255 : Int32)) rfl ?_
      refine k_iand X12 hx (hb hby at_81) (pc' := 82) rfl (fun v3113 hv3113 => ?_)
      refine k_istore X12 hx (hb hby at_82) (Ls' := #[.val (.int i0), .val (.int i1), .val (.int i2), .val (.int i3), .val (.int i4), .val (.int i5), .val (.ref b1), .val (.int (4 : Int32)), .val (.int (2 : Int32)), .val (.int v3089), .val (.int v3113), .unset]) rfl (pc' := 84) rfl ?_
      refine k_goto X12 hx (hb hby at_84) (pc' := 97) (by decide) ?_
      exact key3090 v3113
    ·
     refine k_iconst X12 hx (hb hby at_57) (pc' := 58) rfl (z := (-1 : Int32)) rfl ?_
     refine k_istore X12 hx (hb hby at_58) (Ls' := #[.val (.int i0), .val (.int i1), .val (.int i2), .val (.int i3), .val (.int i4), .val (.int i5), .val (.ref b1), .val (.int (4 : Int32)), .val (.int (2 : Int32)), .val (.int v3089), .val (.int (-1 : Int32)), .unset]) rfl (pc' := 60) rfl ?_
     refine k_goto X12 hx (hb hby at_60) (pc' := 97) (by decide) ?_
     exact key3090 (-1 : Int32)
   intro v3114
   refine k_iload X12 hx (hb hby at_97) rfl (pc' := 99) rfl ?_
   refine k_iconst X12 hx (hb hby at_99) (pc' := 100) rfl (z := (-1 : Int32)) rfl ?_
   refine k_icmp_ne X12 hx (hb hby at_100) (pn := 103) rfl (py := 109) (by decide) (fun hc3116 => ?_) (fun hc3116 => ?_)
   ·
    refine k_aload X12 hx (hb hby at_109) rfl rfl (pc' := 111) rfl ?_
    refine k_iconst X12 hx (hb hby at_111) (pc' := 112) rfl (z := (0 : Int32)) rfl ?_
    refine k_iload X12 hx (hb hby at_112) rfl (pc' := 114) rfl ?_
    refine k_iload X12 hx (hb hby at_114) rfl (pc' := 116) rfl ?_
    refine k_iload X12 hx (hb hby at_116) rfl (pc' := 118) rfl ?_
    refine k_callS X12 hx hZ hown (hw _ (List.mem_of_getElem? (i := 2) rfl)) (hw _ (List.mem_of_getElem? (i := 3) rfl)) (hw _ (List.mem_of_getElem? (i := 4) rfl)) (hw _ (List.mem_of_getElem? (i := 5) rfl)) (by decide) (rm1_113 l Z a0 hw [] b1 (4 : Int32) (2 : Int32) v3114 k1 v2 v5 v8 v11 h12 n0 Z12 Vw12) (by decide) (by decide) e12 (by rw [hml]; rfl) (argsL := [(.ref b1), (.int (0 : Int32)), (.int (4 : Int32)), (.int (2 : Int32)), (.int v3114)]) (rest := []) (lenOf pd_0 rfl) rfl (W := 0) (Nat.le_refl _) rfl (hb hby at_118) (by decide) (by decide) (pc' := 121) rfl (fun T3117 L3117 r3117 X3117 q3117 => ?_)
    obtain ⟨N3117, e3117, q3117⟩ := q3117
    have N3117' := Fr.app N12 N3117
    rcases q3117 with ⟨hc3118, rfl⟩ | ⟨hc3119, hc3120, rfl⟩ | ⟨v3121, h3122, hc3123, hc3124, hc3125, rfl⟩ | ⟨v3126, h3127, hc3128, hc3129, hc3130, rfl⟩
    ·
     show KEnds p e below s _ _ _ T3117 (mkF m 121 #[.val (.int i0), .val (.int i1), .val (.int i2), .val (.int i3), .val (.int i4), .val (.int i5), .val (.ref b1), .val (.int (4 : Int32)), .val (.int (2 : Int32)), .val (.int v3089), .val (.int v3114), .unset] [(.int (0 : Int32))])
     refine k_if_eq X3117 hx (hb hby at_121) (pn := 124) rfl (py := 130) (by decide) (fun _ => ?_) (fun hc => absurd (by decide) hc)
     refine k_aload X3117 hx (hb hby at_130) rfl rfl (pc' := 132) rfl ?_
     refine k_iconst X3117 hx (hb hby at_132) (pc' := 133) rfl (z := (1 : Int32)) rfl ?_
     refine k_iload X3117 hx (hb hby at_133) rfl (pc' := 135) rfl ?_
     refine k_iload X3117 hx (hb hby at_135) rfl (pc' := 137) rfl ?_
     refine k_iload X3117 hx (hb hby at_137) rfl (pc' := 139) rfl ?_
     refine k_callS X3117 hx hZ hown (hw _ (List.mem_of_getElem? (i := 2) rfl)) (hw _ (List.mem_of_getElem? (i := 3) rfl)) (hw _ (List.mem_of_getElem? (i := 4) rfl)) (hw _ (List.mem_of_getElem? (i := 5) rfl)) (by decide) (rm1_132 l Z a0 hw [] b1 (4 : Int32) (2 : Int32) v3114 k1 v2 v5 v8 v11 h12 n0 Z12 Vw12) (by decide) (by decide) e3117 (by rw [hml]; rfl) (argsL := [(.ref b1), (.int (1 : Int32)), (.int (4 : Int32)), (.int (2 : Int32)), (.int v3114)]) (rest := []) (lenOf pd_0 rfl) rfl (W := 0) (Nat.le_refl _) rfl (hb hby at_139) (by decide) (by decide) (pc' := 142) rfl (fun T3131 L3131 r3131 X3131 q3131 => ?_)
     obtain ⟨N3131, e3131, q3131⟩ := q3131
     have N3131' := Fr.app N3117' N3131
     rcases q3131 with ⟨hc3132, rfl⟩ | ⟨hc3133, hc3134, rfl⟩ | ⟨v3135, h3136, hc3137, hc3138, hc3139, rfl⟩ | ⟨v3140, h3141, hc3142, hc3143, hc3144, rfl⟩
     ·
      show KEnds p e below s _ _ _ T3131 (mkF m 142 #[.val (.int i0), .val (.int i1), .val (.int i2), .val (.int i3), .val (.int i4), .val (.int i5), .val (.ref b1), .val (.int (4 : Int32)), .val (.int (2 : Int32)), .val (.int v3089), .val (.int v3114), .unset] [(.int (0 : Int32))])
      refine k_if_eq X3131 hx (hb hby at_142) (pn := 145) rfl (py := 151) (by decide) (fun _ => ?_) (fun hc => absurd (by decide) hc)
      refine k_aload X3131 hx (hb hby at_151) rfl rfl (pc' := 153) rfl ?_
      refine k_iconst X3131 hx (hb hby at_153) (pc' := 154) rfl (z := (2 : Int32)) rfl ?_
      refine k_iload X3131 hx (hb hby at_154) rfl (pc' := 156) rfl ?_
      refine k_iload X3131 hx (hb hby at_156) rfl (pc' := 158) rfl ?_
      refine k_iload X3131 hx (hb hby at_158) rfl (pc' := 160) rfl ?_
      refine k_callS X3131 hx hZ hown (hw _ (List.mem_of_getElem? (i := 2) rfl)) (hw _ (List.mem_of_getElem? (i := 3) rfl)) (hw _ (List.mem_of_getElem? (i := 4) rfl)) (hw _ (List.mem_of_getElem? (i := 5) rfl)) (by decide) (rm1_151 l Z a0 hw [] b1 (4 : Int32) (2 : Int32) v3114 k1 v2 v5 v8 v11 h12 n0 Z12 Vw12) (by decide) (by decide) e3131 (by rw [hml]; rfl) (argsL := [(.ref b1), (.int (2 : Int32)), (.int (4 : Int32)), (.int (2 : Int32)), (.int v3114)]) (rest := []) (lenOf pd_0 rfl) rfl (W := 0) (Nat.le_refl _) rfl (hb hby at_160) (by decide) (by decide) (pc' := 163) rfl (fun T3145 L3145 r3145 X3145 q3145 => ?_)
      obtain ⟨N3145, e3145, q3145⟩ := q3145
      have N3145' := Fr.app N3131' N3145
      rcases q3145 with ⟨hc3146, rfl⟩ | ⟨hc3147, hc3148, rfl⟩ | ⟨v3149, h3150, hc3151, hc3152, hc3153, rfl⟩ | ⟨v3154, h3155, hc3156, hc3157, hc3158, rfl⟩
      ·
       show KEnds p e below s _ _ _ T3145 (mkF m 163 #[.val (.int i0), .val (.int i1), .val (.int i2), .val (.int i3), .val (.int i4), .val (.int i5), .val (.ref b1), .val (.int (4 : Int32)), .val (.int (2 : Int32)), .val (.int v3089), .val (.int v3114), .unset] [(.int (0 : Int32))])
       refine k_if_eq X3145 hx (hb hby at_163) (pn := 166) rfl (py := 172) (by decide) (fun _ => ?_) (fun hc => absurd (by decide) hc)
       refine k_aload X3145 hx (hb hby at_172) rfl rfl (pc' := 174) rfl ?_
       refine k_iconst X3145 hx (hb hby at_174) (pc' := 175) rfl (z := (3 : Int32)) rfl ?_
       refine k_iload X3145 hx (hb hby at_175) rfl (pc' := 177) rfl ?_
       refine k_iload X3145 hx (hb hby at_177) rfl (pc' := 179) rfl ?_
       refine k_iload X3145 hx (hb hby at_179) rfl (pc' := 181) rfl ?_
       refine k_callS X3145 hx hZ hown (hw _ (List.mem_of_getElem? (i := 2) rfl)) (hw _ (List.mem_of_getElem? (i := 3) rfl)) (hw _ (List.mem_of_getElem? (i := 4) rfl)) (hw _ (List.mem_of_getElem? (i := 5) rfl)) (by decide) (rm1_170 l Z a0 hw [] b1 (4 : Int32) (2 : Int32) v3114 k1 v2 v5 v8 v11 h12 n0 Z12 Vw12) (by decide) (by decide) e3145 (by rw [hml]; rfl) (argsL := [(.ref b1), (.int (3 : Int32)), (.int (4 : Int32)), (.int (2 : Int32)), (.int v3114)]) (rest := []) (lenOf pd_0 rfl) rfl (W := 0) (Nat.le_refl _) rfl (hb hby at_181) (by decide) (by decide) (pc' := 184) rfl (fun T3159 L3159 r3159 X3159 q3159 => ?_)
       obtain ⟨N3159, e3159, q3159⟩ := q3159
       have N3159' := Fr.app N3145' N3159
       rcases q3159 with ⟨hc3160, rfl⟩ | ⟨hc3161, hc3162, rfl⟩ | ⟨v3163, h3164, hc3165, hc3166, hc3167, rfl⟩ | ⟨v3168, h3169, hc3170, hc3171, hc3172, rfl⟩
       ·
        show KEnds p e below s _ _ _ T3159 (mkF m 184 #[.val (.int i0), .val (.int i1), .val (.int i2), .val (.int i3), .val (.int i4), .val (.int i5), .val (.ref b1), .val (.int (4 : Int32)), .val (.int (2 : Int32)), .val (.int v3089), .val (.int v3114), .unset] [(.int (0 : Int32))])
        refine k_if_eq X3159 hx (hb hby at_184) (pn := 187) rfl (py := 193) (by decide) (fun _ => ?_) (fun hc => absurd (by decide) hc)
        refine k_iconst X3159 hx (hb hby at_193) (pc' := 194) rfl (z := (-1 : Int32)) rfl ?_
        refine k_istore X3159 hx (hb hby at_194) (Ls' := #[.val (.int i0), .val (.int i1), .val (.int i2), .val (.int i3), .val (.int i4), .val (.int i5), .val (.ref b1), .val (.int (4 : Int32)), .val (.int (2 : Int32)), .val (.int v3089), .val (.int v3114), .val (.int (-1 : Int32))]) rfl (pc' := 196) rfl ?_
        refine k_aload X3159 hx (hb hby at_196) rfl rfl (pc' := 198) rfl ?_
        refine k_iload X3159 hx (hb hby at_198) rfl (pc' := 200) rfl ?_
        refine k_iload X3159 hx (hb hby at_200) rfl (pc' := 202) rfl ?_
        refine k_iload X3159 hx (hb hby at_202) rfl (pc' := 204) rfl ?_
        refine k_callS X3159 hx hZ hown (hw _ (List.mem_of_getElem? (i := 6) rfl)) (hw _ (List.mem_of_getElem? (i := 7) rfl)) (hw _ (List.mem_of_getElem? (i := 8) rfl)) (hw _ (List.mem_of_getElem? (i := 9) rfl)) (by decide) (rm2_3173 l Z a0 hw [] b1 v3114 k1 v2 v5 v8 v11 h12 n0 Z12 Vw12) (by decide) (by decide) e3159 (by rw [hml]; rfl) (argsL := [(.ref b1), (.int (4 : Int32)), (.int (2 : Int32)), (.int v3114)]) (rest := []) (lenOf pd_1 rfl) rfl (W := 0) (Nat.le_refl _) rfl (hb hby at_204) (by decide) (by decide) (pc' := 207) rfl (fun T3175 L3175 r3175 X3175 q3175 => ?_)
        obtain ⟨N3175, e3175, q3175⟩ := q3175
        have N3175' := Fr.app N3159' N3175
        rcases q3175 with ⟨hc3176, rfl⟩ | ⟨hc3177, rfl⟩
        ·
         show KEnds p e below s _ _ _ T3175 (mkF m 207 #[.val (.int i0), .val (.int i1), .val (.int i2), .val (.int i3), .val (.int i4), .val (.int i5), .val (.ref b1), .val (.int (4 : Int32)), .val (.int (2 : Int32)), .val (.int v3089), .val (.int v3114), .val (.int (-1 : Int32))] [(.int (-1 : Int32))])
         refine k_iload X3175 hx (hb hby at_207) rfl (pc' := 209) rfl ?_
         refine k_icmp_ne X3175 hx (hb hby at_209) (pn := 212) rfl (py := 216) (by decide) (fun hc => absurd (by decide) hc) (fun _ => ?_)
         refine k_iconst X3175 hx (hb hby at_212) (pc' := 213) rfl (z := (1 : Int32)) rfl ?_
         refine k_goto X3175 hx (hb hby at_213) (pc' := 217) (by decide) ?_
         exact k_retN X3175 hx (t := .boolean) Bd.returns (by simp) (hb hby at_217) hlk (by decide) (by decide) (z' := (1 : Int32)) rfl ⟨rfl, N3175'⟩
        ·
         show KEnds p e below s _ _ _ T3175 (mkF m 207 #[.val (.int i0), .val (.int i1), .val (.int i2), .val (.int i3), .val (.int i4), .val (.int i5), .val (.ref b1), .val (.int (4 : Int32)), .val (.int (2 : Int32)), .val (.int v3089), .val (.int v3114), .val (.int (-1 : Int32))] [(.int (-1 : Int32))])
         exact absurd hc3177 hc3116
       ·
        show KEnds p e below s _ _ _ T3159 (mkF m 184 #[.val (.int i0), .val (.int i1), .val (.int i2), .val (.int i3), .val (.int i4), .val (.int i5), .val (.ref b1), .val (.int (4 : Int32)), .val (.int (2 : Int32)), .val (.int v3089), .val (.int v3114), .unset] [(.int (0 : Int32))])
        exact absurd (by decide) hc3161
       ·
        show KEnds p e below s _ _ _ T3159 (mkF m 184 #[.val (.int i0), .val (.int i1), .val (.int i2), .val (.int i3), .val (.int i4), .val (.int i5), .val (.ref b1), .val (.int (4 : Int32)), .val (.int (2 : Int32)), .val (.int v3089), .val (.int v3114), .unset] [(.int (0 : Int32))])
        exact absurd (by decide) hc3165
       ·
        show KEnds p e below s _ _ _ T3159 (mkF m 184 #[.val (.int i0), .val (.int i1), .val (.int i2), .val (.int i3), .val (.int i4), .val (.int i5), .val (.ref b1), .val (.int (4 : Int32)), .val (.int (2 : Int32)), .val (.int v3089), .val (.int v3114), .unset] [(.int (1 : Int32))])
        exact absurd (by decide) hc3170
      ·
       show KEnds p e below s _ _ _ T3145 (mkF m 163 #[.val (.int i0), .val (.int i1), .val (.int i2), .val (.int i3), .val (.int i4), .val (.int i5), .val (.ref b1), .val (.int (4 : Int32)), .val (.int (2 : Int32)), .val (.int v3089), .val (.int v3114), .unset] [(.int (0 : Int32))])
       exact absurd (by decide) hc3147
      ·
       show KEnds p e below s _ _ _ T3145 (mkF m 163 #[.val (.int i0), .val (.int i1), .val (.int i2), .val (.int i3), .val (.int i4), .val (.int i5), .val (.ref b1), .val (.int (4 : Int32)), .val (.int (2 : Int32)), .val (.int v3089), .val (.int v3114), .unset] [(.int (0 : Int32))])
       exact absurd (by decide) hc3151
      ·
       show KEnds p e below s _ _ _ T3145 (mkF m 163 #[.val (.int i0), .val (.int i1), .val (.int i2), .val (.int i3), .val (.int i4), .val (.int i5), .val (.ref b1), .val (.int (4 : Int32)), .val (.int (2 : Int32)), .val (.int v3089), .val (.int v3114), .unset] [(.int (1 : Int32))])
       exact absurd (by decide) hc3156
     ·
      show KEnds p e below s _ _ _ T3131 (mkF m 142 #[.val (.int i0), .val (.int i1), .val (.int i2), .val (.int i3), .val (.int i4), .val (.int i5), .val (.ref b1), .val (.int (4 : Int32)), .val (.int (2 : Int32)), .val (.int v3089), .val (.int v3114), .unset] [(.int (0 : Int32))])
      exact absurd (by decide) hc3133
     ·
      show KEnds p e below s _ _ _ T3131 (mkF m 142 #[.val (.int i0), .val (.int i1), .val (.int i2), .val (.int i3), .val (.int i4), .val (.int i5), .val (.ref b1), .val (.int (4 : Int32)), .val (.int (2 : Int32)), .val (.int v3089), .val (.int v3114), .unset] [(.int (0 : Int32))])
      exact absurd (by decide) hc3137
     ·
      show KEnds p e below s _ _ _ T3131 (mkF m 142 #[.val (.int i0), .val (.int i1), .val (.int i2), .val (.int i3), .val (.int i4), .val (.int i5), .val (.ref b1), .val (.int (4 : Int32)), .val (.int (2 : Int32)), .val (.int v3089), .val (.int v3114), .unset] [(.int (1 : Int32))])
      exact absurd (by decide) hc3142
    ·
     show KEnds p e below s _ _ _ T3117 (mkF m 121 #[.val (.int i0), .val (.int i1), .val (.int i2), .val (.int i3), .val (.int i4), .val (.int i5), .val (.ref b1), .val (.int (4 : Int32)), .val (.int (2 : Int32)), .val (.int v3089), .val (.int v3114), .unset] [(.int (0 : Int32))])
     exact absurd (by decide) hc3119
    ·
     show KEnds p e below s _ _ _ T3117 (mkF m 121 #[.val (.int i0), .val (.int i1), .val (.int i2), .val (.int i3), .val (.int i4), .val (.int i5), .val (.ref b1), .val (.int (4 : Int32)), .val (.int (2 : Int32)), .val (.int v3089), .val (.int v3114), .unset] [(.int (0 : Int32))])
     exact absurd (by decide) hc3123
    ·
     show KEnds p e below s _ _ _ T3117 (mkF m 121 #[.val (.int i0), .val (.int i1), .val (.int i2), .val (.int i3), .val (.int i4), .val (.int i5), .val (.ref b1), .val (.int (4 : Int32)), .val (.int (2 : Int32)), .val (.int v3089), .val (.int v3114), .unset] [(.int (1 : Int32))])
     exact absurd (by decide) hc3128
   ·
    refine k_iconst X12 hx (hb hby at_103) (pc' := 104) rfl (z := (-1 : Int32)) rfl ?_
    refine k_istore X12 hx (hb hby at_104) (Ls' := #[.val (.int i0), .val (.int i1), .val (.int i2), .val (.int i3), .val (.int i4), .val (.int i5), .val (.ref b1), .val (.int (4 : Int32)), .val (.int (2 : Int32)), .val (.int v3089), .val (.int v3114), .val (.int (-1 : Int32))]) rfl (pc' := 106) rfl ?_
    refine k_goto X12 hx (hb hby at_106) (pc' := 196) (by decide) ?_
    refine k_aload X12 hx (hb hby at_196) rfl rfl (pc' := 198) rfl ?_
    refine k_iload X12 hx (hb hby at_198) rfl (pc' := 200) rfl ?_
    refine k_iload X12 hx (hb hby at_200) rfl (pc' := 202) rfl ?_
    refine k_iload X12 hx (hb hby at_202) rfl (pc' := 204) rfl ?_
    refine k_callS X12 hx hZ hown (hw _ (List.mem_of_getElem? (i := 6) rfl)) (hw _ (List.mem_of_getElem? (i := 7) rfl)) (hw _ (List.mem_of_getElem? (i := 8) rfl)) (hw _ (List.mem_of_getElem? (i := 9) rfl)) (by decide) (rm2_3173 l Z a0 hw [] b1 v3114 k1 v2 v5 v8 v11 h12 n0 Z12 Vw12) (by decide) (by decide) e12 (by rw [hml]; rfl) (argsL := [(.ref b1), (.int (4 : Int32)), (.int (2 : Int32)), (.int v3114)]) (rest := []) (lenOf pd_1 rfl) rfl (W := 0) (Nat.le_refl _) rfl (hb hby at_204) (by decide) (by decide) (pc' := 207) rfl (fun T3178 L3178 r3178 X3178 q3178 => ?_)
    obtain ⟨N3178, e3178, q3178⟩ := q3178
    have N3178' := Fr.app N12 N3178
    rcases q3178 with ⟨hc3179, rfl⟩ | ⟨hc3180, rfl⟩
    ·
     show KEnds p e below s _ _ _ T3178 (mkF m 207 #[.val (.int i0), .val (.int i1), .val (.int i2), .val (.int i3), .val (.int i4), .val (.int i5), .val (.ref b1), .val (.int (4 : Int32)), .val (.int (2 : Int32)), .val (.int v3089), .val (.int v3114), .val (.int (-1 : Int32))] [(.int (-1 : Int32))])
     exact absurd hc3116 hc3179
    ·
     show KEnds p e below s _ _ _ T3178 (mkF m 207 #[.val (.int i0), .val (.int i1), .val (.int i2), .val (.int i3), .val (.int i4), .val (.int i5), .val (.ref b1), .val (.int (4 : Int32)), .val (.int (2 : Int32)), .val (.int v3089), .val (.int v3114), .val (.int (-1 : Int32))] [(.int (-1 : Int32))])
     refine k_iload X3178 hx (hb hby at_207) rfl (pc' := 209) rfl ?_
     refine k_icmp_ne X3178 hx (hb hby at_209) (pn := 212) rfl (py := 216) (by decide) (fun hc => absurd (by decide) hc) (fun _ => ?_)
     refine k_iconst X3178 hx (hb hby at_212) (pc' := 213) rfl (z := (1 : Int32)) rfl ?_
     refine k_goto X3178 hx (hb hby at_213) (pc' := 217) (by decide) ?_
     exact k_retN X3178 hx (t := .boolean) Bd.returns (by simp) (hb hby at_217) hlk (by decide) (by decide) (z' := (1 : Int32)) rfl ⟨rfl, N3178'⟩
  ·
   show KEnds p e below s _ _ _ T12 (mkF m 44 #[.val (.int i0), .val (.int i1), .val (.int i2), .val (.int i3), .val (.int i4), .val (.int i5), .val (.ref b1), .val (.int (4 : Int32)), .unset, .unset, .unset, .unset] [(.int (3 : Int32))])
   refine k_istore X12 hx (hb hby at_44) (Ls' := #[.val (.int i0), .val (.int i1), .val (.int i2), .val (.int i3), .val (.int i4), .val (.int i5), .val (.ref b1), .val (.int (4 : Int32)), .val (.int (3 : Int32)), .unset, .unset, .unset]) rfl (pc' := 46) rfl ?_
   refine k_iload X12 hx (hb hby at_46) rfl (pc' := 48) rfl ?_
   refine k_iconst X12 hx (hb hby at_48) (pc' := 49) rfl (z := (3 : Int32)) rfl ?_
   refine k_iand X12 hx (hb hby at_49) (pc' := 50) rfl (fun v3182 hv3182 => ?_)
   refine k_istore X12 hx (hb hby at_50) (Ls' := #[.val (.int i0), .val (.int i1), .val (.int i2), .val (.int i3), .val (.int i4), .val (.int i5), .val (.ref b1), .val (.int (4 : Int32)), .val (.int (3 : Int32)), .val (.int v3182), .unset, .unset]) rfl (pc' := 52) rfl ?_
   suffices key3183 : ∀ (v3207 : Int32), KEnds p e below s 16 128 (Q0 n0) T12 (mkF m 97 #[.val (.int i0), .val (.int i1), .val (.int i2), .val (.int i3), .val (.int i4), .val (.int i5), .val (.ref b1), .val (.int (4 : Int32)), .val (.int (3 : Int32)), .val (.int v3182), .val (.int v3207), .unset] []) by
    refine k_iload X12 hx (hb hby at_52) rfl (pc' := 54) rfl ?_
    refine k_if_ne X12 hx (hb hby at_54) (pn := 57) rfl (py := 63) (by decide) (fun hc3184 => ?_) (fun hc3184 => ?_)
    ·
     refine k_iload X12 hx (hb hby at_63) rfl (pc' := 65) rfl ?_
     refine k_iconst X12 hx (hb hby at_65) (pc' := 66) rfl (z := (1 : Int32)) rfl ?_
     refine k_icmp_ne X12 hx (hb hby at_66) (pn := 69) rfl (py := 87) (by decide) (fun hc3185 => ?_) (fun hc3185 => ?_)
     ·
      refine k_iload X12 hx (hb hby at_87) rfl (pc' := 89) rfl ?_
      refine k_iconst X12 hx (hb hby at_89) (pc' := 90) rfl (z := (2 : Int32)) rfl ?_
      refine k_iushr X12 hx (hb hby at_90) (pc' := 91) rfl (fun v3186 hv3186 => ?_)
      refine k_sipush X12 hx (hb hby at_91) (pc' := 94) rfl (z := (255 : Int32)) rfl ?_
      refine k_iand X12 hx (hb hby at_94) (pc' := 95) rfl (fun v3187 hv3187 => ?_)
      refine k_istore X12 hx (hb hby at_95) (Ls' := #[.val (.int i0), .val (.int i1), .val (.int i2), .val (.int i3), .val (.int i4), .val (.int i5), .val (.ref b1), .val (.int (4 : Int32)), .val (.int (3 : Int32)), .val (.int v3182), .val (.int v3187), .unset]) rfl (pc' := 97) rfl ?_
      exact key3183 v3187
     ·
      refine k_aload X12 hx (hb hby at_69) rfl rfl (pc' := 71) rfl ?_
      refine k_iload X12 hx (hb hby at_71) rfl (pc' := 73) rfl ?_
      refine k_iconst X12 hx (hb hby at_73) (pc' := 74) rfl (z := (2 : Int32)) rfl ?_
      refine k_iushr X12 hx (hb hby at_74) (pc' := 75) rfl (fun v3188 hv3188 => ?_)
      refine k_iconst X12 hx (hb hby at_75) (pc' := 76) rfl (z := (3 : Int32)) rfl ?_
      refine k_iand X12 hx (hb hby at_76) (pc' := 77) rfl (fun v3189 hv3189 => ?_)
      have hj3190 : ¬ v3189 < 0 ∧ v3189 < (4 : Int32) := by
       refine ⟨?_, ?_⟩
       ·
        intro hq3191
        have := rng32 v3182
        have := rng32 i5
        have : (3 : Int32).toInt = 3 := (by decide)
        have q3192 : v3182.toInt = i5.toInt % 4 := (by rw [hv3182]; exact c_mask _ _ 2 (by decide) (by decide))
        have : (0 : Int32).toInt = 0 := (by decide)
        have q3193 : ¬ v3182.toInt = (0 : Int32).toInt := fun q => hc3184 (Int32.toInt_inj.mp q)
        have : (1 : Int32).toInt = 1 := (by decide)
        have q3194 := congrArg Int32.toInt hc3185
        have := rng32 v3189
        have := rng32 v3188
        have : (2 : Int32).toInt = 2 := (by decide)
        have q3195 : v3188.toInt = (i5.toInt % 4294967296) / 4 := (by rw [hv3188]; exact c_iushr _ _ 2 (by decide) (by decide))
        have q3196 : v3189.toInt = v3188.toInt % 4 := (by rw [hv3189]; exact c_mask _ _ 2 (by decide) (by decide))
        have q3197 := hq3191; rw [Int32.lt_iff_toInt_lt] at q3197
        omega
       ·
        refine Classical.byContradiction (fun hq3198 => ?_)
        have := rng32 v3182
        have := rng32 i5
        have : (3 : Int32).toInt = 3 := (by decide)
        have q3199 : v3182.toInt = i5.toInt % 4 := (by rw [hv3182]; exact c_mask _ _ 2 (by decide) (by decide))
        have : (0 : Int32).toInt = 0 := (by decide)
        have q3200 : ¬ v3182.toInt = (0 : Int32).toInt := fun q => hc3184 (Int32.toInt_inj.mp q)
        have : (1 : Int32).toInt = 1 := (by decide)
        have q3201 := congrArg Int32.toInt hc3185
        have := rng32 v3189
        have := rng32 v3188
        have : (2 : Int32).toInt = 2 := (by decide)
        have q3202 : v3188.toInt = (i5.toInt % 4294967296) / 4 := (by rw [hv3188]; exact c_iushr _ _ 2 (by decide) (by decide))
        have q3203 : v3189.toInt = v3188.toInt % 4 := (by rw [hv3189]; exact c_mask _ _ 2 (by decide) (by decide))
        have : (4 : Int32).toInt = 4 := (by decide)
        have q3204 := hq3198; rw [Int32.lt_iff_toInt_lt] at q3204
        omega
      refine k_baloadS X12 hx hZ e12 Vw12 hj3190 (hb hby at_77) (pc' := 78) rfl (fun v3205 hv3205 => ?_)
      refine k_sipush X12 hx (hb hby at_78) (pc' := 81) rfl (z := (255 : Int32)) rfl ?_
      refine k_iand X12 hx (hb hby at_81) (pc' := 82) rfl (fun v3206 hv3206 => ?_)
      refine k_istore X12 hx (hb hby at_82) (Ls' := #[.val (.int i0), .val (.int i1), .val (.int i2), .val (.int i3), .val (.int i4), .val (.int i5), .val (.ref b1), .val (.int (4 : Int32)), .val (.int (3 : Int32)), .val (.int v3182), .val (.int v3206), .unset]) rfl (pc' := 84) rfl ?_
      refine k_goto X12 hx (hb hby at_84) (pc' := 97) (by decide) ?_
      exact key3183 v3206
    ·
     refine k_iconst X12 hx (hb hby at_57) (pc' := 58) rfl (z := (-1 : Int32)) rfl ?_
     refine k_istore X12 hx (hb hby at_58) (Ls' := #[.val (.int i0), .val (.int i1), .val (.int i2), .val (.int i3), .val (.int i4), .val (.int i5), .val (.ref b1), .val (.int (4 : Int32)), .val (.int (3 : Int32)), .val (.int v3182), .val (.int (-1 : Int32)), .unset]) rfl (pc' := 60) rfl ?_
     refine k_goto X12 hx (hb hby at_60) (pc' := 97) (by decide) ?_
     exact key3183 (-1 : Int32)
   intro v3207
   refine k_iload X12 hx (hb hby at_97) rfl (pc' := 99) rfl ?_
   refine k_iconst X12 hx (hb hby at_99) (pc' := 100) rfl (z := (-1 : Int32)) rfl ?_
   refine k_icmp_ne X12 hx (hb hby at_100) (pn := 103) rfl (py := 109) (by decide) (fun hc3209 => ?_) (fun hc3209 => ?_)
   ·
    refine k_aload X12 hx (hb hby at_109) rfl rfl (pc' := 111) rfl ?_
    refine k_iconst X12 hx (hb hby at_111) (pc' := 112) rfl (z := (0 : Int32)) rfl ?_
    refine k_iload X12 hx (hb hby at_112) rfl (pc' := 114) rfl ?_
    refine k_iload X12 hx (hb hby at_114) rfl (pc' := 116) rfl ?_
    refine k_iload X12 hx (hb hby at_116) rfl (pc' := 118) rfl ?_
    refine k_callS X12 hx hZ hown (hw _ (List.mem_of_getElem? (i := 2) rfl)) (hw _ (List.mem_of_getElem? (i := 3) rfl)) (hw _ (List.mem_of_getElem? (i := 4) rfl)) (hw _ (List.mem_of_getElem? (i := 5) rfl)) (by decide) (rm1_113 l Z a0 hw [] b1 (4 : Int32) (3 : Int32) v3207 k1 v2 v5 v8 v11 h12 n0 Z12 Vw12) (by decide) (by decide) e12 (by rw [hml]; rfl) (argsL := [(.ref b1), (.int (0 : Int32)), (.int (4 : Int32)), (.int (3 : Int32)), (.int v3207)]) (rest := []) (lenOf pd_0 rfl) rfl (W := 0) (Nat.le_refl _) rfl (hb hby at_118) (by decide) (by decide) (pc' := 121) rfl (fun T3210 L3210 r3210 X3210 q3210 => ?_)
    obtain ⟨N3210, e3210, q3210⟩ := q3210
    have N3210' := Fr.app N12 N3210
    rcases q3210 with ⟨hc3211, rfl⟩ | ⟨hc3212, hc3213, rfl⟩ | ⟨v3214, h3215, hc3216, hc3217, hc3218, rfl⟩ | ⟨v3219, h3220, hc3221, hc3222, hc3223, rfl⟩
    ·
     show KEnds p e below s _ _ _ T3210 (mkF m 121 #[.val (.int i0), .val (.int i1), .val (.int i2), .val (.int i3), .val (.int i4), .val (.int i5), .val (.ref b1), .val (.int (4 : Int32)), .val (.int (3 : Int32)), .val (.int v3182), .val (.int v3207), .unset] [(.int (0 : Int32))])
     refine k_if_eq X3210 hx (hb hby at_121) (pn := 124) rfl (py := 130) (by decide) (fun _ => ?_) (fun hc => absurd (by decide) hc)
     refine k_aload X3210 hx (hb hby at_130) rfl rfl (pc' := 132) rfl ?_
     refine k_iconst X3210 hx (hb hby at_132) (pc' := 133) rfl (z := (1 : Int32)) rfl ?_
     refine k_iload X3210 hx (hb hby at_133) rfl (pc' := 135) rfl ?_
     refine k_iload X3210 hx (hb hby at_135) rfl (pc' := 137) rfl ?_
     refine k_iload X3210 hx (hb hby at_137) rfl (pc' := 139) rfl ?_
     refine k_callS X3210 hx hZ hown (hw _ (List.mem_of_getElem? (i := 2) rfl)) (hw _ (List.mem_of_getElem? (i := 3) rfl)) (hw _ (List.mem_of_getElem? (i := 4) rfl)) (hw _ (List.mem_of_getElem? (i := 5) rfl)) (by decide) (rm1_132 l Z a0 hw [] b1 (4 : Int32) (3 : Int32) v3207 k1 v2 v5 v8 v11 h12 n0 Z12 Vw12) (by decide) (by decide) e3210 (by rw [hml]; rfl) (argsL := [(.ref b1), (.int (1 : Int32)), (.int (4 : Int32)), (.int (3 : Int32)), (.int v3207)]) (rest := []) (lenOf pd_0 rfl) rfl (W := 0) (Nat.le_refl _) rfl (hb hby at_139) (by decide) (by decide) (pc' := 142) rfl (fun T3224 L3224 r3224 X3224 q3224 => ?_)
     obtain ⟨N3224, e3224, q3224⟩ := q3224
     have N3224' := Fr.app N3210' N3224
     rcases q3224 with ⟨hc3225, rfl⟩ | ⟨hc3226, hc3227, rfl⟩ | ⟨v3228, h3229, hc3230, hc3231, hc3232, rfl⟩ | ⟨v3233, h3234, hc3235, hc3236, hc3237, rfl⟩
     ·
      show KEnds p e below s _ _ _ T3224 (mkF m 142 #[.val (.int i0), .val (.int i1), .val (.int i2), .val (.int i3), .val (.int i4), .val (.int i5), .val (.ref b1), .val (.int (4 : Int32)), .val (.int (3 : Int32)), .val (.int v3182), .val (.int v3207), .unset] [(.int (0 : Int32))])
      refine k_if_eq X3224 hx (hb hby at_142) (pn := 145) rfl (py := 151) (by decide) (fun _ => ?_) (fun hc => absurd (by decide) hc)
      refine k_aload X3224 hx (hb hby at_151) rfl rfl (pc' := 153) rfl ?_
      refine k_iconst X3224 hx (hb hby at_153) (pc' := 154) rfl (z := (2 : Int32)) rfl ?_
      refine k_iload X3224 hx (hb hby at_154) rfl (pc' := 156) rfl ?_
      refine k_iload X3224 hx (hb hby at_156) rfl (pc' := 158) rfl ?_
      refine k_iload X3224 hx (hb hby at_158) rfl (pc' := 160) rfl ?_
      refine k_callS X3224 hx hZ hown (hw _ (List.mem_of_getElem? (i := 2) rfl)) (hw _ (List.mem_of_getElem? (i := 3) rfl)) (hw _ (List.mem_of_getElem? (i := 4) rfl)) (hw _ (List.mem_of_getElem? (i := 5) rfl)) (by decide) (rm1_151 l Z a0 hw [] b1 (4 : Int32) (3 : Int32) v3207 k1 v2 v5 v8 v11 h12 n0 Z12 Vw12) (by decide) (by decide) e3224 (by rw [hml]; rfl) (argsL := [(.ref b1), (.int (2 : Int32)), (.int (4 : Int32)), (.int (3 : Int32)), (.int v3207)]) (rest := []) (lenOf pd_0 rfl) rfl (W := 0) (Nat.le_refl _) rfl (hb hby at_160) (by decide) (by decide) (pc' := 163) rfl (fun T3238 L3238 r3238 X3238 q3238 => ?_)
      obtain ⟨N3238, e3238, q3238⟩ := q3238
      have N3238' := Fr.app N3224' N3238
      rcases q3238 with ⟨hc3239, rfl⟩ | ⟨hc3240, hc3241, rfl⟩ | ⟨v3242, h3243, hc3244, hc3245, hc3246, rfl⟩ | ⟨v3247, h3248, hc3249, hc3250, hc3251, rfl⟩
      ·
       show KEnds p e below s _ _ _ T3238 (mkF m 163 #[.val (.int i0), .val (.int i1), .val (.int i2), .val (.int i3), .val (.int i4), .val (.int i5), .val (.ref b1), .val (.int (4 : Int32)), .val (.int (3 : Int32)), .val (.int v3182), .val (.int v3207), .unset] [(.int (0 : Int32))])
       refine k_if_eq X3238 hx (hb hby at_163) (pn := 166) rfl (py := 172) (by decide) (fun _ => ?_) (fun hc => absurd (by decide) hc)
       refine k_aload X3238 hx (hb hby at_172) rfl rfl (pc' := 174) rfl ?_
       refine k_iconst X3238 hx (hb hby at_174) (pc' := 175) rfl (z := (3 : Int32)) rfl ?_
       refine k_iload X3238 hx (hb hby at_175) rfl (pc' := 177) rfl ?_
       refine k_iload X3238 hx (hb hby at_177) rfl (pc' := 179) rfl ?_
       refine k_iload X3238 hx (hb hby at_179) rfl (pc' := 181) rfl ?_
       refine k_callS X3238 hx hZ hown (hw _ (List.mem_of_getElem? (i := 2) rfl)) (hw _ (List.mem_of_getElem? (i := 3) rfl)) (hw _ (List.mem_of_getElem? (i := 4) rfl)) (hw _ (List.mem_of_getElem? (i := 5) rfl)) (by decide) (rm1_170 l Z a0 hw [] b1 (4 : Int32) (3 : Int32) v3207 k1 v2 v5 v8 v11 h12 n0 Z12 Vw12) (by decide) (by decide) e3238 (by rw [hml]; rfl) (argsL := [(.ref b1), (.int (3 : Int32)), (.int (4 : Int32)), (.int (3 : Int32)), (.int v3207)]) (rest := []) (lenOf pd_0 rfl) rfl (W := 0) (Nat.le_refl _) rfl (hb hby at_181) (by decide) (by decide) (pc' := 184) rfl (fun T3252 L3252 r3252 X3252 q3252 => ?_)
       obtain ⟨N3252, e3252, q3252⟩ := q3252
       have N3252' := Fr.app N3238' N3252
       rcases q3252 with ⟨hc3253, rfl⟩ | ⟨hc3254, hc3255, rfl⟩ | ⟨v3256, h3257, hc3258, hc3259, hc3260, rfl⟩ | ⟨v3261, h3262, hc3263, hc3264, hc3265, rfl⟩
       ·
        show KEnds p e below s _ _ _ T3252 (mkF m 184 #[.val (.int i0), .val (.int i1), .val (.int i2), .val (.int i3), .val (.int i4), .val (.int i5), .val (.ref b1), .val (.int (4 : Int32)), .val (.int (3 : Int32)), .val (.int v3182), .val (.int v3207), .unset] [(.int (0 : Int32))])
        refine k_if_eq X3252 hx (hb hby at_184) (pn := 187) rfl (py := 193) (by decide) (fun _ => ?_) (fun hc => absurd (by decide) hc)
        refine k_iconst X3252 hx (hb hby at_193) (pc' := 194) rfl (z := (-1 : Int32)) rfl ?_
        refine k_istore X3252 hx (hb hby at_194) (Ls' := #[.val (.int i0), .val (.int i1), .val (.int i2), .val (.int i3), .val (.int i4), .val (.int i5), .val (.ref b1), .val (.int (4 : Int32)), .val (.int (3 : Int32)), .val (.int v3182), .val (.int v3207), .val (.int (-1 : Int32))]) rfl (pc' := 196) rfl ?_
        refine k_aload X3252 hx (hb hby at_196) rfl rfl (pc' := 198) rfl ?_
        refine k_iload X3252 hx (hb hby at_198) rfl (pc' := 200) rfl ?_
        refine k_iload X3252 hx (hb hby at_200) rfl (pc' := 202) rfl ?_
        refine k_iload X3252 hx (hb hby at_202) rfl (pc' := 204) rfl ?_
        refine k_callS X3252 hx hZ hown (hw _ (List.mem_of_getElem? (i := 6) rfl)) (hw _ (List.mem_of_getElem? (i := 7) rfl)) (hw _ (List.mem_of_getElem? (i := 8) rfl)) (hw _ (List.mem_of_getElem? (i := 9) rfl)) (by decide) (rm2_3266 l Z a0 hw [] b1 v3207 k1 v2 v5 v8 v11 h12 n0 Z12 Vw12) (by decide) (by decide) e3252 (by rw [hml]; rfl) (argsL := [(.ref b1), (.int (4 : Int32)), (.int (3 : Int32)), (.int v3207)]) (rest := []) (lenOf pd_1 rfl) rfl (W := 0) (Nat.le_refl _) rfl (hb hby at_204) (by decide) (by decide) (pc' := 207) rfl (fun T3268 L3268 r3268 X3268 q3268 => ?_)
        obtain ⟨N3268, e3268, q3268⟩ := q3268
        have N3268' := Fr.app N3252' N3268
        rcases q3268 with ⟨hc3269, rfl⟩ | ⟨hc3270, rfl⟩
        ·
         show KEnds p e below s _ _ _ T3268 (mkF m 207 #[.val (.int i0), .val (.int i1), .val (.int i2), .val (.int i3), .val (.int i4), .val (.int i5), .val (.ref b1), .val (.int (4 : Int32)), .val (.int (3 : Int32)), .val (.int v3182), .val (.int v3207), .val (.int (-1 : Int32))] [(.int (-1 : Int32))])
         refine k_iload X3268 hx (hb hby at_207) rfl (pc' := 209) rfl ?_
         refine k_icmp_ne X3268 hx (hb hby at_209) (pn := 212) rfl (py := 216) (by decide) (fun hc => absurd (by decide) hc) (fun _ => ?_)
         refine k_iconst X3268 hx (hb hby at_212) (pc' := 213) rfl (z := (1 : Int32)) rfl ?_
         refine k_goto X3268 hx (hb hby at_213) (pc' := 217) (by decide) ?_
         exact k_retN X3268 hx (t := .boolean) Bd.returns (by simp) (hb hby at_217) hlk (by decide) (by decide) (z' := (1 : Int32)) rfl ⟨rfl, N3268'⟩
        ·
         show KEnds p e below s _ _ _ T3268 (mkF m 207 #[.val (.int i0), .val (.int i1), .val (.int i2), .val (.int i3), .val (.int i4), .val (.int i5), .val (.ref b1), .val (.int (4 : Int32)), .val (.int (3 : Int32)), .val (.int v3182), .val (.int v3207), .val (.int (-1 : Int32))] [(.int (-1 : Int32))])
         exact absurd hc3270 hc3209
       ·
        show KEnds p e below s _ _ _ T3252 (mkF m 184 #[.val (.int i0), .val (.int i1), .val (.int i2), .val (.int i3), .val (.int i4), .val (.int i5), .val (.ref b1), .val (.int (4 : Int32)), .val (.int (3 : Int32)), .val (.int v3182), .val (.int v3207), .unset] [(.int (0 : Int32))])
        exact absurd (by decide) hc3254
       ·
        show KEnds p e below s _ _ _ T3252 (mkF m 184 #[.val (.int i0), .val (.int i1), .val (.int i2), .val (.int i3), .val (.int i4), .val (.int i5), .val (.ref b1), .val (.int (4 : Int32)), .val (.int (3 : Int32)), .val (.int v3182), .val (.int v3207), .unset] [(.int (0 : Int32))])
        exact absurd (by decide) hc3258
       ·
        show KEnds p e below s _ _ _ T3252 (mkF m 184 #[.val (.int i0), .val (.int i1), .val (.int i2), .val (.int i3), .val (.int i4), .val (.int i5), .val (.ref b1), .val (.int (4 : Int32)), .val (.int (3 : Int32)), .val (.int v3182), .val (.int v3207), .unset] [(.int (1 : Int32))])
        exact absurd (by decide) hc3263
      ·
       show KEnds p e below s _ _ _ T3238 (mkF m 163 #[.val (.int i0), .val (.int i1), .val (.int i2), .val (.int i3), .val (.int i4), .val (.int i5), .val (.ref b1), .val (.int (4 : Int32)), .val (.int (3 : Int32)), .val (.int v3182), .val (.int v3207), .unset] [(.int (0 : Int32))])
       exact absurd (by decide) hc3240
      ·
       show KEnds p e below s _ _ _ T3238 (mkF m 163 #[.val (.int i0), .val (.int i1), .val (.int i2), .val (.int i3), .val (.int i4), .val (.int i5), .val (.ref b1), .val (.int (4 : Int32)), .val (.int (3 : Int32)), .val (.int v3182), .val (.int v3207), .unset] [(.int (0 : Int32))])
       exact absurd (by decide) hc3244
      ·
       show KEnds p e below s _ _ _ T3238 (mkF m 163 #[.val (.int i0), .val (.int i1), .val (.int i2), .val (.int i3), .val (.int i4), .val (.int i5), .val (.ref b1), .val (.int (4 : Int32)), .val (.int (3 : Int32)), .val (.int v3182), .val (.int v3207), .unset] [(.int (1 : Int32))])
       exact absurd (by decide) hc3249
     ·
      show KEnds p e below s _ _ _ T3224 (mkF m 142 #[.val (.int i0), .val (.int i1), .val (.int i2), .val (.int i3), .val (.int i4), .val (.int i5), .val (.ref b1), .val (.int (4 : Int32)), .val (.int (3 : Int32)), .val (.int v3182), .val (.int v3207), .unset] [(.int (0 : Int32))])
      exact absurd (by decide) hc3226
     ·
      show KEnds p e below s _ _ _ T3224 (mkF m 142 #[.val (.int i0), .val (.int i1), .val (.int i2), .val (.int i3), .val (.int i4), .val (.int i5), .val (.ref b1), .val (.int (4 : Int32)), .val (.int (3 : Int32)), .val (.int v3182), .val (.int v3207), .unset] [(.int (0 : Int32))])
      exact absurd (by decide) hc3230
     ·
      show KEnds p e below s _ _ _ T3224 (mkF m 142 #[.val (.int i0), .val (.int i1), .val (.int i2), .val (.int i3), .val (.int i4), .val (.int i5), .val (.ref b1), .val (.int (4 : Int32)), .val (.int (3 : Int32)), .val (.int v3182), .val (.int v3207), .unset] [(.int (1 : Int32))])
      exact absurd (by decide) hc3235
    ·
     show KEnds p e below s _ _ _ T3210 (mkF m 121 #[.val (.int i0), .val (.int i1), .val (.int i2), .val (.int i3), .val (.int i4), .val (.int i5), .val (.ref b1), .val (.int (4 : Int32)), .val (.int (3 : Int32)), .val (.int v3182), .val (.int v3207), .unset] [(.int (0 : Int32))])
     exact absurd (by decide) hc3212
    ·
     show KEnds p e below s _ _ _ T3210 (mkF m 121 #[.val (.int i0), .val (.int i1), .val (.int i2), .val (.int i3), .val (.int i4), .val (.int i5), .val (.ref b1), .val (.int (4 : Int32)), .val (.int (3 : Int32)), .val (.int v3182), .val (.int v3207), .unset] [(.int (0 : Int32))])
     exact absurd (by decide) hc3216
    ·
     show KEnds p e below s _ _ _ T3210 (mkF m 121 #[.val (.int i0), .val (.int i1), .val (.int i2), .val (.int i3), .val (.int i4), .val (.int i5), .val (.ref b1), .val (.int (4 : Int32)), .val (.int (3 : Int32)), .val (.int v3182), .val (.int v3207), .unset] [(.int (1 : Int32))])
     exact absurd (by decide) hc3221
   ·
    refine k_iconst X12 hx (hb hby at_103) (pc' := 104) rfl (z := (-1 : Int32)) rfl ?_
    refine k_istore X12 hx (hb hby at_104) (Ls' := #[.val (.int i0), .val (.int i1), .val (.int i2), .val (.int i3), .val (.int i4), .val (.int i5), .val (.ref b1), .val (.int (4 : Int32)), .val (.int (3 : Int32)), .val (.int v3182), .val (.int v3207), .val (.int (-1 : Int32))]) rfl (pc' := 106) rfl ?_
    refine k_goto X12 hx (hb hby at_106) (pc' := 196) (by decide) ?_
    refine k_aload X12 hx (hb hby at_196) rfl rfl (pc' := 198) rfl ?_
    refine k_iload X12 hx (hb hby at_198) rfl (pc' := 200) rfl ?_
    refine k_iload X12 hx (hb hby at_200) rfl (pc' := 202) rfl ?_
    refine k_iload X12 hx (hb hby at_202) rfl (pc' := 204) rfl ?_
    refine k_callS X12 hx hZ hown (hw _ (List.mem_of_getElem? (i := 6) rfl)) (hw _ (List.mem_of_getElem? (i := 7) rfl)) (hw _ (List.mem_of_getElem? (i := 8) rfl)) (hw _ (List.mem_of_getElem? (i := 9) rfl)) (by decide) (rm2_3266 l Z a0 hw [] b1 v3207 k1 v2 v5 v8 v11 h12 n0 Z12 Vw12) (by decide) (by decide) e12 (by rw [hml]; rfl) (argsL := [(.ref b1), (.int (4 : Int32)), (.int (3 : Int32)), (.int v3207)]) (rest := []) (lenOf pd_1 rfl) rfl (W := 0) (Nat.le_refl _) rfl (hb hby at_204) (by decide) (by decide) (pc' := 207) rfl (fun T3271 L3271 r3271 X3271 q3271 => ?_)
    obtain ⟨N3271, e3271, q3271⟩ := q3271
    have N3271' := Fr.app N12 N3271
    rcases q3271 with ⟨hc3272, rfl⟩ | ⟨hc3273, rfl⟩
    ·
     show KEnds p e below s _ _ _ T3271 (mkF m 207 #[.val (.int i0), .val (.int i1), .val (.int i2), .val (.int i3), .val (.int i4), .val (.int i5), .val (.ref b1), .val (.int (4 : Int32)), .val (.int (3 : Int32)), .val (.int v3182), .val (.int v3207), .val (.int (-1 : Int32))] [(.int (-1 : Int32))])
     exact absurd hc3209 hc3272
    ·
     show KEnds p e below s _ _ _ T3271 (mkF m 207 #[.val (.int i0), .val (.int i1), .val (.int i2), .val (.int i3), .val (.int i4), .val (.int i5), .val (.ref b1), .val (.int (4 : Int32)), .val (.int (3 : Int32)), .val (.int v3182), .val (.int v3207), .val (.int (-1 : Int32))] [(.int (-1 : Int32))])
     refine k_iload X3271 hx (hb hby at_207) rfl (pc' := 209) rfl ?_
     refine k_icmp_ne X3271 hx (hb hby at_209) (pn := 212) rfl (py := 216) (by decide) (fun hc => absurd (by decide) hc) (fun _ => ?_)
     refine k_iconst X3271 hx (hb hby at_212) (pc' := 213) rfl (z := (1 : Int32)) rfl ?_
     refine k_goto X3271 hx (hb hby at_213) (pc' := 217) (by decide) ?_
     exact k_retN X3271 hx (t := .boolean) Bd.returns (by simp) (hb hby at_217) hlk (by decide) (by decide) (z' := (1 : Int32)) rfl ⟨rfl, N3271'⟩
  ·
   show KEnds p e below s _ _ _ T12 (mkF m 44 #[.val (.int i0), .val (.int i1), .val (.int i2), .val (.int i3), .val (.int i4), .val (.int i5), .val (.ref b1), .val (.int (4 : Int32)), .unset, .unset, .unset, .unset] [(.int (4 : Int32))])
   refine k_istore X12 hx (hb hby at_44) (Ls' := #[.val (.int i0), .val (.int i1), .val (.int i2), .val (.int i3), .val (.int i4), .val (.int i5), .val (.ref b1), .val (.int (4 : Int32)), .val (.int (4 : Int32)), .unset, .unset, .unset]) rfl (pc' := 46) rfl ?_
   refine k_iload X12 hx (hb hby at_46) rfl (pc' := 48) rfl ?_
   refine k_iconst X12 hx (hb hby at_48) (pc' := 49) rfl (z := (3 : Int32)) rfl ?_
   refine k_iand X12 hx (hb hby at_49) (pc' := 50) rfl (fun v3275 hv3275 => ?_)
   refine k_istore X12 hx (hb hby at_50) (Ls' := #[.val (.int i0), .val (.int i1), .val (.int i2), .val (.int i3), .val (.int i4), .val (.int i5), .val (.ref b1), .val (.int (4 : Int32)), .val (.int (4 : Int32)), .val (.int v3275), .unset, .unset]) rfl (pc' := 52) rfl ?_
   suffices key3276 : ∀ (v3300 : Int32), KEnds p e below s 16 128 (Q0 n0) T12 (mkF m 97 #[.val (.int i0), .val (.int i1), .val (.int i2), .val (.int i3), .val (.int i4), .val (.int i5), .val (.ref b1), .val (.int (4 : Int32)), .val (.int (4 : Int32)), .val (.int v3275), .val (.int v3300), .unset] []) by
    refine k_iload X12 hx (hb hby at_52) rfl (pc' := 54) rfl ?_
    refine k_if_ne X12 hx (hb hby at_54) (pn := 57) rfl (py := 63) (by decide) (fun hc3277 => ?_) (fun hc3277 => ?_)
    ·
     refine k_iload X12 hx (hb hby at_63) rfl (pc' := 65) rfl ?_
     refine k_iconst X12 hx (hb hby at_65) (pc' := 66) rfl (z := (1 : Int32)) rfl ?_
     refine k_icmp_ne X12 hx (hb hby at_66) (pn := 69) rfl (py := 87) (by decide) (fun hc3278 => ?_) (fun hc3278 => ?_)
     ·
      refine k_iload X12 hx (hb hby at_87) rfl (pc' := 89) rfl ?_
      refine k_iconst X12 hx (hb hby at_89) (pc' := 90) rfl (z := (2 : Int32)) rfl ?_
      refine k_iushr X12 hx (hb hby at_90) (pc' := 91) rfl (fun v3279 hv3279 => ?_)
      refine k_sipush X12 hx (hb hby at_91) (pc' := 94) rfl (z := (255 : Int32)) rfl ?_
      refine k_iand X12 hx (hb hby at_94) (pc' := 95) rfl (fun v3280 hv3280 => ?_)
      refine k_istore X12 hx (hb hby at_95) (Ls' := #[.val (.int i0), .val (.int i1), .val (.int i2), .val (.int i3), .val (.int i4), .val (.int i5), .val (.ref b1), .val (.int (4 : Int32)), .val (.int (4 : Int32)), .val (.int v3275), .val (.int v3280), .unset]) rfl (pc' := 97) rfl ?_
      exact key3276 v3280
     ·
      refine k_aload X12 hx (hb hby at_69) rfl rfl (pc' := 71) rfl ?_
      refine k_iload X12 hx (hb hby at_71) rfl (pc' := 73) rfl ?_
      refine k_iconst X12 hx (hb hby at_73) (pc' := 74) rfl (z := (2 : Int32)) rfl ?_
      refine k_iushr X12 hx (hb hby at_74) (pc' := 75) rfl (fun v3281 hv3281 => ?_)
      refine k_iconst X12 hx (hb hby at_75) (pc' := 76) rfl (z := (3 : Int32)) rfl ?_
      refine k_iand X12 hx (hb hby at_76) (pc' := 77) rfl (fun v3282 hv3282 => ?_)
      have hj3283 : ¬ v3282 < 0 ∧ v3282 < (4 : Int32) := by
       refine ⟨?_, ?_⟩
       ·
        intro hq3284
        have := rng32 v3275
        have := rng32 i5
        have : (3 : Int32).toInt = 3 := (by decide)
        have q3285 : v3275.toInt = i5.toInt % 4 := (by rw [hv3275]; exact c_mask _ _ 2 (by decide) (by decide))
        have : (0 : Int32).toInt = 0 := (by decide)
        have q3286 : ¬ v3275.toInt = (0 : Int32).toInt := fun q => hc3277 (Int32.toInt_inj.mp q)
        have : (1 : Int32).toInt = 1 := (by decide)
        have q3287 := congrArg Int32.toInt hc3278
        have := rng32 v3282
        have := rng32 v3281
        have : (2 : Int32).toInt = 2 := (by decide)
        have q3288 : v3281.toInt = (i5.toInt % 4294967296) / 4 := (by rw [hv3281]; exact c_iushr _ _ 2 (by decide) (by decide))
        have q3289 : v3282.toInt = v3281.toInt % 4 := (by rw [hv3282]; exact c_mask _ _ 2 (by decide) (by decide))
        have q3290 := hq3284; rw [Int32.lt_iff_toInt_lt] at q3290
        omega
       ·
        refine Classical.byContradiction (fun hq3291 => ?_)
        have := rng32 v3275
        have := rng32 i5
        have : (3 : Int32).toInt = 3 := (by decide)
        have q3292 : v3275.toInt = i5.toInt % 4 := (by rw [hv3275]; exact c_mask _ _ 2 (by decide) (by decide))
        have : (0 : Int32).toInt = 0 := (by decide)
        have q3293 : ¬ v3275.toInt = (0 : Int32).toInt := fun q => hc3277 (Int32.toInt_inj.mp q)
        have : (1 : Int32).toInt = 1 := (by decide)
        have q3294 := congrArg Int32.toInt hc3278
        have := rng32 v3282
        have := rng32 v3281
        have : (2 : Int32).toInt = 2 := (by decide)
        have q3295 : v3281.toInt = (i5.toInt % 4294967296) / 4 := (by rw [hv3281]; exact c_iushr _ _ 2 (by decide) (by decide))
        have q3296 : v3282.toInt = v3281.toInt % 4 := (by rw [hv3282]; exact c_mask _ _ 2 (by decide) (by decide))
        have : (4 : Int32).toInt = 4 := (by decide)
        have q3297 := hq3291; rw [Int32.lt_iff_toInt_lt] at q3297
        omega
      refine k_baloadS X12 hx hZ e12 Vw12 hj3283 (hb hby at_77) (pc' := 78) rfl (fun v3298 hv3298 => ?_)
      refine k_sipush X12 hx (hb hby at_78) (pc' := 81) rfl (z := (255 : Int32)) rfl ?_
      refine k_iand X12 hx (hb hby at_81) (pc' := 82) rfl (fun v3299 hv3299 => ?_)
      refine k_istore X12 hx (hb hby at_82) (Ls' := #[.val (.int i0), .val (.int i1), .val (.int i2), .val (.int i3), .val (.int i4), .val (.int i5), .val (.ref b1), .val (.int (4 : Int32)), .val (.int (4 : Int32)), .val (.int v3275), .val (.int v3299), .unset]) rfl (pc' := 84) rfl ?_
      refine k_goto X12 hx (hb hby at_84) (pc' := 97) (by decide) ?_
      exact key3276 v3299
    ·
     refine k_iconst X12 hx (hb hby at_57) (pc' := 58) rfl (z := (-1 : Int32)) rfl ?_
     refine k_istore X12 hx (hb hby at_58) (Ls' := #[.val (.int i0), .val (.int i1), .val (.int i2), .val (.int i3), .val (.int i4), .val (.int i5), .val (.ref b1), .val (.int (4 : Int32)), .val (.int (4 : Int32)), .val (.int v3275), .val (.int (-1 : Int32)), .unset]) rfl (pc' := 60) rfl ?_
     refine k_goto X12 hx (hb hby at_60) (pc' := 97) (by decide) ?_
     exact key3276 (-1 : Int32)
   intro v3300
   refine k_iload X12 hx (hb hby at_97) rfl (pc' := 99) rfl ?_
   refine k_iconst X12 hx (hb hby at_99) (pc' := 100) rfl (z := (-1 : Int32)) rfl ?_
   refine k_icmp_ne X12 hx (hb hby at_100) (pn := 103) rfl (py := 109) (by decide) (fun hc3302 => ?_) (fun hc3302 => ?_)
   ·
    refine k_aload X12 hx (hb hby at_109) rfl rfl (pc' := 111) rfl ?_
    refine k_iconst X12 hx (hb hby at_111) (pc' := 112) rfl (z := (0 : Int32)) rfl ?_
    refine k_iload X12 hx (hb hby at_112) rfl (pc' := 114) rfl ?_
    refine k_iload X12 hx (hb hby at_114) rfl (pc' := 116) rfl ?_
    refine k_iload X12 hx (hb hby at_116) rfl (pc' := 118) rfl ?_
    refine k_callS X12 hx hZ hown (hw _ (List.mem_of_getElem? (i := 2) rfl)) (hw _ (List.mem_of_getElem? (i := 3) rfl)) (hw _ (List.mem_of_getElem? (i := 4) rfl)) (hw _ (List.mem_of_getElem? (i := 5) rfl)) (by decide) (rm1_56 l Z a0 hw [] b1 (4 : Int32) v3300 k1 v2 v5 v8 v11 h12 n0 Z12 Vw12) (by decide) (by decide) e12 (by rw [hml]; rfl) (argsL := [(.ref b1), (.int (0 : Int32)), (.int (4 : Int32)), (.int (4 : Int32)), (.int v3300)]) (rest := []) (lenOf pd_0 rfl) rfl (W := 0) (Nat.le_refl _) rfl (hb hby at_118) (by decide) (by decide) (pc' := 121) rfl (fun T3303 L3303 r3303 X3303 q3303 => ?_)
    obtain ⟨N3303, e3303, q3303⟩ := q3303
    have N3303' := Fr.app N12 N3303
    rcases q3303 with ⟨hc3304, rfl⟩ | ⟨hc3305, rfl⟩
    ·
     show KEnds p e below s _ _ _ T3303 (mkF m 121 #[.val (.int i0), .val (.int i1), .val (.int i2), .val (.int i3), .val (.int i4), .val (.int i5), .val (.ref b1), .val (.int (4 : Int32)), .val (.int (4 : Int32)), .val (.int v3275), .val (.int v3300), .unset] [(.int (0 : Int32))])
     refine k_if_eq X3303 hx (hb hby at_121) (pn := 124) rfl (py := 130) (by decide) (fun _ => ?_) (fun hc => absurd (by decide) hc)
     refine k_aload X3303 hx (hb hby at_130) rfl rfl (pc' := 132) rfl ?_
     refine k_iconst X3303 hx (hb hby at_132) (pc' := 133) rfl (z := (1 : Int32)) rfl ?_
     refine k_iload X3303 hx (hb hby at_133) rfl (pc' := 135) rfl ?_
     refine k_iload X3303 hx (hb hby at_135) rfl (pc' := 137) rfl ?_
     refine k_iload X3303 hx (hb hby at_137) rfl (pc' := 139) rfl ?_
     refine k_callS X3303 hx hZ hown (hw _ (List.mem_of_getElem? (i := 2) rfl)) (hw _ (List.mem_of_getElem? (i := 3) rfl)) (hw _ (List.mem_of_getElem? (i := 4) rfl)) (hw _ (List.mem_of_getElem? (i := 5) rfl)) (by decide) (rm1_61 l Z a0 hw [] b1 (4 : Int32) v3300 k1 v2 v5 v8 v11 h12 n0 Z12 Vw12) (by decide) (by decide) e3303 (by rw [hml]; rfl) (argsL := [(.ref b1), (.int (1 : Int32)), (.int (4 : Int32)), (.int (4 : Int32)), (.int v3300)]) (rest := []) (lenOf pd_0 rfl) rfl (W := 0) (Nat.le_refl _) rfl (hb hby at_139) (by decide) (by decide) (pc' := 142) rfl (fun T3306 L3306 r3306 X3306 q3306 => ?_)
     obtain ⟨N3306, e3306, q3306⟩ := q3306
     have N3306' := Fr.app N3303' N3306
     rcases q3306 with ⟨hc3307, rfl⟩ | ⟨hc3308, rfl⟩
     ·
      show KEnds p e below s _ _ _ T3306 (mkF m 142 #[.val (.int i0), .val (.int i1), .val (.int i2), .val (.int i3), .val (.int i4), .val (.int i5), .val (.ref b1), .val (.int (4 : Int32)), .val (.int (4 : Int32)), .val (.int v3275), .val (.int v3300), .unset] [(.int (0 : Int32))])
      refine k_if_eq X3306 hx (hb hby at_142) (pn := 145) rfl (py := 151) (by decide) (fun _ => ?_) (fun hc => absurd (by decide) hc)
      refine k_aload X3306 hx (hb hby at_151) rfl rfl (pc' := 153) rfl ?_
      refine k_iconst X3306 hx (hb hby at_153) (pc' := 154) rfl (z := (2 : Int32)) rfl ?_
      refine k_iload X3306 hx (hb hby at_154) rfl (pc' := 156) rfl ?_
      refine k_iload X3306 hx (hb hby at_156) rfl (pc' := 158) rfl ?_
      refine k_iload X3306 hx (hb hby at_158) rfl (pc' := 160) rfl ?_
      refine k_callS X3306 hx hZ hown (hw _ (List.mem_of_getElem? (i := 2) rfl)) (hw _ (List.mem_of_getElem? (i := 3) rfl)) (hw _ (List.mem_of_getElem? (i := 4) rfl)) (hw _ (List.mem_of_getElem? (i := 5) rfl)) (by decide) (rm1_66 l Z a0 hw [] b1 (4 : Int32) v3300 k1 v2 v5 v8 v11 h12 n0 Z12 Vw12) (by decide) (by decide) e3306 (by rw [hml]; rfl) (argsL := [(.ref b1), (.int (2 : Int32)), (.int (4 : Int32)), (.int (4 : Int32)), (.int v3300)]) (rest := []) (lenOf pd_0 rfl) rfl (W := 0) (Nat.le_refl _) rfl (hb hby at_160) (by decide) (by decide) (pc' := 163) rfl (fun T3309 L3309 r3309 X3309 q3309 => ?_)
      obtain ⟨N3309, e3309, q3309⟩ := q3309
      have N3309' := Fr.app N3306' N3309
      rcases q3309 with ⟨hc3310, rfl⟩ | ⟨hc3311, rfl⟩
      ·
       show KEnds p e below s _ _ _ T3309 (mkF m 163 #[.val (.int i0), .val (.int i1), .val (.int i2), .val (.int i3), .val (.int i4), .val (.int i5), .val (.ref b1), .val (.int (4 : Int32)), .val (.int (4 : Int32)), .val (.int v3275), .val (.int v3300), .unset] [(.int (0 : Int32))])
       refine k_if_eq X3309 hx (hb hby at_163) (pn := 166) rfl (py := 172) (by decide) (fun _ => ?_) (fun hc => absurd (by decide) hc)
       refine k_aload X3309 hx (hb hby at_172) rfl rfl (pc' := 174) rfl ?_
       refine k_iconst X3309 hx (hb hby at_174) (pc' := 175) rfl (z := (3 : Int32)) rfl ?_
       refine k_iload X3309 hx (hb hby at_175) rfl (pc' := 177) rfl ?_
       refine k_iload X3309 hx (hb hby at_177) rfl (pc' := 179) rfl ?_
       refine k_iload X3309 hx (hb hby at_179) rfl (pc' := 181) rfl ?_
       refine k_callS X3309 hx hZ hown (hw _ (List.mem_of_getElem? (i := 2) rfl)) (hw _ (List.mem_of_getElem? (i := 3) rfl)) (hw _ (List.mem_of_getElem? (i := 4) rfl)) (hw _ (List.mem_of_getElem? (i := 5) rfl)) (by decide) (rm1_71 l Z a0 hw [] b1 (4 : Int32) v3300 k1 v2 v5 v8 v11 h12 n0 Z12 Vw12) (by decide) (by decide) e3309 (by rw [hml]; rfl) (argsL := [(.ref b1), (.int (3 : Int32)), (.int (4 : Int32)), (.int (4 : Int32)), (.int v3300)]) (rest := []) (lenOf pd_0 rfl) rfl (W := 0) (Nat.le_refl _) rfl (hb hby at_181) (by decide) (by decide) (pc' := 184) rfl (fun T3312 L3312 r3312 X3312 q3312 => ?_)
       obtain ⟨N3312, e3312, q3312⟩ := q3312
       have N3312' := Fr.app N3309' N3312
       rcases q3312 with ⟨hc3313, rfl⟩ | ⟨hc3314, rfl⟩
       ·
        show KEnds p e below s _ _ _ T3312 (mkF m 184 #[.val (.int i0), .val (.int i1), .val (.int i2), .val (.int i3), .val (.int i4), .val (.int i5), .val (.ref b1), .val (.int (4 : Int32)), .val (.int (4 : Int32)), .val (.int v3275), .val (.int v3300), .unset] [(.int (0 : Int32))])
        refine k_if_eq X3312 hx (hb hby at_184) (pn := 187) rfl (py := 193) (by decide) (fun _ => ?_) (fun hc => absurd (by decide) hc)
        refine k_iconst X3312 hx (hb hby at_193) (pc' := 194) rfl (z := (-1 : Int32)) rfl ?_
        refine k_istore X3312 hx (hb hby at_194) (Ls' := #[.val (.int i0), .val (.int i1), .val (.int i2), .val (.int i3), .val (.int i4), .val (.int i5), .val (.ref b1), .val (.int (4 : Int32)), .val (.int (4 : Int32)), .val (.int v3275), .val (.int v3300), .val (.int (-1 : Int32))]) rfl (pc' := 196) rfl ?_
        refine k_aload X3312 hx (hb hby at_196) rfl rfl (pc' := 198) rfl ?_
        refine k_iload X3312 hx (hb hby at_198) rfl (pc' := 200) rfl ?_
        refine k_iload X3312 hx (hb hby at_200) rfl (pc' := 202) rfl ?_
        refine k_iload X3312 hx (hb hby at_202) rfl (pc' := 204) rfl ?_
        refine k_callS X3312 hx hZ hown (hw _ (List.mem_of_getElem? (i := 6) rfl)) (hw _ (List.mem_of_getElem? (i := 7) rfl)) (hw _ (List.mem_of_getElem? (i := 8) rfl)) (hw _ (List.mem_of_getElem? (i := 9) rfl)) (by decide) (rm2_3315 l Z a0 hw [] b1 v3300 k1 v2 v5 v8 v11 h12 n0 Z12 Vw12) (by decide) (by decide) e3312 (by rw [hml]; rfl) (argsL := [(.ref b1), (.int (4 : Int32)), (.int (4 : Int32)), (.int v3300)]) (rest := []) (lenOf pd_1 rfl) rfl (W := 0) (Nat.le_refl _) rfl (hb hby at_204) (by decide) (by decide) (pc' := 207) rfl (fun T3317 L3317 r3317 X3317 q3317 => ?_)
        obtain ⟨N3317, e3317, q3317⟩ := q3317
        have N3317' := Fr.app N3312' N3317
        rcases q3317 with ⟨hc3318, rfl⟩ | ⟨hc3319, rfl⟩
        ·
         show KEnds p e below s _ _ _ T3317 (mkF m 207 #[.val (.int i0), .val (.int i1), .val (.int i2), .val (.int i3), .val (.int i4), .val (.int i5), .val (.ref b1), .val (.int (4 : Int32)), .val (.int (4 : Int32)), .val (.int v3275), .val (.int v3300), .val (.int (-1 : Int32))] [(.int (-1 : Int32))])
         refine k_iload X3317 hx (hb hby at_207) rfl (pc' := 209) rfl ?_
         refine k_icmp_ne X3317 hx (hb hby at_209) (pn := 212) rfl (py := 216) (by decide) (fun hc => absurd (by decide) hc) (fun _ => ?_)
         refine k_iconst X3317 hx (hb hby at_212) (pc' := 213) rfl (z := (1 : Int32)) rfl ?_
         refine k_goto X3317 hx (hb hby at_213) (pc' := 217) (by decide) ?_
         exact k_retN X3317 hx (t := .boolean) Bd.returns (by simp) (hb hby at_217) hlk (by decide) (by decide) (z' := (1 : Int32)) rfl ⟨rfl, N3317'⟩
        ·
         show KEnds p e below s _ _ _ T3317 (mkF m 207 #[.val (.int i0), .val (.int i1), .val (.int i2), .val (.int i3), .val (.int i4), .val (.int i5), .val (.ref b1), .val (.int (4 : Int32)), .val (.int (4 : Int32)), .val (.int v3275), .val (.int v3300), .val (.int (-1 : Int32))] [(.int (-1 : Int32))])
         exact absurd hc3319 hc3302
       ·
        show KEnds p e below s _ _ _ T3312 (mkF m 184 #[.val (.int i0), .val (.int i1), .val (.int i2), .val (.int i3), .val (.int i4), .val (.int i5), .val (.ref b1), .val (.int (4 : Int32)), .val (.int (4 : Int32)), .val (.int v3275), .val (.int v3300), .unset] [(.int (0 : Int32))])
        exact absurd (by decide) hc3314
      ·
       show KEnds p e below s _ _ _ T3309 (mkF m 163 #[.val (.int i0), .val (.int i1), .val (.int i2), .val (.int i3), .val (.int i4), .val (.int i5), .val (.ref b1), .val (.int (4 : Int32)), .val (.int (4 : Int32)), .val (.int v3275), .val (.int v3300), .unset] [(.int (0 : Int32))])
       exact absurd (by decide) hc3311
     ·
      show KEnds p e below s _ _ _ T3306 (mkF m 142 #[.val (.int i0), .val (.int i1), .val (.int i2), .val (.int i3), .val (.int i4), .val (.int i5), .val (.ref b1), .val (.int (4 : Int32)), .val (.int (4 : Int32)), .val (.int v3275), .val (.int v3300), .unset] [(.int (0 : Int32))])
      exact absurd (by decide) hc3308
    ·
     show KEnds p e below s _ _ _ T3303 (mkF m 121 #[.val (.int i0), .val (.int i1), .val (.int i2), .val (.int i3), .val (.int i4), .val (.int i5), .val (.ref b1), .val (.int (4 : Int32)), .val (.int (4 : Int32)), .val (.int v3275), .val (.int v3300), .unset] [(.int (0 : Int32))])
     exact absurd (by decide) hc3305
   ·
    refine k_iconst X12 hx (hb hby at_103) (pc' := 104) rfl (z := (-1 : Int32)) rfl ?_
    refine k_istore X12 hx (hb hby at_104) (Ls' := #[.val (.int i0), .val (.int i1), .val (.int i2), .val (.int i3), .val (.int i4), .val (.int i5), .val (.ref b1), .val (.int (4 : Int32)), .val (.int (4 : Int32)), .val (.int v3275), .val (.int v3300), .val (.int (-1 : Int32))]) rfl (pc' := 106) rfl ?_
    refine k_goto X12 hx (hb hby at_106) (pc' := 196) (by decide) ?_
    refine k_aload X12 hx (hb hby at_196) rfl rfl (pc' := 198) rfl ?_
    refine k_iload X12 hx (hb hby at_198) rfl (pc' := 200) rfl ?_
    refine k_iload X12 hx (hb hby at_200) rfl (pc' := 202) rfl ?_
    refine k_iload X12 hx (hb hby at_202) rfl (pc' := 204) rfl ?_
    refine k_callS X12 hx hZ hown (hw _ (List.mem_of_getElem? (i := 6) rfl)) (hw _ (List.mem_of_getElem? (i := 7) rfl)) (hw _ (List.mem_of_getElem? (i := 8) rfl)) (hw _ (List.mem_of_getElem? (i := 9) rfl)) (by decide) (rm2_3315 l Z a0 hw [] b1 v3300 k1 v2 v5 v8 v11 h12 n0 Z12 Vw12) (by decide) (by decide) e12 (by rw [hml]; rfl) (argsL := [(.ref b1), (.int (4 : Int32)), (.int (4 : Int32)), (.int v3300)]) (rest := []) (lenOf pd_1 rfl) rfl (W := 0) (Nat.le_refl _) rfl (hb hby at_204) (by decide) (by decide) (pc' := 207) rfl (fun T3320 L3320 r3320 X3320 q3320 => ?_)
    obtain ⟨N3320, e3320, q3320⟩ := q3320
    have N3320' := Fr.app N12 N3320
    rcases q3320 with ⟨hc3321, rfl⟩ | ⟨hc3322, rfl⟩
    ·
     show KEnds p e below s _ _ _ T3320 (mkF m 207 #[.val (.int i0), .val (.int i1), .val (.int i2), .val (.int i3), .val (.int i4), .val (.int i5), .val (.ref b1), .val (.int (4 : Int32)), .val (.int (4 : Int32)), .val (.int v3275), .val (.int v3300), .val (.int (-1 : Int32))] [(.int (-1 : Int32))])
     exact absurd hc3302 hc3321
    ·
     show KEnds p e below s _ _ _ T3320 (mkF m 207 #[.val (.int i0), .val (.int i1), .val (.int i2), .val (.int i3), .val (.int i4), .val (.int i5), .val (.ref b1), .val (.int (4 : Int32)), .val (.int (4 : Int32)), .val (.int v3275), .val (.int v3300), .val (.int (-1 : Int32))] [(.int (-1 : Int32))])
     refine k_iload X3320 hx (hb hby at_207) rfl (pc' := 209) rfl ?_
     refine k_icmp_ne X3320 hx (hb hby at_209) (pn := 212) rfl (py := 216) (by decide) (fun hc => absurd (by decide) hc) (fun _ => ?_)
     refine k_iconst X3320 hx (hb hby at_212) (pc' := 213) rfl (z := (1 : Int32)) rfl ?_
     refine k_goto X3320 hx (hb hby at_213) (pc' := 217) (by decide) ?_
     exact k_retN X3320 hx (t := .boolean) Bd.returns (by simp) (hb hby at_217) hlk (by decide) (by decide) (z' := (1 : Int32)) rfl ⟨rfl, N3320'⟩
set_option maxRecDepth 65536 in
set_option maxHeartbeats 40000000 in
theorem comes_1 {Post : Tables → Env → Array Value → State → Outcome → State → Prop} (hpost : ∀ tb e args s v u, (limb_1_1.after args s (.returned v) u = true ∧ limb_1_2.after args s (.returned v) u = true ∧ True) → FrameEnd s (.returned v) u (Jvm.fieldLocs frame_1_writes args s ++ Jvm.arrayLocs frame_1_arrays args s ++ Jvm.staticLocs frame_1_statics s) 16 128 → Post tb e args s (.returned v) u) :
    ArmFor flags0 classFile x code maxLocals ret World_1 tables_1 room_1 Calls_1 rest_1 Pre_1 Post := by
  intro l hfl _ _ p e ha hc hk s m args below hf hA hF happ hP
  obtain ⟨hcalls, hrest, hpre⟩ := hP
  obtain ⟨-, -, -, hnamed, -, -, -, hat⟩ := (Spec.applies_iff hf).mp happ
  obtain ⟨hg, hn⟩ := and_e (Cond.before_iff.mp (show (Jvm.Cond.and given_1 narrow_1).before args s = true from hpre))
  obtain ⟨g3323, g3324⟩ := and_e hg
  obtain ⟨g3325, g3326⟩ := and_e g3324
  obtain ⟨g3327, g3328⟩ := and_e g3326
  obtain ⟨g3329, g3330⟩ := and_e g3328
  obtain ⟨g3331, g3332⟩ := and_e g3330
  obtain ⟨g3333, g3334⟩ := and_e g3332
  obtain ⟨w0, w1, w2, w3, w4, w5, rfl⟩ : ∃ w0 w1 w2 w3 w4 w5 : Value, args = #[w0, w1, w2, w3, w4, w5] := by
    have hs : args.size = 6 := by simpa [Cond.value, given_1] using g3323
    obtain ⟨L⟩ := args
    match L, hs with
    | [w0, w1, w2, w3, w4, w5], _ => exact ⟨w0, w1, w2, w3, w4, w5, rfl⟩
  have hw := fun d (hd : d ∈ tables_1) => atoms_spec (ws := Jvm.Cond.code x code maxLocals ret :: tables_1) hat d (List.mem_cons_of_mem _ hd)
  obtain ⟨i0, ei0⟩ := is_v g3325
  obtain rfl : w0 = (.int i0) := Option.some.inj ei0
  obtain ⟨i1, ei1⟩ := is_v g3327
  obtain rfl : w1 = (.int i1) := Option.some.inj ei1
  obtain ⟨i2, ei2⟩ := is_v g3329
  obtain rfl : w2 = (.int i2) := Option.some.inj ei2
  obtain ⟨i3, ei3⟩ := is_v g3331
  obtain rfl : w3 = (.int i3) := Option.some.inj ei3
  obtain ⟨i4, ei4⟩ := is_v g3333
  obtain rfl : w4 = (.int i4) := Option.some.inj ei4
  obtain ⟨i5, ei5⟩ := is_v g3334
  obtain rfl : w5 = (.int i5) := Option.some.inj ei5
  obtain ⟨n, o, h1, h2, h3, _, L, rfl, ⟨rfl, N⟩, hq⟩ := rm0 l s _ hw tables_1 i0 i1 i2 i3 i4 i5 s.heap s.heap.size (Nat.le_refl _) p e ha hc hk s m _ below hf ((Spec.applies_iff_loose hf).mp happ).1 ⟨rfl, State.Warmed39.refl s, rfl⟩ trivial
  refine ⟨n, _, h1, h2, h3, hpost _ _ _ _ _ _ ⟨Cond.after_iff.mpr rfl, Cond.after_iff.mpr (eq_i res_at (Term.int_eval (1)) rfl), trivial⟩ ⟨hq.1, hq.2.1, (hq.2.2.sift fun y hy => Or.inr (N y hy)).mono (by decide) (by decide)⟩⟩
theorem main_1_1 : Claimed_1_1 := comes_1 fun _ _ _ _ _ _ h hF => ⟨h.1, hF⟩
theorem main_1_2 : Claimed_1_2 := comes_1 fun _ _ _ _ _ _ h hF => ⟨h.2.1, hF⟩
end Jvm.Pilot.@@N@@
namespace Jvm.Pilot.@@N@@
open Jvm Jvm.ClassFile Sem Op Lib Jvm.Free Jvm.Stand Jvm.Pilot.@@N@@.Jvm.D
/-! MADE BY PROGRAM (witnessworld.py) out of the Statement's table words and the real class files: 9 classes; the members and pool entries that the words name. The judged class is class 1, her method 2. -/
namespace start1
open Jvm.ClassFile
def u (s : String) : CpInfo := .utf8 (stringToUtf16 s)
/-- a pool by its gaps: so many unusable entries, then the entry; so many at the end -/
def gap : Nat → List CpInfo → List CpInfo
  | 0, r => r
  | n + 1, r => .unusable :: gap n r
def poolList (es : List (Nat × CpInfo)) (last : Nat) : List CpInfo := es.foldr (fun e r => gap e.1 (e.2 :: r)) (gap last [])
def pool (es : List (Nat × CpInfo)) (last : Nat) : Array CpInfo := ⟨poolList es last⟩
def fileOf (pool : Array CpInfo) (this : Nat) (attrs : Array Attribute := #[]) (ms : Array MethodInfo := #[]) (fl : Nat := 33) (sup : Nat := 0) (ifs : Array Nat := #[]) (fds : Array FieldInfo := #[]) : ClassFile where
  minorVersion := 0
  majorVersion := 65
  constantPool := pool
  accessFlags := fl
  thisClass := this
  superClass := sup
  interfaces := ifs
  fields := fds
  methods := ms
  attributes := attrs
def plain (name : String) (sup : Option ClassId) : Class where
  name := name
  kind := .ordinary
  loader := none
  accessFlags := 33
  super := sup
  interfaces := #[]
  cf := none
  fields := #[]
  methods := #[]
  instanceTypes := #[]
  staticTypes := #[]
  resolved := #[]
  callSites := []
  init := .initialized
  statics := none
  mirror := none

def pool0 : Array CpInfo := pool [(5, u "<init>"), (0, u "()V"), (1, .class_ 10), (1, u "java/lang/Object")] 113

def k0m0 : Method := { name := "<init>", desc := "()V", sig := { parameters := [], returnType := none }, accessFlags := 1, code := none }
/-- java/lang/Object -/
def k0 : Class := { plain "java/lang/Object" none with
  accessFlags := 33
  interfaces := #[]
  cf := some (fileOf pool0 8 #[] #[{ accessFlags := 1, nameIndex := 5, descriptorIndex := 6, attributes := #[] }] 33 0 #[] #[])
  fields := #[]
  methods := #[k0m0]
  instanceTypes := #[]
  staticTypes := #[]
  resolved := Array.replicate 124 none
  statics := none }

def pool1 : Array CpInfo := pool [(2, .class_ 4), (1, u "java/lang/Object"), (0, u "<init>"), (0, u "()V"), (0, .integer 2147483647), (0, .class_ 9), (0, u "com/example/corella/corella/hl7/Delimiters"), (0, .methodref 11 12), (0, .class_ 13), (0, .nameAndType 14 15), (0, u "com/example/corella/corella/hl7/DelimitersIndexOfPinLaw"), (0, u "hit"), (0, u "([BIIII)Z"), (0, .methodref 8 17), (0, .nameAndType 18 19), (0, u "indexOf"), (0, u "([BIII)I"), (3, u "law"), (0, u "(IIIIII)Z")] 4

def k1m0 : Method := { name := "<init>", desc := "()V", sig := { parameters := [], returnType := none }, accessFlags := 1, code := none }
def k1c1 : Code := { maxStack := 2, maxLocals := 5, code := method_2_code, exceptionTable := #[], attributes := #[] }
def k1m1 : Method := { name := "hit", desc := "([BIIII)Z", sig := { parameters := [(.array .byte), .int, .int, .int, .int], returnType := some .boolean }, accessFlags := 10, code := some k1c1 }
def k1c2 : Code := { maxStack := 5, maxLocals := 12, code := code, exceptionTable := #[], attributes := #[] }
def k1m2 : Method := { name := "law", desc := "(IIIIII)Z", sig := { parameters := [.int, .int, .int, .int, .int, .int], returnType := some .boolean }, accessFlags := 9, code := some k1c2 }
/-- com/example/corella/corella/hl7/DelimitersIndexOfPinLaw -/
def k1 : Class := { plain "com/example/corella/corella/hl7/DelimitersIndexOfPinLaw" (some 0) with
  accessFlags := 49
  interfaces := #[]
  cf := some (fileOf pool1 11 #[] #[{ accessFlags := 1, nameIndex := 5, descriptorIndex := 6, attributes := #[] }, { accessFlags := 10, nameIndex := 14, descriptorIndex := 15, attributes := #[] }, { accessFlags := 9, nameIndex := 23, descriptorIndex := 24, attributes := #[] }] 49 2 #[] #[])
  fields := #[]
  methods := #[k1m0, k1m1, k1m2]
  instanceTypes := #[]
  staticTypes := #[]
  resolved := Array.replicate 29 none
  statics := none }

def pool2 : Array CpInfo := pool [(1, .class_ 2), (0, u "com/example/corella/corella/hl7/Delimiters"), (1, .class_ 6), (1, u "java/lang/Object"), (4, u "m_field"), (0, u "I"), (2, u "m_component"), (2, u "m_repetition"), (2, u "m_escape"), (2, u "m_subcomponent"), (2, u "m_escapable"), (0, u "[I"), (46, u "indexOf"), (16, u "([BIII)I"), (80, u "ABSENT"), (2, u "FIELD_SEPARATOR_INDEX"), (1, u "ENCODING_CHARACTER_COUNT"), (1, u "DECLARATION_LENGTH"), (1, u "DELIMITER_ESCAPE_CODES"), (0, u "Ljava/lang/String;")] 43

def k2c0 : Code := { maxStack := 2, maxLocals := 5, code := prog_107_method_20_code, exceptionTable := #[], attributes := #[] }
def k2m0 : Method := { name := "indexOf", desc := "([BIII)I", sig := { parameters := [(.array .byte), .int, .int, .int], returnType := some .int }, accessFlags := 8, code := some k2c0 }
/-- com/example/corella/corella/hl7/Delimiters -/
def k2 : Class := { plain "com/example/corella/corella/hl7/Delimiters" (some 0) with
  accessFlags := 48
  interfaces := #[]
  cf := some (fileOf pool2 1 #[] #[{ accessFlags := 8, nameIndex := 75, descriptorIndex := 92, attributes := #[] }] 48 4 #[] #[{ accessFlags := 24, nameIndex := 173, descriptorIndex := 12, attributes := #[] }, { accessFlags := 24, nameIndex := 176, descriptorIndex := 12, attributes := #[] }, { accessFlags := 26, nameIndex := 178, descriptorIndex := 12, attributes := #[] }, { accessFlags := 24, nameIndex := 180, descriptorIndex := 12, attributes := #[] }, { accessFlags := 26, nameIndex := 182, descriptorIndex := 183, attributes := #[] }, { accessFlags := 18, nameIndex := 11, descriptorIndex := 12, attributes := #[] }, { accessFlags := 18, nameIndex := 15, descriptorIndex := 12, attributes := #[] }, { accessFlags := 18, nameIndex := 18, descriptorIndex := 12, attributes := #[] }, { accessFlags := 18, nameIndex := 21, descriptorIndex := 12, attributes := #[] }, { accessFlags := 18, nameIndex := 24, descriptorIndex := 12, attributes := #[] }, { accessFlags := 18, nameIndex := 27, descriptorIndex := 28, attributes := #[] }])
  fields := #[{ name := "ABSENT", type := .int, accessFlags := 24, slot := 0, constantValue := 0 }, { name := "FIELD_SEPARATOR_INDEX", type := .int, accessFlags := 24, slot := 1, constantValue := 0 }, { name := "ENCODING_CHARACTER_COUNT", type := .int, accessFlags := 26, slot := 2, constantValue := 0 }, { name := "DECLARATION_LENGTH", type := .int, accessFlags := 24, slot := 3, constantValue := 0 }, { name := "DELIMITER_ESCAPE_CODES", type := (.object "java/lang/String"), accessFlags := 26, slot := 4, constantValue := 0 }, { name := "m_field", type := .int, accessFlags := 18, slot := 0, constantValue := 0 }, { name := "m_component", type := .int, accessFlags := 18, slot := 1, constantValue := 0 }, { name := "m_repetition", type := .int, accessFlags := 18, slot := 2, constantValue := 0 }, { name := "m_escape", type := .int, accessFlags := 18, slot := 3, constantValue := 0 }, { name := "m_subcomponent", type := .int, accessFlags := 18, slot := 4, constantValue := 0 }, { name := "m_escapable", type := (.array .int), accessFlags := 18, slot := 5, constantValue := 0 }]
  methods := #[k2m0]
  instanceTypes := #[.int, .int, .int, .int, .int, (.array .int)]
  staticTypes := #[.int, .int, .int, .int, (.object "java/lang/String")]
  resolved := Array.replicate 227 none
  statics := none }

def pool3 : Array CpInfo := pool [(1, u "java/lang/Cloneable"), (0, .class_ 1), (0, u "java/lang/Object"), (0, .class_ 3)] 3

/-- java/lang/Cloneable -/
def k3 : Class := { plain "java/lang/Cloneable" (some 0) with
  accessFlags := 1537
  interfaces := #[]
  cf := some (fileOf pool3 2 #[] #[] 1537 4 #[] #[])
  fields := #[]
  methods := #[]
  instanceTypes := #[]
  staticTypes := #[]
  resolved := Array.replicate 8 none
  statics := none }

def pool4 : Array CpInfo := pool [(1, u "java/io/Serializable"), (0, .class_ 1), (0, u "java/lang/Object"), (0, .class_ 3)] 3

/-- java/io/Serializable -/
def k4 : Class := { plain "java/io/Serializable" (some 0) with
  accessFlags := 1537
  interfaces := #[]
  cf := some (fileOf pool4 2 #[] #[] 1537 4 #[] #[])
  fields := #[]
  methods := #[]
  instanceTypes := #[]
  staticTypes := #[]
  resolved := Array.replicate 8 none
  statics := none }

/-- the primitive byte -/
def k5 : Class := { plain "byte" none with kind := .primitive 'B', accessFlags := 0x411 }
/-- [B -/
def k6 : Class := { plain "[B" (some 0) with kind := .array 5 .byte, interfaces := #[3, 4], accessFlags := 1041 }

/-- the primitive int -/
def k7 : Class := { plain "int" none with kind := .primitive 'I', accessFlags := 0x411 }
/-- [I -/
def k8 : Class := { plain "[I" (some 0) with kind := .array 7 .int, interfaces := #[3, 4], accessFlags := 1041 }

def heap : Heap := #[]
def classes : Array Class := #[k0, k1, k2, k3, k4, k5, k6, k7, k8]
def interned : List (Array UInt16 × Addr) := []
def slotsUsed : Nat := 0
def theMethod : MethodId := ⟨1, 2⟩
def args0 : Array Value := #[.int 5, .int 7, .int 1, .int 3, .int 2, .int 2]
def aboutOver (below : List Frame) : State where
  vm := { classes := classes, interned := interned.toArray }
  heap := heap
  slotsUsed := slotsUsed
  threads := #[{ frames := .invoking theMethod args0 :: below }]
def below0 : List Frame := [.native { method := ⟨0, 0⟩, args := #[] }]
def about1 : State := aboutOver below0
def p0 : Program := .bare "" "" ""
def e0 : Env := launch0.env 0 0 0
theorem w_frames : about1.frames = Frame.invoking theMethod args0 :: below0 := rfl
set_option maxRecDepth 65536 in
theorem w_args : argsFit about1.vm theMethod args0 = true := by decide +kernel
set_option maxRecDepth 65536 in
theorem w_heap : heapFits about1 = true := by decide +kernel
set_option maxRecDepth 65536 in
theorem w_runnable : about1.curStatus? = some .runnable := by decide +kernel
set_option maxRecDepth 65536 in
theorem w_alone : about1.alone = true := by decide +kernel
set_option maxRecDepth 65536 in
theorem w_named : about1.methodNamed? x = some theMethod := by decide +kernel
set_option maxRecDepth 65536 in
theorem w_hears : about1.hears theMethod below0 = true := by decide +kernel
set_option maxRecDepth 65536 in
theorem w_ripe : about1.ripe theMethod args0 below0 = true := by decide +kernel
theorem w_running : about1.status = .running := rfl
set_option maxRecDepth 65536 in
theorem w_room : about1.hasRoom e0.platform room_1 = true :=
  launch0.hasRoom_least _ room_1 (by decide +kernel) (by decide +kernel) (by decide +kernel) (by decide +kernel) (by decide +kernel) (by decide +kernel)
theorem allAtoms_all (ts : List Jvm.Cond) (a : Array Jvm.Value) (st : Jvm.State) : (allAtoms ts).before a st = ts.all (fun c => c.before a st) := by
  induction ts with
  | nil => rfl
  | cons c t ih =>
    show (Jvm.Cond.and c (allAtoms t)).before a st = _
    rw [Jvm.Cond.before_and, ih, List.all_cons]
def words1 : List Jvm.Cond := Jvm.Cond.code x code maxLocals ret :: tables_1
/-- a 'code' word, met by the world's own term for the bytes: nothing is compared byte by byte -/
theorem code_word {y : MethodName} {bytes : ByteArray} {mx : Nat} {rt : Option FieldType} {a : Array Value} {s : State} {m : MethodId} {meth : Method} {c : Code} (h1 : s.methodNamed? y = some m) (h2 : s.vm.method? m = some meth) (h3 : meth.code = some c) (h4 : c.code = bytes)
    (h5 : (c.maxLocals == mx && c.exceptionTable.isEmpty && decide (c.maxStack ≤ mostOperands) && decide (meth.sig.returnType = rt) && !meth.locks && decide (parseMethodDescriptor y.desc = some meth.sig)) = true) : (Jvm.Cond.code y bytes mx rt).before a s = true := by
  simp only [Bool.and_eq_true, beq_iff_eq, Bool.not_eq_true', decide_eq_true_eq] at h5
  obtain ⟨⟨⟨⟨⟨g1, g2⟩, g3⟩, g4⟩, g5⟩, g6⟩ := h5
  simp [Cond.before, Cond.holds, Cond.value, h1, h2, h3, h4, g1, g2, g3, g4, g5, g6]
def isCode : Jvm.Cond → Bool
  | .code _ _ _ _ => true
  | _ => false
theorem all_split {L : List Jvm.Cond} {P : Jvm.Cond → Bool} (h1 : L.all (fun c => isCode c || P c) = true) (h2 : ∀ c ∈ L.filter isCode, P c = true) : L.all P = true := by
  refine List.all_eq_true.mpr fun c hc => ?_
  have h := List.all_eq_true.mp h1 c hc
  rcases Bool.eq_false_or_eq_true (isCode c) with hi | hi
  · exact h2 c (List.mem_filter.mpr ⟨hc, hi⟩)
  · simpa [hi] using h
set_option maxRecDepth 65536 in
theorem w_c0 : (Jvm.Cond.code x code maxLocals ret).before args0 about1 = true := code_word (m := ⟨1, 2⟩) (meth := k1m2) (c := k1c2) (by decide +kernel) rfl rfl rfl (by decide +kernel)
set_option maxRecDepth 65536 in
theorem w_c1 : (Jvm.Cond.code ({ cls := "com/example/corella/corella/hl7/DelimitersIndexOfPinLaw", name := "hit", desc := "([BIIII)Z" } : Jvm.MethodName) method_2_code (5 : Nat) (Option.some Jvm.ClassFile.FieldType.boolean)).before args0 about1 = true := code_word (m := ⟨1, 1⟩) (meth := k1m1) (c := k1c1) (by decide +kernel) rfl rfl rfl (by decide +kernel)
set_option maxRecDepth 65536 in
theorem w_c2 : (Jvm.Cond.code ({ cls := "com/example/corella/corella/hl7/Delimiters", name := "indexOf", desc := "([BIII)I" } : Jvm.MethodName) prog_107_method_20_code (5 : Nat) (Option.some Jvm.ClassFile.FieldType.int)).before args0 about1 = true := code_word (m := ⟨2, 0⟩) (meth := k2m0) (c := k2c0) (by decide +kernel) rfl rfl rfl (by decide +kernel)
def codes1 : List Jvm.Cond := [Jvm.Cond.code x code maxLocals ret, Jvm.Cond.code ({ cls := "com/example/corella/corella/hl7/DelimitersIndexOfPinLaw", name := "hit", desc := "([BIIII)Z" } : Jvm.MethodName) method_2_code (5 : Nat) (Option.some Jvm.ClassFile.FieldType.boolean), Jvm.Cond.code ({ cls := "com/example/corella/corella/hl7/Delimiters", name := "indexOf", desc := "([BIII)I" } : Jvm.MethodName) prog_107_method_20_code (5 : Nat) (Option.some Jvm.ClassFile.FieldType.int)]
set_option maxRecDepth 65536 in
theorem codes_eq : words1.filter isCode = codes1 := rfl
theorem w_codes : ∀ c ∈ words1.filter isCode, c.before args0 about1 = true := by
  rw [codes_eq]
  intro c hc
  simp only [codes1, List.mem_cons, List.not_mem_nil, or_false] at hc
  rcases hc with rfl | rfl | rfl
  · exact w_c0
  · exact w_c1
  · exact w_c2
set_option maxRecDepth 65536 in
theorem w_t1 : words1.all (fun c => isCode c || c.before args0 about1) = true := by decide +kernel
theorem w_tables : (allAtoms (Jvm.Cond.code x code maxLocals ret :: tables_1)).before args0 about1 = true := by
  rw [allAtoms_all]
  show words1.all (fun c => c.before args0 about1) = true
  refine all_split ?_ w_codes
  rw [w_t1]
set_option maxRecDepth 65536 in
theorem w_case : (Jvm.Cond.and given_1 narrow_1).before args0 about1 = true := by decide +kernel
theorem w_applies : (headSpec (Jvm.Cond.code x code maxLocals ret :: tables_1) room_1).applies x e0.platform about1 = true :=
  (Spec.applies_iff w_frames).mpr ⟨w_running, w_runnable, w_alone, w_named, w_hears, w_ripe, w_room, w_tables⟩
theorem atStart : AtStart classFile x code maxLocals ret World_1 tables_1 room_1 Calls_1 rest_1 Pre_1 launch0 p0 e0 about1 theMethod args0 below0 :=
  ⟨lists_1, trivial, launch0.admits_env _ _ _, launch0.least_env, fairChoices_fair.cas, fairChoices_fair.clock, w_frames, w_args, w_heap, w_applies, trivial, trivial, w_case⟩
end start1
theorem witness_1 : WitnessClaimed_1 := ⟨start1.p0, start1.e0, start1.about1, start1.theMethod, start1.args0, start1.below0, start1.atStart⟩
end Jvm.Pilot.@@N@@
