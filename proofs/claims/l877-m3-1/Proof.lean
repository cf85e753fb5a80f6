import JvmDerived
import JvmDerived.Pilot.@@N@@Statement
import JvmDerived.Pilot.@@N@@Code
set_option linter.unusedVariables false
set_option linter.unusedSimpArgs false
namespace Jvm.OwnK
open Sem ClassFile Op Lib Jvm.Stand Jvm.Free Jvm.LawKit Jvm.RoadKit
section
variable {p : Program} {l : Launch} {e : Env} {R : Room} {s : State} {m : MethodId} {args : Array Value} {below : List Frame} {meth : Method} {c : Code} {T : State} {locs : List Loc} {cells slots : Nat} {Cn Sn : Nat} {Q : Option Value → Heap → List Loc → Prop}
/-- from the frame f the run comes to an end that Q takes -/
def KEnds (p : Program) (e : Env) (below : List Frame) (s : State) (Cn Sn : Nat) (Q : Option Value → Heap → List Loc → Prop) (T : State) (f : JFrame) : Prop :=
  ∃ s₂ o, Steps p.tables e below (T.setTop f) s₂ ∧ s₂.status = .running ∧ Ended s₂ below o ∧ ∃ v L, o = .returned v ∧ Q v s₂.heap L ∧ FrameEnd s o s₂ L Cn Sn
theorem k_via {T' : State} {f f' : JFrame} (st : ∀ t, Steps p.tables e below (T'.setTop f') t → Steps p.tables e below (T.setTop f) t) (k : KEnds p e below s Cn Sn Q T' f') : KEnds p e below s Cn Sn Q T f := by
  obtain ⟨s₂, o, h, r⟩ := k
  exact ⟨s₂, o, st _ h, r⟩
theorem k_lloadN (X : Stand p l e R s m args below meth c T locs cells slots) (hx : p.tables.exec = Jvm.exec) {pc pc' : Nat} {Ls : Array Slot} {St : List Value} {i : Fin 4} {v : Int64} (hd : decode c.code pc = .ok (.lload_n i, 1)) (hl : Ls[i.val]? = some (.val (.long v))) (hpc : pc + 1 = pc') (k : KEnds p e below s Cn Sn Q T (mkF m pc' Ls (.long v :: St))) : KEnds p e below s Cn Sn Q T (mkF m pc Ls (St)) := by
  subst hpc; exact k_via (fun t h => XS.lloadN X.here hx rfl hd hl h) k
theorem k_lload (X : Stand p l e R s m args below meth c T locs cells slots) (hx : p.tables.exec = Jvm.exec) {pc pc' : Nat} {Ls : Array Slot} {St : List Value} {i : Nat} {v : Int64} (hd : decode c.code pc = .ok (.lload i, 2)) (hl : Ls[i]? = some (.val (.long v))) (hpc : pc + 2 = pc') (k : KEnds p e below s Cn Sn Q T (mkF m pc' Ls (.long v :: St))) : KEnds p e below s Cn Sn Q T (mkF m pc Ls (St)) := by
  subst hpc; exact k_via (fun t h => XS.lload X.here hx rfl hd hl h) k
theorem k_lstoreN (X : Stand p l e R s m args below meth c T locs cells slots) (hx : p.tables.exec = Jvm.exec) {pc pc' : Nat} {Ls : Array Slot} {St : List Value} {i : Fin 4} {v : Int64} {Ls' : Array Slot} (hd : decode c.code pc = .ok (.lstore_n i, 1)) (hl : storeLocals Ls i.val (.long v) = some Ls') (hpc : pc + 1 = pc') (k : KEnds p e below s Cn Sn Q T (mkF m pc' Ls' (St))) : KEnds p e below s Cn Sn Q T (mkF m pc Ls (.long v :: St)) := by
  subst hpc; exact k_via (fun t h => XS.lstoreN X.here hx rfl hd rfl hl h) k
theorem k_lstore (X : Stand p l e R s m args below meth c T locs cells slots) (hx : p.tables.exec = Jvm.exec) {pc pc' : Nat} {Ls : Array Slot} {St : List Value} {i : Nat} {v : Int64} {Ls' : Array Slot} (hd : decode c.code pc = .ok (.lstore i, 2)) (hl : storeLocals Ls i (.long v) = some Ls') (hpc : pc + 2 = pc') (k : KEnds p e below s Cn Sn Q T (mkF m pc' Ls' (St))) : KEnds p e below s Cn Sn Q T (mkF m pc Ls (.long v :: St)) := by
  subst hpc; exact k_via (fun t h => XS.lstore X.here hx rfl hd rfl hl h) k
theorem k_aloadN (X : Stand p l e R s m args below meth c T locs cells slots) (hx : p.tables.exec = Jvm.exec) {pc pc' : Nat} {Ls : Array Slot} {St : List Value} {i : Fin 4} {v : Value} (hd : decode c.code pc = .ok (.aload_n i, 1)) (hl : Ls[i.val]? = some (.val v)) (hv : v.isRef = true) (hpc : pc + 1 = pc') (k : KEnds p e below s Cn Sn Q T (mkF m pc' Ls (v :: St))) : KEnds p e below s Cn Sn Q T (mkF m pc Ls (St)) := by
  subst hpc; exact k_via (fun t h => XS.aloadN X.here hx rfl hd hl hv h) k
theorem k_aload (X : Stand p l e R s m args below meth c T locs cells slots) (hx : p.tables.exec = Jvm.exec) {pc pc' : Nat} {Ls : Array Slot} {St : List Value} {i : Nat} {v : Value} (hd : decode c.code pc = .ok (.aload i, 2)) (hl : Ls[i]? = some (.val v)) (hv : v.isRef = true) (hpc : pc + 2 = pc') (k : KEnds p e below s Cn Sn Q T (mkF m pc' Ls (v :: St))) : KEnds p e below s Cn Sn Q T (mkF m pc Ls (St)) := by
  subst hpc; exact k_via (fun t h => XS.aload X.here hx rfl hd hl hv h) k
theorem k_astore (X : Stand p l e R s m args below meth c T locs cells slots) (hx : p.tables.exec = Jvm.exec) {pc pc' : Nat} {Ls : Array Slot} {St : List Value} {i : Nat} {v : Value} {Ls' : Array Slot} (hd : decode c.code pc = .ok (.astore i, 2)) (hv : v.isRef = true) (hl : storeLocals Ls i v = some Ls') (hpc : pc + 2 = pc') (k : KEnds p e below s Cn Sn Q T (mkF m pc' Ls' (St))) : KEnds p e below s Cn Sn Q T (mkF m pc Ls (v :: St)) := by
  subst hpc; exact k_via (fun t h => XS.astore X.here hx rfl hd rfl hv hl h) k
theorem k_iconst (X : Stand p l e R s m args below meth c T locs cells slots) (hx : p.tables.exec = Jvm.exec) {pc pc' : Nat} {Ls : Array Slot} {St : List Value} {i : Int} {z : Int32} (hd : decode c.code pc = .ok (.iconst i, 1)) (hpc : pc + 1 = pc') (hz : Int32.ofInt i = z) (k : KEnds p e below s Cn Sn Q T (mkF m pc' Ls (.int z :: St))) : KEnds p e below s Cn Sn Q T (mkF m pc Ls St) := by
  subst hpc hz; exact k_via (fun t h => XS.iconst X.here hx rfl hd h) k
theorem k_bipush (X : Stand p l e R s m args below meth c T locs cells slots) (hx : p.tables.exec = Jvm.exec) {pc pc' : Nat} {Ls : Array Slot} {St : List Value} {i : Int} {z : Int32} (hd : decode c.code pc = .ok (.bipush i, 2)) (hpc : pc + 2 = pc') (hz : (Int8.ofInt i).toInt32 = z) (k : KEnds p e below s Cn Sn Q T (mkF m pc' Ls (.int z :: St))) : KEnds p e below s Cn Sn Q T (mkF m pc Ls St) := by
  subst hpc hz; exact k_via (fun t h => XS.bipush X.here hx rfl hd h) k
theorem k_laddL (X : Stand p l e R s m args below meth c T locs cells slots) (hx : p.tables.exec = Jvm.exec) {pc pc' : Nat} {Ls : Array Slot} {St : List Value} {x y : Int64} {z : Int64} (hd : decode c.code pc = .ok (.ladd, 1))  (hpc : pc + 1 = pc') (hz : x + y = z) (k : KEnds p e below s Cn Sn Q T (mkF m pc' Ls (.long z :: St))) : KEnds p e below s Cn Sn Q T (mkF m pc Ls (.long y :: .long x :: St)) := by
  subst hpc hz; exact k_via (fun t h => XS.ladd X.here hx rfl hd rfl h) k
theorem k_ladd (X : Stand p l e R s m args below meth c T locs cells slots) (hx : p.tables.exec = Jvm.exec) {pc pc' : Nat} {Ls : Array Slot} {St : List Value} {x y : Int64} (hd : decode c.code pc = .ok (.ladd, 1))  (hpc : pc + 1 = pc') (k : ∀ z : Int64, z = x + y → KEnds p e below s Cn Sn Q T (mkF m pc' Ls (.long z :: St))) : KEnds p e below s Cn Sn Q T (mkF m pc Ls (.long y :: .long x :: St)) := by
  subst hpc; exact k_via (fun t h => XS.ladd X.here hx rfl hd rfl h) (k _ rfl)
theorem k_lsubL (X : Stand p l e R s m args below meth c T locs cells slots) (hx : p.tables.exec = Jvm.exec) {pc pc' : Nat} {Ls : Array Slot} {St : List Value} {x y : Int64} {z : Int64} (hd : decode c.code pc = .ok (.lsub, 1))  (hpc : pc + 1 = pc') (hz : x - y = z) (k : KEnds p e below s Cn Sn Q T (mkF m pc' Ls (.long z :: St))) : KEnds p e below s Cn Sn Q T (mkF m pc Ls (.long y :: .long x :: St)) := by
  subst hpc hz; exact k_via (fun t h => XS.lsub X.here hx rfl hd rfl h) k
theorem k_lmulL (X : Stand p l e R s m args below meth c T locs cells slots) (hx : p.tables.exec = Jvm.exec) {pc pc' : Nat} {Ls : Array Slot} {St : List Value} {x y : Int64} {z : Int64} (hd : decode c.code pc = .ok (.lmul, 1))  (hpc : pc + 1 = pc') (hz : x * y = z) (k : KEnds p e below s Cn Sn Q T (mkF m pc' Ls (.long z :: St))) : KEnds p e below s Cn Sn Q T (mkF m pc Ls (.long y :: .long x :: St)) := by
  subst hpc hz; exact k_via (fun t h => XS.lmul X.here hx rfl hd rfl h) k
theorem k_lmul (X : Stand p l e R s m args below meth c T locs cells slots) (hx : p.tables.exec = Jvm.exec) {pc pc' : Nat} {Ls : Array Slot} {St : List Value} {x y : Int64} (hd : decode c.code pc = .ok (.lmul, 1))  (hpc : pc + 1 = pc') (k : ∀ z : Int64, z = x * y → KEnds p e below s Cn Sn Q T (mkF m pc' Ls (.long z :: St))) : KEnds p e below s Cn Sn Q T (mkF m pc Ls (.long y :: .long x :: St)) := by
  subst hpc; exact k_via (fun t h => XS.lmul X.here hx rfl hd rfl h) (k _ rfl)
theorem k_lxor (X : Stand p l e R s m args below meth c T locs cells slots) (hx : p.tables.exec = Jvm.exec) {pc pc' : Nat} {Ls : Array Slot} {St : List Value} {x y : Int64} (hd : decode c.code pc = .ok (.lxor, 1))  (hpc : pc + 1 = pc') (k : ∀ z : Int64, z = x ^^^ y → KEnds p e below s Cn Sn Q T (mkF m pc' Ls (.long z :: St))) : KEnds p e below s Cn Sn Q T (mkF m pc Ls (.long y :: .long x :: St)) := by
  subst hpc; exact k_via (fun t h => XS.lxor X.here hx rfl hd rfl h) (k _ rfl)
theorem k_lushr (X : Stand p l e R s m args below meth c T locs cells slots) (hx : p.tables.exec = Jvm.exec) {pc pc' : Nat} {Ls : Array Slot} {St : List Value} {x : Int64} {y : Int32} (hd : decode c.code pc = .ok (.lushr, 1))  (hpc : pc + 1 = pc') (k : ∀ z : Int64, z = ((x.toUInt64 >>> (y &&& 0x3f).toInt64.toUInt64).toInt64) → KEnds p e below s Cn Sn Q T (mkF m pc' Ls (.long z :: St))) : KEnds p e below s Cn Sn Q T (mkF m pc Ls (.int y :: .long x :: St)) := by
  subst hpc; exact k_via (fun t h => XS.lushr X.here hx rfl hd rfl h) (k _ rfl)
theorem k_dup (X : Stand p l e R s m args below meth c T locs cells slots) (hx : p.tables.exec = Jvm.exec) {pc pc' : Nat} {Ls : Array Slot} {St : List Value} {v : Value} (hd : decode c.code pc = .ok (.dup, 1)) (hv : v.category = 1) (hpc : pc + 1 = pc') (k : KEnds p e below s Cn Sn Q T (mkF m pc' Ls (v :: v :: St))) : KEnds p e below s Cn Sn Q T (mkF m pc Ls (v :: St)) := by
  subst hpc; exact k_via (fun t h => XS.dup X.here hx rfl hd rfl hv h) k
theorem k_goto (X : Stand p l e R s m args below meth c T locs cells slots) (hx : p.tables.exec = Jvm.exec) {pc pc' : Nat} {Ls : Array Slot} {St : List Value} {o : Int} (hd : decode c.code pc = .ok (.goto o, 3)) (hp : (pc : Int) + o = (pc' : Int)) (k : KEnds p e below s Cn Sn Q T (mkF m pc' Ls St)) : KEnds p e below s Cn Sn Q T (mkF m pc Ls St) :=
  k_via (fun t h => XS.goto X.here hx rfl (pc0 := pc) rfl hd (by omega) (by omega) h) k
theorem k_if_ne (X : Stand p l e R s m args below meth c T locs cells slots) (hx : p.tables.exec = Jvm.exec) {pc pn py : Nat} {Ls : Array Slot} {St : List Value} {x : Int32} {o : Int} (hd : decode c.code pc = .ok (.ifCond .ne o, 3)) (hn : pc + 3 = pn) (hp : (pc : Int) + o = (py : Int)) (ky : ¬ x = (0 : Int32) → KEnds p e below s Cn Sn Q T (mkF m py Ls St)) (kn : x = (0 : Int32) → KEnds p e below s Cn Sn Q T (mkF m pn Ls St)) : KEnds p e below s Cn Sn Q T (mkF m pc Ls (.int x :: St)) := by
  subst hn
  by_cases hc : x = (0 : Int32)
  · exact k_via (fun t h => XS.ifNo X.here hx rfl hd rfl ((if0 _ _).trans (teq hc).2) h) (kn hc)
  · exact k_via (fun t h => XS.ifYes X.here hx rfl (pc0 := pc) rfl hd rfl ((if0 _ _).trans (feq hc).2) (by omega) (by omega) h) (ky hc)
theorem k_lcif_ne (X : Stand p l e R s m args below meth c T locs cells slots) (hx : p.tables.exec = Jvm.exec) {pc pn py : Nat} {Ls : Array Slot} {St : List Value} {x y : Int64} {o : Int} {pm : Nat} (hd0 : decode c.code pc = .ok (.lcmp, 1)) (hm : pc + 1 = pm) (hd : decode c.code pm = .ok (.ifCond .ne o, 3)) (hn : pm + 3 = pn) (hp : (pm : Int) + o = (py : Int)) (ky : ¬ x = y → KEnds p e below s Cn Sn Q T (mkF m py Ls St)) (kn : x = y → KEnds p e below s Cn Sn Q T (mkF m pn Ls St)) : KEnds p e below s Cn Sn Q T (mkF m pc Ls (.long y :: .long x :: St)) := by
  subst hm
  have F := k_if_ne (Q := Q) (Cn := Cn) (Sn := Sn) (Ls := Ls) (St := St) (x := lcmpW x y) X hx hd hn hp (fun hc => ky (fun q => hc ((lw_eq x y).mpr q))) (fun hc => kn ((lw_eq x y).mp hc))
  exact k_via (fun t h => XS.lcmp X.here hx rfl hd0 rfl h) F
theorem k_retN (X : Stand p l e R s m args below meth c T locs cells slots) (hx : p.tables.exec = Jvm.exec) {pc : Nat} {Ls : Array Slot} {St : List Value} {t : FieldType} {z z' : Int32} (hret : meth.sig.returnType = some t) (ht : t = .boolean ∨ t = .byte ∨ t = .char ∨ t = .short) (hd : decode c.code pc = .ok (.ireturn, 1)) (hlk : meth.locks = false) (hC : cells ≤ Cn) (hS : slots ≤ Sn) (hz : nar t z = z') (q : Q (some (.int z')) T.heap locs) : KEnds p e below s Cn Sn Q T (mkF m pc Ls (.int z :: St)) := by
  subst hz
  obtain ⟨fs, hr, hrun, hended, hW, hsame⟩ := X.leave (v := some (.int (nar t z))) (fun h => by rw [hret] at h; cases h) hlk
  exact ⟨_, _, retN X hx hret ht hd hr, hrun, hended, _, _, rfl, q, ⟨_, rfl⟩, hW, hsame.mono hC hS⟩
theorem k_retL (X : Stand p l e R s m args below meth c T locs cells slots) (hx : p.tables.exec = Jvm.exec) {pc : Nat} {Ls : Array Slot} {St : List Value} {z : Int64} (hret : meth.sig.returnType = some .long) (hd : decode c.code pc = .ok (.lreturn, 1)) (hlk : meth.locks = false) (hC : cells ≤ Cn) (hS : slots ≤ Sn) (q : Q (some (.long z)) T.heap locs) : KEnds p e below s Cn Sn Q T (mkF m pc Ls (.long z :: St)) := by
  obtain ⟨fs, hr, hrun, hended, hW, hsame⟩ := X.leave (v := some (.long z)) (fun h => by rw [hret] at h; cases h) hlk
  exact ⟨_, _, retOut X hx hret rfl (Or.inr (Or.inl ⟨rfl, rfl, _, rfl⟩)) hd hr, hrun, hended, _, _, rfl, q, ⟨_, rfl⟩, hW, hsame.mono hC hS⟩
theorem k_ret (X : Stand p l e R s m args below meth c T locs cells slots) (hx : p.tables.exec = Jvm.exec) {pc : Nat} {Ls : Array Slot} (hret : meth.sig.returnType = none) (hd : decode c.code pc = .ok (.return_, 1)) (hlk : meth.locks = false) (hC : cells ≤ Cn) (hS : slots ≤ Sn) (q : Q none T.heap locs) : KEnds p e below s Cn Sn Q T (mkF m pc Ls []) := by
  obtain ⟨fs, hr, hrun, hended, hW, hsame⟩ := X.leave (v := none) (fun _ => rfl) hlk
  exact ⟨_, _, X.returnOut hx hret hd hr, hrun, hended, _, _, rfl, q, ⟨_, rfl⟩, hW, hsame.mono hC hS⟩
variable {Z : State} {a0 : Array Value} {h : Heap} {own : String}
theorem k_ldcL (X : Stand p l e R s m args below meth c T locs cells slots) (hx : p.tables.exec = Jvm.exec) (hZ : Z.Warmed39 s.vm) (hown : s.vm.findClass own = some m.cls) {pc pc' : Nat} {Ls : Array Slot} {St : List Value} {index : Nat} {v : Int64} (w : (Cond.constantLong own index v).before a0 Z = true) (hd : decode c.code pc = .ok (.ldc2_w index, 3)) (hpc : pc + 3 = pc') (k : KEnds p e below s Cn Sn Q T (mkF m pc' Ls (.long v :: St))) : KEnds p e below s Cn Sn Q T (mkF m pc Ls St) := by
  subst hpc; exact k_via (X.ldc2Long hx hown (mvT hZ w) (g := mkF m pc Ls St) rfl hd) k
theorem k_getF (X : Stand p l e R s m args below meth c T locs cells slots) (hx : p.tables.exec = Jvm.exec) (hZ : Z.Warmed39 s.vm) (hown : s.vm.findClass own = some m.cls) {pc pc' : Nat} {Ls : Array Slot} {St : List Value} {R0 O n d host : String} {index : Nat} (w : (Cond.fieldLink own index R0 n d).before a0 Z = true ∨ (Cond.fieldLinkNest own index R0 n d host).before a0 Z = true) (via : Via Z R0 O n d) (eT : T.heap = h) {a : Addr} {v : Value} (F : Fld Z h a O n d v) (hd : decode c.code pc = .ok (.getfield index, 3)) (hpc : pc + 3 = pc') (k : ∀ T', Stand p l e R s m args below meth c T' locs cells slots → T'.heap = h → KEnds p e below s Cn Sn Q T' (mkF m pc' Ls (v :: St))) : KEnds p e below s Cn Sn Q T (mkF m pc Ls (.ref a :: St)) := by
  subst hpc
  obtain ⟨T', X', e', st⟩ := getF X hx hZ hown w via eT F (g := mkF m pc Ls (.ref a :: St)) rfl rfl hd
  exact k_via st (k T' X' e')
theorem k_putF (X : Stand p l e R s m args below meth c T locs cells slots) (hx : p.tables.exec = Jvm.exec) (hZ : Z.Warmed39 s.vm) (hown : s.vm.findClass own = some m.cls) {pc pc' : Nat} {Ls : Array Slot} {St : List Value} {R0 O n d host C : String} {index kk : Nat} {ty : FieldType} (w : (Cond.fieldLink own index R0 n d).before a0 Z = true ∨ (Cond.fieldLinkNest own index R0 n d host).before a0 Z = true) (via : Via Z R0 O n d) (eT : T.heap = h) {a : Addr} {v old : Value} (F : Fld Z h a O n d old) (Ex : Exa Z h a C) (L : (Cond.lays C O n d).before a0 Z = true ∨ ((Cond.laysFinal C O n d).before a0 Z = true ∧ own = O ∧ meth.name = "<init>")) (wi : (Cond.instantiable C kk).before a0 Z = true) (hty : parseFieldDescriptor d = some ty) (hn : narrow ty v = v) (hf : fits ty v = true) (hd : decode c.code pc = .ok (.putfield index, 3)) (hpc : pc + 3 = pc') (k : ∀ T' h', Stand p l e R s m args below meth c T' (locs ++ [⟨a, Jvm.RoadKit.slotOf Z O n d⟩]) cells slots → T'.heap = h' → Wr h h' a (Jvm.RoadKit.slotOf Z O n d) v → KEnds p e below s Cn Sn Q T' (mkF m pc' Ls St)) : KEnds p e below s Cn Sn Q T (mkF m pc Ls (v :: .ref a :: St)) := by
  subst hpc
  obtain ⟨T', h', X', e', W', st⟩ := putF X hx hZ hown w via eT F Ex L wi hty hn hf (g := mkF m pc Ls (v :: .ref a :: St)) rfl rfl hd
  exact k_via st (k T' h' X' e' W')
theorem k_newO (X : Stand p l e R s m args below meth c T locs cells slots) (hx : p.tables.exec = Jvm.exec) (hZ : Z.Warmed39 s.vm) (hown : s.vm.findClass own = some m.cls) {pc pc' : Nat} {Ls : Array Slot} {St : List Value} {C : String} {index n : Nat} (w : (Cond.classLink own index C).before a0 Z = true) (wi : (Cond.instantiable C n).before a0 Z = true) (wz : (Cond.initialized C).before a0 Z = true) (eT : T.heap = h) (hd : decode c.code pc = .ok (.new index, 3)) (hc : cells + 1 ≤ R.cells) (hl : slots + n ≤ R.slots) (hpc : pc + 3 = pc') (k : ∀ T' h' a, a = h.size → Stand p l e R s m args below meth c T' locs (cells + 1) (slots + n) → T'.heap = h' → Ext h h' → Exa Z h' a C → (∀ {O nm d : String} {ty : FieldType}, Laid Z a0 C O nm d → parseFieldDescriptor d = some ty → Fld Z h' a O nm d (defaultValue ty)) → KEnds p e below s Cn Sn Q T' (mkF m pc' Ls (.ref a :: St))) : KEnds p e below s Cn Sn Q T (mkF m pc Ls St) := by
  subst hpc
  obtain ⟨T', h', X', e', E', A', D', -, st⟩ := newO X hx hZ hown w wi wz eT (g := mkF m pc Ls St) rfl hd hc hl
  exact k_via st (k T' h' _ rfl X' e' E' A' D')
theorem k_initO (X : Stand p l e R s m args below meth c T locs cells slots) (hx : p.tables.exec = Jvm.exec) (hZ : Z.Warmed39 s.vm) (hown : s.vm.findClass own = some m.cls) {pc pc' : Nat} {Ls : Array Slot} {St : List Value} {idx : Nat} (w1 : (Cond.methodLink own idx Lib.objectInit).before a0 Z = true) (w2 : (Cond.instanceMethod Lib.objectInit).before a0 Z = true) (w3 : (Cond.code Lib.objectInit ⟨#[0xb1]⟩ 1 none).before a0 Z = true) (eT : T.heap = h) (hsize : Ls.size = c.maxLocals) {a : Addr} (hd : decode c.code pc = .ok (.invokespecial idx, 3)) (hf : 1 ≤ R.frames) {W : Nat} (hW : (St.map fun v => v.category).sum ≤ W) (hl : W + 12 ≤ R.locals) (hpc : pc + 3 = pc') (k : ∀ T', Stand p l e R s m args below meth c T' locs cells slots → T'.heap = h → KEnds p e below s Cn Sn Q T' (mkF m pc' Ls St)) : KEnds p e below s Cn Sn Q T (mkF m pc Ls (.ref a :: St)) := by
  subst hpc
  obtain ⟨T', X', e', st⟩ := initO X hx hZ hown w1 w2 w3 eT (g := mkF m pc Ls (.ref a :: St)) rfl hsize rfl hd hf (W := W) (by show 2 * 0 + _ ≤ _; omega) hl
  exact k_via st (k T' X' e')
theorem k_callS (X : Stand p l e R s m args below meth c T locs cells slots) (hx : p.tables.exec = Jvm.exec) (hZ : Z.Warmed39 s.vm) (hown : s.vm.findClass own = some m.cls) {pc pc' : Nat} {Ls : Array Slot} {St : List Value} {y : MethodName} {bytes : ByteArray} {maxL : Nat} {ret : Option FieldType} {rm : Room} {index W : Nat} {as' : Array Value} {Q' : Option Value → Heap → List Loc → Prop} (w1 : (Cond.methodLink own index y).before a0 Z = true) (w2 : (Cond.static y).before a0 Z = true) (w3 : (Cond.initialized y.cls).before a0 Z = true) (w4 : (Cond.code y bytes maxL ret).before a0 Z = true) (hy : y.cls ≠ "java/lang/invoke/MethodHandle" ∧ y.cls ≠ "java/lang/invoke/VarHandle") (hM : MetFree l y (head1 [Cond.code y bytes maxL ret] rm) (fun a U => a = as' ∧ Z.Warmed39 U.vm ∧ U.heap = h) (fun _ _ _ _ _ => True) (fun _ U o U' => ∃ v L, o = .returned v ∧ Q' v U'.heap L ∧ FrameEnd U o U' L rm.cells rm.slots)) (hf : rm.frames + 1 ≤ R.frames) (hl : W + (maxL + 11) + rm.locals ≤ R.locals) (eT : T.heap = h) (hsize : Ls.size = c.maxLocals) {argsL rest : List Value} (hlen : ∀ sig, parseMethodDescriptor y.desc = some sig → argsL.length = sig.parameters.length) (hst : St = argsL.reverse ++ rest) (hW : (rest.map fun v => v.category).sum ≤ W) (has : argsL.toArray = as') (hd : decode c.code pc = .ok (.invokestatic index, 3)) (hce : cells + rm.cells ≤ R.cells) (hsl : slots + rm.slots ≤ R.slots) (hpc : pc + 3 = pc') (k : ∀ T' L v, Stand p l e R s m args below meth c T' (locs ++ L) (cells + rm.cells) (slots + rm.slots) → Q' v T'.heap L → KEnds p e below s Cn Sn Q T' (mkF m pc' Ls (v.toList ++ rest))) : KEnds p e below s Cn Sn Q T (mkF m pc Ls St) := by
  subst hpc
  obtain ⟨v, _, ⟨T', L', k', n'⟩, -, X', ⟨Lc, hQ, l', y', z'⟩, st⟩ := Jvm.LawKit.callS X hx (y := y) hown (mvT hZ w1) (mvT hZ w2) (mvT hZ w3) (mvT hZ w4) hy (backOf (W := W) hM hZ w4 w3 hf hl) (g := mkF m pc Ls St) rfl hsize hlen hst (by show 2 * 0 + _ ≤ _; omega) hd (fun _ _ => ⟨has, eT, hce, hsl⟩)
  dsimp only [Pt.U, Pt.locs, Pt.cells, Pt.slots] at X' l' y' z' st hQ
  subst l' y' z'
  exact k_via st (k T' Lc v X' hQ)
theorem k_callV (X : Stand p l e R s m args below meth c T locs cells slots) (hx : p.tables.exec = Jvm.exec) (hZ : Z.Warmed39 s.vm) (hown : s.vm.findClass own = some m.cls) {pc pc' : Nat} {Ls : Array Slot} {St : List Value} {y : MethodName} {bytes : ByteArray} {maxL : Nat} {ret : Option FieldType} {rm : Room} {index W : Nat} {as' : Array Value} {Q' : Option Value → Heap → List Loc → Prop} {C : String} {a : Addr} (w1 : (Cond.methodLink own index y).before a0 Z = true) (w2 : (Cond.declares y).before a0 Z = true) (w3 : (Cond.selects C y y).before a0 Z = true) (w5 : (Cond.instanceMethod y).before a0 Z = true) (w6 : (Cond.initialized y.cls).before a0 Z = true) (w4 : (Cond.code y bytes maxL ret).before a0 Z = true) (hy : y.cls ≠ "java/lang/invoke/MethodHandle" ∧ y.cls ≠ "java/lang/invoke/VarHandle") (Ex : Exa Z h a C) (hM : MetFree l y (head1 [Cond.code y bytes maxL ret] rm) (fun a U => a = as' ∧ Z.Warmed39 U.vm ∧ U.heap = h) (fun _ _ _ _ _ => True) (fun _ U o U' => ∃ v L, o = .returned v ∧ Q' v U'.heap L ∧ FrameEnd U o U' L rm.cells rm.slots)) (hf : rm.frames + 1 ≤ R.frames) (hl : W + (maxL + 11) + rm.locals ≤ R.locals) (eT : T.heap = h) (hsize : Ls.size = c.maxLocals) {argsL rest : List Value} (hlen : ∀ sig, parseMethodDescriptor y.desc = some sig → argsL.length = sig.parameters.length) (hst : St = argsL.reverse ++ .ref a :: rest) (hW : (rest.map fun v => v.category).sum ≤ W) (has : (.ref a :: argsL).toArray = as') (hd : decode c.code pc = .ok (.invokevirtual index, 3)) (hce : cells + rm.cells ≤ R.cells) (hsl : slots + rm.slots ≤ R.slots) (hpc : pc + 3 = pc') (k : ∀ T' L v, Stand p l e R s m args below meth c T' (locs ++ L) (cells + rm.cells) (slots + rm.slots) → Q' v T'.heap L → KEnds p e below s Cn Sn Q T' (mkF m pc' Ls (v.toList ++ rest))) : KEnds p e below s Cn Sn Q T (mkF m pc Ls St) := by
  subst hpc
  obtain ⟨cq, kq, qa, qb, qc⟩ := isOf hZ eT Ex
  obtain ⟨v, _, ⟨T', L', k', n'⟩, -, X', ⟨Lc, hQ, l', y', z'⟩, st⟩ := X.virtualBack hx (y := y) (z := y) hown (mvT hZ w1) (mvT hZ w2) (notFace_of_selects (args := #[]) (mvT hZ w3)) (mvT hZ w3) (mvT hZ w5) hy (backOf (W := W) hM hZ w4 w6 hf hl) qa qc (g := mkF m pc Ls St) rfl hsize (Steps.refl _) hlen hst (by show 2 * 0 + _ ≤ _; omega) hd (fun _ _ => ⟨has, eT, hce, hsl⟩)
  dsimp only [Pt.U, Pt.locs, Pt.cells, Pt.slots] at X' l' y' z' st hQ
  subst l' y' z'
  exact k_via (fun t h => st.trans h) (k T' Lc v X' hQ)
theorem k_callI (X : Stand p l e R s m args below meth c T locs cells slots) (hx : p.tables.exec = Jvm.exec) (hZ : Z.Warmed39 s.vm) (hown : s.vm.findClass own = some m.cls) {pc pc' : Nat} {Ls : Array Slot} {St : List Value} {y : MethodName} {bytes : ByteArray} {maxL : Nat} {ret : Option FieldType} {rm : Room} {index W : Nat} {as' : Array Value} {Q' : Option Value → Heap → List Loc → Prop} {a : Addr} (hin : y.name = "<init>") (w1 : (Cond.methodLink own index y).before a0 Z = true) (w5 : (Cond.instanceMethod y).before a0 Z = true) (w6 : (Cond.initialized y.cls).before a0 Z = true) (w4 : (Cond.code y bytes maxL none).before a0 Z = true) (hr : ret = none) (hy : y.cls ≠ "java/lang/invoke/MethodHandle" ∧ y.cls ≠ "java/lang/invoke/VarHandle") (hM : MetFree l y (head1 [Cond.code y bytes maxL ret] rm) (fun a U => a = as' ∧ Z.Warmed39 U.vm ∧ U.heap = h) (fun _ _ _ _ _ => True) (fun _ U o U' => ∃ v L, o = .returned v ∧ Q' v U'.heap L ∧ FrameEnd U o U' L rm.cells rm.slots)) (hf : rm.frames + 1 ≤ R.frames) (hl : W + (maxL + 11) + rm.locals ≤ R.locals) (eT : T.heap = h) (hsize : Ls.size = c.maxLocals) {argsL rest : List Value} (hlen : ∀ sig, parseMethodDescriptor y.desc = some sig → argsL.length = sig.parameters.length) (hst : St = argsL.reverse ++ .ref a :: rest) (hW : (rest.map fun v => v.category).sum ≤ W) (has : (.ref a :: argsL).toArray = as') (hd : decode c.code pc = .ok (.invokespecial index, 3)) (hce : cells + rm.cells ≤ R.cells) (hsl : slots + rm.slots ≤ R.slots) (hpc : pc + 3 = pc') (k : ∀ T' L v, Stand p l e R s m args below meth c T' (locs ++ L) (cells + rm.cells) (slots + rm.slots) → Q' v T'.heap L → KEnds p e below s Cn Sn Q T' (mkF m pc' Ls (v.toList ++ rest))) : KEnds p e below s Cn Sn Q T (mkF m pc Ls St) := by
  subst hpc hr
  obtain ⟨v, _, ⟨T', L', k', n'⟩, -, X', ⟨Lc, hQ, l', y', z'⟩, st⟩ := X.specialBack hx (y := y) hin hown (mvT hZ w1) (mvT hZ w5) (mvT hZ w4) hy (backOf (W := W) hM hZ w4 w6 hf hl) (g := mkF m pc Ls St) rfl hsize (Steps.refl _) (a := a) hlen hst (by show 2 * 0 + _ ≤ _; omega) hd (fun _ _ => ⟨has, eT, hce, hsl⟩)
  dsimp only [Pt.U, Pt.locs, Pt.cells, Pt.slots] at X' l' y' z' st hQ
  subst l' y' z'
  exact k_via (fun t h => st.trans h) (k T' Lc v X' hQ)
end
end Jvm.OwnK
namespace Jvm.Pilot.@@N@@
open Jvm Jvm.ClassFile Sem Op Lib Jvm.Free Jvm.Stand Jvm.LawKit Jvm.RoadKit Jvm.OwnK Bundle Jvm.Pilot.@@N@@.Jvm.D
theorem own_bv (k : Nat) (hk : 64 ≤ 3 * k) (x : BitVec 64) : ((x ^^^ (x >>> k)) ^^^ ((x ^^^ (x >>> k)) >>> k)) ^^^ ((x ^^^ (x >>> k)) >>> (2 * k)) = x := by
  apply BitVec.eq_of_getLsbD_eq
  intro i hi
  simp only [BitVec.getLsbD_xor, BitVec.getLsbD_ushiftRight]
  have e1 : k + (2 * k + i) = 3 * k + i := by omega
  have e2 : k + (k + i) = 2 * k + i := by omega
  have e3 : x.getLsbD (3 * k + i) = false := BitVec.getLsbD_of_ge x (3 * k + i) (by omega)
  rw [e1, e2, e3]
  cases x.getLsbD i <;> cases x.getLsbD (k + i) <;> cases x.getLsbD (2 * k + i) <;> rfl
theorem own_sh (x : Int64) (q : Int32) (k : Nat) (hq : (q &&& 0x3f).toInt64.toUInt64.toBitVec % 64 = BitVec.ofNat 64 k) (hk : k < 64) : ((x.toUInt64 >>> (q &&& 0x3f).toInt64.toUInt64).toInt64).toBitVec = x.toBitVec >>> k := by
  show (x.toUInt64 >>> (q &&& 0x3f).toInt64.toUInt64).toBitVec = _
  rw [UInt64.toBitVec_shiftRight, hq, BitVec.ushiftRight_eq', BitVec.toNat_ofNat, Nat.mod_eq_of_lt (by omega)]
  rfl
theorem own_x30 (z : Int64) : (((z ^^^ ((z.toUInt64 >>> ((30 : Int32) &&& 0x3f).toInt64.toUInt64).toInt64)) ^^^ (((z ^^^ ((z.toUInt64 >>> ((30 : Int32) &&& 0x3f).toInt64.toUInt64).toInt64)).toUInt64 >>> ((30 : Int32) &&& 0x3f).toInt64.toUInt64).toInt64)) ^^^ (((z ^^^ ((z.toUInt64 >>> ((30 : Int32) &&& 0x3f).toInt64.toUInt64).toInt64)).toUInt64 >>> ((60 : Int32) &&& 0x3f).toInt64.toUInt64).toInt64)) = z := by
  apply Int64.toBitVec_inj.mp
  simp only [Int64.toBitVec_xor]
  rw [own_sh _ (30 : Int32) 30 (by decide) (by decide), own_sh _ (30 : Int32) 30 (by decide) (by decide), own_sh _ (60 : Int32) 60 (by decide) (by decide)]
  simp only [Int64.toBitVec_xor]
  rw [own_sh _ (30 : Int32) 30 (by decide) (by decide)]
  exact own_bv 30 (by decide) z.toBitVec
theorem own_x27 (z : Int64) : (((z ^^^ ((z.toUInt64 >>> ((27 : Int32) &&& 0x3f).toInt64.toUInt64).toInt64)) ^^^ (((z ^^^ ((z.toUInt64 >>> ((27 : Int32) &&& 0x3f).toInt64.toUInt64).toInt64)).toUInt64 >>> ((27 : Int32) &&& 0x3f).toInt64.toUInt64).toInt64)) ^^^ (((z ^^^ ((z.toUInt64 >>> ((27 : Int32) &&& 0x3f).toInt64.toUInt64).toInt64)).toUInt64 >>> ((54 : Int32) &&& 0x3f).toInt64.toUInt64).toInt64)) = z := by
  apply Int64.toBitVec_inj.mp
  simp only [Int64.toBitVec_xor]
  rw [own_sh _ (27 : Int32) 27 (by decide) (by decide), own_sh _ (27 : Int32) 27 (by decide) (by decide), own_sh _ (54 : Int32) 54 (by decide) (by decide)]
  simp only [Int64.toBitVec_xor]
  rw [own_sh _ (27 : Int32) 27 (by decide) (by decide)]
  exact own_bv 27 (by decide) z.toBitVec
theorem own_x31 (z : Int64) : (((z ^^^ ((z.toUInt64 >>> ((31 : Int32) &&& 0x3f).toInt64.toUInt64).toInt64)) ^^^ (((z ^^^ ((z.toUInt64 >>> ((31 : Int32) &&& 0x3f).toInt64.toUInt64).toInt64)).toUInt64 >>> ((31 : Int32) &&& 0x3f).toInt64.toUInt64).toInt64)) ^^^ (((z ^^^ ((z.toUInt64 >>> ((31 : Int32) &&& 0x3f).toInt64.toUInt64).toInt64)).toUInt64 >>> ((62 : Int32) &&& 0x3f).toInt64.toUInt64).toInt64)) = z := by
  apply Int64.toBitVec_inj.mp
  simp only [Int64.toBitVec_xor]
  rw [own_sh _ (31 : Int32) 31 (by decide) (by decide), own_sh _ (31 : Int32) 31 (by decide) (by decide), own_sh _ (62 : Int32) 62 (by decide) (by decide)]
  simp only [Int64.toBitVec_xor]
  rw [own_sh _ (31 : Int32) 31 (by decide) (by decide)]
  exact own_bv 31 (by decide) z.toBitVec
theorem own_m1 (z : Int64) : z * (-4658895280553007687 : Int64) * (-7575587736534282103 : Int64) = z := by
  rw [Int64.mul_assoc, show (-4658895280553007687 : Int64) * (-7575587736534282103 : Int64) = 1 from by decide, Int64.mul_one]
theorem own_m2 (z : Int64) : z * (-7723592293110705685 : Int64) * (3573116690164977347 : Int64) = z := by
  rw [Int64.mul_assoc, show (-7723592293110705685 : Int64) * (3573116690164977347 : Int64) = 1 from by decide, Int64.mul_one]
theorem d1_0 : decode prog_91_method_1_code 0 = .ok (.aload_n 0, 1) := by decide +kernel
theorem d1_1 : decode prog_91_method_1_code 1 = .ok (.invokespecial 1, 3) := by decide +kernel
theorem d1_4 : decode prog_91_method_1_code 4 = .ok (.aload_n 0, 1) := by decide +kernel
theorem d1_5 : decode prog_91_method_1_code 5 = .ok (.lload_n 1, 1) := by decide +kernel
theorem d1_6 : decode prog_91_method_1_code 6 = .ok (.putfield 7, 3) := by decide +kernel
theorem d1_9 : decode prog_91_method_1_code 9 = .ok (.return_, 1) := by decide +kernel
abbrev R1_3 : Room := { frames := 1, cells := 0, slots := 0, locals := 12 }
def Q1_3 (Z : State) (a1 : Addr) (p2 : Int64) (h0 : Heap) (n0 : Nat) (v : Option Value) (h : Heap) (L : List Loc) : Prop := Fr n0 L ∧ ((v = none ∧ Exa Z h a1 "com/example/knotcut/knotcut/core/SplitMix64" ∧ Fld Z h a1 "com/example/knotcut/knotcut/core/SplitMix64" "state" "J" (.long p2) ∧ n0 ≤ h.size))
theorem ef1_3 (m : MethodId) (x0 : Addr) (x1 : Int64) : entryFrame m #[(.ref x0), (.long x1)] 3 = mkF m 0 #[.val (.ref x0), .val (.long x1), .second] [] := by first | (simp [entryFrame, mkF, argsToLocals, Value.category]; done) | rfl
theorem pn_0 : plainName "com/example/knotcut/knotcut/core/SplitMix64" = true := by first | (simp [plainName, overriddenIn]; done) | decide +kernel
set_option maxRecDepth 65536 in
set_option maxHeartbeats 40000000 in
theorem rm1_3 (l : Launch) (Z : State) (a0 : Array Value) (hw : ∀ d ∈ tables_1, d.before a0 Z = true) (ws : List Jvm.Cond) (a1 : Addr) (p2 : Int64) (h0 : Heap) (n0 : Nat) (Z0 : n0 ≤ h0.size) (F0_0 : Exa Z h0 a1 "com/example/knotcut/knotcut/core/SplitMix64") (F0_1 : Fld Z h0 a1 "com/example/knotcut/knotcut/core/SplitMix64" "state" "J" (.long (0 : Int64))) (g_a1 : n0 ≤ a1) :
    MetFree l (⟨"com/example/knotcut/knotcut/core/SplitMix64", "<init>", "(J)V"⟩ : MethodName) (head1 (Jvm.Cond.code (⟨"com/example/knotcut/knotcut/core/SplitMix64", "<init>", "(J)V"⟩ : MethodName) prog_91_method_1_code 3 none :: ws) R1_3) (fun a U => a = #[(.ref a1), (.long p2)] ∧ Z.Warmed39 U.vm ∧ U.heap = h0) (fun _ _ _ _ _ => True) (fun _ U o U' => ∃ v L, o = .returned v ∧ Q1_3 Z a1 p2 h0 n0 v U'.heap L ∧ FrameEnd U o U' L R1_3.cells R1_3.slots) := by
 refine MetFree.of_bodySF (plainFor_of_name pn_0) hisR ?_
 intro p e s m args below meth c s₁ Bd hml0 hP hK
 obtain ⟨rfl, hZ, hh⟩ := hP
 have hx := Bd.exec
 have hby := Bd.bytes
 have hml : c.maxLocals = 3 := hml0
 have hlk : meth.locks = false := Bd.notSynchronized
 have hown : s.vm.findClass "com/example/knotcut/knotcut/core/SplitMix64" = some m.cls := findClass_of_methodNamed Bd.named
 have hnm := (name_of_methodNamed Bd.named Bd.method).1
 have X0 : Stand p l e R1_3 s m #[(.ref a1), (.long p2)] below meth c s₁ [] 0 0 := Stand.of_body Bd
 have e0 : s₁.heap = h0 := by rw [← hh, Bd.state]; rfl
 have N0 := Fr.nil n0
 rw [ef1_3 m a1 p2]
 show KEnds p e below s R1_3.cells R1_3.slots (Q1_3 Z a1 p2 h0 n0) s₁ (mkF m 0 #[.val (.ref a1), .val (.long p2), .second] [])
 refine k_aloadN X0 hx (hb hby d1_0) rfl rfl (pc' := 1) rfl ?_
 refine k_initO X0 hx hZ hown (hw _ (List.mem_of_getElem? (i := 7) rfl)) (hw _ (List.mem_of_getElem? (i := 8) rfl)) (hw _ (List.mem_of_getElem? (i := 9) rfl)) e0 (by rw [hml]; rfl) (hb hby d1_1) (by decide) (W := 0) (by decide) (by decide) (pc' := 4) rfl (fun T4 X4 e4 => ?_)
 refine k_aloadN X4 hx (hb hby d1_4) rfl rfl (pc' := 5) rfl ?_
 refine k_lloadN X4 hx (hb hby d1_5) rfl (pc' := 6) rfl ?_
 refine k_putF X4 hx hZ hown (host := "") (Or.inl (hw _ (List.mem_of_getElem? (i := 10) rfl))) Via.refl e4 F0_1 F0_0 (Or.inl (hw _ (List.mem_of_getElem? (i := 11) rfl))) (hw _ (List.mem_of_getElem? (i := 2) rfl)) (ty := .long) (by decide) rfl rfl (hb hby d1_6) (pc' := 9) rfl (fun T5 h5 X5 e5 W5 => ?_)
 have Fw5 : Fld Z h5 a1 "com/example/knotcut/knotcut/core/SplitMix64" "state" "J" (.long p2) := F0_1.same W5
 have N5 := Fr.snoc X5 N0 g_a1
 have Z5 : n0 ≤ h5.size := Nat.le_trans Z0 (Nat.le_of_eq W5.size.symm)
 have F6 := (F0_0.wr W5)
 exact k_ret X5 hx Bd.returns (hb hby d1_9) hlk (by decide) (by decide) (by rw [e5]; exact ⟨N5, ⟨rfl, F6, Fw5, Z5⟩⟩)
theorem pd_0 : parseMethodDescriptor "(J)V" = some ⟨[.long], none⟩ := by decide +kernel
theorem d3_0 : decode prog_91_method_2_code 0 = .ok (.aload_n 0, 1) := by decide +kernel
theorem d3_1 : decode prog_91_method_2_code 1 = .ok (.dup, 1) := by decide +kernel
theorem d3_2 : decode prog_91_method_2_code 2 = .ok (.getfield 7, 3) := by decide +kernel
theorem d3_5 : decode prog_91_method_2_code 5 = .ok (.ldc2_w 13, 3) := by decide +kernel
theorem d3_8 : decode prog_91_method_2_code 8 = .ok (.ladd, 1) := by decide +kernel
theorem d3_9 : decode prog_91_method_2_code 9 = .ok (.putfield 7, 3) := by decide +kernel
theorem d3_12 : decode prog_91_method_2_code 12 = .ok (.aload_n 0, 1) := by decide +kernel
theorem d3_13 : decode prog_91_method_2_code 13 = .ok (.getfield 7, 3) := by decide +kernel
theorem d3_16 : decode prog_91_method_2_code 16 = .ok (.lstore_n 1, 1) := by decide +kernel
theorem d3_17 : decode prog_91_method_2_code 17 = .ok (.lload_n 1, 1) := by decide +kernel
theorem d3_18 : decode prog_91_method_2_code 18 = .ok (.lload_n 1, 1) := by decide +kernel
theorem d3_19 : decode prog_91_method_2_code 19 = .ok (.bipush 30, 2) := by decide +kernel
theorem d3_21 : decode prog_91_method_2_code 21 = .ok (.lushr, 1) := by decide +kernel
theorem d3_22 : decode prog_91_method_2_code 22 = .ok (.lxor, 1) := by decide +kernel
theorem d3_23 : decode prog_91_method_2_code 23 = .ok (.ldc2_w 15, 3) := by decide +kernel
theorem d3_26 : decode prog_91_method_2_code 26 = .ok (.lmul, 1) := by decide +kernel
theorem d3_27 : decode prog_91_method_2_code 27 = .ok (.lstore_n 1, 1) := by decide +kernel
theorem d3_28 : decode prog_91_method_2_code 28 = .ok (.lload_n 1, 1) := by decide +kernel
theorem d3_29 : decode prog_91_method_2_code 29 = .ok (.lload_n 1, 1) := by decide +kernel
theorem d3_30 : decode prog_91_method_2_code 30 = .ok (.bipush 27, 2) := by decide +kernel
theorem d3_32 : decode prog_91_method_2_code 32 = .ok (.lushr, 1) := by decide +kernel
theorem d3_33 : decode prog_91_method_2_code 33 = .ok (.lxor, 1) := by decide +kernel
theorem d3_34 : decode prog_91_method_2_code 34 = .ok (.ldc2_w 17, 3) := by decide +kernel
theorem d3_37 : decode prog_91_method_2_code 37 = .ok (.lmul, 1) := by decide +kernel
theorem d3_38 : decode prog_91_method_2_code 38 = .ok (.lstore_n 1, 1) := by decide +kernel
theorem d3_39 : decode prog_91_method_2_code 39 = .ok (.lload_n 1, 1) := by decide +kernel
theorem d3_40 : decode prog_91_method_2_code 40 = .ok (.lload_n 1, 1) := by decide +kernel
theorem d3_41 : decode prog_91_method_2_code 41 = .ok (.bipush 31, 2) := by decide +kernel
theorem d3_43 : decode prog_91_method_2_code 43 = .ok (.lushr, 1) := by decide +kernel
theorem d3_44 : decode prog_91_method_2_code 44 = .ok (.lxor, 1) := by decide +kernel
theorem d3_45 : decode prog_91_method_2_code 45 = .ok (.lreturn, 1) := by decide +kernel
abbrev R3_11 : Room := { frames := 0, cells := 0, slots := 0, locals := 0 }
def Q3_11 (Z : State) (a1 : Addr) (p2 : Int64) (h0 : Heap) (n0 : Nat) (v : Option Value) (h : Heap) (L : List Loc) : Prop := Fr n0 L ∧ ((∃ (v13 : Int64) (v16 : Int64) (v17 : Int64) (v18 : Int64) (v19 : Int64) (v20 : Int64) (v21 : Int64) (v22 : Int64) (v23 : Int64), v13 = p2 + (-7046029254386353131 : Int64) ∧ v16 = ((v13.toUInt64 >>> ((30 : Int32) &&& 0x3f).toInt64.toUInt64).toInt64) ∧ v17 = v13 ^^^ v16 ∧ v18 = v17 * (-4658895280553007687 : Int64) ∧ v19 = ((v18.toUInt64 >>> ((27 : Int32) &&& 0x3f).toInt64.toUInt64).toInt64) ∧ v20 = v18 ^^^ v19 ∧ v21 = v20 * (-7723592293110705685 : Int64) ∧ v22 = ((v21.toUInt64 >>> ((31 : Int32) &&& 0x3f).toInt64.toUInt64).toInt64) ∧ v23 = v21 ^^^ v22 ∧ v = some (.long v23) ∧ Exa Z h a1 "com/example/knotcut/knotcut/core/SplitMix64" ∧ Fld Z h a1 "com/example/knotcut/knotcut/core/SplitMix64" "state" "J" (.long v13) ∧ n0 ≤ h.size))
theorem ef3_11 (m : MethodId) (x0 : Addr) : entryFrame m #[(.ref x0)] 3 = mkF m 0 #[.val (.ref x0), .unset, .unset] [] := by first | (simp [entryFrame, mkF, argsToLocals, Value.category]; done) | rfl
set_option maxRecDepth 65536 in
set_option maxHeartbeats 40000000 in
theorem rm3_11 (l : Launch) (Z : State) (a0 : Array Value) (hw : ∀ d ∈ tables_1, d.before a0 Z = true) (ws : List Jvm.Cond) (a1 : Addr) (p2 : Int64) (h0 : Heap) (n0 : Nat) (Z0 : n0 ≤ h0.size) (F0_0 : Exa Z h0 a1 "com/example/knotcut/knotcut/core/SplitMix64") (F0_1 : Fld Z h0 a1 "com/example/knotcut/knotcut/core/SplitMix64" "state" "J" (.long p2)) (g_a1 : n0 ≤ a1) :
    MetFree l (⟨"com/example/knotcut/knotcut/core/SplitMix64", "next", "()J"⟩ : MethodName) (head1 (Jvm.Cond.code (⟨"com/example/knotcut/knotcut/core/SplitMix64", "next", "()J"⟩ : MethodName) prog_91_method_2_code 3 (some .long) :: ws) R3_11) (fun a U => a = #[(.ref a1)] ∧ Z.Warmed39 U.vm ∧ U.heap = h0) (fun _ _ _ _ _ => True) (fun _ U o U' => ∃ v L, o = .returned v ∧ Q3_11 Z a1 p2 h0 n0 v U'.heap L ∧ FrameEnd U o U' L R3_11.cells R3_11.slots) := by
 refine MetFree.of_bodySF (plainFor_of_name pn_0) hisR ?_
 intro p e s m args below meth c s₁ Bd hml0 hP hK
 obtain ⟨rfl, hZ, hh⟩ := hP
 have hx := Bd.exec
 have hby := Bd.bytes
 have hml : c.maxLocals = 3 := hml0
 have hlk : meth.locks = false := Bd.notSynchronized
 have hown : s.vm.findClass "com/example/knotcut/knotcut/core/SplitMix64" = some m.cls := findClass_of_methodNamed Bd.named
 have hnm := (name_of_methodNamed Bd.named Bd.method).1
 have X0 : Stand p l e R3_11 s m #[(.ref a1)] below meth c s₁ [] 0 0 := Stand.of_body Bd
 have e0 : s₁.heap = h0 := by rw [← hh, Bd.state]; rfl
 have N0 := Fr.nil n0
 rw [ef3_11 m a1]
 show KEnds p e below s R3_11.cells R3_11.slots (Q3_11 Z a1 p2 h0 n0) s₁ (mkF m 0 #[.val (.ref a1), .unset, .unset] [])
 refine k_aloadN X0 hx (hb hby d3_0) rfl rfl (pc' := 1) rfl ?_
 refine k_dup X0 hx (hb hby d3_1) rfl (pc' := 2) rfl ?_
 refine k_getF X0 hx hZ hown (host := "") (Or.inl (hw _ (List.mem_of_getElem? (i := 10) rfl))) Via.refl e0 F0_1 (hb hby d3_2) (pc' := 5) rfl (fun T12 X12 e12 => ?_)
 refine k_ldcL X12 hx hZ hown (hw _ (List.mem_of_getElem? (i := 17) rfl)) (hb hby d3_5) (pc' := 8) rfl ?_
 refine k_ladd X12 hx (hb hby d3_8) (pc' := 9) rfl (fun v13 hv13 => ?_)
 refine k_putF X12 hx hZ hown (host := "") (Or.inl (hw _ (List.mem_of_getElem? (i := 10) rfl))) Via.refl e12 F0_1 F0_0 (Or.inl (hw _ (List.mem_of_getElem? (i := 11) rfl))) (hw _ (List.mem_of_getElem? (i := 2) rfl)) (ty := .long) (by decide) rfl rfl (hb hby d3_9) (pc' := 12) rfl (fun T14 h14 X14 e14 W14 => ?_)
 have Fw14 : Fld Z h14 a1 "com/example/knotcut/knotcut/core/SplitMix64" "state" "J" (.long v13) := F0_1.same W14
 have N14 := Fr.snoc X14 N0 g_a1
 have Z14 : n0 ≤ h14.size := Nat.le_trans Z0 (Nat.le_of_eq W14.size.symm)
 refine k_aloadN X14 hx (hb hby d3_12) rfl rfl (pc' := 13) rfl ?_
 refine k_getF X14 hx hZ hown (host := "") (Or.inl (hw _ (List.mem_of_getElem? (i := 10) rfl))) Via.refl e14 Fw14 (hb hby d3_13) (pc' := 16) rfl (fun T15 X15 e15 => ?_)
 refine k_lstoreN X15 hx (hb hby d3_16) (Ls' := #[.val (.ref a1), .val (.long v13), .second]) rfl (pc' := 17) rfl ?_
 refine k_lloadN X15 hx (hb hby d3_17) rfl (pc' := 18) rfl ?_
 refine k_lloadN X15 hx (hb hby d3_18) rfl (pc' := 19) rfl ?_
 refine k_bipush X15 hx (hb hby d3_19) (pc' := 21) rfl (z := (30 : Int32)) rfl ?_
 refine k_lushr X15 hx (hb hby d3_21) (pc' := 22) rfl (fun v16 hv16 => ?_)
 refine k_lxor X15 hx (hb hby d3_22) (pc' := 23) rfl (fun v17 hv17 => ?_)
 refine k_ldcL X15 hx hZ hown (hw _ (List.mem_of_getElem? (i := 18) rfl)) (hb hby d3_23) (pc' := 26) rfl ?_
 refine k_lmul X15 hx (hb hby d3_26) (pc' := 27) rfl (fun v18 hv18 => ?_)
 refine k_lstoreN X15 hx (hb hby d3_27) (Ls' := #[.val (.ref a1), .val (.long v18), .second]) rfl (pc' := 28) rfl ?_
 refine k_lloadN X15 hx (hb hby d3_28) rfl (pc' := 29) rfl ?_
 refine k_lloadN X15 hx (hb hby d3_29) rfl (pc' := 30) rfl ?_
 refine k_bipush X15 hx (hb hby d3_30) (pc' := 32) rfl (z := (27 : Int32)) rfl ?_
 refine k_lushr X15 hx (hb hby d3_32) (pc' := 33) rfl (fun v19 hv19 => ?_)
 refine k_lxor X15 hx (hb hby d3_33) (pc' := 34) rfl (fun v20 hv20 => ?_)
 refine k_ldcL X15 hx hZ hown (hw _ (List.mem_of_getElem? (i := 19) rfl)) (hb hby d3_34) (pc' := 37) rfl ?_
 refine k_lmul X15 hx (hb hby d3_37) (pc' := 38) rfl (fun v21 hv21 => ?_)
 refine k_lstoreN X15 hx (hb hby d3_38) (Ls' := #[.val (.ref a1), .val (.long v21), .second]) rfl (pc' := 39) rfl ?_
 refine k_lloadN X15 hx (hb hby d3_39) rfl (pc' := 40) rfl ?_
 refine k_lloadN X15 hx (hb hby d3_40) rfl (pc' := 41) rfl ?_
 refine k_bipush X15 hx (hb hby d3_41) (pc' := 43) rfl (z := (31 : Int32)) rfl ?_
 refine k_lushr X15 hx (hb hby d3_43) (pc' := 44) rfl (fun v22 hv22 => ?_)
 refine k_lxor X15 hx (hb hby d3_44) (pc' := 45) rfl (fun v23 hv23 => ?_)
 have F24 := (F0_0.wr W14)
 exact k_retL X15 hx Bd.returns (hb hby d3_45) hlk (by decide) (by decide) (by rw [e15]; exact ⟨N14, ⟨v13, v16, v17, v18, v19, v20, v21, v22, v23, hv13, hv16, hv17, hv18, hv19, hv20, hv21, hv22, hv23, rfl, F24, Fw14, Z14⟩⟩)
theorem pd_1 : parseMethodDescriptor "()J" = some ⟨[], some .long⟩ := by decide +kernel
theorem d4_0 : decode method_4_code 0 = .ok (.lload_n 0, 1) := by decide +kernel
theorem d4_1 : decode method_4_code 1 = .ok (.lload_n 0, 1) := by decide +kernel
theorem d4_2 : decode method_4_code 2 = .ok (.bipush 31, 2) := by decide +kernel
theorem d4_4 : decode method_4_code 4 = .ok (.lushr, 1) := by decide +kernel
theorem d4_5 : decode method_4_code 5 = .ok (.lxor, 1) := by decide +kernel
theorem d4_6 : decode method_4_code 6 = .ok (.lload_n 0, 1) := by decide +kernel
theorem d4_7 : decode method_4_code 7 = .ok (.bipush 62, 2) := by decide +kernel
theorem d4_9 : decode method_4_code 9 = .ok (.lushr, 1) := by decide +kernel
theorem d4_10 : decode method_4_code 10 = .ok (.lxor, 1) := by decide +kernel
theorem d4_11 : decode method_4_code 11 = .ok (.lstore_n 2, 1) := by decide +kernel
theorem d4_12 : decode method_4_code 12 = .ok (.lload_n 2, 1) := by decide +kernel
theorem d4_13 : decode method_4_code 13 = .ok (.ldc2_w 28, 3) := by decide +kernel
theorem d4_16 : decode method_4_code 16 = .ok (.invokestatic 30, 3) := by decide +kernel
theorem d5_0 : decode method_3_code 0 = .ok (.lload_n 0, 1) := by decide +kernel
theorem d5_1 : decode method_3_code 1 = .ok (.lstore_n 2, 1) := by decide +kernel
theorem d5_2 : decode method_3_code 2 = .ok (.lload_n 2, 1) := by decide +kernel
theorem d5_3 : decode method_3_code 3 = .ok (.ldc2_w 24, 3) := by decide +kernel
theorem d5_6 : decode method_3_code 6 = .ok (.lload_n 0, 1) := by decide +kernel
theorem d5_7 : decode method_3_code 7 = .ok (.lload_n 2, 1) := by decide +kernel
theorem d5_8 : decode method_3_code 8 = .ok (.lmul, 1) := by decide +kernel
theorem d5_9 : decode method_3_code 9 = .ok (.lsub, 1) := by decide +kernel
theorem d5_10 : decode method_3_code 10 = .ok (.lmul, 1) := by decide +kernel
theorem d5_11 : decode method_3_code 11 = .ok (.lstore_n 2, 1) := by decide +kernel
theorem d5_12 : decode method_3_code 12 = .ok (.lload_n 2, 1) := by decide +kernel
theorem d5_13 : decode method_3_code 13 = .ok (.ldc2_w 24, 3) := by decide +kernel
theorem d5_16 : decode method_3_code 16 = .ok (.lload_n 0, 1) := by decide +kernel
theorem d5_17 : decode method_3_code 17 = .ok (.lload_n 2, 1) := by decide +kernel
theorem d5_18 : decode method_3_code 18 = .ok (.lmul, 1) := by decide +kernel
theorem d5_19 : decode method_3_code 19 = .ok (.lsub, 1) := by decide +kernel
theorem d5_20 : decode method_3_code 20 = .ok (.lmul, 1) := by decide +kernel
theorem d5_21 : decode method_3_code 21 = .ok (.lstore_n 2, 1) := by decide +kernel
theorem d5_22 : decode method_3_code 22 = .ok (.lload_n 2, 1) := by decide +kernel
theorem d5_23 : decode method_3_code 23 = .ok (.ldc2_w 24, 3) := by decide +kernel
theorem d5_26 : decode method_3_code 26 = .ok (.lload_n 0, 1) := by decide +kernel
theorem d5_27 : decode method_3_code 27 = .ok (.lload_n 2, 1) := by decide +kernel
theorem d5_28 : decode method_3_code 28 = .ok (.lmul, 1) := by decide +kernel
theorem d5_29 : decode method_3_code 29 = .ok (.lsub, 1) := by decide +kernel
theorem d5_30 : decode method_3_code 30 = .ok (.lmul, 1) := by decide +kernel
theorem d5_31 : decode method_3_code 31 = .ok (.lstore_n 2, 1) := by decide +kernel
theorem d5_32 : decode method_3_code 32 = .ok (.lload_n 2, 1) := by decide +kernel
theorem d5_33 : decode method_3_code 33 = .ok (.ldc2_w 24, 3) := by decide +kernel
theorem d5_36 : decode method_3_code 36 = .ok (.lload_n 0, 1) := by decide +kernel
theorem d5_37 : decode method_3_code 37 = .ok (.lload_n 2, 1) := by decide +kernel
theorem d5_38 : decode method_3_code 38 = .ok (.lmul, 1) := by decide +kernel
theorem d5_39 : decode method_3_code 39 = .ok (.lsub, 1) := by decide +kernel
theorem d5_40 : decode method_3_code 40 = .ok (.lmul, 1) := by decide +kernel
theorem d5_41 : decode method_3_code 41 = .ok (.lstore_n 2, 1) := by decide +kernel
theorem d5_42 : decode method_3_code 42 = .ok (.lload_n 2, 1) := by decide +kernel
theorem d5_43 : decode method_3_code 43 = .ok (.ldc2_w 24, 3) := by decide +kernel
theorem d5_46 : decode method_3_code 46 = .ok (.lload_n 0, 1) := by decide +kernel
theorem d5_47 : decode method_3_code 47 = .ok (.lload_n 2, 1) := by decide +kernel
theorem d5_48 : decode method_3_code 48 = .ok (.lmul, 1) := by decide +kernel
theorem d5_49 : decode method_3_code 49 = .ok (.lsub, 1) := by decide +kernel
theorem d5_50 : decode method_3_code 50 = .ok (.lmul, 1) := by decide +kernel
theorem d5_51 : decode method_3_code 51 = .ok (.lstore_n 2, 1) := by decide +kernel
theorem d5_52 : decode method_3_code 52 = .ok (.lload_n 2, 1) := by decide +kernel
theorem d5_53 : decode method_3_code 53 = .ok (.lreturn, 1) := by decide +kernel
abbrev R5_96 : Room := { frames := 0, cells := 0, slots := 0, locals := 0 }
def Q5_96 (Z : State)  (h0 : Heap) (n0 : Nat) (v : Option Value) (h : Heap) (L : List Loc) : Prop := Fr n0 L ∧ h = h0 ∧ ((v = some (.long (3573116690164977347 : Int64))))
theorem ef5_96 (m : MethodId)  : entryFrame m #[(.long (-7723592293110705685 : Int64))] 4 = mkF m 0 #[.val (.long (-7723592293110705685 : Int64)), .second, .unset, .unset] [] := by first | (simp [entryFrame, mkF, argsToLocals, Value.category]; done) | rfl
theorem pn_1 : plainName "com/example/knotcut/knotcut/core/SplitMix64NextPinLaw" = true := by first | (simp [plainName, overriddenIn]; done) | decide +kernel
set_option maxRecDepth 65536 in
set_option maxHeartbeats 40000000 in
theorem rm5_96 (l : Launch) (Z : State) (a0 : Array Value) (hw : ∀ d ∈ tables_1, d.before a0 Z = true) (ws : List Jvm.Cond)  (h0 : Heap) (n0 : Nat) (Z0 : n0 ≤ h0.size)  :
    MetFree l (⟨"com/example/knotcut/knotcut/core/SplitMix64NextPinLaw", "inverse", "(J)J"⟩ : MethodName) (head1 (Jvm.Cond.code (⟨"com/example/knotcut/knotcut/core/SplitMix64NextPinLaw", "inverse", "(J)J"⟩ : MethodName) method_3_code 4 (some .long) :: ws) R5_96) (fun a U => a = #[(.long (-7723592293110705685 : Int64))] ∧ Z.Warmed39 U.vm ∧ U.heap = h0) (fun _ _ _ _ _ => True) (fun _ U o U' => ∃ v L, o = .returned v ∧ Q5_96 Z  h0 n0 v U'.heap L ∧ FrameEnd U o U' L R5_96.cells R5_96.slots) := by
 refine MetFree.of_bodySF (plainFor_of_name pn_1) hisR ?_
 intro p e s m args below meth c s₁ Bd hml0 hP hK
 obtain ⟨rfl, hZ, hh⟩ := hP
 have hx := Bd.exec
 have hby := Bd.bytes
 have hml : c.maxLocals = 4 := hml0
 have hlk : meth.locks = false := Bd.notSynchronized
 have hown : s.vm.findClass "com/example/knotcut/knotcut/core/SplitMix64NextPinLaw" = some m.cls := findClass_of_methodNamed Bd.named
 have hnm := (name_of_methodNamed Bd.named Bd.method).1
 have X0 : Stand p l e R5_96 s m #[(.long (-7723592293110705685 : Int64))] below meth c s₁ [] 0 0 := Stand.of_body Bd
 have e0 : s₁.heap = h0 := by rw [← hh, Bd.state]; rfl
 have N0 := Fr.nil n0
 rw [ef5_96 m ]
 show KEnds p e below s R5_96.cells R5_96.slots (Q5_96 Z  h0 n0) s₁ (mkF m 0 #[.val (.long (-7723592293110705685 : Int64)), .second, .unset, .unset] [])
 refine k_lloadN X0 hx (hb hby d5_0) rfl (pc' := 1) rfl ?_
 refine k_lstoreN X0 hx (hb hby d5_1) (Ls' := #[.val (.long (-7723592293110705685 : Int64)), .second, .val (.long (-7723592293110705685 : Int64)), .second]) rfl (pc' := 2) rfl ?_
 refine k_lloadN X0 hx (hb hby d5_2) rfl (pc' := 3) rfl ?_
 refine k_ldcL X0 hx hZ hown (hw _ (List.mem_of_getElem? (i := 28) rfl)) (hb hby d5_3) (pc' := 6) rfl ?_
 refine k_lloadN X0 hx (hb hby d5_6) rfl (pc' := 7) rfl ?_
 refine k_lloadN X0 hx (hb hby d5_7) rfl (pc' := 8) rfl ?_
 refine k_lmulL X0 hx (hb hby d5_8) (pc' := 9) rfl (z := (-2506106533470335559 : Int64)) (by decide) ?_
 refine k_lsubL X0 hx (hb hby d5_9) (pc' := 10) rfl (z := (2506106533470335561 : Int64)) (by decide) ?_
 refine k_lmulL X0 hx (hb hby d5_10) (pc' := 11) rfl (z := (-46693593342655997 : Int64)) (by decide) ?_
 refine k_lstoreN X0 hx (hb hby d5_11) (Ls' := #[.val (.long (-7723592293110705685 : Int64)), .second, .val (.long (-46693593342655997 : Int64)), .second]) rfl (pc' := 12) rfl ?_
 refine k_lloadN X0 hx (hb hby d5_12) rfl (pc' := 13) rfl ?_
 refine k_ldcL X0 hx hZ hown (hw _ (List.mem_of_getElem? (i := 28) rfl)) (hb hby d5_13) (pc' := 16) rfl ?_
 refine k_lloadN X0 hx (hb hby d5_16) rfl (pc' := 17) rfl ?_
 refine k_lloadN X0 hx (hb hby d5_17) rfl (pc' := 18) rfl ?_
 refine k_lmulL X0 hx (hb hby d5_18) (pc' := 19) rfl (z := (2757642028831722433 : Int64)) (by decide) ?_
 refine k_lsubL X0 hx (hb hby d5_19) (pc' := 20) rfl (z := (-2757642028831722431 : Int64)) (by decide) ?_
 refine k_lmulL X0 hx (hb hby d5_20) (pc' := 21) rfl (z := (-8600650570905985341 : Int64)) (by decide) ?_
 refine k_lstoreN X0 hx (hb hby d5_21) (Ls' := #[.val (.long (-7723592293110705685 : Int64)), .second, .val (.long (-8600650570905985341 : Int64)), .second]) rfl (pc' := 22) rfl ?_
 refine k_lloadN X0 hx (hb hby d5_22) rfl (pc' := 23) rfl ?_
 refine k_ldcL X0 hx hZ hown (hw _ (List.mem_of_getElem? (i := 28) rfl)) (hb hby d5_23) (pc' := 26) rfl ?_
 refine k_lloadN X0 hx (hb hby d5_26) rfl (pc' := 27) rfl ?_
 refine k_lloadN X0 hx (hb hby d5_27) rfl (pc' := 28) rfl ?_
 refine k_lmulL X0 hx (hb hby d5_28) (pc' := 29) rfl (z := (-637534387594465279 : Int64)) (by decide) ?_
 refine k_lsubL X0 hx (hb hby d5_29) (pc' := 30) rfl (z := (637534387594465281 : Int64)) (by decide) ?_
 refine k_lmulL X0 hx (hb hby d5_30) (pc' := 31) rfl (z := (-8904469923522310461 : Int64)) (by decide) ?_
 refine k_lstoreN X0 hx (hb hby d5_31) (Ls' := #[.val (.long (-7723592293110705685 : Int64)), .second, .val (.long (-8904469923522310461 : Int64)), .second]) rfl (pc' := 32) rfl ?_
 refine k_lloadN X0 hx (hb hby d5_32) rfl (pc' := 33) rfl ?_
 refine k_ldcL X0 hx hZ hown (hw _ (List.mem_of_getElem? (i := 28) rfl)) (hb hby d5_33) (pc' := 36) rfl ?_
 refine k_lloadN X0 hx (hb hby d5_36) rfl (pc' := 37) rfl ?_
 refine k_lloadN X0 hx (hb hby d5_37) rfl (pc' := 38) rfl ?_
 refine k_lmulL X0 hx (hb hby d5_38) (pc' := 39) rfl (z := (-2485260188148301823 : Int64)) (by decide) ?_
 refine k_lsubL X0 hx (hb hby d5_39) (pc' := 40) rfl (z := (2485260188148301825 : Int64)) (by decide) ?_
 refine k_lmulL X0 hx (hb hby d5_40) (pc' := 41) rfl (z := (4274833807104642755 : Int64)) (by decide) ?_
 refine k_lstoreN X0 hx (hb hby d5_41) (Ls' := #[.val (.long (-7723592293110705685 : Int64)), .second, .val (.long (4274833807104642755 : Int64)), .second]) rfl (pc' := 42) rfl ?_
 refine k_lloadN X0 hx (hb hby d5_42) rfl (pc' := 43) rfl ?_
 refine k_ldcL X0 hx hZ hown (hw _ (List.mem_of_getElem? (i := 28) rfl)) (hb hby d5_43) (pc' := 46) rfl ?_
 refine k_lloadN X0 hx (hb hby d5_46) rfl (pc' := 47) rfl ?_
 refine k_lloadN X0 hx (hb hby d5_47) rfl (pc' := 48) rfl ?_
 refine k_lmulL X0 hx (hb hby d5_48) (pc' := 49) rfl (z := (9042946576783245313 : Int64)) (by decide) ?_
 refine k_lsubL X0 hx (hb hby d5_49) (pc' := 50) rfl (z := (-9042946576783245311 : Int64)) (by decide) ?_
 refine k_lmulL X0 hx (hb hby d5_50) (pc' := 51) rfl (z := (3573116690164977347 : Int64)) (by decide) ?_
 refine k_lstoreN X0 hx (hb hby d5_51) (Ls' := #[.val (.long (-7723592293110705685 : Int64)), .second, .val (.long (3573116690164977347 : Int64)), .second]) rfl (pc' := 52) rfl ?_
 refine k_lloadN X0 hx (hb hby d5_52) rfl (pc' := 53) rfl ?_
 exact k_retL X0 hx Bd.returns (hb hby d5_53) hlk (by decide) (by decide) ⟨N0, e0, rfl⟩
theorem pd_2 : parseMethodDescriptor "(J)J" = some ⟨[.long], some .long⟩ := by decide +kernel
theorem d4_19 : decode method_4_code 19 = .ok (.lmul, 1) := by decide +kernel
theorem d4_20 : decode method_4_code 20 = .ok (.lstore_n 2, 1) := by decide +kernel
theorem d4_21 : decode method_4_code 21 = .ok (.lload_n 2, 1) := by decide +kernel
theorem d4_22 : decode method_4_code 22 = .ok (.lload_n 2, 1) := by decide +kernel
theorem d4_23 : decode method_4_code 23 = .ok (.bipush 27, 2) := by decide +kernel
theorem d4_25 : decode method_4_code 25 = .ok (.lushr, 1) := by decide +kernel
theorem d4_26 : decode method_4_code 26 = .ok (.lxor, 1) := by decide +kernel
theorem d4_27 : decode method_4_code 27 = .ok (.lload_n 2, 1) := by decide +kernel
theorem d4_28 : decode method_4_code 28 = .ok (.bipush 54, 2) := by decide +kernel
theorem d4_30 : decode method_4_code 30 = .ok (.lushr, 1) := by decide +kernel
theorem d4_31 : decode method_4_code 31 = .ok (.lxor, 1) := by decide +kernel
theorem d4_32 : decode method_4_code 32 = .ok (.lstore_n 2, 1) := by decide +kernel
theorem d4_33 : decode method_4_code 33 = .ok (.lload_n 2, 1) := by decide +kernel
theorem d4_34 : decode method_4_code 34 = .ok (.ldc2_w 33, 3) := by decide +kernel
theorem d4_37 : decode method_4_code 37 = .ok (.invokestatic 30, 3) := by decide +kernel
abbrev R5_103 : Room := { frames := 0, cells := 0, slots := 0, locals := 0 }
def Q5_103 (Z : State)  (h0 : Heap) (n0 : Nat) (v : Option Value) (h : Heap) (L : List Loc) : Prop := Fr n0 L ∧ h = h0 ∧ ((v = some (.long (-7575587736534282103 : Int64))))
theorem ef5_103 (m : MethodId)  : entryFrame m #[(.long (-4658895280553007687 : Int64))] 4 = mkF m 0 #[.val (.long (-4658895280553007687 : Int64)), .second, .unset, .unset] [] := by first | (simp [entryFrame, mkF, argsToLocals, Value.category]; done) | rfl
set_option maxRecDepth 65536 in
set_option maxHeartbeats 40000000 in
theorem rm5_103 (l : Launch) (Z : State) (a0 : Array Value) (hw : ∀ d ∈ tables_1, d.before a0 Z = true) (ws : List Jvm.Cond)  (h0 : Heap) (n0 : Nat) (Z0 : n0 ≤ h0.size)  :
    MetFree l (⟨"com/example/knotcut/knotcut/core/SplitMix64NextPinLaw", "inverse", "(J)J"⟩ : MethodName) (head1 (Jvm.Cond.code (⟨"com/example/knotcut/knotcut/core/SplitMix64NextPinLaw", "inverse", "(J)J"⟩ : MethodName) method_3_code 4 (some .long) :: ws) R5_103) (fun a U => a = #[(.long (-4658895280553007687 : Int64))] ∧ Z.Warmed39 U.vm ∧ U.heap = h0) (fun _ _ _ _ _ => True) (fun _ U o U' => ∃ v L, o = .returned v ∧ Q5_103 Z  h0 n0 v U'.heap L ∧ FrameEnd U o U' L R5_103.cells R5_103.slots) := by
 refine MetFree.of_bodySF (plainFor_of_name pn_1) hisR ?_
 intro p e s m args below meth c s₁ Bd hml0 hP hK
 obtain ⟨rfl, hZ, hh⟩ := hP
 have hx := Bd.exec
 have hby := Bd.bytes
 have hml : c.maxLocals = 4 := hml0
 have hlk : meth.locks = false := Bd.notSynchronized
 have hown : s.vm.findClass "com/example/knotcut/knotcut/core/SplitMix64NextPinLaw" = some m.cls := findClass_of_methodNamed Bd.named
 have hnm := (name_of_methodNamed Bd.named Bd.method).1
 have X0 : Stand p l e R5_103 s m #[(.long (-4658895280553007687 : Int64))] below meth c s₁ [] 0 0 := Stand.of_body Bd
 have e0 : s₁.heap = h0 := by rw [← hh, Bd.state]; rfl
 have N0 := Fr.nil n0
 rw [ef5_103 m ]
 show KEnds p e below s R5_103.cells R5_103.slots (Q5_103 Z  h0 n0) s₁ (mkF m 0 #[.val (.long (-4658895280553007687 : Int64)), .second, .unset, .unset] [])
 refine k_lloadN X0 hx (hb hby d5_0) rfl (pc' := 1) rfl ?_
 refine k_lstoreN X0 hx (hb hby d5_1) (Ls' := #[.val (.long (-4658895280553007687 : Int64)), .second, .val (.long (-4658895280553007687 : Int64)), .second]) rfl (pc' := 2) rfl ?_
 refine k_lloadN X0 hx (hb hby d5_2) rfl (pc' := 3) rfl ?_
 refine k_ldcL X0 hx hZ hown (hw _ (List.mem_of_getElem? (i := 28) rfl)) (hb hby d5_3) (pc' := 6) rfl ?_
 refine k_lloadN X0 hx (hb hby d5_6) rfl (pc' := 7) rfl ?_
 refine k_lloadN X0 hx (hb hby d5_7) rfl (pc' := 8) rfl ?_
 refine k_lmulL X0 hx (hb hby d5_8) (pc' := 9) rfl (z := (-7869164637350232143 : Int64)) (by decide) ?_
 refine k_lsubL X0 hx (hb hby d5_9) (pc' := 10) rfl (z := (7869164637350232145 : Int64)) (by decide) ?_
 refine k_lmulL X0 hx (hb hby d5_10) (pc' := 11) rfl (z := (-1950367960681664631 : Int64)) (by decide) ?_
 refine k_lstoreN X0 hx (hb hby d5_11) (Ls' := #[.val (.long (-4658895280553007687 : Int64)), .second, .val (.long (-1950367960681664631 : Int64)), .second]) rfl (pc' := 12) rfl ?_
 refine k_lloadN X0 hx (hb hby d5_12) rfl (pc' := 13) rfl ?_
 refine k_ldcL X0 hx hZ hown (hw _ (List.mem_of_getElem? (i := 28) rfl)) (hb hby d5_13) (pc' := 16) rfl ?_
 refine k_lloadN X0 hx (hb hby d5_16) rfl (pc' := 17) rfl ?_
 refine k_lloadN X0 hx (hb hby d5_17) rfl (pc' := 18) rfl ?_
 refine k_lmulL X0 hx (hb hby d5_18) (pc' := 19) rfl (z := (6245355300859143937 : Int64)) (by decide) ?_
 refine k_lsubL X0 hx (hb hby d5_19) (pc' := 20) rfl (z := (-6245355300859143935 : Int64)) (by decide) ?_
 refine k_lmulL X0 hx (hb hby d5_20) (pc' := 21) rfl (z := (2203917495349842057 : Int64)) (by decide) ?_
 refine k_lstoreN X0 hx (hb hby d5_21) (Ls' := #[.val (.long (-4658895280553007687 : Int64)), .second, .val (.long (2203917495349842057 : Int64)), .second]) rfl (pc' := 22) rfl ?_
 refine k_lloadN X0 hx (hb hby d5_22) rfl (pc' := 23) rfl ?_
 refine k_ldcL X0 hx hZ hown (hw _ (List.mem_of_getElem? (i := 28) rfl)) (hb hby d5_23) (pc' := 26) rfl ?_
 refine k_lloadN X0 hx (hb hby d5_26) rfl (pc' := 27) rfl ?_
 refine k_lloadN X0 hx (hb hby d5_27) rfl (pc' := 28) rfl ?_
 refine k_lmulL X0 hx (hb hby d5_28) (pc' := 29) rfl (z := (1070253961011724289 : Int64)) (by decide) ?_
 refine k_lsubL X0 hx (hb hby d5_29) (pc' := 30) rfl (z := (-1070253961011724287 : Int64)) (by decide) ?_
 refine k_lmulL X0 hx (hb hby d5_30) (pc' := 31) rfl (z := (2756543469426151561 : Int64)) (by decide) ?_
 refine k_lstoreN X0 hx (hb hby d5_31) (Ls' := #[.val (.long (-4658895280553007687 : Int64)), .second, .val (.long (2756543469426151561 : Int64)), .second]) rfl (pc' := 32) rfl ?_
 refine k_lloadN X0 hx (hb hby d5_32) rfl (pc' := 33) rfl ?_
 refine k_ldcL X0 hx hZ hown (hw _ (List.mem_of_getElem? (i := 28) rfl)) (hb hby d5_33) (pc' := 36) rfl ?_
 refine k_lloadN X0 hx (hb hby d5_36) rfl (pc' := 37) rfl ?_
 refine k_lloadN X0 hx (hb hby d5_37) rfl (pc' := 38) rfl ?_
 refine k_lmulL X0 hx (hb hby d5_38) (pc' := 39) rfl (z := (8638830007231184897 : Int64)) (by decide) ?_
 refine k_lsubL X0 hx (hb hby d5_39) (pc' := 40) rfl (z := (-8638830007231184895 : Int64)) (by decide) ?_
 refine k_lmulL X0 hx (hb hby d5_40) (pc' := 41) rfl (z := (-7575587736534282103 : Int64)) (by decide) ?_
 refine k_lstoreN X0 hx (hb hby d5_41) (Ls' := #[.val (.long (-4658895280553007687 : Int64)), .second, .val (.long (-7575587736534282103 : Int64)), .second]) rfl (pc' := 42) rfl ?_
 refine k_lloadN X0 hx (hb hby d5_42) rfl (pc' := 43) rfl ?_
 refine k_ldcL X0 hx hZ hown (hw _ (List.mem_of_getElem? (i := 28) rfl)) (hb hby d5_43) (pc' := 46) rfl ?_
 refine k_lloadN X0 hx (hb hby d5_46) rfl (pc' := 47) rfl ?_
 refine k_lloadN X0 hx (hb hby d5_47) rfl (pc' := 48) rfl ?_
 refine k_lmulL X0 hx (hb hby d5_48) (pc' := 49) rfl (z := (1 : Int64)) (by decide) ?_
 refine k_lsubL X0 hx (hb hby d5_49) (pc' := 50) rfl (z := (1 : Int64)) (by decide) ?_
 refine k_lmulL X0 hx (hb hby d5_50) (pc' := 51) rfl (z := (-7575587736534282103 : Int64)) (by decide) ?_
 refine k_lstoreN X0 hx (hb hby d5_51) (Ls' := #[.val (.long (-4658895280553007687 : Int64)), .second, .val (.long (-7575587736534282103 : Int64)), .second]) rfl (pc' := 52) rfl ?_
 refine k_lloadN X0 hx (hb hby d5_52) rfl (pc' := 53) rfl ?_
 exact k_retL X0 hx Bd.returns (hb hby d5_53) hlk (by decide) (by decide) ⟨N0, e0, rfl⟩
theorem d4_40 : decode method_4_code 40 = .ok (.lmul, 1) := by decide +kernel
theorem d4_41 : decode method_4_code 41 = .ok (.lstore_n 2, 1) := by decide +kernel
theorem d4_42 : decode method_4_code 42 = .ok (.lload_n 2, 1) := by decide +kernel
theorem d4_43 : decode method_4_code 43 = .ok (.lload_n 2, 1) := by decide +kernel
theorem d4_44 : decode method_4_code 44 = .ok (.bipush 30, 2) := by decide +kernel
theorem d4_46 : decode method_4_code 46 = .ok (.lushr, 1) := by decide +kernel
theorem d4_47 : decode method_4_code 47 = .ok (.lxor, 1) := by decide +kernel
theorem d4_48 : decode method_4_code 48 = .ok (.lload_n 2, 1) := by decide +kernel
theorem d4_49 : decode method_4_code 49 = .ok (.bipush 60, 2) := by decide +kernel
theorem d4_51 : decode method_4_code 51 = .ok (.lushr, 1) := by decide +kernel
theorem d4_52 : decode method_4_code 52 = .ok (.lxor, 1) := by decide +kernel
theorem d4_53 : decode method_4_code 53 = .ok (.lstore_n 2, 1) := by decide +kernel
theorem d4_54 : decode method_4_code 54 = .ok (.lload_n 2, 1) := by decide +kernel
theorem d4_55 : decode method_4_code 55 = .ok (.lreturn, 1) := by decide +kernel
abbrev R4_91 : Room := { frames := 1, cells := 0, slots := 0, locals := 17 }
def Q4_91 (Z : State) (p1 : Int64) (h0 : Heap) (n0 : Nat) (v : Option Value) (h : Heap) (L : List Loc) : Prop := Fr n0 L ∧ h = h0 ∧ ((∃ (v92 : Int64) (v93 : Int64) (v94 : Int64) (v95 : Int64) (v98 : Int64) (v99 : Int64) (v100 : Int64) (v101 : Int64) (v102 : Int64) (v105 : Int64) (v106 : Int64) (v107 : Int64) (v108 : Int64) (v109 : Int64), v92 = ((p1.toUInt64 >>> ((31 : Int32) &&& 0x3f).toInt64.toUInt64).toInt64) ∧ v93 = p1 ^^^ v92 ∧ v94 = ((p1.toUInt64 >>> ((62 : Int32) &&& 0x3f).toInt64.toUInt64).toInt64) ∧ v95 = v93 ^^^ v94 ∧ v98 = v95 * (3573116690164977347 : Int64) ∧ v99 = ((v98.toUInt64 >>> ((27 : Int32) &&& 0x3f).toInt64.toUInt64).toInt64) ∧ v100 = v98 ^^^ v99 ∧ v101 = ((v98.toUInt64 >>> ((54 : Int32) &&& 0x3f).toInt64.toUInt64).toInt64) ∧ v102 = v100 ^^^ v101 ∧ v105 = v102 * (-7575587736534282103 : Int64) ∧ v106 = ((v105.toUInt64 >>> ((30 : Int32) &&& 0x3f).toInt64.toUInt64).toInt64) ∧ v107 = v105 ^^^ v106 ∧ v108 = ((v105.toUInt64 >>> ((60 : Int32) &&& 0x3f).toInt64.toUInt64).toInt64) ∧ v109 = v107 ^^^ v108 ∧ v = some (.long v109)))
theorem ef4_91 (m : MethodId) (x0 : Int64) : entryFrame m #[(.long x0)] 4 = mkF m 0 #[.val (.long x0), .second, .unset, .unset] [] := by first | (simp [entryFrame, mkF, argsToLocals, Value.category]; done) | rfl
set_option maxRecDepth 65536 in
set_option maxHeartbeats 40000000 in
theorem rm4_91 (l : Launch) (Z : State) (a0 : Array Value) (hw : ∀ d ∈ tables_1, d.before a0 Z = true) (ws : List Jvm.Cond) (p1 : Int64) (h0 : Heap) (n0 : Nat) (Z0 : n0 ≤ h0.size)  :
    MetFree l (⟨"com/example/knotcut/knotcut/core/SplitMix64NextPinLaw", "unmix", "(J)J"⟩ : MethodName) (head1 (Jvm.Cond.code (⟨"com/example/knotcut/knotcut/core/SplitMix64NextPinLaw", "unmix", "(J)J"⟩ : MethodName) method_4_code 4 (some .long) :: ws) R4_91) (fun a U => a = #[(.long p1)] ∧ Z.Warmed39 U.vm ∧ U.heap = h0) (fun _ _ _ _ _ => True) (fun _ U o U' => ∃ v L, o = .returned v ∧ Q4_91 Z p1 h0 n0 v U'.heap L ∧ FrameEnd U o U' L R4_91.cells R4_91.slots) := by
 refine MetFree.of_bodySF (plainFor_of_name pn_1) hisR ?_
 intro p e s m args below meth c s₁ Bd hml0 hP hK
 obtain ⟨rfl, hZ, hh⟩ := hP
 have hx := Bd.exec
 have hby := Bd.bytes
 have hml : c.maxLocals = 4 := hml0
 have hlk : meth.locks = false := Bd.notSynchronized
 have hown : s.vm.findClass "com/example/knotcut/knotcut/core/SplitMix64NextPinLaw" = some m.cls := findClass_of_methodNamed Bd.named
 have hnm := (name_of_methodNamed Bd.named Bd.method).1
 have X0 : Stand p l e R4_91 s m #[(.long p1)] below meth c s₁ [] 0 0 := Stand.of_body Bd
 have e0 : s₁.heap = h0 := by rw [← hh, Bd.state]; rfl
 have N0 := Fr.nil n0
 rw [ef4_91 m p1]
 show KEnds p e below s R4_91.cells R4_91.slots (Q4_91 Z p1 h0 n0) s₁ (mkF m 0 #[.val (.long p1), .second, .unset, .unset] [])
 refine k_lloadN X0 hx (hb hby d4_0) rfl (pc' := 1) rfl ?_
 refine k_lloadN X0 hx (hb hby d4_1) rfl (pc' := 2) rfl ?_
 refine k_bipush X0 hx (hb hby d4_2) (pc' := 4) rfl (z := (31 : Int32)) rfl ?_
 refine k_lushr X0 hx (hb hby d4_4) (pc' := 5) rfl (fun v92 hv92 => ?_)
 refine k_lxor X0 hx (hb hby d4_5) (pc' := 6) rfl (fun v93 hv93 => ?_)
 refine k_lloadN X0 hx (hb hby d4_6) rfl (pc' := 7) rfl ?_
 refine k_bipush X0 hx (hb hby d4_7) (pc' := 9) rfl (z := (62 : Int32)) rfl ?_
 refine k_lushr X0 hx (hb hby d4_9) (pc' := 10) rfl (fun v94 hv94 => ?_)
 refine k_lxor X0 hx (hb hby d4_10) (pc' := 11) rfl (fun v95 hv95 => ?_)
 refine k_lstoreN X0 hx (hb hby d4_11) (Ls' := #[.val (.long p1), .second, .val (.long v95), .second]) rfl (pc' := 12) rfl ?_
 refine k_lloadN X0 hx (hb hby d4_12) rfl (pc' := 13) rfl ?_
 refine k_ldcL X0 hx hZ hown (hw _ (List.mem_of_getElem? (i := 24) rfl)) (hb hby d4_13) (pc' := 16) rfl ?_
 refine k_callS X0 hx hZ hown (hw _ (List.mem_of_getElem? (i := 25) rfl)) (hw _ (List.mem_of_getElem? (i := 26) rfl)) (hw _ (List.mem_of_getElem? (i := 22) rfl)) (hw _ (List.mem_of_getElem? (i := 27) rfl)) (by decide) (rm5_96 l Z a0 hw []  h0 n0 Z0 ) (by decide) (by decide) e0 (by rw [hml]; rfl) (argsL := [(.long (-7723592293110705685 : Int64))]) (rest := [(.long v95)]) (lenOf pd_2 rfl) rfl (W := 2) (Nat.le_refl _) rfl (hb hby d4_16) (by decide) (by decide) (pc' := 19) rfl (fun T97 L97 r97 X97 q97 => ?_)
 obtain ⟨N97, e97, q97⟩ := q97
 have N97' := Fr.app N0 N97
 obtain rfl := q97
 show KEnds p e below s _ _ _ T97 (mkF m 19 #[.val (.long p1), .second, .val (.long v95), .second] [(.long (3573116690164977347 : Int64)), (.long v95)])
 refine k_lmul X97 hx (hb hby d4_19) (pc' := 20) rfl (fun v98 hv98 => ?_)
 refine k_lstoreN X97 hx (hb hby d4_20) (Ls' := #[.val (.long p1), .second, .val (.long v98), .second]) rfl (pc' := 21) rfl ?_
 refine k_lloadN X97 hx (hb hby d4_21) rfl (pc' := 22) rfl ?_
 refine k_lloadN X97 hx (hb hby d4_22) rfl (pc' := 23) rfl ?_
 refine k_bipush X97 hx (hb hby d4_23) (pc' := 25) rfl (z := (27 : Int32)) rfl ?_
 refine k_lushr X97 hx (hb hby d4_25) (pc' := 26) rfl (fun v99 hv99 => ?_)
 refine k_lxor X97 hx (hb hby d4_26) (pc' := 27) rfl (fun v100 hv100 => ?_)
 refine k_lloadN X97 hx (hb hby d4_27) rfl (pc' := 28) rfl ?_
 refine k_bipush X97 hx (hb hby d4_28) (pc' := 30) rfl (z := (54 : Int32)) rfl ?_
 refine k_lushr X97 hx (hb hby d4_30) (pc' := 31) rfl (fun v101 hv101 => ?_)
 refine k_lxor X97 hx (hb hby d4_31) (pc' := 32) rfl (fun v102 hv102 => ?_)
 refine k_lstoreN X97 hx (hb hby d4_32) (Ls' := #[.val (.long p1), .second, .val (.long v102), .second]) rfl (pc' := 33) rfl ?_
 refine k_lloadN X97 hx (hb hby d4_33) rfl (pc' := 34) rfl ?_
 refine k_ldcL X97 hx hZ hown (hw _ (List.mem_of_getElem? (i := 29) rfl)) (hb hby d4_34) (pc' := 37) rfl ?_
 refine k_callS X97 hx hZ hown (hw _ (List.mem_of_getElem? (i := 25) rfl)) (hw _ (List.mem_of_getElem? (i := 26) rfl)) (hw _ (List.mem_of_getElem? (i := 22) rfl)) (hw _ (List.mem_of_getElem? (i := 27) rfl)) (by decide) (rm5_103 l Z a0 hw []  h0 n0 Z0 ) (by decide) (by decide) e97 (by rw [hml]; rfl) (argsL := [(.long (-4658895280553007687 : Int64))]) (rest := [(.long v102)]) (lenOf pd_2 rfl) rfl (W := 2) (Nat.le_refl _) rfl (hb hby d4_37) (by decide) (by decide) (pc' := 40) rfl (fun T104 L104 r104 X104 q104 => ?_)
 obtain ⟨N104, e104, q104⟩ := q104
 have N104' := Fr.app N97' N104
 obtain rfl := q104
 show KEnds p e below s _ _ _ T104 (mkF m 40 #[.val (.long p1), .second, .val (.long v102), .second] [(.long (-7575587736534282103 : Int64)), (.long v102)])
 refine k_lmul X104 hx (hb hby d4_40) (pc' := 41) rfl (fun v105 hv105 => ?_)
 refine k_lstoreN X104 hx (hb hby d4_41) (Ls' := #[.val (.long p1), .second, .val (.long v105), .second]) rfl (pc' := 42) rfl ?_
 refine k_lloadN X104 hx (hb hby d4_42) rfl (pc' := 43) rfl ?_
 refine k_lloadN X104 hx (hb hby d4_43) rfl (pc' := 44) rfl ?_
 refine k_bipush X104 hx (hb hby d4_44) (pc' := 46) rfl (z := (30 : Int32)) rfl ?_
 refine k_lushr X104 hx (hb hby d4_46) (pc' := 47) rfl (fun v106 hv106 => ?_)
 refine k_lxor X104 hx (hb hby d4_47) (pc' := 48) rfl (fun v107 hv107 => ?_)
 refine k_lloadN X104 hx (hb hby d4_48) rfl (pc' := 49) rfl ?_
 refine k_bipush X104 hx (hb hby d4_49) (pc' := 51) rfl (z := (60 : Int32)) rfl ?_
 refine k_lushr X104 hx (hb hby d4_51) (pc' := 52) rfl (fun v108 hv108 => ?_)
 refine k_lxor X104 hx (hb hby d4_52) (pc' := 53) rfl (fun v109 hv109 => ?_)
 refine k_lstoreN X104 hx (hb hby d4_53) (Ls' := #[.val (.long p1), .second, .val (.long v109), .second]) rfl (pc' := 54) rfl ?_
 refine k_lloadN X104 hx (hb hby d4_54) rfl (pc' := 55) rfl ?_
 exact k_retL X104 hx Bd.returns (hb hby d4_55) hlk (by decide) (by decide) ⟨N104', e104, ⟨v92, v93, v94, v95, v98, v99, v100, v101, v102, v105, v106, v107, v108, v109, hv92, hv93, hv94, hv95, hv98, hv99, hv100, hv101, hv102, hv105, hv106, hv107, hv108, hv109, rfl⟩⟩
theorem ef0 (m : MethodId) (x0 : Int64) : entryFrame m #[(.long x0)] maxLocals = mkF m 0 #[.val (.long x0), .second, .unset, .unset, .unset, .unset, .unset, .unset, .unset, .unset, .unset] [] := by first | (simp [entryFrame, mkF, argsToLocals, Value.category, maxLocals]; done) | rfl
def Q0 (n0 : Nat) (v : Option Value) (h : Heap) (L : List Loc) : Prop := v = some (.int 1) ∧ Fr n0 L
set_option maxRecDepth 65536 in
set_option maxHeartbeats 40000000 in
theorem rm0 (l : Launch) (Z : State) (a0 : Array Value) (hw : ∀ d ∈ tables_1, d.before a0 Z = true) (ws : List Jvm.Cond) (i0 : Int64) (h0 : Heap) (n0 : Nat) (Z0 : n0 ≤ h0.size) :
    MetFree l x (head1 (Jvm.Cond.code x code maxLocals ret :: ws) room_1) (fun a U => a = #[(.long i0)] ∧ Z.Warmed39 U.vm ∧ U.heap = h0) (fun _ _ _ _ _ => True) (fun _ U o U' => ∃ v L, o = .returned v ∧ Q0 n0 v U'.heap L ∧ FrameEnd U o U' L 16 128) := by
 refine MetFree.of_bodySF (plainFor_of_name pn_1) hisR ?_
 intro p e s m args below meth c s₁ Bd hml0 hP hK
 obtain ⟨rfl, hZ, hh⟩ := hP
 have hx := Bd.exec
 have hby := Bd.bytes
 have hml : c.maxLocals = 11 := hml0
 have hlk : meth.locks = false := Bd.notSynchronized
 have hown : s.vm.findClass "com/example/knotcut/knotcut/core/SplitMix64NextPinLaw" = some m.cls := findClass_of_methodNamed Bd.named
 have hnm := (name_of_methodNamed Bd.named Bd.method).1
 have X0 : Stand p l e room_1 s m #[(.long i0)] below meth c s₁ [] 0 0 := Stand.of_body Bd
 have e0 : s₁.heap = h0 := by rw [← hh, Bd.state]; rfl
 have N0 := Fr.nil n0
 rw [show entryFrame m #[(.long i0)] maxLocals = _ from ef0 m i0]
 show KEnds p e below s 16 128 (Q0 n0) s₁ (mkF m 0 #[.val (.long i0), .second, .unset, .unset, .unset, .unset, .unset, .unset, .unset, .unset, .unset] [])
 refine k_ldcL X0 hx hZ hown (hw _ (List.mem_of_getElem? (i := 0) rfl)) (hb hby at_0) (pc' := 3) rfl ?_
 refine k_lstoreN X0 hx (hb hby at_3) (Ls' := #[.val (.long i0), .second, .val (.long (-7046029254386353131 : Int64)), .second, .unset, .unset, .unset, .unset, .unset, .unset, .unset]) rfl (pc' := 4) rfl ?_
 refine k_newO X0 hx hZ hown (hw _ (List.mem_of_getElem? (i := 1) rfl)) (hw _ (List.mem_of_getElem? (i := 2) rfl)) (hw _ (List.mem_of_getElem? (i := 3) rfl)) e0 (hb hby at_4) (by decide) (by decide) (pc' := 7) rfl (fun T1 h1 b1 g1 X1 e1 E1 A1 D1 => ?_)
 have g_b1 : n0 ≤ b1 := Nat.le_trans Z0 (Nat.le_of_eq g1.symm)
 have Z1 : n0 ≤ h1.size := Nat.le_trans Z0 E1.1
 have F2 : Fld Z h1 b1 "com/example/knotcut/knotcut/core/SplitMix64" "state" "J" (.long (0 : Int64)) := D1 (Or.inl (hw _ (List.mem_of_getElem? (i := 11) rfl))) (ty := .long) (by decide)
 refine k_dup X1 hx (hb hby at_7) rfl (pc' := 8) rfl ?_
 refine k_lloadN X1 hx (hb hby at_8) rfl (pc' := 9) rfl ?_
 refine k_callI X1 hx hZ hown (a := b1) rfl (hw _ (List.mem_of_getElem? (i := 4) rfl)) (hw _ (List.mem_of_getElem? (i := 5) rfl)) (hw _ (List.mem_of_getElem? (i := 3) rfl)) (hw _ (List.mem_of_getElem? (i := 6) rfl)) rfl (by decide) (rm1_3 l Z a0 hw [] b1 i0 h1 n0 Z1 A1 F2 g_b1) (by decide) (by decide) e1 (by rw [hml]; rfl) (argsL := [(.long i0)]) (rest := [(.ref b1)]) (lenOf pd_0 rfl) rfl (W := 1) (Nat.le_refl _) rfl (hb hby at_9) (by decide) (by decide) (pc' := 12) rfl (fun T7 L7 r7 X7 q7 => ?_)
 obtain ⟨N7, q7⟩ := q7
 have N7' := Fr.app N0 N7
 obtain ⟨rfl, F8, F9, Z10⟩ := q7
 show KEnds p e below s _ _ _ T7 (mkF m 12 #[.val (.long i0), .second, .val (.long (-7046029254386353131 : Int64)), .second, .unset, .unset, .unset, .unset, .unset, .unset, .unset] [(.ref b1)])
 refine k_astore X7 hx (hb hby at_12) rfl (Ls' := #[.val (.long i0), .second, .val (.long (-7046029254386353131 : Int64)), .second, .val (.ref b1), .unset, .unset, .unset, .unset, .unset, .unset]) rfl (pc' := 14) rfl ?_
 refine k_aload X7 hx (hb hby at_14) rfl rfl (pc' := 16) rfl ?_
 refine k_callV X7 hx hZ hown (a := b1) (hw _ (List.mem_of_getElem? (i := 12) rfl)) (hw _ (List.mem_of_getElem? (i := 13) rfl)) (hw _ (List.mem_of_getElem? (i := 15) rfl)) (hw _ (List.mem_of_getElem? (i := 14) rfl)) (hw _ (List.mem_of_getElem? (i := 3) rfl)) (hw _ (List.mem_of_getElem? (i := 16) rfl)) (by decide) F8 (rm3_11 l Z a0 hw [] b1 i0 T7.heap n0 Z10 F8 F9 g_b1) (by decide) (by decide) rfl (by rw [hml]; rfl) (argsL := []) (rest := []) (lenOf pd_1 rfl) rfl (W := 0) (Nat.le_refl _) rfl (hb hby at_16) (by decide) (by decide) (pc' := 19) rfl (fun T25 L25 r25 X25 q25 => ?_)
 obtain ⟨N25, q25⟩ := q25
 have N25' := Fr.app N7' N25
 obtain ⟨v26, v27, v28, v29, v30, v31, v32, v33, v34, h35, h36, h37, h38, h39, h40, h41, h42, h43, rfl, F44, F45, Z46⟩ := q25
 show KEnds p e below s _ _ _ T25 (mkF m 19 #[.val (.long i0), .second, .val (.long (-7046029254386353131 : Int64)), .second, .val (.ref b1), .unset, .unset, .unset, .unset, .unset, .unset] [(.long v34)])
 refine k_lstore X25 hx (hb hby at_19) (Ls' := #[.val (.long i0), .second, .val (.long (-7046029254386353131 : Int64)), .second, .val (.ref b1), .val (.long v34), .second, .unset, .unset, .unset, .unset]) rfl (pc' := 21) rfl ?_
 refine k_aload X25 hx (hb hby at_21) rfl rfl (pc' := 23) rfl ?_
 refine k_callV X25 hx hZ hown (a := b1) (hw _ (List.mem_of_getElem? (i := 12) rfl)) (hw _ (List.mem_of_getElem? (i := 13) rfl)) (hw _ (List.mem_of_getElem? (i := 15) rfl)) (hw _ (List.mem_of_getElem? (i := 14) rfl)) (hw _ (List.mem_of_getElem? (i := 3) rfl)) (hw _ (List.mem_of_getElem? (i := 16) rfl)) (by decide) F44 (rm3_11 l Z a0 hw [] b1 v26 T25.heap n0 Z46 F44 F45 g_b1) (by decide) (by decide) rfl (by rw [hml]; rfl) (argsL := []) (rest := []) (lenOf pd_1 rfl) rfl (W := 0) (Nat.le_refl _) rfl (hb hby at_23) (by decide) (by decide) (pc' := 26) rfl (fun T47 L47 r47 X47 q47 => ?_)
 obtain ⟨N47, q47⟩ := q47
 have N47' := Fr.app N25' N47
 obtain ⟨v48, v49, v50, v51, v52, v53, v54, v55, v56, h57, h58, h59, h60, h61, h62, h63, h64, h65, rfl, F66, F67, Z68⟩ := q47
 show KEnds p e below s _ _ _ T47 (mkF m 26 #[.val (.long i0), .second, .val (.long (-7046029254386353131 : Int64)), .second, .val (.ref b1), .val (.long v34), .second, .unset, .unset, .unset, .unset] [(.long v56)])
 refine k_lstore X47 hx (hb hby at_26) (Ls' := #[.val (.long i0), .second, .val (.long (-7046029254386353131 : Int64)), .second, .val (.ref b1), .val (.long v34), .second, .val (.long v56), .second, .unset, .unset]) rfl (pc' := 28) rfl ?_
 refine k_aload X47 hx (hb hby at_28) rfl rfl (pc' := 30) rfl ?_
 refine k_callV X47 hx hZ hown (a := b1) (hw _ (List.mem_of_getElem? (i := 12) rfl)) (hw _ (List.mem_of_getElem? (i := 13) rfl)) (hw _ (List.mem_of_getElem? (i := 15) rfl)) (hw _ (List.mem_of_getElem? (i := 14) rfl)) (hw _ (List.mem_of_getElem? (i := 3) rfl)) (hw _ (List.mem_of_getElem? (i := 16) rfl)) (by decide) F66 (rm3_11 l Z a0 hw [] b1 v48 T47.heap n0 Z68 F66 F67 g_b1) (by decide) (by decide) rfl (by rw [hml]; rfl) (argsL := []) (rest := []) (lenOf pd_1 rfl) rfl (W := 0) (Nat.le_refl _) rfl (hb hby at_30) (by decide) (by decide) (pc' := 33) rfl (fun T69 L69 r69 X69 q69 => ?_)
 obtain ⟨N69, q69⟩ := q69
 have N69' := Fr.app N47' N69
 obtain ⟨v70, v71, v72, v73, v74, v75, v76, v77, v78, h79, h80, h81, h82, h83, h84, h85, h86, h87, rfl, F88, F89, Z90⟩ := q69
 show KEnds p e below s _ _ _ T69 (mkF m 33 #[.val (.long i0), .second, .val (.long (-7046029254386353131 : Int64)), .second, .val (.ref b1), .val (.long v34), .second, .val (.long v56), .second, .unset, .unset] [(.long v78)])
 refine k_lstore X69 hx (hb hby at_33) (Ls' := #[.val (.long i0), .second, .val (.long (-7046029254386353131 : Int64)), .second, .val (.ref b1), .val (.long v34), .second, .val (.long v56), .second, .val (.long v78), .second]) rfl (pc' := 35) rfl ?_
 refine k_lload X69 hx (hb hby at_35) rfl (pc' := 37) rfl ?_
 refine k_callS X69 hx hZ hown (hw _ (List.mem_of_getElem? (i := 20) rfl)) (hw _ (List.mem_of_getElem? (i := 21) rfl)) (hw _ (List.mem_of_getElem? (i := 22) rfl)) (hw _ (List.mem_of_getElem? (i := 23) rfl)) (by decide) (rm4_91 l Z a0 hw [] v34 T69.heap n0 Z90 ) (by decide) (by decide) rfl (by rw [hml]; rfl) (argsL := [(.long v34)]) (rest := []) (lenOf pd_2 rfl) rfl (W := 0) (Nat.le_refl _) rfl (hb hby at_37) (by decide) (by decide) (pc' := 40) rfl (fun T110 L110 r110 X110 q110 => ?_)
 obtain ⟨N110, e110, q110⟩ := q110
 have N110' := Fr.app N69' N110
 obtain ⟨v111, v112, v113, v114, v115, v116, v117, v118, v119, v120, v121, v122, v123, v124, h125, h126, h127, h128, h129, h130, h131, h132, h133, h134, h135, h136, h137, h138, rfl⟩ := q110
 show KEnds p e below s _ _ _ T110 (mkF m 40 #[.val (.long i0), .second, .val (.long (-7046029254386353131 : Int64)), .second, .val (.ref b1), .val (.long v34), .second, .val (.long v56), .second, .val (.long v78), .second] [(.long v124)])
 refine k_lloadN X110 hx (hb hby at_40) rfl (pc' := 41) rfl ?_
 refine k_lloadN X110 hx (hb hby at_41) rfl (pc' := 42) rfl ?_
 refine k_laddL X110 hx (hb hby at_42) (pc' := 43) rfl (z := v26) h35.symm ?_
 refine k_lcif_ne X110 hx (hb hby at_43) (pm := 44) rfl (hb hby at_44) (pn := 47) rfl (py := 83) (by decide) (fun hc => absurd (by simp only [h138, h137, h136, h135, h134, h133, h132, h131, h130, h129, h128, h127, h126, h125, h43, h42, h41, h40, h39, h38, h37, h36, own_x31, own_m2, own_x27, own_m1, own_x30] <;> (simp only [h79, h57, h35, Int64.add_assoc]; exact congrArg (fun q => i0 + q) (by decide))) hc) (fun _ => ?_)
 refine k_lload X110 hx (hb hby at_47) rfl (pc' := 49) rfl ?_
 refine k_callS X110 hx hZ hown (hw _ (List.mem_of_getElem? (i := 20) rfl)) (hw _ (List.mem_of_getElem? (i := 21) rfl)) (hw _ (List.mem_of_getElem? (i := 22) rfl)) (hw _ (List.mem_of_getElem? (i := 23) rfl)) (by decide) (rm4_91 l Z a0 hw [] v56 T69.heap n0 Z90 ) (by decide) (by decide) e110 (by rw [hml]; rfl) (argsL := [(.long v56)]) (rest := []) (lenOf pd_2 rfl) rfl (W := 0) (Nat.le_refl _) rfl (hb hby at_49) (by decide) (by decide) (pc' := 52) rfl (fun T139 L139 r139 X139 q139 => ?_)
 obtain ⟨N139, e139, q139⟩ := q139
 have N139' := Fr.app N110' N139
 obtain ⟨v140, v141, v142, v143, v144, v145, v146, v147, v148, v149, v150, v151, v152, v153, h154, h155, h156, h157, h158, h159, h160, h161, h162, h163, h164, h165, h166, h167, rfl⟩ := q139
 show KEnds p e below s _ _ _ T139 (mkF m 52 #[.val (.long i0), .second, .val (.long (-7046029254386353131 : Int64)), .second, .val (.ref b1), .val (.long v34), .second, .val (.long v56), .second, .val (.long v78), .second] [(.long v153)])
 refine k_lloadN X139 hx (hb hby at_52) rfl (pc' := 53) rfl ?_
 refine k_ldcL X139 hx hZ hown (hw _ (List.mem_of_getElem? (i := 28) rfl)) (hb hby at_53) (pc' := 56) rfl ?_
 refine k_lloadN X139 hx (hb hby at_56) rfl (pc' := 57) rfl ?_
 refine k_lmulL X139 hx (hb hby at_57) (pc' := 58) rfl (z := (4354685564936845354 : Int64)) (by decide) ?_
 refine k_ladd X139 hx (hb hby at_58) (pc' := 59) rfl (fun v168 hv168 => ?_)
 refine k_lcif_ne X139 hx (hb hby at_59) (pm := 60) rfl (hb hby at_60) (pn := 63) rfl (py := 83) (by decide) (fun hc => absurd (by simp only [h167, h166, h165, h164, h163, h162, h161, h160, h159, h158, h157, h156, h155, h154, h65, h64, h63, h62, h61, h60, h59, h58, own_x31, own_m2, own_x27, own_m1, own_x30] <;> (simp only [hv168, h79, h57, h35, Int64.add_assoc]; exact congrArg (fun q => i0 + q) (by decide))) hc) (fun _ => ?_)
 refine k_lload X139 hx (hb hby at_63) rfl (pc' := 65) rfl ?_
 refine k_callS X139 hx hZ hown (hw _ (List.mem_of_getElem? (i := 20) rfl)) (hw _ (List.mem_of_getElem? (i := 21) rfl)) (hw _ (List.mem_of_getElem? (i := 22) rfl)) (hw _ (List.mem_of_getElem? (i := 23) rfl)) (by decide) (rm4_91 l Z a0 hw [] v78 T69.heap n0 Z90 ) (by decide) (by decide) e139 (by rw [hml]; rfl) (argsL := [(.long v78)]) (rest := []) (lenOf pd_2 rfl) rfl (W := 0) (Nat.le_refl _) rfl (hb hby at_65) (by decide) (by decide) (pc' := 68) rfl (fun T169 L169 r169 X169 q169 => ?_)
 obtain ⟨N169, e169, q169⟩ := q169
 have N169' := Fr.app N139' N169
 obtain ⟨v170, v171, v172, v173, v174, v175, v176, v177, v178, v179, v180, v181, v182, v183, h184, h185, h186, h187, h188, h189, h190, h191, h192, h193, h194, h195, h196, h197, rfl⟩ := q169
 show KEnds p e below s _ _ _ T169 (mkF m 68 #[.val (.long i0), .second, .val (.long (-7046029254386353131 : Int64)), .second, .val (.ref b1), .val (.long v34), .second, .val (.long v56), .second, .val (.long v78), .second] [(.long v183)])
 refine k_lloadN X169 hx (hb hby at_68) rfl (pc' := 69) rfl ?_
 refine k_ldcL X169 hx hZ hown (hw _ (List.mem_of_getElem? (i := 30) rfl)) (hb hby at_69) (pc' := 72) rfl ?_
 refine k_lloadN X169 hx (hb hby at_72) rfl (pc' := 73) rfl ?_
 refine k_lmulL X169 hx (hb hby at_73) (pc' := 74) rfl (z := (-2691343689449507777 : Int64)) (by decide) ?_
 refine k_ladd X169 hx (hb hby at_74) (pc' := 75) rfl (fun v198 hv198 => ?_)
 refine k_lcif_ne X169 hx (hb hby at_75) (pm := 76) rfl (hb hby at_76) (pn := 79) rfl (py := 83) (by decide) (fun hc => absurd (by simp only [h197, h196, h195, h194, h193, h192, h191, h190, h189, h188, h187, h186, h185, h184, h87, h86, h85, h84, h83, h82, h81, h80, own_x31, own_m2, own_x27, own_m1, own_x30] <;> (simp only [hv198, hv168, h79, h57, h35, Int64.add_assoc]; exact congrArg (fun q => i0 + q) (by decide))) hc) (fun _ => ?_)
 refine k_iconst X169 hx (hb hby at_79) (pc' := 80) rfl (z := (1 : Int32)) rfl ?_
 refine k_goto X169 hx (hb hby at_80) (pc' := 84) (by decide) ?_
 exact k_retN X169 hx (t := .boolean) Bd.returns (by simp) (hb hby at_84) hlk (by decide) (by decide) (z' := (1 : Int32)) rfl ⟨rfl, N169'⟩
set_option maxRecDepth 65536 in
set_option maxHeartbeats 40000000 in
theorem comes_1 {Post : Tables → Env → Array Value → State → Outcome → State → Prop} (hpost : ∀ tb e args s v u, (limb_1_1.after args s (.returned v) u = true ∧ limb_1_2.after args s (.returned v) u = true ∧ True) → FrameEnd s (.returned v) u (Jvm.fieldLocs frame_1_writes args s ++ Jvm.arrayLocs frame_1_arrays args s ++ Jvm.staticLocs frame_1_statics s) 16 128 → Post tb e args s (.returned v) u) :
    ArmFor flags0 classFile x code maxLocals ret World_1 tables_1 room_1 Calls_1 rest_1 Pre_1 Post := by
  intro l hfl _ _ p e ha hc hk s m args below hf hA hF happ hP
  obtain ⟨hcalls, hrest, hpre⟩ := hP
  obtain ⟨-, -, -, hnamed, -, -, -, hat⟩ := (Spec.applies_iff hf).mp happ
  obtain ⟨hg, hn⟩ := and_e (Cond.before_iff.mp (show (Jvm.Cond.and given_1 narrow_1).before args s = true from hpre))
  obtain ⟨g199, g200⟩ := and_e hg
  obtain ⟨w0, rfl⟩ : ∃ w0 : Value, args = #[w0] := by
    have hs : args.size = 1 := by simpa [Cond.value, given_1] using g199
    obtain ⟨L⟩ := args
    match L, hs with
    | [w0], _ => exact ⟨w0, rfl⟩
  have hw := fun d (hd : d ∈ tables_1) => atoms_spec (ws := Jvm.Cond.code x code maxLocals ret :: tables_1) hat d (List.mem_cons_of_mem _ hd)
  obtain ⟨i0, ei0⟩ := isL_v g200
  obtain rfl : w0 = (.long i0) := Option.some.inj ei0
  obtain ⟨n, o, h1, h2, h3, _, L, rfl, ⟨rfl, N⟩, hq⟩ := rm0 l s _ hw tables_1 i0 s.heap s.heap.size (Nat.le_refl _) p e ha hc hk s m _ below hf ((Spec.applies_iff_loose hf).mp happ).1 ⟨rfl, State.Warmed39.refl s, rfl⟩ trivial
  refine ⟨n, _, h1, h2, h3, hpost _ _ _ _ _ _ ⟨Cond.after_iff.mpr rfl, Cond.after_iff.mpr (eq_i res_at (Term.int_eval (1)) rfl), trivial⟩ ⟨hq.1, hq.2.1, (hq.2.2.sift fun y hy => Or.inr (N y hy)).mono (by decide) (by decide)⟩⟩
theorem main_1_1 : Claimed_1_1 := comes_1 fun _ _ _ _ _ _ h hF => ⟨h.1, hF⟩
theorem main_1_2 : Claimed_1_2 := comes_1 fun _ _ _ _ _ _ h hF => ⟨h.2.1, hF⟩
end Jvm.Pilot.@@N@@
namespace Jvm.Pilot.@@N@@
open Jvm Jvm.ClassFile Sem Op Lib Jvm.Free Jvm.Stand Jvm.Pilot.@@N@@.Jvm.D
/-! MADE BY PROGRAM (witnessworld.py) out of the Statement's table words and the real class files: 9 classes; the members and pool entries that the words name. The judged class is class 1, her method 1. -/
namespace start1
open Jvm.ClassFile
def u (s : String) : CpInfo := .utf8 (stringToUtf16 s)
/-- a pool by its gaps: so many unusable entries, then the entry; so many at the end -/
def gap : Nat → List CpInfo → List CpInfo
  | 0, r => r
  | n + 1, r => .unusable :: gap n r
def poolList (es : List (Nat × CpInfo)) (last : Nat) : List CpInfo := es.foldr (fun e r => gap e.1 (e.2 :: r)) (gap last [])
def pool (es : List (Nat × CpInfo)) (last : Nat) : Array CpInfo := ⟨poolList es last⟩
def fileOf (pool : Array CpInfo) (this : Nat) (attrs : Array Attribute := #[]) (ms : Array MethodInfo := #[]) (fl : Nat := 33) (sup : Nat := 0) (ifs : Array Nat := #[]) (fds : Array FieldInfo := #[]) : ClassFile where
  minorVersion := 0
  majorVersion := 65
  constantPool := pool
  accessFlags := fl
  thisClass := this
  superClass := sup
  interfaces := ifs
  fields := fds
  methods := ms
  attributes := attrs
def plain (name : String) (sup : Option ClassId) : Class where
  name := name
  kind := .ordinary
  loader := none
  accessFlags := 33
  super := sup
  interfaces := #[]
  cf := none
  fields := #[]
  methods := #[]
  instanceTypes := #[]
  staticTypes := #[]
  resolved := #[]
  callSites := []
  init := .initialized
  statics := none
  mirror := none

def pool0 : Array CpInfo := pool [(5, u "<init>"), (0, u "()V"), (1, .class_ 10), (1, u "java/lang/Object")] 113

def k0c0 : Code := { maxStack := 0, maxLocals := 1, code := object_method_1_code, exceptionTable := #[], attributes := #[] }
def k0m0 : Method := { name := "<init>", desc := "()V", sig := { parameters := [], returnType := none }, accessFlags := 1, code := some k0c0 }
/-- java/lang/Object -/
def k0 : Class := { plain "java/lang/Object" none with
  accessFlags := 33
  interfaces := #[]
  cf := some (fileOf pool0 8 #[] #[{ accessFlags := 1, nameIndex := 5, descriptorIndex := 6, attributes := #[] }] 33 0 #[] #[])
  fields := #[]
  methods := #[k0m0]
  instanceTypes := #[]
  staticTypes := #[]
  resolved := Array.replicate 124 none
  statics := none }

def pool1 : Array CpInfo := pool [(2, .class_ 4), (1, u "java/lang/Object"), (0, u "<init>"), (0, u "()V"), (0, .long 11400714819323198485), (1, .class_ 10), (0, u "com/example/knotcut/knotcut/core/SplitMix64"), (0, .methodref 9 12), (0, .nameAndType 5 13), (0, u "(J)V"), (0, .methodref 9 15), (0, .nameAndType 16 17), (0, u "next"), (0, u "()J"), (0, .methodref 19 20), (0, .class_ 21), (0, .nameAndType 22 23), (0, u "com/example/knotcut/knotcut/core/SplitMix64NextPinLaw"), (0, u "unmix"), (0, u "(J)J"), (0, .long 2), (1, .long 3), (1, .long 10723151780598845931), (1, .methodref 19 31), (0, .nameAndType 32 23), (0, u "inverse"), (0, .long 13787848793156543929), (3, u "law"), (0, u "(J)Z")] 3

def k1m0 : Method := { name := "<init>", desc := "()V", sig := { parameters := [], returnType := none }, accessFlags := 1, code := none }
def k1c1 : Code := { maxStack := 8, maxLocals := 11, code := code, exceptionTable := #[], attributes := #[] }
def k1m1 : Method := { name := "law", desc := "(J)Z", sig := { parameters := [.long], returnType := some .boolean }, accessFlags := 9, code := some k1c1 }
def k1c2 : Code := { maxStack := 8, maxLocals := 4, code := method_3_code, exceptionTable := #[], attributes := #[] }
def k1m2 : Method := { name := "inverse", desc := "(J)J", sig := { parameters := [.long], returnType := some .long }, accessFlags := 10, code := some k1c2 }
def k1c3 : Code := { maxStack := 5, maxLocals := 4, code := method_4_code, exceptionTable := #[], attributes := #[] }
def k1m3 : Method := { name := "unmix", desc := "(J)J", sig := { parameters := [.long], returnType := some .long }, accessFlags := 10, code := some k1c3 }
/-- com/example/knotcut/knotcut/core/SplitMix64NextPinLaw -/
def k1 : Class := { plain "com/example/knotcut/knotcut/core/SplitMix64NextPinLaw" (some 0) with
  accessFlags := 49
  interfaces := #[]
  cf := some (fileOf pool1 19 #[] #[{ accessFlags := 1, nameIndex := 5, descriptorIndex := 6, attributes := #[] }, { accessFlags := 9, nameIndex := 37, descriptorIndex := 38, attributes := #[] }, { accessFlags := 10, nameIndex := 32, descriptorIndex := 23, attributes := #[] }, { accessFlags := 10, nameIndex := 22, descriptorIndex := 23, attributes := #[] }] 49 2 #[] #[])
  fields := #[]
  methods := #[k1m0, k1m1, k1m2, k1m3]
  instanceTypes := #[]
  staticTypes := #[]
  resolved := Array.replicate 42 none
  statics := none }

def pool2 : Array CpInfo := pool [(1, .methodref 2 3), (0, .class_ 4), (0, .nameAndType 5 6), (0, u "java/lang/Object"), (0, u "<init>"), (0, u "()V"), (0, .fieldref 8 9), (0, .class_ 10), (0, .nameAndType 11 12), (0, u "com/example/knotcut/knotcut/core/SplitMix64"), (0, u "state"), (0, u "J"), (0, .long 11400714819323198485), (1, .long 13787848793156543929), (1, .long 10723151780598845931), (11, u "next"), (0, u "()J"), (0, u "GOLDEN_GAMMA"), (1, u "(J)V")] 7

def k2c0 : Code := { maxStack := 3, maxLocals := 3, code := prog_91_method_1_code, exceptionTable := #[], attributes := #[] }
def k2m0 : Method := { name := "<init>", desc := "(J)V", sig := { parameters := [.long], returnType := none }, accessFlags := 0, code := some k2c0 }
def k2c1 : Code := { maxStack := 5, maxLocals := 3, code := prog_91_method_2_code, exceptionTable := #[], attributes := #[] }
def k2m1 : Method := { name := "next", desc := "()J", sig := { parameters := [], returnType := some .long }, accessFlags := 0, code := some k2c1 }
/-- com/example/knotcut/knotcut/core/SplitMix64 -/
def k2 : Class := { plain "com/example/knotcut/knotcut/core/SplitMix64" (some 0) with
  accessFlags := 48
  interfaces := #[]
  cf := some (fileOf pool2 8 #[] #[{ accessFlags := 0, nameIndex := 5, descriptorIndex := 33, attributes := #[] }, { accessFlags := 0, nameIndex := 29, descriptorIndex := 30, attributes := #[] }] 48 2 #[] #[{ accessFlags := 26, nameIndex := 31, descriptorIndex := 12, attributes := #[] }, { accessFlags := 2, nameIndex := 11, descriptorIndex := 12, attributes := #[] }])
  fields := #[{ name := "GOLDEN_GAMMA", type := .long, accessFlags := 26, slot := 0, constantValue := 0 }, { name := "state", type := .long, accessFlags := 2, slot := 0, constantValue := 0 }]
  methods := #[k2m0, k2m1]
  instanceTypes := #[.long]
  staticTypes := #[.long]
  resolved := Array.replicate 41 none
  statics := none }

def pool3 : Array CpInfo := pool [(1, u "java/lang/Cloneable"), (0, .class_ 1), (0, u "java/lang/Object"), (0, .class_ 3)] 3

/-- java/lang/Cloneable -/
def k3 : Class := { plain "java/lang/Cloneable" (some 0) with
  accessFlags := 1537
  interfaces := #[]
  cf := some (fileOf pool3 2 #[] #[] 1537 4 #[] #[])
  fields := #[]
  methods := #[]
  instanceTypes := #[]
  staticTypes := #[]
  resolved := Array.replicate 8 none
  statics := none }

def pool4 : Array CpInfo := pool [(1, u "java/io/Serializable"), (0, .class_ 1), (0, u "java/lang/Object"), (0, .class_ 3)] 3

/-- java/io/Serializable -/
def k4 : Class := { plain "java/io/Serializable" (some 0) with
  accessFlags := 1537
  interfaces := #[]
  cf := some (fileOf pool4 2 #[] #[] 1537 4 #[] #[])
  fields := #[]
  methods := #[]
  instanceTypes := #[]
  staticTypes := #[]
  resolved := Array.replicate 8 none
  statics := none }

/-- the primitive byte -/
def k5 : Class := { plain "byte" none with kind := .primitive 'B', accessFlags := 0x411 }
/-- [B -/
def k6 : Class := { plain "[B" (some 0) with kind := .array 5 .byte, interfaces := #[3, 4], accessFlags := 1041 }

/-- the primitive int -/
def k7 : Class := { plain "int" none with kind := .primitive 'I', accessFlags := 0x411 }
/-- [I -/
def k8 : Class := { plain "[I" (some 0) with kind := .array 7 .int, interfaces := #[3, 4], accessFlags := 1041 }

def heap : Heap := #[]
def classes : Array Class := #[k0, k1, k2, k3, k4, k5, k6, k7, k8]
def interned : List (Array UInt16 × Addr) := []
def slotsUsed : Nat := 0
def theMethod : MethodId := ⟨1, 1⟩
def args0 : Array Value := #[.long 5]
def aboutOver (below : List Frame) : State where
  vm := { classes := classes, interned := interned.toArray }
  heap := heap
  slotsUsed := slotsUsed
  threads := #[{ frames := .invoking theMethod args0 :: below }]
def below0 : List Frame := [.native { method := ⟨0, 0⟩, args := #[] }]
def about1 : State := aboutOver below0
def p0 : Program := .bare "" "" ""
def e0 : Env := launch0.env 0 0 0
theorem w_frames : about1.frames = Frame.invoking theMethod args0 :: below0 := rfl
set_option maxRecDepth 65536 in
theorem w_args : argsFit about1.vm theMethod args0 = true := by decide +kernel
set_option maxRecDepth 65536 in
theorem w_heap : heapFits about1 = true := by decide +kernel
set_option maxRecDepth 65536 in
theorem w_runnable : about1.curStatus? = some .runnable := by decide +kernel
set_option maxRecDepth 65536 in
theorem w_alone : about1.alone = true := by decide +kernel
set_option maxRecDepth 65536 in
theorem w_named : about1.methodNamed? x = some theMethod := by decide +kernel
set_option maxRecDepth 65536 in
theorem w_hears : about1.hears theMethod below0 = true := by decide +kernel
set_option maxRecDepth 65536 in
theorem w_ripe : about1.ripe theMethod args0 below0 = true := by decide +kernel
theorem w_running : about1.status = .running := rfl
set_option maxRecDepth 65536 in
theorem w_room : about1.hasRoom e0.platform room_1 = true :=
  launch0.hasRoom_least _ room_1 (by decide +kernel) (by decide +kernel) (by decide +kernel) (by decide +kernel) (by decide +kernel) (by decide +kernel)
theorem allAtoms_all (ts : List Jvm.Cond) (a : Array Jvm.Value) (st : Jvm.State) : (allAtoms ts).before a st = ts.all (fun c => c.before a st) := by
  induction ts with
  | nil => rfl
  | cons c t ih =>
    show (Jvm.Cond.and c (allAtoms t)).before a st = _
    rw [Jvm.Cond.before_and, ih, List.all_cons]
def words1 : List Jvm.Cond := Jvm.Cond.code x code maxLocals ret :: tables_1
/-- a 'code' word, met by the world's own term for the bytes: nothing is compared byte by byte -/
theorem code_word {y : MethodName} {bytes : ByteArray} {mx : Nat} {rt : Option FieldType} {a : Array Value} {s : State} {m : MethodId} {meth : Method} {c : Code} (h1 : s.methodNamed? y = some m) (h2 : s.vm.method? m = some meth) (h3 : meth.code = some c) (h4 : c.code = bytes)
    (h5 : (c.maxLocals == mx && c.exceptionTable.isEmpty && decide (c.maxStack ≤ mostOperands) && decide (meth.sig.returnType = rt) && !meth.locks && decide (parseMethodDescriptor y.desc = some meth.sig)) = true) : (Jvm.Cond.code y bytes mx rt).before a s = true := by
  simp only [Bool.and_eq_true, beq_iff_eq, Bool.not_eq_true', decide_eq_true_eq] at h5
  obtain ⟨⟨⟨⟨⟨g1, g2⟩, g3⟩, g4⟩, g5⟩, g6⟩ := h5
  simp [Cond.before, Cond.holds, Cond.value, h1, h2, h3, h4, g1, g2, g3, g4, g5, g6]
def isCode : Jvm.Cond → Bool
  | .code _ _ _ _ => true
  | _ => false
theorem all_split {L : List Jvm.Cond} {P : Jvm.Cond → Bool} (h1 : L.all (fun c => isCode c || P c) = true) (h2 : ∀ c ∈ L.filter isCode, P c = true) : L.all P = true := by
  refine List.all_eq_true.mpr fun c hc => ?_
  have h := List.all_eq_true.mp h1 c hc
  rcases Bool.eq_false_or_eq_true (isCode c) with hi | hi
  · exact h2 c (List.mem_filter.mpr ⟨hc, hi⟩)
  · simpa [hi] using h
set_option maxRecDepth 65536 in
theorem w_c0 : (Jvm.Cond.code x code maxLocals ret).before args0 about1 = true := code_word (m := ⟨1, 1⟩) (meth := k1m1) (c := k1c1) (by decide +kernel) rfl rfl rfl (by decide +kernel)
set_option maxRecDepth 65536 in
theorem w_c1 : (Jvm.Cond.code ({ cls := "com/example/knotcut/knotcut/core/SplitMix64", name := "<init>", desc := "(J)V" } : Jvm.MethodName) prog_91_method_1_code (3 : Nat) (Option.none : Option Jvm.ClassFile.FieldType)).before args0 about1 = true := code_word (m := ⟨2, 0⟩) (meth := k2m0) (c := k2c0) (by decide +kernel) rfl rfl rfl (by decide +kernel)
set_option maxRecDepth 65536 in
theorem w_c2 : (Jvm.Cond.code ({ cls := "java/lang/Object", name := "<init>", desc := "()V" } : Jvm.MethodName) object_method_1_code (1 : Nat) (Option.none : Option Jvm.ClassFile.FieldType)).before args0 about1 = true := code_word (m := ⟨0, 0⟩) (meth := k0m0) (c := k0c0) (by decide +kernel) rfl rfl rfl (by decide +kernel)
set_option maxRecDepth 65536 in
theorem w_c3 : (Jvm.Cond.code ({ cls := "com/example/knotcut/knotcut/core/SplitMix64", name := "next", desc := "()J" } : Jvm.MethodName) prog_91_method_2_code (3 : Nat) (Option.some Jvm.ClassFile.FieldType.long)).before args0 about1 = true := code_word (m := ⟨2, 1⟩) (meth := k2m1) (c := k2c1) (by decide +kernel) rfl rfl rfl (by decide +kernel)
set_option maxRecDepth 65536 in
theorem w_c4 : (Jvm.Cond.code ({ cls := "com/example/knotcut/knotcut/core/SplitMix64NextPinLaw", name := "unmix", desc := "(J)J" } : Jvm.MethodName) method_4_code (4 : Nat) (Option.some Jvm.ClassFile.FieldType.long)).before args0 about1 = true := code_word (m := ⟨1, 3⟩) (meth := k1m3) (c := k1c3) (by decide +kernel) rfl rfl rfl (by decide +kernel)
set_option maxRecDepth 65536 in
theorem w_c5 : (Jvm.Cond.code ({ cls := "com/example/knotcut/knotcut/core/SplitMix64NextPinLaw", name := "inverse", desc := "(J)J" } : Jvm.MethodName) method_3_code (4 : Nat) (Option.some Jvm.ClassFile.FieldType.long)).before args0 about1 = true := code_word (m := ⟨1, 2⟩) (meth := k1m2) (c := k1c2) (by decide +kernel) rfl rfl rfl (by decide +kernel)
def codes1 : List Jvm.Cond := [Jvm.Cond.code x code maxLocals ret, Jvm.Cond.code ({ cls := "com/example/knotcut/knotcut/core/SplitMix64", name := "<init>", desc := "(J)V" } : Jvm.MethodName) prog_91_method_1_code (3 : Nat) (Option.none : Option Jvm.ClassFile.FieldType), Jvm.Cond.code ({ cls := "java/lang/Object", name := "<init>", desc := "()V" } : Jvm.MethodName) object_method_1_code (1 : Nat) (Option.none : Option Jvm.ClassFile.FieldType), Jvm.Cond.code ({ cls := "com/example/knotcut/knotcut/core/SplitMix64", name := "next", desc := "()J" } : Jvm.MethodName) prog_91_method_2_code (3 : Nat) (Option.some Jvm.ClassFile.FieldType.long), Jvm.Cond.code ({ cls := "com/example/knotcut/knotcut/core/SplitMix64NextPinLaw", name := "unmix", desc := "(J)J" } : Jvm.MethodName) method_4_code (4 : Nat) (Option.some Jvm.ClassFile.FieldType.long), Jvm.Cond.code ({ cls := "com/example/knotcut/knotcut/core/SplitMix64NextPinLaw", name := "inverse", desc := "(J)J" } : Jvm.MethodName) method_3_code (4 : Nat) (Option.some Jvm.ClassFile.FieldType.long)]
set_option maxRecDepth 65536 in
theorem codes_eq : words1.filter isCode = codes1 := rfl
theorem w_codes : ∀ c ∈ words1.filter isCode, c.before args0 about1 = true := by
  rw [codes_eq]
  intro c hc
  simp only [codes1, List.mem_cons, List.not_mem_nil, or_false] at hc
  rcases hc with rfl | rfl | rfl | rfl | rfl | rfl
  · exact w_c0
  · exact w_c1
  · exact w_c2
  · exact w_c3
  · exact w_c4
  · exact w_c5
set_option maxRecDepth 65536 in
theorem w_t1 : (words1.take 24).all (fun c => isCode c || c.before args0 about1) = true := by decide +kernel
set_option maxRecDepth 65536 in
theorem w_t2 : (words1.drop 24).all (fun c => isCode c || c.before args0 about1) = true := by decide +kernel
theorem w_tables : (allAtoms (Jvm.Cond.code x code maxLocals ret :: tables_1)).before args0 about1 = true := by
  rw [allAtoms_all]
  show words1.all (fun c => c.before args0 about1) = true
  refine all_split ?_ w_codes
  rw [← List.take_append_drop 24 words1, List.all_append, w_t1, w_t2]
  rfl
set_option maxRecDepth 65536 in
theorem w_case : (Jvm.Cond.and given_1 narrow_1).before args0 about1 = true := by decide +kernel
theorem w_applies : (headSpec (Jvm.Cond.code x code maxLocals ret :: tables_1) room_1).applies x e0.platform about1 = true :=
  (Spec.applies_iff w_frames).mpr ⟨w_running, w_runnable, w_alone, w_named, w_hears, w_ripe, w_room, w_tables⟩
theorem atStart : AtStart classFile x code maxLocals ret World_1 tables_1 room_1 Calls_1 rest_1 Pre_1 launch0 p0 e0 about1 theMethod args0 below0 :=
  ⟨lists_1, trivial, launch0.admits_env _ _ _, launch0.least_env, fairChoices_fair.cas, fairChoices_fair.clock, w_frames, w_args, w_heap, w_applies, trivial, trivial, w_case⟩
end start1
theorem witness_1 : WitnessClaimed_1 := ⟨start1.p0, start1.e0, start1.about1, start1.theMethod, start1.args0, start1.below0, start1.atStart⟩
end Jvm.Pilot.@@N@@
