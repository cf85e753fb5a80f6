import JvmDerived
import JvmDerived.Pilot.@@N@@Statement
import JvmDerived.Pilot.@@N@@Code
set_option linter.unusedVariables false
set_option linter.unusedSimpArgs false
namespace Jvm.OwnK
open Sem ClassFile Op Lib Jvm.Stand Jvm.Free Jvm.LawKit Jvm.RoadKit
section
variable {p : Program} {l : Launch} {e : Env} {R : Room} {s : State} {m : MethodId} {args : Array Value} {below : List Frame} {meth : Method} {c : Code} {T : State} {locs : List Loc} {cells slots : Nat} {Cn Sn : Nat} {Q : Option Value → Heap → List Loc → Prop}
/-- from the frame f the run comes to an end that Q takes -/
def KEnds (p : Program) (e : Env) (below : List Frame) (s : State) (Cn Sn : Nat) (Q : Option Value → Heap → List Loc → Prop) (T : State) (f : JFrame) : Prop :=
  ∃ s₂ o, Steps p.tables e below (T.setTop f) s₂ ∧ s₂.status = .running ∧ Ended s₂ below o ∧ ∃ v L, o = .returned v ∧ Q v s₂.heap L ∧ FrameEnd s o s₂ L Cn Sn
theorem k_via {T' : State} {f f' : JFrame} (st : ∀ t, Steps p.tables e below (T'.setTop f') t → Steps p.tables e below (T.setTop f) t) (k : KEnds p e below s Cn Sn Q T' f') : KEnds p e below s Cn Sn Q T f := by
  obtain ⟨s₂, o, h, r⟩ := k
  exact ⟨s₂, o, st _ h, r⟩
theorem k_iloadN (X : Stand p l e R s m args below meth c T locs cells slots) (hx : p.tables.exec = Jvm.exec) {pc pc' : Nat} {Ls : Array Slot} {St : List Value} {i : Fin 4} {v : Int32} (hd : decode c.code pc = .ok (.iload_n i, 1)) (hl : Ls[i.val]? = some (.val (.int v))) (hpc : pc + 1 = pc') (k : KEnds p e below s Cn Sn Q T (mkF m pc' Ls (.int v :: St))) : KEnds p e below s Cn Sn Q T (mkF m pc Ls (St)) := by
  subst hpc; exact k_via (fun t h => XS.iloadN X.here hx rfl hd hl h) k
theorem k_iload (X : Stand p l e R s m args below meth c T locs cells slots) (hx : p.tables.exec = Jvm.exec) {pc pc' : Nat} {Ls : Array Slot} {St : List Value} {i : Nat} {v : Int32} (hd : decode c.code pc = .ok (.iload i, 2)) (hl : Ls[i]? = some (.val (.int v))) (hpc : pc + 2 = pc') (k : KEnds p e below s Cn Sn Q T (mkF m pc' Ls (.int v :: St))) : KEnds p e below s Cn Sn Q T (mkF m pc Ls (St)) := by
  subst hpc; exact k_via (fun t h => XS.iload X.here hx rfl hd hl h) k
theorem k_istore (X : Stand p l e R s m args below meth c T locs cells slots) (hx : p.tables.exec = Jvm.exec) {pc pc' : Nat} {Ls : Array Slot} {St : List Value} {i : Nat} {v : Int32} {Ls' : Array Slot} (hd : decode c.code pc = .ok (.istore i, 2)) (hl : storeLocals Ls i (.int v) = some Ls') (hpc : pc + 2 = pc') (k : KEnds p e below s Cn Sn Q T (mkF m pc' Ls' (St))) : KEnds p e below s Cn Sn Q T (mkF m pc Ls (.int v :: St)) := by
  subst hpc; exact k_via (fun t h => XS.istore X.here hx rfl hd rfl hl h) k
theorem k_lload (X : Stand p l e R s m args below meth c T locs cells slots) (hx : p.tables.exec = Jvm.exec) {pc pc' : Nat} {Ls : Array Slot} {St : List Value} {i : Nat} {v : Int64} (hd : decode c.code pc = .ok (.lload i, 2)) (hl : Ls[i]? = some (.val (.long v))) (hpc : pc + 2 = pc') (k : KEnds p e below s Cn Sn Q T (mkF m pc' Ls (.long v :: St))) : KEnds p e below s Cn Sn Q T (mkF m pc Ls (St)) := by
  subst hpc; exact k_via (fun t h => XS.lload X.here hx rfl hd hl h) k
theorem k_lstore (X : Stand p l e R s m args below meth c T locs cells slots) (hx : p.tables.exec = Jvm.exec) {pc pc' : Nat} {Ls : Array Slot} {St : List Value} {i : Nat} {v : Int64} {Ls' : Array Slot} (hd : decode c.code pc = .ok (.lstore i, 2)) (hl : storeLocals Ls i (.long v) = some Ls') (hpc : pc + 2 = pc') (k : KEnds p e below s Cn Sn Q T (mkF m pc' Ls' (St))) : KEnds p e below s Cn Sn Q T (mkF m pc Ls (.long v :: St)) := by
  subst hpc; exact k_via (fun t h => XS.lstore X.here hx rfl hd rfl hl h) k
theorem k_aloadN (X : Stand p l e R s m args below meth c T locs cells slots) (hx : p.tables.exec = Jvm.exec) {pc pc' : Nat} {Ls : Array Slot} {St : List Value} {i : Fin 4} {v : Value} (hd : decode c.code pc = .ok (.aload_n i, 1)) (hl : Ls[i.val]? = some (.val v)) (hv : v.isRef = true) (hpc : pc + 1 = pc') (k : KEnds p e below s Cn Sn Q T (mkF m pc' Ls (v :: St))) : KEnds p e below s Cn Sn Q T (mkF m pc Ls (St)) := by
  subst hpc; exact k_via (fun t h => XS.aloadN X.here hx rfl hd hl hv h) k
theorem k_astoreN (X : Stand p l e R s m args below meth c T locs cells slots) (hx : p.tables.exec = Jvm.exec) {pc pc' : Nat} {Ls : Array Slot} {St : List Value} {i : Fin 4} {v : Value} {Ls' : Array Slot} (hd : decode c.code pc = .ok (.astore_n i, 1)) (hv : v.isRef = true) (hl : storeLocals Ls i.val v = some Ls') (hpc : pc + 1 = pc') (k : KEnds p e below s Cn Sn Q T (mkF m pc' Ls' (St))) : KEnds p e below s Cn Sn Q T (mkF m pc Ls (v :: St)) := by
  subst hpc; exact k_via (fun t h => XS.astoreN X.here hx rfl hd rfl hv hl h) k
theorem k_iconst (X : Stand p l e R s m args below meth c T locs cells slots) (hx : p.tables.exec = Jvm.exec) {pc pc' : Nat} {Ls : Array Slot} {St : List Value} {i : Int} {z : Int32} (hd : decode c.code pc = .ok (.iconst i, 1)) (hpc : pc + 1 = pc') (hz : Int32.ofInt i = z) (k : KEnds p e below s Cn Sn Q T (mkF m pc' Ls (.int z :: St))) : KEnds p e below s Cn Sn Q T (mkF m pc Ls St) := by
  subst hpc hz; exact k_via (fun t h => XS.iconst X.here hx rfl hd h) k
theorem k_lconst (X : Stand p l e R s m args below meth c T locs cells slots) (hx : p.tables.exec = Jvm.exec) {pc pc' : Nat} {Ls : Array Slot} {St : List Value} {i : Fin 2} {z : Int64} (hd : decode c.code pc = .ok (.lconst i, 1)) (hpc : pc + 1 = pc') (hz : Int64.ofNat i = z) (k : KEnds p e below s Cn Sn Q T (mkF m pc' Ls (.long z :: St))) : KEnds p e below s Cn Sn Q T (mkF m pc Ls St) := by
  subst hpc hz; exact k_via (fun t h => XS.lconst X.here hx rfl hd h) k
theorem k_laddL (X : Stand p l e R s m args below meth c T locs cells slots) (hx : p.tables.exec = Jvm.exec) {pc pc' : Nat} {Ls : Array Slot} {St : List Value} {x y : Int64} {z : Int64} (hd : decode c.code pc = .ok (.ladd, 1))  (hpc : pc + 1 = pc') (hz : x + y = z) (k : KEnds p e below s Cn Sn Q T (mkF m pc' Ls (.long z :: St))) : KEnds p e below s Cn Sn Q T (mkF m pc Ls (.long y :: .long x :: St)) := by
  subst hpc hz; exact k_via (fun t h => XS.ladd X.here hx rfl hd rfl h) k
theorem k_ladd (X : Stand p l e R s m args below meth c T locs cells slots) (hx : p.tables.exec = Jvm.exec) {pc pc' : Nat} {Ls : Array Slot} {St : List Value} {x y : Int64} (hd : decode c.code pc = .ok (.ladd, 1))  (hpc : pc + 1 = pc') (k : ∀ z : Int64, z = x + y → KEnds p e below s Cn Sn Q T (mkF m pc' Ls (.long z :: St))) : KEnds p e below s Cn Sn Q T (mkF m pc Ls (.long y :: .long x :: St)) := by
  subst hpc; exact k_via (fun t h => XS.ladd X.here hx rfl hd rfl h) (k _ rfl)
theorem k_i2lL (X : Stand p l e R s m args below meth c T locs cells slots) (hx : p.tables.exec = Jvm.exec) {pc pc' : Nat} {Ls : Array Slot} {St : List Value} {x : Int32} {z : Int64} (hd : decode c.code pc = .ok (.i2l, 1))  (hpc : pc + 1 = pc') (hz : x.toInt64 = z) (k : KEnds p e below s Cn Sn Q T (mkF m pc' Ls (.long z :: St))) : KEnds p e below s Cn Sn Q T (mkF m pc Ls (.int x :: St)) := by
  subst hpc hz; exact k_via (fun t h => XS.i2l X.here hx rfl hd rfl h) k
theorem k_i2l (X : Stand p l e R s m args below meth c T locs cells slots) (hx : p.tables.exec = Jvm.exec) {pc pc' : Nat} {Ls : Array Slot} {St : List Value} {x : Int32} (hd : decode c.code pc = .ok (.i2l, 1))  (hpc : pc + 1 = pc') (k : ∀ z : Int64, z = x.toInt64 → KEnds p e below s Cn Sn Q T (mkF m pc' Ls (.long z :: St))) : KEnds p e below s Cn Sn Q T (mkF m pc Ls (.int x :: St)) := by
  subst hpc; exact k_via (fun t h => XS.i2l X.here hx rfl hd rfl h) (k _ rfl)
theorem k_dup (X : Stand p l e R s m args below meth c T locs cells slots) (hx : p.tables.exec = Jvm.exec) {pc pc' : Nat} {Ls : Array Slot} {St : List Value} {v : Value} (hd : decode c.code pc = .ok (.dup, 1)) (hv : v.category = 1) (hpc : pc + 1 = pc') (k : KEnds p e below s Cn Sn Q T (mkF m pc' Ls (v :: v :: St))) : KEnds p e below s Cn Sn Q T (mkF m pc Ls (v :: St)) := by
  subst hpc; exact k_via (fun t h => XS.dup X.here hx rfl hd rfl hv h) k
theorem k_goto (X : Stand p l e R s m args below meth c T locs cells slots) (hx : p.tables.exec = Jvm.exec) {pc pc' : Nat} {Ls : Array Slot} {St : List Value} {o : Int} (hd : decode c.code pc = .ok (.goto o, 3)) (hp : (pc : Int) + o = (pc' : Int)) (k : KEnds p e below s Cn Sn Q T (mkF m pc' Ls St)) : KEnds p e below s Cn Sn Q T (mkF m pc Ls St) :=
  k_via (fun t h => XS.goto X.here hx rfl (pc0 := pc) rfl hd (by omega) (by omega) h) k
theorem k_if_eq (X : Stand p l e R s m args below meth c T locs cells slots) (hx : p.tables.exec = Jvm.exec) {pc pn py : Nat} {Ls : Array Slot} {St : List Value} {x : Int32} {o : Int} (hd : decode c.code pc = .ok (.ifCond .eq o, 3)) (hn : pc + 3 = pn) (hp : (pc : Int) + o = (py : Int)) (ky : x = (0 : Int32) → KEnds p e below s Cn Sn Q T (mkF m py Ls St)) (kn : ¬ x = (0 : Int32) → KEnds p e below s Cn Sn Q T (mkF m pn Ls St)) : KEnds p e below s Cn Sn Q T (mkF m pc Ls (.int x :: St)) := by
  subst hn
  by_cases hc : x = (0 : Int32)
  · exact k_via (fun t h => XS.ifYes X.here hx rfl (pc0 := pc) rfl hd rfl ((if0 _ _).trans (teq hc).1) (by omega) (by omega) h) (ky hc)
  · exact k_via (fun t h => XS.ifNo X.here hx rfl hd rfl ((if0 _ _).trans (feq hc).1) h) (kn hc)
theorem k_if_ne (X : Stand p l e R s m args below meth c T locs cells slots) (hx : p.tables.exec = Jvm.exec) {pc pn py : Nat} {Ls : Array Slot} {St : List Value} {x : Int32} {o : Int} (hd : decode c.code pc = .ok (.ifCond .ne o, 3)) (hn : pc + 3 = pn) (hp : (pc : Int) + o = (py : Int)) (ky : ¬ x = (0 : Int32) → KEnds p e below s Cn Sn Q T (mkF m py Ls St)) (kn : x = (0 : Int32) → KEnds p e below s Cn Sn Q T (mkF m pn Ls St)) : KEnds p e below s Cn Sn Q T (mkF m pc Ls (.int x :: St)) := by
  subst hn
  by_cases hc : x = (0 : Int32)
  · exact k_via (fun t h => XS.ifNo X.here hx rfl hd rfl ((if0 _ _).trans (teq hc).2) h) (kn hc)
  · exact k_via (fun t h => XS.ifYes X.here hx rfl (pc0 := pc) rfl hd rfl ((if0 _ _).trans (feq hc).2) (by omega) (by omega) h) (ky hc)
theorem k_lcif_ne (X : Stand p l e R s m args below meth c T locs cells slots) (hx : p.tables.exec = Jvm.exec) {pc pn py : Nat} {Ls : Array Slot} {St : List Value} {x y : Int64} {o : Int} {pm : Nat} (hd0 : decode c.code pc = .ok (.lcmp, 1)) (hm : pc + 1 = pm) (hd : decode c.code pm = .ok (.ifCond .ne o, 3)) (hn : pm + 3 = pn) (hp : (pm : Int) + o = (py : Int)) (ky : ¬ x = y → KEnds p e below s Cn Sn Q T (mkF m py Ls St)) (kn : x = y → KEnds p e below s Cn Sn Q T (mkF m pn Ls St)) : KEnds p e below s Cn Sn Q T (mkF m pc Ls (.long y :: .long x :: St)) := by
  subst hm
  have F := k_if_ne (Q := Q) (Cn := Cn) (Sn := Sn) (Ls := Ls) (St := St) (x := lcmpW x y) X hx hd hn hp (fun hc => ky (fun q => hc ((lw_eq x y).mpr q))) (fun hc => kn ((lw_eq x y).mp hc))
  exact k_via (fun t h => XS.lcmp X.here hx rfl hd0 rfl h) F
theorem k_retN (X : Stand p l e R s m args below meth c T locs cells slots) (hx : p.tables.exec = Jvm.exec) {pc : Nat} {Ls : Array Slot} {St : List Value} {t : FieldType} {z z' : Int32} (hret : meth.sig.returnType = some t) (ht : t = .boolean ∨ t = .byte ∨ t = .char ∨ t = .short) (hd : decode c.code pc = .ok (.ireturn, 1)) (hlk : meth.locks = false) (hC : cells ≤ Cn) (hS : slots ≤ Sn) (hz : nar t z = z') (q : Q (some (.int z')) T.heap locs) : KEnds p e below s Cn Sn Q T (mkF m pc Ls (.int z :: St)) := by
  subst hz
  obtain ⟨fs, hr, hrun, hended, hW, hsame⟩ := X.leave (v := some (.int (nar t z))) (fun h => by rw [hret] at h; cases h) hlk
  exact ⟨_, _, retN X hx hret ht hd hr, hrun, hended, _, _, rfl, q, ⟨_, rfl⟩, hW, hsame.mono hC hS⟩
theorem k_retL (X : Stand p l e R s m args below meth c T locs cells slots) (hx : p.tables.exec = Jvm.exec) {pc : Nat} {Ls : Array Slot} {St : List Value} {z : Int64} (hret : meth.sig.returnType = some .long) (hd : decode c.code pc = .ok (.lreturn, 1)) (hlk : meth.locks = false) (hC : cells ≤ Cn) (hS : slots ≤ Sn) (q : Q (some (.long z)) T.heap locs) : KEnds p e below s Cn Sn Q T (mkF m pc Ls (.long z :: St)) := by
  obtain ⟨fs, hr, hrun, hended, hW, hsame⟩ := X.leave (v := some (.long z)) (fun h => by rw [hret] at h; cases h) hlk
  exact ⟨_, _, retOut X hx hret rfl (Or.inr (Or.inl ⟨rfl, rfl, _, rfl⟩)) hd hr, hrun, hended, _, _, rfl, q, ⟨_, rfl⟩, hW, hsame.mono hC hS⟩
theorem k_ret (X : Stand p l e R s m args below meth c T locs cells slots) (hx : p.tables.exec = Jvm.exec) {pc : Nat} {Ls : Array Slot} (hret : meth.sig.returnType = none) (hd : decode c.code pc = .ok (.return_, 1)) (hlk : meth.locks = false) (hC : cells ≤ Cn) (hS : slots ≤ Sn) (q : Q none T.heap locs) : KEnds p e below s Cn Sn Q T (mkF m pc Ls []) := by
  obtain ⟨fs, hr, hrun, hended, hW, hsame⟩ := X.leave (v := none) (fun _ => rfl) hlk
  exact ⟨_, _, X.returnOut hx hret hd hr, hrun, hended, _, _, rfl, q, ⟨_, rfl⟩, hW, hsame.mono hC hS⟩
variable {Z : State} {a0 : Array Value} {h : Heap} {own : String}
theorem k_getF (X : Stand p l e R s m args below meth c T locs cells slots) (hx : p.tables.exec = Jvm.exec) (hZ : Z.Warmed39 s.vm) (hown : s.vm.findClass own = some m.cls) {pc pc' : Nat} {Ls : Array Slot} {St : List Value} {R0 O n d host : String} {index : Nat} (w : (Cond.fieldLink own index R0 n d).before a0 Z = true ∨ (Cond.fieldLinkNest own index R0 n d host).before a0 Z = true) (via : Via Z R0 O n d) (eT : T.heap = h) {a : Addr} {v : Value} (F : Fld Z h a O n d v) (hd : decode c.code pc = .ok (.getfield index, 3)) (hpc : pc + 3 = pc') (k : ∀ T', Stand p l e R s m args below meth c T' locs cells slots → T'.heap = h → KEnds p e below s Cn Sn Q T' (mkF m pc' Ls (v :: St))) : KEnds p e below s Cn Sn Q T (mkF m pc Ls (.ref a :: St)) := by
  subst hpc
  obtain ⟨T', X', e', st⟩ := getF X hx hZ hown w via eT F (g := mkF m pc Ls (.ref a :: St)) rfl rfl hd
  exact k_via st (k T' X' e')
theorem k_putF (X : Stand p l e R s m args below meth c T locs cells slots) (hx : p.tables.exec = Jvm.exec) (hZ : Z.Warmed39 s.vm) (hown : s.vm.findClass own = some m.cls) {pc pc' : Nat} {Ls : Array Slot} {St : List Value} {R0 O n d host C : String} {index kk : Nat} {ty : FieldType} (w : (Cond.fieldLink own index R0 n d).before a0 Z = true ∨ (Cond.fieldLinkNest own index R0 n d host).before a0 Z = true) (via : Via Z R0 O n d) (eT : T.heap = h) {a : Addr} {v old : Value} (F : Fld Z h a O n d old) (Ex : Exa Z h a C) (L : (Cond.lays C O n d).before a0 Z = true ∨ ((Cond.laysFinal C O n d).before a0 Z = true ∧ own = O ∧ meth.name = "<init>")) (wi : (Cond.instantiable C kk).before a0 Z = true) (hty : parseFieldDescriptor d = some ty) (hn : narrow ty v = v) (hf : fits ty v = true) (hd : decode c.code pc = .ok (.putfield index, 3)) (hpc : pc + 3 = pc') (k : ∀ T' h', Stand p l e R s m args below meth c T' (locs ++ [⟨a, Jvm.RoadKit.slotOf Z O n d⟩]) cells slots → T'.heap = h' → Wr h h' a (Jvm.RoadKit.slotOf Z O n d) v → KEnds p e below s Cn Sn Q T' (mkF m pc' Ls St)) : KEnds p e below s Cn Sn Q T (mkF m pc Ls (v :: .ref a :: St)) := by
  subst hpc
  obtain ⟨T', h', X', e', W', st⟩ := putF X hx hZ hown w via eT F Ex L wi hty hn hf (g := mkF m pc Ls (v :: .ref a :: St)) rfl rfl hd
  exact k_via st (k T' h' X' e' W')
theorem k_newO (X : Stand p l e R s m args below meth c T locs cells slots) (hx : p.tables.exec = Jvm.exec) (hZ : Z.Warmed39 s.vm) (hown : s.vm.findClass own = some m.cls) {pc pc' : Nat} {Ls : Array Slot} {St : List Value} {C : String} {index n : Nat} (w : (Cond.classLink own index C).before a0 Z = true) (wi : (Cond.instantiable C n).before a0 Z = true) (wz : (Cond.initialized C).before a0 Z = true) (eT : T.heap = h) (hd : decode c.code pc = .ok (.new index, 3)) (hc : cells + 1 ≤ R.cells) (hl : slots + n ≤ R.slots) (hpc : pc + 3 = pc') (k : ∀ T' h' a, a = h.size → Stand p l e R s m args below meth c T' locs (cells + 1) (slots + n) → T'.heap = h' → Ext h h' → Exa Z h' a C → (∀ {O nm d : String} {ty : FieldType}, Laid Z a0 C O nm d → parseFieldDescriptor d = some ty → Fld Z h' a O nm d (defaultValue ty)) → KEnds p e below s Cn Sn Q T' (mkF m pc' Ls (.ref a :: St))) : KEnds p e below s Cn Sn Q T (mkF m pc Ls St) := by
  subst hpc
  obtain ⟨T', h', X', e', E', A', D', -, st⟩ := newO X hx hZ hown w wi wz eT (g := mkF m pc Ls St) rfl hd hc hl
  exact k_via st (k T' h' _ rfl X' e' E' A' D')
theorem k_initO (X : Stand p l e R s m args below meth c T locs cells slots) (hx : p.tables.exec = Jvm.exec) (hZ : Z.Warmed39 s.vm) (hown : s.vm.findClass own = some m.cls) {pc pc' : Nat} {Ls : Array Slot} {St : List Value} {idx : Nat} (w1 : (Cond.methodLink own idx Lib.objectInit).before a0 Z = true) (w2 : (Cond.instanceMethod Lib.objectInit).before a0 Z = true) (w3 : (Cond.code Lib.objectInit ⟨#[0xb1]⟩ 1 none).before a0 Z = true) (eT : T.heap = h) (hsize : Ls.size = c.maxLocals) {a : Addr} (hd : decode c.code pc = .ok (.invokespecial idx, 3)) (hf : 1 ≤ R.frames) {W : Nat} (hW : (St.map fun v => v.category).sum ≤ W) (hl : W + 12 ≤ R.locals) (hpc : pc + 3 = pc') (k : ∀ T', Stand p l e R s m args below meth c T' locs cells slots → T'.heap = h → KEnds p e below s Cn Sn Q T' (mkF m pc' Ls St)) : KEnds p e below s Cn Sn Q T (mkF m pc Ls (.ref a :: St)) := by
  subst hpc
  obtain ⟨T', X', e', st⟩ := initO X hx hZ hown w1 w2 w3 eT (g := mkF m pc Ls (.ref a :: St)) rfl hsize rfl hd hf (W := W) (by show 2 * 0 + _ ≤ _; omega) hl
  exact k_via st (k T' X' e')
theorem k_callV (X : Stand p l e R s m args below meth c T locs cells slots) (hx : p.tables.exec = Jvm.exec) (hZ : Z.Warmed39 s.vm) (hown : s.vm.findClass own = some m.cls) {pc pc' : Nat} {Ls : Array Slot} {St : List Value} {y : MethodName} {bytes : ByteArray} {maxL : Nat} {ret : Option FieldType} {rm : Room} {index W : Nat} {as' : Array Value} {Q' : Option Value → Heap → List Loc → Prop} {C : String} {a : Addr} (w1 : (Cond.methodLink own index y).before a0 Z = true) (w2 : (Cond.declares y).before a0 Z = true) (w3 : (Cond.selects C y y).before a0 Z = true) (w5 : (Cond.instanceMethod y).before a0 Z = true) (w6 : (Cond.initialized y.cls).before a0 Z = true) (w4 : (Cond.code y bytes maxL ret).before a0 Z = true) (hy : y.cls ≠ "java/lang/invoke/MethodHandle" ∧ y.cls ≠ "java/lang/invoke/VarHandle") (Ex : Exa Z h a C) (hM : MetFree l y (head1 [Cond.code y bytes maxL ret] rm) (fun a U => a = as' ∧ Z.Warmed39 U.vm ∧ U.heap = h) (fun _ _ _ _ _ => True) (fun _ U o U' => ∃ v L, o = .returned v ∧ Q' v U'.heap L ∧ FrameEnd U o U' L rm.cells rm.slots)) (hf : rm.frames + 1 ≤ R.frames) (hl : W + (maxL + 11) + rm.locals ≤ R.locals) (eT : T.heap = h) (hsize : Ls.size = c.maxLocals) {argsL rest : List Value} (hlen : ∀ sig, parseMethodDescriptor y.desc = some sig → argsL.length = sig.parameters.length) (hst : St = argsL.reverse ++ .ref a :: rest) (hW : (rest.map fun v => v.category).sum ≤ W) (has : (.ref a :: argsL).toArray = as') (hd : decode c.code pc = .ok (.invokevirtual index, 3)) (hce : cells + rm.cells ≤ R.cells) (hsl : slots + rm.slots ≤ R.slots) (hpc : pc + 3 = pc') (k : ∀ T' L v, Stand p l e R s m args below meth c T' (locs ++ L) (cells + rm.cells) (slots + rm.slots) → Q' v T'.heap L → KEnds p e below s Cn Sn Q T' (mkF m pc' Ls (v.toList ++ rest))) : KEnds p e below s Cn Sn Q T (mkF m pc Ls St) := by
  subst hpc
  obtain ⟨cq, kq, qa, qb, qc⟩ := isOf hZ eT Ex
  obtain ⟨v, _, ⟨T', L', k', n'⟩, -, X', ⟨Lc, hQ, l', y', z'⟩, st⟩ := X.virtualBack hx (y := y) (z := y) hown (mvT hZ w1) (mvT hZ w2) (notFace_of_selects (args := #[]) (mvT hZ w3)) (mvT hZ w3) (mvT hZ w5) hy (backOf (W := W) hM hZ w4 w6 hf hl) qa qc (g := mkF m pc Ls St) rfl hsize (Steps.refl _) hlen hst (by show 2 * 0 + _ ≤ _; omega) hd (fun _ _ => ⟨has, eT, hce, hsl⟩)
  dsimp only [Pt.U, Pt.locs, Pt.cells, Pt.slots] at X' l' y' z' st hQ
  subst l' y' z'
  exact k_via (fun t h => st.trans h) (k T' Lc v X' hQ)
theorem k_callI (X : Stand p l e R s m args below meth c T locs cells slots) (hx : p.tables.exec = Jvm.exec) (hZ : Z.Warmed39 s.vm) (hown : s.vm.findClass own = some m.cls) {pc pc' : Nat} {Ls : Array Slot} {St : List Value} {y : MethodName} {bytes : ByteArray} {maxL : Nat} {ret : Option FieldType} {rm : Room} {index W : Nat} {as' : Array Value} {Q' : Option Value → Heap → List Loc → Prop} {a : Addr} (hin : y.name = "<init>") (w1 : (Cond.methodLink own index y).before a0 Z = true) (w5 : (Cond.instanceMethod y).before a0 Z = true) (w6 : (Cond.initialized y.cls).before a0 Z = true) (w4 : (Cond.code y bytes maxL none).before a0 Z = true) (hr : ret = none) (hy : y.cls ≠ "java/lang/invoke/MethodHandle" ∧ y.cls ≠ "java/lang/invoke/VarHandle") (hM : MetFree l y (head1 [Cond.code y bytes maxL ret] rm) (fun a U => a = as' ∧ Z.Warmed39 U.vm ∧ U.heap = h) (fun _ _ _ _ _ => True) (fun _ U o U' => ∃ v L, o = .returned v ∧ Q' v U'.heap L ∧ FrameEnd U o U' L rm.cells rm.slots)) (hf : rm.frames + 1 ≤ R.frames) (hl : W + (maxL + 11) + rm.locals ≤ R.locals) (eT : T.heap = h) (hsize : Ls.size = c.maxLocals) {argsL rest : List Value} (hlen : ∀ sig, parseMethodDescriptor y.desc = some sig → argsL.length = sig.parameters.length) (hst : St = argsL.reverse ++ .ref a :: rest) (hW : (rest.map fun v => v.category).sum ≤ W) (has : (.ref a :: argsL).toArray = as') (hd : decode c.code pc = .ok (.invokespecial index, 3)) (hce : cells + rm.cells ≤ R.cells) (hsl : slots + rm.slots ≤ R.slots) (hpc : pc + 3 = pc') (k : ∀ T' L v, Stand p l e R s m args below meth c T' (locs ++ L) (cells + rm.cells) (slots + rm.slots) → Q' v T'.heap L → KEnds p e below s Cn Sn Q T' (mkF m pc' Ls (v.toList ++ rest))) : KEnds p e below s Cn Sn Q T (mkF m pc Ls St) := by
  subst hpc hr
  obtain ⟨v, _, ⟨T', L', k', n'⟩, -, X', ⟨Lc, hQ, l', y', z'⟩, st⟩ := X.specialBack hx (y := y) hin hown (mvT hZ w1) (mvT hZ w5) (mvT hZ w4) hy (backOf (W := W) hM hZ w4 w6 hf hl) (g := mkF m pc Ls St) rfl hsize (Steps.refl _) (a := a) hlen hst (by show 2 * 0 + _ ≤ _; omega) hd (fun _ _ => ⟨has, eT, hce, hsl⟩)
  dsimp only [Pt.U, Pt.locs, Pt.cells, Pt.slots] at X' l' y' z' st hQ
  subst l' y' z'
  exact k_via (fun t h => st.trans h) (k T' Lc v X' hQ)
end
end Jvm.OwnK
namespace Jvm.Pilot.@@N@@
open Jvm Jvm.ClassFile Sem Op Lib Jvm.Free Jvm.Stand Jvm.LawKit Jvm.RoadKit Jvm.OwnK Bundle Jvm.Pilot.@@N@@.Jvm.D
theorem d1_0 : decode prog_5_method_1_code 0 = .ok (.aload_n 0, 1) := by decide +kernel
theorem d1_1 : decode prog_5_method_1_code 1 = .ok (.invokespecial 1, 3) := by decide +kernel
theorem d1_4 : decode prog_5_method_1_code 4 = .ok (.return_, 1) := by decide +kernel
abbrev R1_4 : Room := { frames := 1, cells := 0, slots := 0, locals := 12 }
def Q1_4 (Z : State) (a1 : Addr) (h0 : Heap) (n0 : Nat) (v : Option Value) (h : Heap) (L : List Loc) : Prop := Fr n0 L ∧ h = h0 ∧ ((v = none))
theorem ef1_4 (m : MethodId) (x0 : Addr) : entryFrame m #[(.ref x0)] 1 = mkF m 0 #[.val (.ref x0)] [] := by first | (simp [entryFrame, mkF, argsToLocals, Value.category]; done) | rfl
theorem pn_0 : plainName "com/example/dendrotick/dendrotick/ClockWork" = true := by first | (simp [plainName, overriddenIn]; done) | decide +kernel
set_option maxRecDepth 65536 in
set_option maxHeartbeats 40000000 in
theorem rm1_4 (l : Launch) (Z : State) (a0 : Array Value) (hw : ∀ d ∈ tables_1, d.before a0 Z = true) (ws : List Jvm.Cond) (a1 : Addr) (h0 : Heap) (n0 : Nat) (Z0 : n0 ≤ h0.size)  :
    MetFree l (⟨"com/example/dendrotick/dendrotick/ClockWork", "<init>", "()V"⟩ : MethodName) (head1 (Jvm.Cond.code (⟨"com/example/dendrotick/dendrotick/ClockWork", "<init>", "()V"⟩ : MethodName) prog_5_method_1_code 1 none :: ws) R1_4) (fun a U => a = #[(.ref a1)] ∧ Z.Warmed39 U.vm ∧ U.heap = h0) (fun _ _ _ _ _ => True) (fun _ U o U' => ∃ v L, o = .returned v ∧ Q1_4 Z a1 h0 n0 v U'.heap L ∧ FrameEnd U o U' L R1_4.cells R1_4.slots) := by
 refine MetFree.of_bodySF (plainFor_of_name pn_0) hisR ?_
 intro p e s m args below meth c s₁ Bd hml0 hP hK
 obtain ⟨rfl, hZ, hh⟩ := hP
 have hx := Bd.exec
 have hby := Bd.bytes
 have hml : c.maxLocals = 1 := hml0
 have hlk : meth.locks = false := Bd.notSynchronized
 have hown : s.vm.findClass "com/example/dendrotick/dendrotick/ClockWork" = some m.cls := findClass_of_methodNamed Bd.named
 have hnm := (name_of_methodNamed Bd.named Bd.method).1
 have X0 : Stand p l e R1_4 s m #[(.ref a1)] below meth c s₁ [] 0 0 := Stand.of_body Bd
 have e0 : s₁.heap = h0 := by rw [← hh, Bd.state]; rfl
 have N0 := Fr.nil n0
 rw [ef1_4 m a1]
 show KEnds p e below s R1_4.cells R1_4.slots (Q1_4 Z a1 h0 n0) s₁ (mkF m 0 #[.val (.ref a1)] [])
 refine k_aloadN X0 hx (hb hby d1_0) rfl rfl (pc' := 1) rfl ?_
 refine k_initO X0 hx hZ hown (hw _ (List.mem_of_getElem? (i := 6) rfl)) (hw _ (List.mem_of_getElem? (i := 7) rfl)) (hw _ (List.mem_of_getElem? (i := 8) rfl)) e0 (by rw [hml]; rfl) (hb hby d1_1) (by decide) (W := 0) (by decide) (by decide) (pc' := 4) rfl (fun T5 X5 e5 => ?_)
 exact k_ret X5 hx Bd.returns (hb hby d1_4) hlk (by decide) (by decide) ⟨N0, e5, rfl⟩
theorem pd_0 : parseMethodDescriptor "()V" = some ⟨[], none⟩ := by decide +kernel
theorem d3_0 : decode prog_5_method_2_code 0 = .ok (.aload_n 0, 1) := by decide +kernel
theorem d3_1 : decode prog_5_method_2_code 1 = .ok (.getfield 7, 3) := by decide +kernel
theorem d3_4 : decode prog_5_method_2_code 4 = .ok (.lreturn, 1) := by decide +kernel
abbrev R3_7 : Room := { frames := 0, cells := 0, slots := 0, locals := 0 }
def Q3_7 (Z : State) (a1 : Addr) (h0 : Heap) (n0 : Nat) (v : Option Value) (h : Heap) (L : List Loc) : Prop := Fr n0 L ∧ h = h0 ∧ ((v = some (.long (0 : Int64))))
theorem ef3_7 (m : MethodId) (x0 : Addr) : entryFrame m #[(.ref x0)] 1 = mkF m 0 #[.val (.ref x0)] [] := by first | (simp [entryFrame, mkF, argsToLocals, Value.category]; done) | rfl
set_option maxRecDepth 65536 in
set_option maxHeartbeats 40000000 in
theorem rm3_7 (l : Launch) (Z : State) (a0 : Array Value) (hw : ∀ d ∈ tables_1, d.before a0 Z = true) (ws : List Jvm.Cond) (a1 : Addr) (h0 : Heap) (n0 : Nat) (Z0 : n0 ≤ h0.size) (F0_0 : Exa Z h0 a1 "com/example/dendrotick/dendrotick/ClockWork") (F0_1 : Fld Z h0 a1 "com/example/dendrotick/dendrotick/ClockWork" "changed" "J" (.long (0 : Int64))) (F0_2 : Fld Z h0 a1 "com/example/dendrotick/dendrotick/ClockWork" "examined" "J" (.long (0 : Int64))) :
    MetFree l (⟨"com/example/dendrotick/dendrotick/ClockWork", "vtWork", "()J"⟩ : MethodName) (head1 (Jvm.Cond.code (⟨"com/example/dendrotick/dendrotick/ClockWork", "vtWork", "()J"⟩ : MethodName) prog_5_method_2_code 1 (some .long) :: ws) R3_7) (fun a U => a = #[(.ref a1)] ∧ Z.Warmed39 U.vm ∧ U.heap = h0) (fun _ _ _ _ _ => True) (fun _ U o U' => ∃ v L, o = .returned v ∧ Q3_7 Z a1 h0 n0 v U'.heap L ∧ FrameEnd U o U' L R3_7.cells R3_7.slots) := by
 refine MetFree.of_bodySF (plainFor_of_name pn_0) hisR ?_
 intro p e s m args below meth c s₁ Bd hml0 hP hK
 obtain ⟨rfl, hZ, hh⟩ := hP
 have hx := Bd.exec
 have hby := Bd.bytes
 have hml : c.maxLocals = 1 := hml0
 have hlk : meth.locks = false := Bd.notSynchronized
 have hown : s.vm.findClass "com/example/dendrotick/dendrotick/ClockWork" = some m.cls := findClass_of_methodNamed Bd.named
 have hnm := (name_of_methodNamed Bd.named Bd.method).1
 have X0 : Stand p l e R3_7 s m #[(.ref a1)] below meth c s₁ [] 0 0 := Stand.of_body Bd
 have e0 : s₁.heap = h0 := by rw [← hh, Bd.state]; rfl
 have N0 := Fr.nil n0
 rw [ef3_7 m a1]
 show KEnds p e below s R3_7.cells R3_7.slots (Q3_7 Z a1 h0 n0) s₁ (mkF m 0 #[.val (.ref a1)] [])
 refine k_aloadN X0 hx (hb hby d3_0) rfl rfl (pc' := 1) rfl ?_
 refine k_getF X0 hx hZ hown (host := "") (Or.inl (hw _ (List.mem_of_getElem? (i := 14) rfl))) Via.refl e0 F0_1 (hb hby d3_1) (pc' := 4) rfl (fun T8 X8 e8 => ?_)
 exact k_retL X8 hx Bd.returns (hb hby d3_4) hlk (by decide) (by decide) ⟨N0, e8, rfl⟩
theorem pd_1 : parseMethodDescriptor "()J" = some ⟨[], some .long⟩ := by decide +kernel
theorem d4_0 : decode prog_5_method_3_code 0 = .ok (.aload_n 0, 1) := by decide +kernel
theorem d4_1 : decode prog_5_method_3_code 1 = .ok (.getfield 13, 3) := by decide +kernel
theorem d4_4 : decode prog_5_method_3_code 4 = .ok (.lreturn, 1) := by decide +kernel
abbrev R4_10 : Room := { frames := 0, cells := 0, slots := 0, locals := 0 }
def Q4_10 (Z : State) (a1 : Addr) (h0 : Heap) (n0 : Nat) (v : Option Value) (h : Heap) (L : List Loc) : Prop := Fr n0 L ∧ h = h0 ∧ ((v = some (.long (0 : Int64))))
theorem ef4_10 (m : MethodId) (x0 : Addr) : entryFrame m #[(.ref x0)] 1 = mkF m 0 #[.val (.ref x0)] [] := by first | (simp [entryFrame, mkF, argsToLocals, Value.category]; done) | rfl
set_option maxRecDepth 65536 in
set_option maxHeartbeats 40000000 in
theorem rm4_10 (l : Launch) (Z : State) (a0 : Array Value) (hw : ∀ d ∈ tables_1, d.before a0 Z = true) (ws : List Jvm.Cond) (a1 : Addr) (h0 : Heap) (n0 : Nat) (Z0 : n0 ≤ h0.size) (F0_0 : Exa Z h0 a1 "com/example/dendrotick/dendrotick/ClockWork") (F0_1 : Fld Z h0 a1 "com/example/dendrotick/dendrotick/ClockWork" "changed" "J" (.long (0 : Int64))) (F0_2 : Fld Z h0 a1 "com/example/dendrotick/dendrotick/ClockWork" "examined" "J" (.long (0 : Int64))) :
    MetFree l (⟨"com/example/dendrotick/dendrotick/ClockWork", "clockWork", "()J"⟩ : MethodName) (head1 (Jvm.Cond.code (⟨"com/example/dendrotick/dendrotick/ClockWork", "clockWork", "()J"⟩ : MethodName) prog_5_method_3_code 1 (some .long) :: ws) R4_10) (fun a U => a = #[(.ref a1)] ∧ Z.Warmed39 U.vm ∧ U.heap = h0) (fun _ _ _ _ _ => True) (fun _ U o U' => ∃ v L, o = .returned v ∧ Q4_10 Z a1 h0 n0 v U'.heap L ∧ FrameEnd U o U' L R4_10.cells R4_10.slots) := by
 refine MetFree.of_bodySF (plainFor_of_name pn_0) hisR ?_
 intro p e s m args below meth c s₁ Bd hml0 hP hK
 obtain ⟨rfl, hZ, hh⟩ := hP
 have hx := Bd.exec
 have hby := Bd.bytes
 have hml : c.maxLocals = 1 := hml0
 have hlk : meth.locks = false := Bd.notSynchronized
 have hown : s.vm.findClass "com/example/dendrotick/dendrotick/ClockWork" = some m.cls := findClass_of_methodNamed Bd.named
 have hnm := (name_of_methodNamed Bd.named Bd.method).1
 have X0 : Stand p l e R4_10 s m #[(.ref a1)] below meth c s₁ [] 0 0 := Stand.of_body Bd
 have e0 : s₁.heap = h0 := by rw [← hh, Bd.state]; rfl
 have N0 := Fr.nil n0
 rw [ef4_10 m a1]
 show KEnds p e below s R4_10.cells R4_10.slots (Q4_10 Z a1 h0 n0) s₁ (mkF m 0 #[.val (.ref a1)] [])
 refine k_aloadN X0 hx (hb hby d4_0) rfl rfl (pc' := 1) rfl ?_
 refine k_getF X0 hx hZ hown (host := "") (Or.inl (hw _ (List.mem_of_getElem? (i := 21) rfl))) Via.refl e0 F0_2 (hb hby d4_1) (pc' := 4) rfl (fun T11 X11 e11 => ?_)
 exact k_retL X11 hx Bd.returns (hb hby d4_4) hlk (by decide) (by decide) ⟨N0, e11, rfl⟩
theorem d5_0 : decode prog_5_method_5_code 0 = .ok (.aload_n 0, 1) := by decide +kernel
theorem d5_1 : decode prog_5_method_5_code 1 = .ok (.dup, 1) := by decide +kernel
theorem d5_2 : decode prog_5_method_5_code 2 = .ok (.getfield 13, 3) := by decide +kernel
theorem d5_5 : decode prog_5_method_5_code 5 = .ok (.iload_n 1, 1) := by decide +kernel
theorem d5_6 : decode prog_5_method_5_code 6 = .ok (.i2l, 1) := by decide +kernel
theorem d5_7 : decode prog_5_method_5_code 7 = .ok (.ladd, 1) := by decide +kernel
theorem d5_8 : decode prog_5_method_5_code 8 = .ok (.putfield 13, 3) := by decide +kernel
theorem d5_11 : decode prog_5_method_5_code 11 = .ok (.return_, 1) := by decide +kernel
abbrev R5_13 : Room := { frames := 0, cells := 0, slots := 0, locals := 0 }
def Q5_13 (Z : State) (a1 : Addr) (p2 : Int32) (h0 : Heap) (n0 : Nat) (v : Option Value) (h : Heap) (L : List Loc) : Prop := Fr n0 L ∧ ((∃ (v15 : Int64), v15 = p2.toInt64 ∧ v = none ∧ Exa Z h a1 "com/example/dendrotick/dendrotick/ClockWork" ∧ Fld Z h a1 "com/example/dendrotick/dendrotick/ClockWork" "changed" "J" (.long (0 : Int64)) ∧ Fld Z h a1 "com/example/dendrotick/dendrotick/ClockWork" "examined" "J" (.long v15) ∧ n0 ≤ h.size))
theorem ef5_13 (m : MethodId) (x0 : Addr) (x1 : Int32) : entryFrame m #[(.ref x0), (.int x1)] 2 = mkF m 0 #[.val (.ref x0), .val (.int x1)] [] := by first | (simp [entryFrame, mkF, argsToLocals, Value.category]; done) | rfl
set_option maxRecDepth 65536 in
set_option maxHeartbeats 40000000 in
theorem rm5_13 (l : Launch) (Z : State) (a0 : Array Value) (hw : ∀ d ∈ tables_1, d.before a0 Z = true) (ws : List Jvm.Cond) (a1 : Addr) (p2 : Int32) (h0 : Heap) (n0 : Nat) (Z0 : n0 ≤ h0.size) (F0_0 : Exa Z h0 a1 "com/example/dendrotick/dendrotick/ClockWork") (F0_1 : Fld Z h0 a1 "com/example/dendrotick/dendrotick/ClockWork" "changed" "J" (.long (0 : Int64))) (F0_2 : Fld Z h0 a1 "com/example/dendrotick/dendrotick/ClockWork" "examined" "J" (.long (0 : Int64))) (g_a1 : n0 ≤ a1) :
    MetFree l (⟨"com/example/dendrotick/dendrotick/ClockWork", "addExamined", "(I)V"⟩ : MethodName) (head1 (Jvm.Cond.code (⟨"com/example/dendrotick/dendrotick/ClockWork", "addExamined", "(I)V"⟩ : MethodName) prog_5_method_5_code 2 none :: ws) R5_13) (fun a U => a = #[(.ref a1), (.int p2)] ∧ Z.Warmed39 U.vm ∧ U.heap = h0) (fun _ _ _ _ _ => True) (fun _ U o U' => ∃ v L, o = .returned v ∧ Q5_13 Z a1 p2 h0 n0 v U'.heap L ∧ FrameEnd U o U' L R5_13.cells R5_13.slots) := by
 refine MetFree.of_bodySF (plainFor_of_name pn_0) hisR ?_
 intro p e s m args below meth c s₁ Bd hml0 hP hK
 obtain ⟨rfl, hZ, hh⟩ := hP
 have hx := Bd.exec
 have hby := Bd.bytes
 have hml : c.maxLocals = 2 := hml0
 have hlk : meth.locks = false := Bd.notSynchronized
 have hown : s.vm.findClass "com/example/dendrotick/dendrotick/ClockWork" = some m.cls := findClass_of_methodNamed Bd.named
 have hnm := (name_of_methodNamed Bd.named Bd.method).1
 have X0 : Stand p l e R5_13 s m #[(.ref a1), (.int p2)] below meth c s₁ [] 0 0 := Stand.of_body Bd
 have e0 : s₁.heap = h0 := by rw [← hh, Bd.state]; rfl
 have N0 := Fr.nil n0
 rw [ef5_13 m a1 p2]
 show KEnds p e below s R5_13.cells R5_13.slots (Q5_13 Z a1 p2 h0 n0) s₁ (mkF m 0 #[.val (.ref a1), .val (.int p2)] [])
 refine k_aloadN X0 hx (hb hby d5_0) rfl rfl (pc' := 1) rfl ?_
 refine k_dup X0 hx (hb hby d5_1) rfl (pc' := 2) rfl ?_
 refine k_getF X0 hx hZ hown (host := "") (Or.inl (hw _ (List.mem_of_getElem? (i := 21) rfl))) Via.refl e0 F0_2 (hb hby d5_2) (pc' := 5) rfl (fun T14 X14 e14 => ?_)
 refine k_iloadN X14 hx (hb hby d5_5) rfl (pc' := 6) rfl ?_
 refine k_i2l X14 hx (hb hby d5_6) (pc' := 7) rfl (fun v15 hv15 => ?_)
 refine k_laddL X14 hx (hb hby d5_7) (pc' := 8) rfl (z := v15) (Int64.zero_add _) ?_
 refine k_putF X14 hx hZ hown (host := "") (Or.inl (hw _ (List.mem_of_getElem? (i := 21) rfl))) Via.refl e14 F0_2 F0_0 (Or.inl (hw _ (List.mem_of_getElem? (i := 22) rfl))) (hw _ (List.mem_of_getElem? (i := 1) rfl)) (ty := .long) (by decide) rfl rfl (hb hby d5_8) (pc' := 11) rfl (fun T16 h16 X16 e16 W16 => ?_)
 have Fw16 : Fld Z h16 a1 "com/example/dendrotick/dendrotick/ClockWork" "examined" "J" (.long v15) := F0_2.same W16
 have N16 := Fr.snoc X16 N0 g_a1
 have Z16 : n0 ≤ h16.size := Nat.le_trans Z0 (Nat.le_of_eq W16.size.symm)
 have F17 := (F0_0.wr W16)
 have F18 := (F0_1.other W16 (Or.inr (slot_ne (Or.inl (hw _ (List.mem_of_getElem? (i := 15) rfl))) (Or.inl (hw _ (List.mem_of_getElem? (i := 22) rfl))) (by decide) (t := .long) (t' := .long) (by decide) (by decide))))
 exact k_ret X16 hx Bd.returns (hb hby d5_11) hlk (by decide) (by decide) (by rw [e16]; exact ⟨N16, ⟨v15, hv15, rfl, F17, F18, Fw16, Z16⟩⟩)
theorem pd_2 : parseMethodDescriptor "(I)V" = some ⟨[.int], none⟩ := by decide +kernel
theorem d6_0 : decode prog_5_method_4_code 0 = .ok (.aload_n 0, 1) := by decide +kernel
theorem d6_1 : decode prog_5_method_4_code 1 = .ok (.dup, 1) := by decide +kernel
theorem d6_2 : decode prog_5_method_4_code 2 = .ok (.getfield 7, 3) := by decide +kernel
theorem d6_5 : decode prog_5_method_4_code 5 = .ok (.iload_n 1, 1) := by decide +kernel
theorem d6_6 : decode prog_5_method_4_code 6 = .ok (.i2l, 1) := by decide +kernel
theorem d6_7 : decode prog_5_method_4_code 7 = .ok (.ladd, 1) := by decide +kernel
theorem d6_8 : decode prog_5_method_4_code 8 = .ok (.putfield 7, 3) := by decide +kernel
theorem d6_11 : decode prog_5_method_4_code 11 = .ok (.return_, 1) := by decide +kernel
abbrev R6_26 : Room := { frames := 0, cells := 0, slots := 0, locals := 0 }
def Q6_26 (Z : State) (a1 : Addr) (p2 : Int32) (p3 : Int64) (h0 : Heap) (n0 : Nat) (v : Option Value) (h : Heap) (L : List Loc) : Prop := Fr n0 L ∧ ((∃ (v28 : Int64), v28 = p2.toInt64 ∧ v = none ∧ Exa Z h a1 "com/example/dendrotick/dendrotick/ClockWork" ∧ Fld Z h a1 "com/example/dendrotick/dendrotick/ClockWork" "changed" "J" (.long v28) ∧ Fld Z h a1 "com/example/dendrotick/dendrotick/ClockWork" "examined" "J" (.long p3) ∧ n0 ≤ h.size))
theorem ef6_26 (m : MethodId) (x0 : Addr) (x1 : Int32) : entryFrame m #[(.ref x0), (.int x1)] 2 = mkF m 0 #[.val (.ref x0), .val (.int x1)] [] := by first | (simp [entryFrame, mkF, argsToLocals, Value.category]; done) | rfl
set_option maxRecDepth 65536 in
set_option maxHeartbeats 40000000 in
theorem rm6_26 (l : Launch) (Z : State) (a0 : Array Value) (hw : ∀ d ∈ tables_1, d.before a0 Z = true) (ws : List Jvm.Cond) (a1 : Addr) (p2 : Int32) (p3 : Int64) (h0 : Heap) (n0 : Nat) (Z0 : n0 ≤ h0.size) (F0_0 : Exa Z h0 a1 "com/example/dendrotick/dendrotick/ClockWork") (F0_1 : Fld Z h0 a1 "com/example/dendrotick/dendrotick/ClockWork" "changed" "J" (.long (0 : Int64))) (F0_2 : Fld Z h0 a1 "com/example/dendrotick/dendrotick/ClockWork" "examined" "J" (.long p3)) (g_a1 : n0 ≤ a1) :
    MetFree l (⟨"com/example/dendrotick/dendrotick/ClockWork", "addChanged", "(I)V"⟩ : MethodName) (head1 (Jvm.Cond.code (⟨"com/example/dendrotick/dendrotick/ClockWork", "addChanged", "(I)V"⟩ : MethodName) prog_5_method_4_code 2 none :: ws) R6_26) (fun a U => a = #[(.ref a1), (.int p2)] ∧ Z.Warmed39 U.vm ∧ U.heap = h0) (fun _ _ _ _ _ => True) (fun _ U o U' => ∃ v L, o = .returned v ∧ Q6_26 Z a1 p2 p3 h0 n0 v U'.heap L ∧ FrameEnd U o U' L R6_26.cells R6_26.slots) := by
 refine MetFree.of_bodySF (plainFor_of_name pn_0) hisR ?_
 intro p e s m args below meth c s₁ Bd hml0 hP hK
 obtain ⟨rfl, hZ, hh⟩ := hP
 have hx := Bd.exec
 have hby := Bd.bytes
 have hml : c.maxLocals = 2 := hml0
 have hlk : meth.locks = false := Bd.notSynchronized
 have hown : s.vm.findClass "com/example/dendrotick/dendrotick/ClockWork" = some m.cls := findClass_of_methodNamed Bd.named
 have hnm := (name_of_methodNamed Bd.named Bd.method).1
 have X0 : Stand p l e R6_26 s m #[(.ref a1), (.int p2)] below meth c s₁ [] 0 0 := Stand.of_body Bd
 have e0 : s₁.heap = h0 := by rw [← hh, Bd.state]; rfl
 have N0 := Fr.nil n0
 rw [ef6_26 m a1 p2]
 show KEnds p e below s R6_26.cells R6_26.slots (Q6_26 Z a1 p2 p3 h0 n0) s₁ (mkF m 0 #[.val (.ref a1), .val (.int p2)] [])
 refine k_aloadN X0 hx (hb hby d6_0) rfl rfl (pc' := 1) rfl ?_
 refine k_dup X0 hx (hb hby d6_1) rfl (pc' := 2) rfl ?_
 refine k_getF X0 hx hZ hown (host := "") (Or.inl (hw _ (List.mem_of_getElem? (i := 14) rfl))) Via.refl e0 F0_1 (hb hby d6_2) (pc' := 5) rfl (fun T27 X27 e27 => ?_)
 refine k_iloadN X27 hx (hb hby d6_5) rfl (pc' := 6) rfl ?_
 refine k_i2l X27 hx (hb hby d6_6) (pc' := 7) rfl (fun v28 hv28 => ?_)
 refine k_laddL X27 hx (hb hby d6_7) (pc' := 8) rfl (z := v28) (Int64.zero_add _) ?_
 refine k_putF X27 hx hZ hown (host := "") (Or.inl (hw _ (List.mem_of_getElem? (i := 14) rfl))) Via.refl e27 F0_1 F0_0 (Or.inl (hw _ (List.mem_of_getElem? (i := 15) rfl))) (hw _ (List.mem_of_getElem? (i := 1) rfl)) (ty := .long) (by decide) rfl rfl (hb hby d6_8) (pc' := 11) rfl (fun T29 h29 X29 e29 W29 => ?_)
 have Fw29 : Fld Z h29 a1 "com/example/dendrotick/dendrotick/ClockWork" "changed" "J" (.long v28) := F0_1.same W29
 have N29 := Fr.snoc X29 N0 g_a1
 have Z29 : n0 ≤ h29.size := Nat.le_trans Z0 (Nat.le_of_eq W29.size.symm)
 have F30 := (F0_0.wr W29)
 have F31 := (F0_2.other W29 (Or.inr (slot_ne (Or.inl (hw _ (List.mem_of_getElem? (i := 22) rfl))) (Or.inl (hw _ (List.mem_of_getElem? (i := 15) rfl))) (by decide) (t := .long) (t' := .long) (by decide) (by decide))))
 exact k_ret X29 hx Bd.returns (hb hby d6_11) hlk (by decide) (by decide) (by rw [e29]; exact ⟨N29, ⟨v28, hv28, rfl, F30, Fw29, F31, Z29⟩⟩)
abbrev R3_39 : Room := { frames := 0, cells := 0, slots := 0, locals := 0 }
def Q3_39 (Z : State) (a1 : Addr) (p2 : Int64) (p3 : Int64) (h0 : Heap) (n0 : Nat) (v : Option Value) (h : Heap) (L : List Loc) : Prop := Fr n0 L ∧ h = h0 ∧ ((v = some (.long p2)))
theorem ef3_39 (m : MethodId) (x0 : Addr) : entryFrame m #[(.ref x0)] 1 = mkF m 0 #[.val (.ref x0)] [] := by first | (simp [entryFrame, mkF, argsToLocals, Value.category]; done) | rfl
set_option maxRecDepth 65536 in
set_option maxHeartbeats 40000000 in
theorem rm3_39 (l : Launch) (Z : State) (a0 : Array Value) (hw : ∀ d ∈ tables_1, d.before a0 Z = true) (ws : List Jvm.Cond) (a1 : Addr) (p2 : Int64) (p3 : Int64) (h0 : Heap) (n0 : Nat) (Z0 : n0 ≤ h0.size) (F0_0 : Exa Z h0 a1 "com/example/dendrotick/dendrotick/ClockWork") (F0_1 : Fld Z h0 a1 "com/example/dendrotick/dendrotick/ClockWork" "changed" "J" (.long p2)) (F0_2 : Fld Z h0 a1 "com/example/dendrotick/dendrotick/ClockWork" "examined" "J" (.long p3)) :
    MetFree l (⟨"com/example/dendrotick/dendrotick/ClockWork", "vtWork", "()J"⟩ : MethodName) (head1 (Jvm.Cond.code (⟨"com/example/dendrotick/dendrotick/ClockWork", "vtWork", "()J"⟩ : MethodName) prog_5_method_2_code 1 (some .long) :: ws) R3_39) (fun a U => a = #[(.ref a1)] ∧ Z.Warmed39 U.vm ∧ U.heap = h0) (fun _ _ _ _ _ => True) (fun _ U o U' => ∃ v L, o = .returned v ∧ Q3_39 Z a1 p2 p3 h0 n0 v U'.heap L ∧ FrameEnd U o U' L R3_39.cells R3_39.slots) := by
 refine MetFree.of_bodySF (plainFor_of_name pn_0) hisR ?_
 intro p e s m args below meth c s₁ Bd hml0 hP hK
 obtain ⟨rfl, hZ, hh⟩ := hP
 have hx := Bd.exec
 have hby := Bd.bytes
 have hml : c.maxLocals = 1 := hml0
 have hlk : meth.locks = false := Bd.notSynchronized
 have hown : s.vm.findClass "com/example/dendrotick/dendrotick/ClockWork" = some m.cls := findClass_of_methodNamed Bd.named
 have hnm := (name_of_methodNamed Bd.named Bd.method).1
 have X0 : Stand p l e R3_39 s m #[(.ref a1)] below meth c s₁ [] 0 0 := Stand.of_body Bd
 have e0 : s₁.heap = h0 := by rw [← hh, Bd.state]; rfl
 have N0 := Fr.nil n0
 rw [ef3_39 m a1]
 show KEnds p e below s R3_39.cells R3_39.slots (Q3_39 Z a1 p2 p3 h0 n0) s₁ (mkF m 0 #[.val (.ref a1)] [])
 refine k_aloadN X0 hx (hb hby d3_0) rfl rfl (pc' := 1) rfl ?_
 refine k_getF X0 hx hZ hown (host := "") (Or.inl (hw _ (List.mem_of_getElem? (i := 14) rfl))) Via.refl e0 F0_1 (hb hby d3_1) (pc' := 4) rfl (fun T40 X40 e40 => ?_)
 exact k_retL X40 hx Bd.returns (hb hby d3_4) hlk (by decide) (by decide) ⟨N0, e40, rfl⟩
abbrev R4_42 : Room := { frames := 0, cells := 0, slots := 0, locals := 0 }
def Q4_42 (Z : State) (a1 : Addr) (p2 : Int64) (p3 : Int64) (h0 : Heap) (n0 : Nat) (v : Option Value) (h : Heap) (L : List Loc) : Prop := Fr n0 L ∧ h = h0 ∧ ((v = some (.long p3)))
theorem ef4_42 (m : MethodId) (x0 : Addr) : entryFrame m #[(.ref x0)] 1 = mkF m 0 #[.val (.ref x0)] [] := by first | (simp [entryFrame, mkF, argsToLocals, Value.category]; done) | rfl
set_option maxRecDepth 65536 in
set_option maxHeartbeats 40000000 in
theorem rm4_42 (l : Launch) (Z : State) (a0 : Array Value) (hw : ∀ d ∈ tables_1, d.before a0 Z = true) (ws : List Jvm.Cond) (a1 : Addr) (p2 : Int64) (p3 : Int64) (h0 : Heap) (n0 : Nat) (Z0 : n0 ≤ h0.size) (F0_0 : Exa Z h0 a1 "com/example/dendrotick/dendrotick/ClockWork") (F0_1 : Fld Z h0 a1 "com/example/dendrotick/dendrotick/ClockWork" "changed" "J" (.long p2)) (F0_2 : Fld Z h0 a1 "com/example/dendrotick/dendrotick/ClockWork" "examined" "J" (.long p3)) :
    MetFree l (⟨"com/example/dendrotick/dendrotick/ClockWork", "clockWork", "()J"⟩ : MethodName) (head1 (Jvm.Cond.code (⟨"com/example/dendrotick/dendrotick/ClockWork", "clockWork", "()J"⟩ : MethodName) prog_5_method_3_code 1 (some .long) :: ws) R4_42) (fun a U => a = #[(.ref a1)] ∧ Z.Warmed39 U.vm ∧ U.heap = h0) (fun _ _ _ _ _ => True) (fun _ U o U' => ∃ v L, o = .returned v ∧ Q4_42 Z a1 p2 p3 h0 n0 v U'.heap L ∧ FrameEnd U o U' L R4_42.cells R4_42.slots) := by
 refine MetFree.of_bodySF (plainFor_of_name pn_0) hisR ?_
 intro p e s m args below meth c s₁ Bd hml0 hP hK
 obtain ⟨rfl, hZ, hh⟩ := hP
 have hx := Bd.exec
 have hby := Bd.bytes
 have hml : c.maxLocals = 1 := hml0
 have hlk : meth.locks = false := Bd.notSynchronized
 have hown : s.vm.findClass "com/example/dendrotick/dendrotick/ClockWork" = some m.cls := findClass_of_methodNamed Bd.named
 have hnm := (name_of_methodNamed Bd.named Bd.method).1
 have X0 : Stand p l e R4_42 s m #[(.ref a1)] below meth c s₁ [] 0 0 := Stand.of_body Bd
 have e0 : s₁.heap = h0 := by rw [← hh, Bd.state]; rfl
 have N0 := Fr.nil n0
 rw [ef4_42 m a1]
 show KEnds p e below s R4_42.cells R4_42.slots (Q4_42 Z a1 p2 p3 h0 n0) s₁ (mkF m 0 #[.val (.ref a1)] [])
 refine k_aloadN X0 hx (hb hby d4_0) rfl rfl (pc' := 1) rfl ?_
 refine k_getF X0 hx hZ hown (host := "") (Or.inl (hw _ (List.mem_of_getElem? (i := 21) rfl))) Via.refl e0 F0_2 (hb hby d4_1) (pc' := 4) rfl (fun T43 X43 e43 => ?_)
 exact k_retL X43 hx Bd.returns (hb hby d4_4) hlk (by decide) (by decide) ⟨N0, e43, rfl⟩
abbrev R6_45 : Room := { frames := 0, cells := 0, slots := 0, locals := 0 }
def Q6_45 (Z : State) (a1 : Addr) (p2 : Int32) (p3 : Int64) (p4 : Int64) (h0 : Heap) (n0 : Nat) (v : Option Value) (h : Heap) (L : List Loc) : Prop := Fr n0 L ∧ ((∃ (v47 : Int64) (v48 : Int64), v47 = p2.toInt64 ∧ v48 = p3 + v47 ∧ v = none ∧ Exa Z h a1 "com/example/dendrotick/dendrotick/ClockWork" ∧ Fld Z h a1 "com/example/dendrotick/dendrotick/ClockWork" "changed" "J" (.long v48) ∧ Fld Z h a1 "com/example/dendrotick/dendrotick/ClockWork" "examined" "J" (.long p4) ∧ n0 ≤ h.size))
theorem ef6_45 (m : MethodId) (x0 : Addr) (x1 : Int32) : entryFrame m #[(.ref x0), (.int x1)] 2 = mkF m 0 #[.val (.ref x0), .val (.int x1)] [] := by first | (simp [entryFrame, mkF, argsToLocals, Value.category]; done) | rfl
set_option maxRecDepth 65536 in
set_option maxHeartbeats 40000000 in
theorem rm6_45 (l : Launch) (Z : State) (a0 : Array Value) (hw : ∀ d ∈ tables_1, d.before a0 Z = true) (ws : List Jvm.Cond) (a1 : Addr) (p2 : Int32) (p3 : Int64) (p4 : Int64) (h0 : Heap) (n0 : Nat) (Z0 : n0 ≤ h0.size) (F0_0 : Exa Z h0 a1 "com/example/dendrotick/dendrotick/ClockWork") (F0_1 : Fld Z h0 a1 "com/example/dendrotick/dendrotick/ClockWork" "changed" "J" (.long p3)) (F0_2 : Fld Z h0 a1 "com/example/dendrotick/dendrotick/ClockWork" "examined" "J" (.long p4)) (g_a1 : n0 ≤ a1) :
    MetFree l (⟨"com/example/dendrotick/dendrotick/ClockWork", "addChanged", "(I)V"⟩ : MethodName) (head1 (Jvm.Cond.code (⟨"com/example/dendrotick/dendrotick/ClockWork", "addChanged", "(I)V"⟩ : MethodName) prog_5_method_4_code 2 none :: ws) R6_45) (fun a U => a = #[(.ref a1), (.int p2)] ∧ Z.Warmed39 U.vm ∧ U.heap = h0) (fun _ _ _ _ _ => True) (fun _ U o U' => ∃ v L, o = .returned v ∧ Q6_45 Z a1 p2 p3 p4 h0 n0 v U'.heap L ∧ FrameEnd U o U' L R6_45.cells R6_45.slots) := by
 refine MetFree.of_bodySF (plainFor_of_name pn_0) hisR ?_
 intro p e s m args below meth c s₁ Bd hml0 hP hK
 obtain ⟨rfl, hZ, hh⟩ := hP
 have hx := Bd.exec
 have hby := Bd.bytes
 have hml : c.maxLocals = 2 := hml0
 have hlk : meth.locks = false := Bd.notSynchronized
 have hown : s.vm.findClass "com/example/dendrotick/dendrotick/ClockWork" = some m.cls := findClass_of_methodNamed Bd.named
 have hnm := (name_of_methodNamed Bd.named Bd.method).1
 have X0 : Stand p l e R6_45 s m #[(.ref a1), (.int p2)] below meth c s₁ [] 0 0 := Stand.of_body Bd
 have e0 : s₁.heap = h0 := by rw [← hh, Bd.state]; rfl
 have N0 := Fr.nil n0
 rw [ef6_45 m a1 p2]
 show KEnds p e below s R6_45.cells R6_45.slots (Q6_45 Z a1 p2 p3 p4 h0 n0) s₁ (mkF m 0 #[.val (.ref a1), .val (.int p2)] [])
 refine k_aloadN X0 hx (hb hby d6_0) rfl rfl (pc' := 1) rfl ?_
 refine k_dup X0 hx (hb hby d6_1) rfl (pc' := 2) rfl ?_
 refine k_getF X0 hx hZ hown (host := "") (Or.inl (hw _ (List.mem_of_getElem? (i := 14) rfl))) Via.refl e0 F0_1 (hb hby d6_2) (pc' := 5) rfl (fun T46 X46 e46 => ?_)
 refine k_iloadN X46 hx (hb hby d6_5) rfl (pc' := 6) rfl ?_
 refine k_i2l X46 hx (hb hby d6_6) (pc' := 7) rfl (fun v47 hv47 => ?_)
 refine k_ladd X46 hx (hb hby d6_7) (pc' := 8) rfl (fun v48 hv48 => ?_)
 refine k_putF X46 hx hZ hown (host := "") (Or.inl (hw _ (List.mem_of_getElem? (i := 14) rfl))) Via.refl e46 F0_1 F0_0 (Or.inl (hw _ (List.mem_of_getElem? (i := 15) rfl))) (hw _ (List.mem_of_getElem? (i := 1) rfl)) (ty := .long) (by decide) rfl rfl (hb hby d6_8) (pc' := 11) rfl (fun T49 h49 X49 e49 W49 => ?_)
 have Fw49 : Fld Z h49 a1 "com/example/dendrotick/dendrotick/ClockWork" "changed" "J" (.long v48) := F0_1.same W49
 have N49 := Fr.snoc X49 N0 g_a1
 have Z49 : n0 ≤ h49.size := Nat.le_trans Z0 (Nat.le_of_eq W49.size.symm)
 have F50 := (F0_0.wr W49)
 have F51 := (F0_2.other W49 (Or.inr (slot_ne (Or.inl (hw _ (List.mem_of_getElem? (i := 22) rfl))) (Or.inl (hw _ (List.mem_of_getElem? (i := 15) rfl))) (by decide) (t := .long) (t' := .long) (by decide) (by decide))))
 exact k_ret X49 hx Bd.returns (hb hby d6_11) hlk (by decide) (by decide) (by rw [e49]; exact ⟨N49, ⟨v47, v48, hv47, hv48, rfl, F50, Fw49, F51, Z49⟩⟩)
theorem ef0 (m : MethodId) (x0 : Int32) (x1 : Int32) (x2 : Int32) : entryFrame m #[(.int x0), (.int x1), (.int x2)] maxLocals = mkF m 0 #[.val (.int x0), .val (.int x1), .val (.int x2), .unset, .unset, .unset, .unset, .unset, .unset, .unset, .unset, .unset, .unset, .unset, .unset] [] := by first | (simp [entryFrame, mkF, argsToLocals, Value.category, maxLocals]; done) | rfl
theorem pn_1 : plainName "com/example/dendrotick/dendrotick/ClockWorkAddChangedPinLaw" = true := by first | (simp [plainName, overriddenIn]; done) | decide +kernel
def Q0 (n0 : Nat) (v : Option Value) (h : Heap) (L : List Loc) : Prop := v = some (.int 1) ∧ Fr n0 L
set_option maxRecDepth 65536 in
set_option maxHeartbeats 40000000 in
theorem rm0 (l : Launch) (Z : State) (a0 : Array Value) (hw : ∀ d ∈ tables_1, d.before a0 Z = true) (ws : List Jvm.Cond) (i0 : Int32) (i1 : Int32) (i2 : Int32) (h0 : Heap) (n0 : Nat) (Z0 : n0 ≤ h0.size) :
    MetFree l x (head1 (Jvm.Cond.code x code maxLocals ret :: ws) room_1) (fun a U => a = #[(.int i0), (.int i1), (.int i2)] ∧ Z.Warmed39 U.vm ∧ U.heap = h0) (fun _ _ _ _ _ => True) (fun _ U o U' => ∃ v L, o = .returned v ∧ Q0 n0 v U'.heap L ∧ FrameEnd U o U' L 16 128) := by
 refine MetFree.of_bodySF (plainFor_of_name pn_1) hisR ?_
 intro p e s m args below meth c s₁ Bd hml0 hP hK
 obtain ⟨rfl, hZ, hh⟩ := hP
 have hx := Bd.exec
 have hby := Bd.bytes
 have hml : c.maxLocals = 15 := hml0
 have hlk : meth.locks = false := Bd.notSynchronized
 have hown : s.vm.findClass "com/example/dendrotick/dendrotick/ClockWorkAddChangedPinLaw" = some m.cls := findClass_of_methodNamed Bd.named
 have hnm := (name_of_methodNamed Bd.named Bd.method).1
 have X0 : Stand p l e room_1 s m #[(.int i0), (.int i1), (.int i2)] below meth c s₁ [] 0 0 := Stand.of_body Bd
 have e0 : s₁.heap = h0 := by rw [← hh, Bd.state]; rfl
 have N0 := Fr.nil n0
 rw [show entryFrame m #[(.int i0), (.int i1), (.int i2)] maxLocals = _ from ef0 m i0 i1 i2]
 show KEnds p e below s 16 128 (Q0 n0) s₁ (mkF m 0 #[.val (.int i0), .val (.int i1), .val (.int i2), .unset, .unset, .unset, .unset, .unset, .unset, .unset, .unset, .unset, .unset, .unset, .unset] [])
 refine k_newO X0 hx hZ hown (hw _ (List.mem_of_getElem? (i := 0) rfl)) (hw _ (List.mem_of_getElem? (i := 1) rfl)) (hw _ (List.mem_of_getElem? (i := 2) rfl)) e0 (hb hby at_0) (by decide) (by decide) (pc' := 3) rfl (fun T1 h1 b1 g1 X1 e1 E1 A1 D1 => ?_)
 have g_b1 : n0 ≤ b1 := Nat.le_trans Z0 (Nat.le_of_eq g1.symm)
 have Z1 : n0 ≤ h1.size := Nat.le_trans Z0 E1.1
 have F2 : Fld Z h1 b1 "com/example/dendrotick/dendrotick/ClockWork" "changed" "J" (.long (0 : Int64)) := D1 (Or.inl (hw _ (List.mem_of_getElem? (i := 15) rfl))) (ty := .long) (by decide)
 have F3 : Fld Z h1 b1 "com/example/dendrotick/dendrotick/ClockWork" "examined" "J" (.long (0 : Int64)) := D1 (Or.inl (hw _ (List.mem_of_getElem? (i := 22) rfl))) (ty := .long) (by decide)
 refine k_dup X1 hx (hb hby at_3) rfl (pc' := 4) rfl ?_
 refine k_callI X1 hx hZ hown (a := b1) rfl (hw _ (List.mem_of_getElem? (i := 3) rfl)) (hw _ (List.mem_of_getElem? (i := 4) rfl)) (hw _ (List.mem_of_getElem? (i := 2) rfl)) (hw _ (List.mem_of_getElem? (i := 5) rfl)) rfl (by decide) (rm1_4 l Z a0 hw [] b1 h1 n0 Z1 ) (by decide) (by decide) e1 (by rw [hml]; rfl) (argsL := []) (rest := [(.ref b1)]) (lenOf pd_0 rfl) rfl (W := 1) (Nat.le_refl _) rfl (hb hby at_4) (by decide) (by decide) (pc' := 7) rfl (fun T6 L6 r6 X6 q6 => ?_)
 obtain ⟨N6, e6, q6⟩ := q6
 have N6' := Fr.app N0 N6
 obtain rfl := q6
 show KEnds p e below s _ _ _ T6 (mkF m 7 #[.val (.int i0), .val (.int i1), .val (.int i2), .unset, .unset, .unset, .unset, .unset, .unset, .unset, .unset, .unset, .unset, .unset, .unset] [(.ref b1)])
 refine k_astoreN X6 hx (hb hby at_7) rfl (Ls' := #[.val (.int i0), .val (.int i1), .val (.int i2), .val (.ref b1), .unset, .unset, .unset, .unset, .unset, .unset, .unset, .unset, .unset, .unset, .unset]) rfl (pc' := 8) rfl ?_
 refine k_aloadN X6 hx (hb hby at_8) rfl rfl (pc' := 9) rfl ?_
 refine k_callV X6 hx hZ hown (a := b1) (hw _ (List.mem_of_getElem? (i := 9) rfl)) (hw _ (List.mem_of_getElem? (i := 10) rfl)) (hw _ (List.mem_of_getElem? (i := 12) rfl)) (hw _ (List.mem_of_getElem? (i := 11) rfl)) (hw _ (List.mem_of_getElem? (i := 2) rfl)) (hw _ (List.mem_of_getElem? (i := 13) rfl)) (by decide) A1 (rm3_7 l Z a0 hw [] b1 h1 n0 Z1 A1 F2 F3) (by decide) (by decide) e6 (by rw [hml]; rfl) (argsL := []) (rest := []) (lenOf pd_1 rfl) rfl (W := 0) (Nat.le_refl _) rfl (hb hby at_9) (by decide) (by decide) (pc' := 12) rfl (fun T9 L9 r9 X9 q9 => ?_)
 obtain ⟨N9, e9, q9⟩ := q9
 have N9' := Fr.app N6' N9
 obtain rfl := q9
 show KEnds p e below s _ _ _ T9 (mkF m 12 #[.val (.int i0), .val (.int i1), .val (.int i2), .val (.ref b1), .unset, .unset, .unset, .unset, .unset, .unset, .unset, .unset, .unset, .unset, .unset] [(.long (0 : Int64))])
 refine k_lconst X9 hx (hb hby at_12) (pc' := 13) rfl (z := (0 : Int64)) rfl ?_
 refine k_lcif_ne X9 hx (hb hby at_13) (pm := 14) rfl (hb hby at_14) (pn := 17) rfl (py := 30) (by decide) (fun hc => absurd (by decide) hc) (fun _ => ?_)
 refine k_aloadN X9 hx (hb hby at_17) rfl rfl (pc' := 18) rfl ?_
 refine k_callV X9 hx hZ hown (a := b1) (hw _ (List.mem_of_getElem? (i := 16) rfl)) (hw _ (List.mem_of_getElem? (i := 17) rfl)) (hw _ (List.mem_of_getElem? (i := 19) rfl)) (hw _ (List.mem_of_getElem? (i := 18) rfl)) (hw _ (List.mem_of_getElem? (i := 2) rfl)) (hw _ (List.mem_of_getElem? (i := 20) rfl)) (by decide) A1 (rm4_10 l Z a0 hw [] b1 h1 n0 Z1 A1 F2 F3) (by decide) (by decide) e9 (by rw [hml]; rfl) (argsL := []) (rest := []) (lenOf pd_1 rfl) rfl (W := 0) (Nat.le_refl _) rfl (hb hby at_18) (by decide) (by decide) (pc' := 21) rfl (fun T12 L12 r12 X12 q12 => ?_)
 obtain ⟨N12, e12, q12⟩ := q12
 have N12' := Fr.app N9' N12
 obtain rfl := q12
 show KEnds p e below s _ _ _ T12 (mkF m 21 #[.val (.int i0), .val (.int i1), .val (.int i2), .val (.ref b1), .unset, .unset, .unset, .unset, .unset, .unset, .unset, .unset, .unset, .unset, .unset] [(.long (0 : Int64))])
 refine k_lconst X12 hx (hb hby at_21) (pc' := 22) rfl (z := (0 : Int64)) rfl ?_
 refine k_lcif_ne X12 hx (hb hby at_22) (pm := 23) rfl (hb hby at_23) (pn := 26) rfl (py := 30) (by decide) (fun hc => absurd (by decide) hc) (fun _ => ?_)
 refine k_iconst X12 hx (hb hby at_26) (pc' := 27) rfl (z := (1 : Int32)) rfl ?_
 refine k_goto X12 hx (hb hby at_27) (pc' := 31) (by decide) ?_
 refine k_istore X12 hx (hb hby at_31) (Ls' := #[.val (.int i0), .val (.int i1), .val (.int i2), .val (.ref b1), .val (.int (1 : Int32)), .unset, .unset, .unset, .unset, .unset, .unset, .unset, .unset, .unset, .unset]) rfl (pc' := 33) rfl ?_
 refine k_aloadN X12 hx (hb hby at_33) rfl rfl (pc' := 34) rfl ?_
 refine k_iloadN X12 hx (hb hby at_34) rfl (pc' := 35) rfl ?_
 refine k_callV X12 hx hZ hown (a := b1) (hw _ (List.mem_of_getElem? (i := 23) rfl)) (hw _ (List.mem_of_getElem? (i := 24) rfl)) (hw _ (List.mem_of_getElem? (i := 26) rfl)) (hw _ (List.mem_of_getElem? (i := 25) rfl)) (hw _ (List.mem_of_getElem? (i := 2) rfl)) (hw _ (List.mem_of_getElem? (i := 27) rfl)) (by decide) A1 (rm5_13 l Z a0 hw [] b1 i2 h1 n0 Z1 A1 F2 F3 g_b1) (by decide) (by decide) e12 (by rw [hml]; rfl) (argsL := [(.int i2)]) (rest := []) (lenOf pd_2 rfl) rfl (W := 0) (Nat.le_refl _) rfl (hb hby at_35) (by decide) (by decide) (pc' := 38) rfl (fun T19 L19 r19 X19 q19 => ?_)
 obtain ⟨N19, q19⟩ := q19
 have N19' := Fr.app N12' N19
 obtain ⟨v20, h21, rfl, F22, F23, F24, Z25⟩ := q19
 show KEnds p e below s _ _ _ T19 (mkF m 38 #[.val (.int i0), .val (.int i1), .val (.int i2), .val (.ref b1), .val (.int (1 : Int32)), .unset, .unset, .unset, .unset, .unset, .unset, .unset, .unset, .unset, .unset] [])
 refine k_aloadN X19 hx (hb hby at_38) rfl rfl (pc' := 39) rfl ?_
 refine k_iloadN X19 hx (hb hby at_39) rfl (pc' := 40) rfl ?_
 refine k_callV X19 hx hZ hown (a := b1) (hw _ (List.mem_of_getElem? (i := 28) rfl)) (hw _ (List.mem_of_getElem? (i := 29) rfl)) (hw _ (List.mem_of_getElem? (i := 31) rfl)) (hw _ (List.mem_of_getElem? (i := 30) rfl)) (hw _ (List.mem_of_getElem? (i := 2) rfl)) (hw _ (List.mem_of_getElem? (i := 32) rfl)) (by decide) F22 (rm6_26 l Z a0 hw [] b1 i0 v20 T19.heap n0 Z25 F22 F23 F24 g_b1) (by decide) (by decide) rfl (by rw [hml]; rfl) (argsL := [(.int i0)]) (rest := []) (lenOf pd_2 rfl) rfl (W := 0) (Nat.le_refl _) rfl (hb hby at_40) (by decide) (by decide) (pc' := 43) rfl (fun T32 L32 r32 X32 q32 => ?_)
 obtain ⟨N32, q32⟩ := q32
 have N32' := Fr.app N19' N32
 obtain ⟨v33, h34, rfl, F35, F36, F37, Z38⟩ := q32
 show KEnds p e below s _ _ _ T32 (mkF m 43 #[.val (.int i0), .val (.int i1), .val (.int i2), .val (.ref b1), .val (.int (1 : Int32)), .unset, .unset, .unset, .unset, .unset, .unset, .unset, .unset, .unset, .unset] [])
 refine k_aloadN X32 hx (hb hby at_43) rfl rfl (pc' := 44) rfl ?_
 refine k_callV X32 hx hZ hown (a := b1) (hw _ (List.mem_of_getElem? (i := 9) rfl)) (hw _ (List.mem_of_getElem? (i := 10) rfl)) (hw _ (List.mem_of_getElem? (i := 12) rfl)) (hw _ (List.mem_of_getElem? (i := 11) rfl)) (hw _ (List.mem_of_getElem? (i := 2) rfl)) (hw _ (List.mem_of_getElem? (i := 13) rfl)) (by decide) F35 (rm3_39 l Z a0 hw [] b1 v33 v20 T32.heap n0 Z38 F35 F36 F37) (by decide) (by decide) rfl (by rw [hml]; rfl) (argsL := []) (rest := []) (lenOf pd_1 rfl) rfl (W := 0) (Nat.le_refl _) rfl (hb hby at_44) (by decide) (by decide) (pc' := 47) rfl (fun T41 L41 r41 X41 q41 => ?_)
 obtain ⟨N41, e41, q41⟩ := q41
 have N41' := Fr.app N32' N41
 obtain rfl := q41
 show KEnds p e below s _ _ _ T41 (mkF m 47 #[.val (.int i0), .val (.int i1), .val (.int i2), .val (.ref b1), .val (.int (1 : Int32)), .unset, .unset, .unset, .unset, .unset, .unset, .unset, .unset, .unset, .unset] [(.long v33)])
 refine k_lstore X41 hx (hb hby at_47) (Ls' := #[.val (.int i0), .val (.int i1), .val (.int i2), .val (.ref b1), .val (.int (1 : Int32)), .val (.long v33), .second, .unset, .unset, .unset, .unset, .unset, .unset, .unset, .unset]) rfl (pc' := 49) rfl ?_
 refine k_aloadN X41 hx (hb hby at_49) rfl rfl (pc' := 50) rfl ?_
 refine k_callV X41 hx hZ hown (a := b1) (hw _ (List.mem_of_getElem? (i := 16) rfl)) (hw _ (List.mem_of_getElem? (i := 17) rfl)) (hw _ (List.mem_of_getElem? (i := 19) rfl)) (hw _ (List.mem_of_getElem? (i := 18) rfl)) (hw _ (List.mem_of_getElem? (i := 2) rfl)) (hw _ (List.mem_of_getElem? (i := 20) rfl)) (by decide) F35 (rm4_42 l Z a0 hw [] b1 v33 v20 T32.heap n0 Z38 F35 F36 F37) (by decide) (by decide) e41 (by rw [hml]; rfl) (argsL := []) (rest := []) (lenOf pd_1 rfl) rfl (W := 0) (Nat.le_refl _) rfl (hb hby at_50) (by decide) (by decide) (pc' := 53) rfl (fun T44 L44 r44 X44 q44 => ?_)
 obtain ⟨N44, e44, q44⟩ := q44
 have N44' := Fr.app N41' N44
 obtain rfl := q44
 show KEnds p e below s _ _ _ T44 (mkF m 53 #[.val (.int i0), .val (.int i1), .val (.int i2), .val (.ref b1), .val (.int (1 : Int32)), .val (.long v33), .second, .unset, .unset, .unset, .unset, .unset, .unset, .unset, .unset] [(.long v20)])
 refine k_lstore X44 hx (hb hby at_53) (Ls' := #[.val (.int i0), .val (.int i1), .val (.int i2), .val (.ref b1), .val (.int (1 : Int32)), .val (.long v33), .second, .val (.long v20), .second, .unset, .unset, .unset, .unset, .unset, .unset]) rfl (pc' := 55) rfl ?_
 refine k_aloadN X44 hx (hb hby at_55) rfl rfl (pc' := 56) rfl ?_
 refine k_iloadN X44 hx (hb hby at_56) rfl (pc' := 57) rfl ?_
 refine k_callV X44 hx hZ hown (a := b1) (hw _ (List.mem_of_getElem? (i := 28) rfl)) (hw _ (List.mem_of_getElem? (i := 29) rfl)) (hw _ (List.mem_of_getElem? (i := 31) rfl)) (hw _ (List.mem_of_getElem? (i := 30) rfl)) (hw _ (List.mem_of_getElem? (i := 2) rfl)) (hw _ (List.mem_of_getElem? (i := 32) rfl)) (by decide) F35 (rm6_45 l Z a0 hw [] b1 i1 v33 v20 T32.heap n0 Z38 F35 F36 F37 g_b1) (by decide) (by decide) e44 (by rw [hml]; rfl) (argsL := [(.int i1)]) (rest := []) (lenOf pd_2 rfl) rfl (W := 0) (Nat.le_refl _) rfl (hb hby at_57) (by decide) (by decide) (pc' := 60) rfl (fun T52 L52 r52 X52 q52 => ?_)
 obtain ⟨N52, q52⟩ := q52
 have N52' := Fr.app N44' N52
 obtain ⟨v53, v54, h55, h56, rfl, F57, F58, F59, Z60⟩ := q52
 show KEnds p e below s _ _ _ T52 (mkF m 60 #[.val (.int i0), .val (.int i1), .val (.int i2), .val (.ref b1), .val (.int (1 : Int32)), .val (.long v33), .second, .val (.long v20), .second, .unset, .unset, .unset, .unset, .unset, .unset] [])
 refine k_aloadN X52 hx (hb hby at_60) rfl rfl (pc' := 61) rfl ?_
 refine k_callV X52 hx hZ hown (a := b1) (hw _ (List.mem_of_getElem? (i := 9) rfl)) (hw _ (List.mem_of_getElem? (i := 10) rfl)) (hw _ (List.mem_of_getElem? (i := 12) rfl)) (hw _ (List.mem_of_getElem? (i := 11) rfl)) (hw _ (List.mem_of_getElem? (i := 2) rfl)) (hw _ (List.mem_of_getElem? (i := 13) rfl)) (by decide) F57 (rm3_39 l Z a0 hw [] b1 v54 v20 T52.heap n0 Z60 F57 F58 F59) (by decide) (by decide) rfl (by rw [hml]; rfl) (argsL := []) (rest := []) (lenOf pd_1 rfl) rfl (W := 0) (Nat.le_refl _) rfl (hb hby at_61) (by decide) (by decide) (pc' := 64) rfl (fun T61 L61 r61 X61 q61 => ?_)
 obtain ⟨N61, e61, q61⟩ := q61
 have N61' := Fr.app N52' N61
 obtain rfl := q61
 show KEnds p e below s _ _ _ T61 (mkF m 64 #[.val (.int i0), .val (.int i1), .val (.int i2), .val (.ref b1), .val (.int (1 : Int32)), .val (.long v33), .second, .val (.long v20), .second, .unset, .unset, .unset, .unset, .unset, .unset] [(.long v54)])
 refine k_lstore X61 hx (hb hby at_64) (Ls' := #[.val (.int i0), .val (.int i1), .val (.int i2), .val (.ref b1), .val (.int (1 : Int32)), .val (.long v33), .second, .val (.long v20), .second, .val (.long v54), .second, .unset, .unset, .unset, .unset]) rfl (pc' := 66) rfl ?_
 refine k_aloadN X61 hx (hb hby at_66) rfl rfl (pc' := 67) rfl ?_
 refine k_callV X61 hx hZ hown (a := b1) (hw _ (List.mem_of_getElem? (i := 16) rfl)) (hw _ (List.mem_of_getElem? (i := 17) rfl)) (hw _ (List.mem_of_getElem? (i := 19) rfl)) (hw _ (List.mem_of_getElem? (i := 18) rfl)) (hw _ (List.mem_of_getElem? (i := 2) rfl)) (hw _ (List.mem_of_getElem? (i := 20) rfl)) (by decide) F57 (rm4_42 l Z a0 hw [] b1 v54 v20 T52.heap n0 Z60 F57 F58 F59) (by decide) (by decide) e61 (by rw [hml]; rfl) (argsL := []) (rest := []) (lenOf pd_1 rfl) rfl (W := 0) (Nat.le_refl _) rfl (hb hby at_67) (by decide) (by decide) (pc' := 70) rfl (fun T62 L62 r62 X62 q62 => ?_)
 obtain ⟨N62, e62, q62⟩ := q62
 have N62' := Fr.app N61' N62
 obtain rfl := q62
 show KEnds p e below s _ _ _ T62 (mkF m 70 #[.val (.int i0), .val (.int i1), .val (.int i2), .val (.ref b1), .val (.int (1 : Int32)), .val (.long v33), .second, .val (.long v20), .second, .val (.long v54), .second, .unset, .unset, .unset, .unset] [(.long v20)])
 refine k_lstore X62 hx (hb hby at_70) (Ls' := #[.val (.int i0), .val (.int i1), .val (.int i2), .val (.ref b1), .val (.int (1 : Int32)), .val (.long v33), .second, .val (.long v20), .second, .val (.long v54), .second, .val (.long v20), .second, .unset, .unset]) rfl (pc' := 72) rfl ?_
 refine k_iloadN X62 hx (hb hby at_72) rfl (pc' := 73) rfl ?_
 refine k_i2lL X62 hx (hb hby at_73) (pc' := 74) rfl (z := v33) h34.symm ?_
 refine k_iloadN X62 hx (hb hby at_74) rfl (pc' := 75) rfl ?_
 refine k_i2lL X62 hx (hb hby at_75) (pc' := 76) rfl (z := v53) h55.symm ?_
 refine k_laddL X62 hx (hb hby at_76) (pc' := 77) rfl (z := v54) h56.symm ?_
 refine k_lstore X62 hx (hb hby at_77) (Ls' := #[.val (.int i0), .val (.int i1), .val (.int i2), .val (.ref b1), .val (.int (1 : Int32)), .val (.long v33), .second, .val (.long v20), .second, .val (.long v54), .second, .val (.long v20), .second, .val (.long v54), .second]) rfl (pc' := 79) rfl ?_
 refine k_iload X62 hx (hb hby at_79) rfl (pc' := 81) rfl ?_
 refine k_if_eq X62 hx (hb hby at_81) (pn := 84) rfl (py := 120) (by decide) (fun hc => absurd hc (by decide)) (fun _ => ?_)
 refine k_lload X62 hx (hb hby at_84) rfl (pc' := 86) rfl ?_
 refine k_iloadN X62 hx (hb hby at_86) rfl (pc' := 87) rfl ?_
 refine k_i2lL X62 hx (hb hby at_87) (pc' := 88) rfl (z := v33) h34.symm ?_
 refine k_lcif_ne X62 hx (hb hby at_88) (pm := 89) rfl (hb hby at_89) (pn := 92) rfl (py := 120) (by decide) (fun hc => absurd rfl hc) (fun _ => ?_)
 refine k_lload X62 hx (hb hby at_92) rfl (pc' := 94) rfl ?_
 refine k_lload X62 hx (hb hby at_94) rfl (pc' := 96) rfl ?_
 refine k_lcif_ne X62 hx (hb hby at_96) (pm := 97) rfl (hb hby at_97) (pn := 100) rfl (py := 120) (by decide) (fun hc => absurd rfl hc) (fun _ => ?_)
 refine k_lload X62 hx (hb hby at_100) rfl (pc' := 102) rfl ?_
 refine k_iloadN X62 hx (hb hby at_102) rfl (pc' := 103) rfl ?_
 refine k_i2lL X62 hx (hb hby at_103) (pc' := 104) rfl (z := v20) h21.symm ?_
 refine k_lcif_ne X62 hx (hb hby at_104) (pm := 105) rfl (hb hby at_105) (pn := 108) rfl (py := 120) (by decide) (fun hc => absurd rfl hc) (fun _ => ?_)
 refine k_lload X62 hx (hb hby at_108) rfl (pc' := 110) rfl ?_
 refine k_iloadN X62 hx (hb hby at_110) rfl (pc' := 111) rfl ?_
 refine k_i2lL X62 hx (hb hby at_111) (pc' := 112) rfl (z := v20) h21.symm ?_
 refine k_lcif_ne X62 hx (hb hby at_112) (pm := 113) rfl (hb hby at_113) (pn := 116) rfl (py := 120) (by decide) (fun hc => absurd rfl hc) (fun _ => ?_)
 refine k_iconst X62 hx (hb hby at_116) (pc' := 117) rfl (z := (1 : Int32)) rfl ?_
 refine k_goto X62 hx (hb hby at_117) (pc' := 121) (by decide) ?_
 exact k_retN X62 hx (t := .boolean) Bd.returns (by simp) (hb hby at_121) hlk (by decide) (by decide) (z' := (1 : Int32)) rfl ⟨rfl, N62'⟩
set_option maxRecDepth 65536 in
set_option maxHeartbeats 40000000 in
theorem comes_1 {Post : Tables → Env → Array Value → State → Outcome → State → Prop} (hpost : ∀ tb e args s v u, (limb_1_1.after args s (.returned v) u = true ∧ limb_1_2.after args s (.returned v) u = true ∧ True) → FrameEnd s (.returned v) u (Jvm.fieldLocs frame_1_writes args s ++ Jvm.arrayLocs frame_1_arrays args s ++ Jvm.staticLocs frame_1_statics s) 16 128 → Post tb e args s (.returned v) u) :
    ArmFor flags0 classFile x code maxLocals ret World_1 tables_1 room_1 Calls_1 rest_1 Pre_1 Post := by
  intro l hfl _ _ p e ha hc hk s m args below hf hA hF happ hP
  obtain ⟨hcalls, hrest, hpre⟩ := hP
  obtain ⟨-, -, -, hnamed, -, -, -, hat⟩ := (Spec.applies_iff hf).mp happ
  obtain ⟨hg, hn⟩ := and_e (Cond.before_iff.mp (show (Jvm.Cond.and given_1 narrow_1).before args s = true from hpre))
  obtain ⟨g63, g64⟩ := and_e hg
  obtain ⟨g65, g66⟩ := and_e g64
  obtain ⟨g67, g68⟩ := and_e g66
  obtain ⟨w0, w1, w2, rfl⟩ : ∃ w0 w1 w2 : Value, args = #[w0, w1, w2] := by
    have hs : args.size = 3 := by simpa [Cond.value, given_1] using g63
    obtain ⟨L⟩ := args
    match L, hs with
    | [w0, w1, w2], _ => exact ⟨w0, w1, w2, rfl⟩
  have hw := fun d (hd : d ∈ tables_1) => atoms_spec (ws := Jvm.Cond.code x code maxLocals ret :: tables_1) hat d (List.mem_cons_of_mem _ hd)
  obtain ⟨i0, ei0⟩ := is_v g65
  obtain rfl : w0 = (.int i0) := Option.some.inj ei0
  obtain ⟨i1, ei1⟩ := is_v g67
  obtain rfl : w1 = (.int i1) := Option.some.inj ei1
  obtain ⟨i2, ei2⟩ := is_v g68
  obtain rfl : w2 = (.int i2) := Option.some.inj ei2
  obtain ⟨n, o, h1, h2, h3, _, L, rfl, ⟨rfl, N⟩, hq⟩ := rm0 l s _ hw tables_1 i0 i1 i2 s.heap s.heap.size (Nat.le_refl _) p e ha hc hk s m _ below hf ((Spec.applies_iff_loose hf).mp happ).1 ⟨rfl, State.Warmed39.refl s, rfl⟩ trivial
  refine ⟨n, _, h1, h2, h3, hpost _ _ _ _ _ _ ⟨Cond.after_iff.mpr rfl, Cond.after_iff.mpr (eq_i res_at (Term.int_eval (1)) rfl), trivial⟩ ⟨hq.1, hq.2.1, (hq.2.2.sift fun y hy => Or.inr (N y hy)).mono (by decide) (by decide)⟩⟩
theorem main_1_1 : Claimed_1_1 := comes_1 fun _ _ _ _ _ _ h hF => ⟨h.1, hF⟩
theorem main_1_2 : Claimed_1_2 := comes_1 fun _ _ _ _ _ _ h hF => ⟨h.2.1, hF⟩
end Jvm.Pilot.@@N@@
namespace Jvm.Pilot.@@N@@
open Jvm Jvm.ClassFile Sem Op Lib Jvm.Free Jvm.Stand Jvm.Pilot.@@N@@.Jvm.D
/-! MADE BY PROGRAM (witnessworld.py) out of the Statement's table words and the real class files: 9 classes; the members and pool entries that the words name. The judged class is class 1, her method 1. -/
namespace start1
open Jvm.ClassFile
def u (s : String) : CpInfo := .utf8 (stringToUtf16 s)
/-- a pool by its gaps: so many unusable entries, then the entry; so many at the end -/
def gap : Nat → List CpInfo → List CpInfo
  | 0, r => r
  | n + 1, r => .unusable :: gap n r
def poolList (es : List (Nat × CpInfo)) (last : Nat) : List CpInfo := es.foldr (fun e r => gap e.1 (e.2 :: r)) (gap last [])
def pool (es : List (Nat × CpInfo)) (last : Nat) : Array CpInfo := ⟨poolList es last⟩
def fileOf (pool : Array CpInfo) (this : Nat) (attrs : Array Attribute := #[]) (ms : Array MethodInfo := #[]) (fl : Nat := 33) (sup : Nat := 0) (ifs : Array Nat := #[]) (fds : Array FieldInfo := #[]) : ClassFile where
  minorVersion := 0
  majorVersion := 65
  constantPool := pool
  accessFlags := fl
  thisClass := this
  superClass := sup
  interfaces := ifs
  fields := fds
  methods := ms
  attributes := attrs
def plain (name : String) (sup : Option ClassId) : Class where
  name := name
  kind := .ordinary
  loader := none
  accessFlags := 33
  super := sup
  interfaces := #[]
  cf := none
  fields := #[]
  methods := #[]
  instanceTypes := #[]
  staticTypes := #[]
  resolved := #[]
  callSites := []
  init := .initialized
  statics := none
  mirror := none

def pool0 : Array CpInfo := pool [(5, u "<init>"), (0, u "()V"), (1, .class_ 10), (1, u "java/lang/Object")] 113

def k0c0 : Code := { maxStack := 0, maxLocals := 1, code := object_method_1_code, exceptionTable := #[], attributes := #[] }
def k0m0 : Method := { name := "<init>", desc := "()V", sig := { parameters := [], returnType := none }, accessFlags := 1, code := some k0c0 }
/-- java/lang/Object -/
def k0 : Class := { plain "java/lang/Object" none with
  accessFlags := 33
  interfaces := #[]
  cf := some (fileOf pool0 8 #[] #[{ accessFlags := 1, nameIndex := 5, descriptorIndex := 6, attributes := #[] }] 33 0 #[] #[])
  fields := #[]
  methods := #[k0m0]
  instanceTypes := #[]
  staticTypes := #[]
  resolved := Array.replicate 124 none
  statics := none }

def pool1 : Array CpInfo := pool [(2, .class_ 4), (0, .nameAndType 5 6), (0, u "java/lang/Object"), (0, u "<init>"), (0, u "()V"), (0, .class_ 8), (0, u "com/example/dendrotick/dendrotick/ClockWork"), (0, .methodref 7 3), (0, .methodref 7 11), (0, .nameAndType 12 13), (0, u "vtWork"), (0, u "()J"), (0, .methodref 7 15), (0, .nameAndType 16 13), (0, u "clockWork"), (0, .methodref 7 18), (0, .nameAndType 19 20), (0, u "addExamined"), (0, u "(I)V"), (0, .methodref 7 22), (0, .nameAndType 23 20), (0, u "addChanged"), (0, .class_ 25), (0, u "com/example/dendrotick/dendrotick/ClockWorkAddChangedPinLaw"), (2, u "law"), (0, u "(III)Z")] 3

def k1m0 : Method := { name := "<init>", desc := "()V", sig := { parameters := [], returnType := none }, accessFlags := 1, code := none }
def k1c1 : Code := { maxStack := 4, maxLocals := 15, code := code, exceptionTable := #[], attributes := #[] }
def k1m1 : Method := { name := "law", desc := "(III)Z", sig := { parameters := [.int, .int, .int], returnType := some .boolean }, accessFlags := 9, code := some k1c1 }
/-- com/example/dendrotick/dendrotick/ClockWorkAddChangedPinLaw -/
def k1 : Class := { plain "com/example/dendrotick/dendrotick/ClockWorkAddChangedPinLaw" (some 0) with
  accessFlags := 49
  interfaces := #[]
  cf := some (fileOf pool1 24 #[] #[{ accessFlags := 1, nameIndex := 5, descriptorIndex := 6, attributes := #[] }, { accessFlags := 9, nameIndex := 28, descriptorIndex := 29, attributes := #[] }] 49 2 #[] #[])
  fields := #[]
  methods := #[k1m0, k1m1]
  instanceTypes := #[]
  staticTypes := #[]
  resolved := Array.replicate 33 none
  statics := none }

def pool2 : Array CpInfo := pool [(1, .methodref 2 3), (0, .class_ 4), (0, .nameAndType 5 6), (0, u "java/lang/Object"), (0, u "<init>"), (0, u "()V"), (0, .fieldref 8 9), (0, .class_ 10), (0, .nameAndType 11 12), (0, u "com/example/dendrotick/dendrotick/ClockWork"), (0, u "changed"), (0, u "J"), (0, .fieldref 8 14), (0, .nameAndType 15 12), (0, u "examined"), (2, u "vtWork"), (0, u "()J"), (0, u "clockWork"), (0, u "addChanged"), (0, u "(I)V"), (0, u "addExamined")] 2

def k2c0 : Code := { maxStack := 1, maxLocals := 1, code := prog_5_method_1_code, exceptionTable := #[], attributes := #[] }
def k2m0 : Method := { name := "<init>", desc := "()V", sig := { parameters := [], returnType := none }, accessFlags := 1, code := some k2c0 }
def k2c1 : Code := { maxStack := 2, maxLocals := 1, code := prog_5_method_2_code, exceptionTable := #[], attributes := #[] }
def k2m1 : Method := { name := "vtWork", desc := "()J", sig := { parameters := [], returnType := some .long }, accessFlags := 1, code := some k2c1 }
def k2c2 : Code := { maxStack := 2, maxLocals := 1, code := prog_5_method_3_code, exceptionTable := #[], attributes := #[] }
def k2m2 : Method := { name := "clockWork", desc := "()J", sig := { parameters := [], returnType := some .long }, accessFlags := 1, code := some k2c2 }
def k2c3 : Code := { maxStack := 5, maxLocals := 2, code := prog_5_method_4_code, exceptionTable := #[], attributes := #[] }
def k2m3 : Method := { name := "addChanged", desc := "(I)V", sig := { parameters := [.int], returnType := none }, accessFlags := 0, code := some k2c3 }
def k2c4 : Code := { maxStack := 5, maxLocals := 2, code := prog_5_method_5_code, exceptionTable := #[], attributes := #[] }
def k2m4 : Method := { name := "addExamined", desc := "(I)V", sig := { parameters := [.int], returnType := none }, accessFlags := 0, code := some k2c4 }
/-- com/example/dendrotick/dendrotick/ClockWork -/
def k2 : Class := { plain "com/example/dendrotick/dendrotick/ClockWork" (some 0) with
  accessFlags := 49
  interfaces := #[]
  cf := some (fileOf pool2 8 #[] #[{ accessFlags := 1, nameIndex := 5, descriptorIndex := 6, attributes := #[] }, { accessFlags := 1, nameIndex := 18, descriptorIndex := 19, attributes := #[] }, { accessFlags := 1, nameIndex := 20, descriptorIndex := 19, attributes := #[] }, { accessFlags := 0, nameIndex := 21, descriptorIndex := 22, attributes := #[] }, { accessFlags := 0, nameIndex := 23, descriptorIndex := 22, attributes := #[] }] 49 2 #[] #[{ accessFlags := 2, nameIndex := 11, descriptorIndex := 12, attributes := #[] }, { accessFlags := 2, nameIndex := 15, descriptorIndex := 12, attributes := #[] }])
  fields := #[{ name := "changed", type := .long, accessFlags := 2, slot := 0, constantValue := 0 }, { name := "examined", type := .long, accessFlags := 2, slot := 1, constantValue := 0 }]
  methods := #[k2m0, k2m1, k2m2, k2m3, k2m4]
  instanceTypes := #[.long, .long]
  staticTypes := #[]
  resolved := Array.replicate 26 none
  statics := none }

def pool3 : Array CpInfo := pool [(1, u "java/lang/Cloneable"), (0, .class_ 1), (0, u "java/lang/Object"), (0, .class_ 3)] 3

/-- java/lang/Cloneable -/
def k3 : Class := { plain "java/lang/Cloneable" (some 0) with
  accessFlags := 1537
  interfaces := #[]
  cf := some (fileOf pool3 2 #[] #[] 1537 4 #[] #[])
  fields := #[]
  methods := #[]
  instanceTypes := #[]
  staticTypes := #[]
  resolved := Array.replicate 8 none
  statics := none }

def pool4 : Array CpInfo := pool [(1, u "java/io/Serializable"), (0, .class_ 1), (0, u "java/lang/Object"), (0, .class_ 3)] 3

/-- java/io/Serializable -/
def k4 : Class := { plain "java/io/Serializable" (some 0) with
  accessFlags := 1537
  interfaces := #[]
  cf := some (fileOf pool4 2 #[] #[] 1537 4 #[] #[])
  fields := #[]
  methods := #[]
  instanceTypes := #[]
  staticTypes := #[]
  resolved := Array.replicate 8 none
  statics := none }

/-- the primitive byte -/
def k5 : Class := { plain "byte" none with kind := .primitive 'B', accessFlags := 0x411 }
/-- [B -/
def k6 : Class := { plain "[B" (some 0) with kind := .array 5 .byte, interfaces := #[3, 4], accessFlags := 1041 }

/-- the primitive int -/
def k7 : Class := { plain "int" none with kind := .primitive 'I', accessFlags := 0x411 }
/-- [I -/
def k8 : Class := { plain "[I" (some 0) with kind := .array 7 .int, interfaces := #[3, 4], accessFlags := 1041 }

def heap : Heap := #[]
def classes : Array Class := #[k0, k1, k2, k3, k4, k5, k6, k7, k8]
def interned : List (Array UInt16 × Addr) := []
def slotsUsed : Nat := 0
def theMethod : MethodId := ⟨1, 1⟩
def args0 : Array Value := #[.int 1, .int 2, .int 3]
def aboutOver (below : List Frame) : State where
  vm := { classes := classes, interned := interned.toArray }
  heap := heap
  slotsUsed := slotsUsed
  threads := #[{ frames := .invoking theMethod args0 :: below }]
def below0 : List Frame := [.native { method := ⟨0, 0⟩, args := #[] }]
def about1 : State := aboutOver below0
def p0 : Program := .bare "" "" ""
def e0 : Env := launch0.env 0 0 0
theorem w_frames : about1.frames = Frame.invoking theMethod args0 :: below0 := rfl
set_option maxRecDepth 65536 in
theorem w_args : argsFit about1.vm theMethod args0 = true := by decide +kernel
set_option maxRecDepth 65536 in
theorem w_heap : heapFits about1 = true := by decide +kernel
set_option maxRecDepth 65536 in
theorem w_runnable : about1.curStatus? = some .runnable := by decide +kernel
set_option maxRecDepth 65536 in
theorem w_alone : about1.alone = true := by decide +kernel
set_option maxRecDepth 65536 in
theorem w_named : about1.methodNamed? x = some theMethod := by decide +kernel
set_option maxRecDepth 65536 in
theorem w_hears : about1.hears theMethod below0 = true := by decide +kernel
set_option maxRecDepth 65536 in
theorem w_ripe : about1.ripe theMethod args0 below0 = true := by decide +kernel
theorem w_running : about1.status = .running := rfl
set_option maxRecDepth 65536 in
theorem w_room : about1.hasRoom e0.platform room_1 = true :=
  launch0.hasRoom_least _ room_1 (by decide +kernel) (by decide +kernel) (by decide +kernel) (by decide +kernel) (by decide +kernel) (by decide +kernel)
theorem allAtoms_all (ts : List Jvm.Cond) (a : Array Jvm.Value) (st : Jvm.State) : (allAtoms ts).before a st = ts.all (fun c => c.before a st) := by
  induction ts with
  | nil => rfl
  | cons c t ih =>
    show (Jvm.Cond.and c (allAtoms t)).before a st = _
    rw [Jvm.Cond.before_and, ih, List.all_cons]
def words1 : List Jvm.Cond := Jvm.Cond.code x code maxLocals ret :: tables_1
/-- a 'code' word, met by the world's own term for the bytes: nothing is compared byte by byte -/
theorem code_word {y : MethodName} {bytes : ByteArray} {mx : Nat} {rt : Option FieldType} {a : Array Value} {s : State} {m : MethodId} {meth : Method} {c : Code} (h1 : s.methodNamed? y = some m) (h2 : s.vm.method? m = some meth) (h3 : meth.code = some c) (h4 : c.code = bytes)
    (h5 : (c.maxLocals == mx && c.exceptionTable.isEmpty && decide (c.maxStack ≤ mostOperands) && decide (meth.sig.returnType = rt) && !meth.locks && decide (parseMethodDescriptor y.desc = some meth.sig)) = true) : (Jvm.Cond.code y bytes mx rt).before a s = true := by
  simp only [Bool.and_eq_true, beq_iff_eq, Bool.not_eq_true', decide_eq_true_eq] at h5
  obtain ⟨⟨⟨⟨⟨g1, g2⟩, g3⟩, g4⟩, g5⟩, g6⟩ := h5
  simp [Cond.before, Cond.holds, Cond.value, h1, h2, h3, h4, g1, g2, g3, g4, g5, g6]
def isCode : Jvm.Cond → Bool
  | .code _ _ _ _ => true
  | _ => false
theorem all_split {L : List Jvm.Cond} {P : Jvm.Cond → Bool} (h1 : L.all (fun c => isCode c || P c) = true) (h2 : ∀ c ∈ L.filter isCode, P c = true) : L.all P = true := by
  refine List.all_eq_true.mpr fun c hc => ?_
  have h := List.all_eq_true.mp h1 c hc
  rcases Bool.eq_false_or_eq_true (isCode c) with hi | hi
  · exact h2 c (List.mem_filter.mpr ⟨hc, hi⟩)
  · simpa [hi] using h
set_option maxRecDepth 65536 in
theorem w_c0 : (Jvm.Cond.code x code maxLocals ret).before args0 about1 = true := code_word (m := ⟨1, 1⟩) (meth := k1m1) (c := k1c1) (by decide +kernel) rfl rfl rfl (by decide +kernel)
set_option maxRecDepth 65536 in
theorem w_c1 : (Jvm.Cond.code ({ cls := "com/example/dendrotick/dendrotick/ClockWork", name := "<init>", desc := "()V" } : Jvm.MethodName) prog_5_method_1_code (1 : Nat) (Option.none : Option Jvm.ClassFile.FieldType)).before args0 about1 = true := code_word (m := ⟨2, 0⟩) (meth := k2m0) (c := k2c0) (by decide +kernel) rfl rfl rfl (by decide +kernel)
set_option maxRecDepth 65536 in
theorem w_c2 : (Jvm.Cond.code ({ cls := "java/lang/Object", name := "<init>", desc := "()V" } : Jvm.MethodName) object_method_1_code (1 : Nat) (Option.none : Option Jvm.ClassFile.FieldType)).before args0 about1 = true := code_word (m := ⟨0, 0⟩) (meth := k0m0) (c := k0c0) (by decide +kernel) rfl rfl rfl (by decide +kernel)
set_option maxRecDepth 65536 in
theorem w_c3 : (Jvm.Cond.code ({ cls := "com/example/dendrotick/dendrotick/ClockWork", name := "vtWork", desc := "()J" } : Jvm.MethodName) prog_5_method_2_code (1 : Nat) (Option.some Jvm.ClassFile.FieldType.long)).before args0 about1 = true := code_word (m := ⟨2, 1⟩) (meth := k2m1) (c := k2c1) (by decide +kernel) rfl rfl rfl (by decide +kernel)
set_option maxRecDepth 65536 in
theorem w_c4 : (Jvm.Cond.code ({ cls := "com/example/dendrotick/dendrotick/ClockWork", name := "clockWork", desc := "()J" } : Jvm.MethodName) prog_5_method_3_code (1 : Nat) (Option.some Jvm.ClassFile.FieldType.long)).before args0 about1 = true := code_word (m := ⟨2, 2⟩) (meth := k2m2) (c := k2c2) (by decide +kernel) rfl rfl rfl (by decide +kernel)
set_option maxRecDepth 65536 in
theorem w_c5 : (Jvm.Cond.code ({ cls := "com/example/dendrotick/dendrotick/ClockWork", name := "addExamined", desc := "(I)V" } : Jvm.MethodName) prog_5_method_5_code (2 : Nat) (Option.none : Option Jvm.ClassFile.FieldType)).before args0 about1 = true := code_word (m := ⟨2, 4⟩) (meth := k2m4) (c := k2c4) (by decide +kernel) rfl rfl rfl (by decide +kernel)
set_option maxRecDepth 65536 in
theorem w_c6 : (Jvm.Cond.code ({ cls := "com/example/dendrotick/dendrotick/ClockWork", name := "addChanged", desc := "(I)V" } : Jvm.MethodName) prog_5_method_4_code (2 : Nat) (Option.none : Option Jvm.ClassFile.FieldType)).before args0 about1 = true := code_word (m := ⟨2, 3⟩) (meth := k2m3) (c := k2c3) (by decide +kernel) rfl rfl rfl (by decide +kernel)
def codes1 : List Jvm.Cond := [Jvm.Cond.code x code maxLocals ret, Jvm.Cond.code ({ cls := "com/example/dendrotick/dendrotick/ClockWork", name := "<init>", desc := "()V" } : Jvm.MethodName) prog_5_method_1_code (1 : Nat) (Option.none : Option Jvm.ClassFile.FieldType), Jvm.Cond.code ({ cls := "java/lang/Object", name := "<init>", desc := "()V" } : Jvm.MethodName) object_method_1_code (1 : Nat) (Option.none : Option Jvm.ClassFile.FieldType), Jvm.Cond.code ({ cls := "com/example/dendrotick/dendrotick/ClockWork", name := "vtWork", desc := "()J" } : Jvm.MethodName) prog_5_method_2_code (1 : Nat) (Option.some Jvm.ClassFile.FieldType.long), Jvm.Cond.code ({ cls := "com/example/dendrotick/dendrotick/ClockWork", name := "clockWork", desc := "()J" } : Jvm.MethodName) prog_5_method_3_code (1 : Nat) (Option.some Jvm.ClassFile.FieldType.long), Jvm.Cond.code ({ cls := "com/example/dendrotick/dendrotick/ClockWork", name := "addExamined", desc := "(I)V" } : Jvm.MethodName) prog_5_method_5_code (2 : Nat) (Option.none : Option Jvm.ClassFile.FieldType), Jvm.Cond.code ({ cls := "com/example/dendrotick/dendrotick/ClockWork", name := "addChanged", desc := "(I)V" } : Jvm.MethodName) prog_5_method_4_code (2 : Nat) (Option.none : Option Jvm.ClassFile.FieldType)]
set_option maxRecDepth 65536 in
theorem codes_eq : words1.filter isCode = codes1 := rfl
theorem w_codes : ∀ c ∈ words1.filter isCode, c.before args0 about1 = true := by
  rw [codes_eq]
  intro c hc
  simp only [codes1, List.mem_cons, List.not_mem_nil, or_false] at hc
  rcases hc with rfl | rfl | rfl | rfl | rfl | rfl | rfl
  · exact w_c0
  · exact w_c1
  · exact w_c2
  · exact w_c3
  · exact w_c4
  · exact w_c5
  · exact w_c6
set_option maxRecDepth 65536 in
theorem w_t1 : (words1.take 24).all (fun c => isCode c || c.before args0 about1) = true := by decide +kernel
set_option maxRecDepth 65536 in
theorem w_t2 : (words1.drop 24).all (fun c => isCode c || c.before args0 about1) = true := by decide +kernel
theorem w_tables : (allAtoms (Jvm.Cond.code x code maxLocals ret :: tables_1)).before args0 about1 = true := by
  rw [allAtoms_all]
  show words1.all (fun c => c.before args0 about1) = true
  refine all_split ?_ w_codes
  rw [← List.take_append_drop 24 words1, List.all_append, w_t1, w_t2]
  rfl
set_option maxRecDepth 65536 in
theorem w_case : (Jvm.Cond.and given_1 narrow_1).before args0 about1 = true := by decide +kernel
theorem w_applies : (headSpec (Jvm.Cond.code x code maxLocals ret :: tables_1) room_1).applies x e0.platform about1 = true :=
  (Spec.applies_iff w_frames).mpr ⟨w_running, w_runnable, w_alone, w_named, w_hears, w_ripe, w_room, w_tables⟩
theorem atStart : AtStart classFile x code maxLocals ret World_1 tables_1 room_1 Calls_1 rest_1 Pre_1 launch0 p0 e0 about1 theMethod args0 below0 :=
  ⟨lists_1, trivial, launch0.admits_env _ _ _, launch0.least_env, fairChoices_fair.cas, fairChoices_fair.clock, w_frames, w_args, w_heap, w_applies, trivial, trivial, w_case⟩
end start1
theorem witness_1 : WitnessClaimed_1 := ⟨start1.p0, start1.e0, start1.about1, start1.theMethod, start1.args0, start1.below0, start1.atStart⟩
end Jvm.Pilot.@@N@@
