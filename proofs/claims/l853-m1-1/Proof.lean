import JvmDerived
import JvmDerived.Pilot.@@N@@Statement
import JvmDerived.Pilot.@@N@@Code
set_option linter.unusedVariables false
set_option linter.unusedSimpArgs false
namespace Jvm.OwnK
open Sem ClassFile Op Lib Jvm.Stand Jvm.Free Jvm.LawKit Jvm.RoadKit
section
variable {p : Program} {l : Launch} {e : Env} {R : Room} {s : State} {m : MethodId} {args : Array Value} {below : List Frame} {meth : Method} {c : Code} {T : State} {locs : List Loc} {cells slots : Nat} {Cn Sn : Nat} {Q : Option Value → Heap → List Loc → Prop}
/-- from the frame f the run comes to an end that Q takes -/
def KEnds (p : Program) (e : Env) (below : List Frame) (s : State) (Cn Sn : Nat) (Q : Option Value → Heap → List Loc → Prop) (T : State) (f : JFrame) : Prop :=
  ∃ s₂ o, Steps p.tables e below (T.setTop f) s₂ ∧ s₂.status = .running ∧ Ended s₂ below o ∧ ∃ v L, o = .returned v ∧ Q v s₂.heap L ∧ FrameEnd s o s₂ L Cn Sn
theorem k_via {T' : State} {f f' : JFrame} (st : ∀ t, Steps p.tables e below (T'.setTop f') t → Steps p.tables e below (T.setTop f) t) (k : KEnds p e below s Cn Sn Q T' f') : KEnds p e below s Cn Sn Q T f := by
  obtain ⟨s₂, o, h, r⟩ := k
  exact ⟨s₂, o, st _ h, r⟩
theorem k_iloadN (X : Stand p l e R s m args below meth c T locs cells slots) (hx : p.tables.exec = Jvm.exec) {pc pc' : Nat} {Ls : Array Slot} {St : List Value} {i : Fin 4} {v : Int32} (hd : decode c.code pc = .ok (.iload_n i, 1)) (hl : Ls[i.val]? = some (.val (.int v))) (hpc : pc + 1 = pc') (k : KEnds p e below s Cn Sn Q T (mkF m pc' Ls (.int v :: St))) : KEnds p e below s Cn Sn Q T (mkF m pc Ls (St)) := by
  subst hpc; exact k_via (fun t h => XS.iloadN X.here hx rfl hd hl h) k
theorem k_iload (X : Stand p l e R s m args below meth c T locs cells slots) (hx : p.tables.exec = Jvm.exec) {pc pc' : Nat} {Ls : Array Slot} {St : List Value} {i : Nat} {v : Int32} (hd : decode c.code pc = .ok (.iload i, 2)) (hl : Ls[i]? = some (.val (.int v))) (hpc : pc + 2 = pc') (k : KEnds p e below s Cn Sn Q T (mkF m pc' Ls (.int v :: St))) : KEnds p e below s Cn Sn Q T (mkF m pc Ls (St)) := by
  subst hpc; exact k_via (fun t h => XS.iload X.here hx rfl hd hl h) k
theorem k_istoreN (X : Stand p l e R s m args below meth c T locs cells slots) (hx : p.tables.exec = Jvm.exec) {pc pc' : Nat} {Ls : Array Slot} {St : List Value} {i : Fin 4} {v : Int32} {Ls' : Array Slot} (hd : decode c.code pc = .ok (.istore_n i, 1)) (hl : storeLocals Ls i.val (.int v) = some Ls') (hpc : pc + 1 = pc') (k : KEnds p e below s Cn Sn Q T (mkF m pc' Ls' (St))) : KEnds p e below s Cn Sn Q T (mkF m pc Ls (.int v :: St)) := by
  subst hpc; exact k_via (fun t h => XS.istoreN X.here hx rfl hd rfl hl h) k
theorem k_istore (X : Stand p l e R s m args below meth c T locs cells slots) (hx : p.tables.exec = Jvm.exec) {pc pc' : Nat} {Ls : Array Slot} {St : List Value} {i : Nat} {v : Int32} {Ls' : Array Slot} (hd : decode c.code pc = .ok (.istore i, 2)) (hl : storeLocals Ls i (.int v) = some Ls') (hpc : pc + 2 = pc') (k : KEnds p e below s Cn Sn Q T (mkF m pc' Ls' (St))) : KEnds p e below s Cn Sn Q T (mkF m pc Ls (.int v :: St)) := by
  subst hpc; exact k_via (fun t h => XS.istore X.here hx rfl hd rfl hl h) k
theorem k_aloadN (X : Stand p l e R s m args below meth c T locs cells slots) (hx : p.tables.exec = Jvm.exec) {pc pc' : Nat} {Ls : Array Slot} {St : List Value} {i : Fin 4} {v : Value} (hd : decode c.code pc = .ok (.aload_n i, 1)) (hl : Ls[i.val]? = some (.val v)) (hv : v.isRef = true) (hpc : pc + 1 = pc') (k : KEnds p e below s Cn Sn Q T (mkF m pc' Ls (v :: St))) : KEnds p e below s Cn Sn Q T (mkF m pc Ls (St)) := by
  subst hpc; exact k_via (fun t h => XS.aloadN X.here hx rfl hd hl hv h) k
theorem k_astoreN (X : Stand p l e R s m args below meth c T locs cells slots) (hx : p.tables.exec = Jvm.exec) {pc pc' : Nat} {Ls : Array Slot} {St : List Value} {i : Fin 4} {v : Value} {Ls' : Array Slot} (hd : decode c.code pc = .ok (.astore_n i, 1)) (hv : v.isRef = true) (hl : storeLocals Ls i.val v = some Ls') (hpc : pc + 1 = pc') (k : KEnds p e below s Cn Sn Q T (mkF m pc' Ls' (St))) : KEnds p e below s Cn Sn Q T (mkF m pc Ls (v :: St)) := by
  subst hpc; exact k_via (fun t h => XS.astoreN X.here hx rfl hd rfl hv hl h) k
theorem k_iconst (X : Stand p l e R s m args below meth c T locs cells slots) (hx : p.tables.exec = Jvm.exec) {pc pc' : Nat} {Ls : Array Slot} {St : List Value} {i : Int} {z : Int32} (hd : decode c.code pc = .ok (.iconst i, 1)) (hpc : pc + 1 = pc') (hz : Int32.ofInt i = z) (k : KEnds p e below s Cn Sn Q T (mkF m pc' Ls (.int z :: St))) : KEnds p e below s Cn Sn Q T (mkF m pc Ls St) := by
  subst hpc hz; exact k_via (fun t h => XS.iconst X.here hx rfl hd h) k
theorem k_bipush (X : Stand p l e R s m args below meth c T locs cells slots) (hx : p.tables.exec = Jvm.exec) {pc pc' : Nat} {Ls : Array Slot} {St : List Value} {i : Int} {z : Int32} (hd : decode c.code pc = .ok (.bipush i, 2)) (hpc : pc + 2 = pc') (hz : (Int8.ofInt i).toInt32 = z) (k : KEnds p e below s Cn Sn Q T (mkF m pc' Ls (.int z :: St))) : KEnds p e below s Cn Sn Q T (mkF m pc Ls St) := by
  subst hpc hz; exact k_via (fun t h => XS.bipush X.here hx rfl hd h) k
theorem k_iadd (X : Stand p l e R s m args below meth c T locs cells slots) (hx : p.tables.exec = Jvm.exec) {pc pc' : Nat} {Ls : Array Slot} {St : List Value} {x y : Int32} (hd : decode c.code pc = .ok (.iadd, 1))  (hpc : pc + 1 = pc') (k : ∀ z : Int32, z = x + y → KEnds p e below s Cn Sn Q T (mkF m pc' Ls (.int z :: St))) : KEnds p e below s Cn Sn Q T (mkF m pc Ls (.int y :: .int x :: St)) := by
  subst hpc; exact k_via (fun t h => XS.iadd X.here hx rfl hd rfl h) (k _ rfl)
theorem k_iand (X : Stand p l e R s m args below meth c T locs cells slots) (hx : p.tables.exec = Jvm.exec) {pc pc' : Nat} {Ls : Array Slot} {St : List Value} {x y : Int32} (hd : decode c.code pc = .ok (.iand, 1))  (hpc : pc + 1 = pc') (k : ∀ z : Int32, z = x &&& y → KEnds p e below s Cn Sn Q T (mkF m pc' Ls (.int z :: St))) : KEnds p e below s Cn Sn Q T (mkF m pc Ls (.int y :: .int x :: St)) := by
  subst hpc; exact k_via (fun t h => XS.iand X.here hx rfl hd rfl h) (k _ rfl)
theorem k_irem (X : Stand p l e R s m args below meth c T locs cells slots) (hx : p.tables.exec = Jvm.exec) {pc pc' : Nat} {Ls : Array Slot} {St : List Value} {x y : Int32} (hd : decode c.code pc = .ok (.irem, 1)) (hy : y ≠ 0) (hpc : pc + 1 = pc') (k : ∀ z : Int32, z = x % y → KEnds p e below s Cn Sn Q T (mkF m pc' Ls (.int z :: St))) : KEnds p e below s Cn Sn Q T (mkF m pc Ls (.int y :: .int x :: St)) := by
  subst hpc; exact k_via (fun t h => iremM X hx rfl hd rfl hy h) (k _ rfl)
theorem k_dup (X : Stand p l e R s m args below meth c T locs cells slots) (hx : p.tables.exec = Jvm.exec) {pc pc' : Nat} {Ls : Array Slot} {St : List Value} {v : Value} (hd : decode c.code pc = .ok (.dup, 1)) (hv : v.category = 1) (hpc : pc + 1 = pc') (k : KEnds p e below s Cn Sn Q T (mkF m pc' Ls (v :: v :: St))) : KEnds p e below s Cn Sn Q T (mkF m pc Ls (v :: St)) := by
  subst hpc; exact k_via (fun t h => XS.dup X.here hx rfl hd rfl hv h) k
theorem k_goto (X : Stand p l e R s m args below meth c T locs cells slots) (hx : p.tables.exec = Jvm.exec) {pc pc' : Nat} {Ls : Array Slot} {St : List Value} {o : Int} (hd : decode c.code pc = .ok (.goto o, 3)) (hp : (pc : Int) + o = (pc' : Int)) (k : KEnds p e below s Cn Sn Q T (mkF m pc' Ls St)) : KEnds p e below s Cn Sn Q T (mkF m pc Ls St) :=
  k_via (fun t h => XS.goto X.here hx rfl (pc0 := pc) rfl hd (by omega) (by omega) h) k
theorem k_icmp_lt (X : Stand p l e R s m args below meth c T locs cells slots) (hx : p.tables.exec = Jvm.exec) {pc pn py : Nat} {Ls : Array Slot} {St : List Value} {x y : Int32} {o : Int} (hd : decode c.code pc = .ok (.if_icmp .lt o, 3)) (hn : pc + 3 = pn) (hp : (pc : Int) + o = (py : Int)) (ky : x < y → KEnds p e below s Cn Sn Q T (mkF m py Ls St)) (kn : ¬ x < y → KEnds p e below s Cn Sn Q T (mkF m pn Ls St)) : KEnds p e below s Cn Sn Q T (mkF m pc Ls (.int y :: .int x :: St)) := by
  subst hn
  by_cases hc : x < y
  · exact k_via (fun t h => XS.icmpYes X.here hx rfl (pc0 := pc) rfl hd rfl (tlt hc).1 (by omega) (by omega) h) (ky hc)
  · exact k_via (fun t h => XS.icmpNo X.here hx rfl hd rfl (flt hc).1 h) (kn hc)
theorem k_icmp_gt (X : Stand p l e R s m args below meth c T locs cells slots) (hx : p.tables.exec = Jvm.exec) {pc pn py : Nat} {Ls : Array Slot} {St : List Value} {x y : Int32} {o : Int} (hd : decode c.code pc = .ok (.if_icmp .gt o, 3)) (hn : pc + 3 = pn) (hp : (pc : Int) + o = (py : Int)) (ky : y < x → KEnds p e below s Cn Sn Q T (mkF m py Ls St)) (kn : ¬ y < x → KEnds p e below s Cn Sn Q T (mkF m pn Ls St)) : KEnds p e below s Cn Sn Q T (mkF m pc Ls (.int y :: .int x :: St)) := by
  subst hn
  by_cases hc : y < x
  · exact k_via (fun t h => XS.icmpYes X.here hx rfl (pc0 := pc) rfl hd rfl (tlt hc).2.2.1 (by omega) (by omega) h) (ky hc)
  · exact k_via (fun t h => XS.icmpNo X.here hx rfl hd rfl (flt hc).2.2.1 h) (kn hc)
theorem k_icmp_le (X : Stand p l e R s m args below meth c T locs cells slots) (hx : p.tables.exec = Jvm.exec) {pc pn py : Nat} {Ls : Array Slot} {St : List Value} {x y : Int32} {o : Int} (hd : decode c.code pc = .ok (.if_icmp .le o, 3)) (hn : pc + 3 = pn) (hp : (pc : Int) + o = (py : Int)) (ky : ¬ y < x → KEnds p e below s Cn Sn Q T (mkF m py Ls St)) (kn : y < x → KEnds p e below s Cn Sn Q T (mkF m pn Ls St)) : KEnds p e below s Cn Sn Q T (mkF m pc Ls (.int y :: .int x :: St)) := by
  subst hn
  by_cases hc : y < x
  · exact k_via (fun t h => XS.icmpNo X.here hx rfl hd rfl (tlt hc).2.2.2 h) (kn hc)
  · exact k_via (fun t h => XS.icmpYes X.here hx rfl (pc0 := pc) rfl hd rfl (flt hc).2.2.2 (by omega) (by omega) h) (ky hc)
theorem k_icmp_eq (X : Stand p l e R s m args below meth c T locs cells slots) (hx : p.tables.exec = Jvm.exec) {pc pn py : Nat} {Ls : Array Slot} {St : List Value} {x y : Int32} {o : Int} (hd : decode c.code pc = .ok (.if_icmp .eq o, 3)) (hn : pc + 3 = pn) (hp : (pc : Int) + o = (py : Int)) (ky : x = y → KEnds p e below s Cn Sn Q T (mkF m py Ls St)) (kn : ¬ x = y → KEnds p e below s Cn Sn Q T (mkF m pn Ls St)) : KEnds p e below s Cn Sn Q T (mkF m pc Ls (.int y :: .int x :: St)) := by
  subst hn
  by_cases hc : x = y
  · exact k_via (fun t h => XS.icmpYes X.here hx rfl (pc0 := pc) rfl hd rfl (teq hc).1 (by omega) (by omega) h) (ky hc)
  · exact k_via (fun t h => XS.icmpNo X.here hx rfl hd rfl (feq hc).1 h) (kn hc)
theorem k_icmp_ne (X : Stand p l e R s m args below meth c T locs cells slots) (hx : p.tables.exec = Jvm.exec) {pc pn py : Nat} {Ls : Array Slot} {St : List Value} {x y : Int32} {o : Int} (hd : decode c.code pc = .ok (.if_icmp .ne o, 3)) (hn : pc + 3 = pn) (hp : (pc : Int) + o = (py : Int)) (ky : ¬ x = y → KEnds p e below s Cn Sn Q T (mkF m py Ls St)) (kn : x = y → KEnds p e below s Cn Sn Q T (mkF m pn Ls St)) : KEnds p e below s Cn Sn Q T (mkF m pc Ls (.int y :: .int x :: St)) := by
  subst hn
  by_cases hc : x = y
  · exact k_via (fun t h => XS.icmpNo X.here hx rfl hd rfl (teq hc).2 h) (kn hc)
  · exact k_via (fun t h => XS.icmpYes X.here hx rfl (pc0 := pc) rfl hd rfl (feq hc).2 (by omega) (by omega) h) (ky hc)
theorem k_d_xlt_xlt {x a b : Int32} (h : x < a) (q : ¬ b < a) : x < b := by
  simp only [Int32.lt_iff_toInt_lt, ← Int32.toInt_inj] at *; omega
theorem k_d_ne_xlt {x a b : Int32} (h : x < a) (q : ¬ b < a) : ¬ x = b := by
  simp only [Int32.lt_iff_toInt_lt, ← Int32.toInt_inj] at *; omega
theorem k_d_ne_nxlt {x a b : Int32} (h : ¬ x < a) (q : b < a) : ¬ x = b := by
  simp only [Int32.lt_iff_toInt_lt, ← Int32.toInt_inj] at *; omega
theorem k_retN (X : Stand p l e R s m args below meth c T locs cells slots) (hx : p.tables.exec = Jvm.exec) {pc : Nat} {Ls : Array Slot} {St : List Value} {t : FieldType} {z z' : Int32} (hret : meth.sig.returnType = some t) (ht : t = .boolean ∨ t = .byte ∨ t = .char ∨ t = .short) (hd : decode c.code pc = .ok (.ireturn, 1)) (hlk : meth.locks = false) (hC : cells ≤ Cn) (hS : slots ≤ Sn) (hz : nar t z = z') (q : Q (some (.int z')) T.heap locs) : KEnds p e below s Cn Sn Q T (mkF m pc Ls (.int z :: St)) := by
  subst hz
  obtain ⟨fs, hr, hrun, hended, hW, hsame⟩ := X.leave (v := some (.int (nar t z))) (fun h => by rw [hret] at h; cases h) hlk
  exact ⟨_, _, retN X hx hret ht hd hr, hrun, hended, _, _, rfl, q, ⟨_, rfl⟩, hW, hsame.mono hC hS⟩
variable {Z : State} {a0 : Array Value} {h : Heap} {own : String}
theorem k_ldc (X : Stand p l e R s m args below meth c T locs cells slots) (hx : p.tables.exec = Jvm.exec) (hZ : Z.Warmed39 s.vm) (hown : s.vm.findClass own = some m.cls) {pc pc' : Nat} {Ls : Array Slot} {St : List Value} {index : Nat} {v : Int32} (w : (Cond.constant own index v).before a0 Z = true) (hd : decode c.code pc = .ok (.ldc index, 2)) (hpc : pc + 2 = pc') (k : KEnds p e below s Cn Sn Q T (mkF m pc' Ls (.int v :: St))) : KEnds p e below s Cn Sn Q T (mkF m pc Ls St) := by
  subst hpc; exact k_via (X.ldcInt hx hown (mvT hZ w) (g := mkF m pc Ls St) rfl hd) k
theorem k_newA (X : Stand p l e R s m args below meth c T locs cells slots) (hx : p.tables.exec = Jvm.exec) (hZ : Z.Warmed39 s.vm) {pc pc' : Nat} {Ls : Array Slot} {St : List Value} {aty : ArrayType} (w : (Cond.arrayClass (newarray.typeOf aty)).before a0 Z = true) (eT : T.heap = h) (hd : decode c.code pc = .ok (.newarray aty, 2)) {n : Int32} (hn : ¬ n < 0) {cap : Nat} (hcap : n.toNatClampNeg ≤ cap) (hb : cap * 8 ≤ 536870912) (hc : cells + 1 ≤ R.cells) (hl : slots + cap ≤ R.slots) (hpc : pc + 2 = pc') (k : ∀ T' h' a cA, a = h.size → Stand p l e R s m args below meth c T' locs (cells + 1) (slots + cap) → T'.heap = h' → Ext h h' → Arv Z h' a cA (newarray.typeOf aty) n (List.replicate cap (defaultValue (newarray.typeOf aty))) (defaultValue (newarray.typeOf aty)) → KEnds p e below s Cn Sn Q T' (mkF m pc' Ls (.ref a :: St))) : KEnds p e below s Cn Sn Q T (mkF m pc Ls (.int n :: St)) := by
  subst hpc
  obtain ⟨T', h', cA, X', e', E', A', st⟩ := newP X hx hZ w eT (g := mkF m pc Ls (.int n :: St)) rfl hd rfl hn hcap hb hc hl
  exact k_via st (k T' h' _ cA rfl X' e' E' ((Arv.new A' hn).pad (pad_rep [] _ cap)))
theorem k_iastore (X : Stand p l e R s m args below meth c T locs cells slots) (hx : p.tables.exec = Jvm.exec) (hZ : Z.Warmed39 s.vm) {pc pc' : Nat} {Ls : Array Slot} {St : List Value} (eT : T.heap = h) {a : Addr} {kA : ClassId} {z j : Int32} {x : Int32} {vs : List Value} {dv : Value} (F : Arv Z h a kA .int z vs dv) (hj : ¬ j < 0 ∧ j < z) {i : Nat} (hi : j.toNatClampNeg = i) (hil : i < vs.length) (hd : decode c.code pc = .ok (.iastore, 1)) (hpc : pc + 1 = pc') (k : ∀ T' h', Stand p l e R s m args below meth c T' (locs ++ [⟨a, j.toNatClampNeg⟩]) cells slots → T'.heap = h' → Wr h h' a j.toNatClampNeg (.int (x)) → Arv Z h' a kA .int z (vs.set i (.int (x))) dv → KEnds p e below s Cn Sn Q T' (mkF m pc' Ls St)) : KEnds p e below s Cn Sn Q T (mkF m pc Ls (.int x :: .int j :: .ref a :: St)) := by
  subst hpc
  obtain ⟨cl, A, q1, S, N, H, G⟩ := F
  obtain ⟨T', h', X', e', W', st⟩ := stI X hx hZ eT A (inb_of S hj) (g := mkF m pc Ls (.int x :: .int j :: .ref a :: St)) rfl rfl hd
  exact k_via st (k T' h' X' e' W' (Arv.set A q1 S N H G rfl W' i hi hil))
theorem k_callS (X : Stand p l e R s m args below meth c T locs cells slots) (hx : p.tables.exec = Jvm.exec) (hZ : Z.Warmed39 s.vm) (hown : s.vm.findClass own = some m.cls) {pc pc' : Nat} {Ls : Array Slot} {St : List Value} {y : MethodName} {bytes : ByteArray} {maxL : Nat} {ret : Option FieldType} {rm : Room} {index W : Nat} {as' : Array Value} {Q' : Option Value → Heap → List Loc → Prop} (w1 : (Cond.methodLink own index y).before a0 Z = true) (w2 : (Cond.static y).before a0 Z = true) (w3 : (Cond.initialized y.cls).before a0 Z = true) (w4 : (Cond.code y bytes maxL ret).before a0 Z = true) (hy : y.cls ≠ "java/lang/invoke/MethodHandle" ∧ y.cls ≠ "java/lang/invoke/VarHandle") (hM : MetFree l y (head1 [Cond.code y bytes maxL ret] rm) (fun a U => a = as' ∧ Z.Warmed39 U.vm ∧ U.heap = h) (fun _ _ _ _ _ => True) (fun _ U o U' => ∃ v L, o = .returned v ∧ Q' v U'.heap L ∧ FrameEnd U o U' L rm.cells rm.slots)) (hf : rm.frames + 1 ≤ R.frames) (hl : W + (maxL + 11) + rm.locals ≤ R.locals) (eT : T.heap = h) (hsize : Ls.size = c.maxLocals) {argsL rest : List Value} (hlen : ∀ sig, parseMethodDescriptor y.desc = some sig → argsL.length = sig.parameters.length) (hst : St = argsL.reverse ++ rest) (hW : (rest.map fun v => v.category).sum ≤ W) (has : argsL.toArray = as') (hd : decode c.code pc = .ok (.invokestatic index, 3)) (hce : cells + rm.cells ≤ R.cells) (hsl : slots + rm.slots ≤ R.slots) (hpc : pc + 3 = pc') (k : ∀ T' L v, Stand p l e R s m args below meth c T' (locs ++ L) (cells + rm.cells) (slots + rm.slots) → Q' v T'.heap L → KEnds p e below s Cn Sn Q T' (mkF m pc' Ls (v.toList ++ rest))) : KEnds p e below s Cn Sn Q T (mkF m pc Ls St) := by
  subst hpc
  obtain ⟨v, _, ⟨T', L', k', n'⟩, -, X', ⟨Lc, hQ, l', y', z'⟩, st⟩ := Jvm.LawKit.callS X hx (y := y) hown (mvT hZ w1) (mvT hZ w2) (mvT hZ w3) (mvT hZ w4) hy (backOf (W := W) hM hZ w4 w3 hf hl) (g := mkF m pc Ls St) rfl hsize hlen hst (by show 2 * 0 + _ ≤ _; omega) hd (fun _ _ => ⟨has, eT, hce, hsl⟩)
  dsimp only [Pt.U, Pt.locs, Pt.cells, Pt.slots] at X' l' y' z' st hQ
  subst l' y' z'
  exact k_via st (k T' Lc v X' hQ)
theorem k_ialoadS (X : Stand p l e R s m args below meth c T locs cells slots) (hx : p.tables.exec = Jvm.exec) (hZ : Z.Warmed39 s.vm) {pc pc' : Nat} {Ls : Array Slot} {St : List Value} (eT : T.heap = h) {a : Addr} {kA : ClassId} {z j : Int32} {vs : List Value} {dv : Value} (F : Arv Z h a kA .int z vs dv) (hj : ¬ j < 0 ∧ j < z) (hd : decode c.code pc = .ok (.iaload, 1)) (hpc : pc + 1 = pc') (k : ∀ x : Int32, vs.getD j.toNatClampNeg dv = .int x → KEnds p e below s Cn Sn Q T (mkF m pc' Ls (.int x :: St))) : KEnds p e below s Cn Sn Q T (mkF m pc Ls (.int j :: .ref a :: St)) := by
  subst hpc
  obtain ⟨cl, A, q1, S, N, H, G⟩ := F
  have hin := inb_of S hj
  obtain ⟨x, hx'⟩ := fit_I (G j.toNatClampNeg (Nat.lt_of_not_le fun q => hin (Or.inr q))) (by simp)
  exact k_via (fun t hs => X.iaload hx (by rw [eT]; exact A.1) (State.isArrayOf_alike hZ.alike A.2.1) A.2.2 hin (H.at hin hx') (g := mkF m pc Ls (.int j :: .ref a :: St)) rfl rfl hd t hs) (k x hx')
end
end Jvm.OwnK
namespace Jvm.Pilot.@@N@@
open Jvm Jvm.ClassFile Sem Op Lib Jvm.Free Jvm.Stand Jvm.LawKit Jvm.RoadKit Jvm.OwnK Bundle Jvm.Pilot.@@N@@.Jvm.D
theorem d1_0 : decode prog_44_method_2_code 0 = .ok (.iload_n 0, 1) := by decide +kernel
theorem d1_1 : decode prog_44_method_2_code 1 = .ok (.bipush 32, 2) := by decide +kernel
theorem d1_3 : decode prog_44_method_2_code 3 = .ok (.if_icmp .lt 9, 3) := by decide +kernel
theorem d1_12 : decode prog_44_method_2_code 12 = .ok (.iload_n 0, 1) := by decide +kernel
theorem d1_13 : decode prog_44_method_2_code 13 = .ok (.bipush 9, 2) := by decide +kernel
theorem d1_15 : decode prog_44_method_2_code 15 = .ok (.if_icmp .eq 39, 3) := by decide +kernel
theorem d1_54 : decode prog_44_method_2_code 54 = .ok (.iconst 1, 1) := by decide +kernel
theorem d1_55 : decode prog_44_method_2_code 55 = .ok (.goto 4, 3) := by decide +kernel
theorem d1_59 : decode prog_44_method_2_code 59 = .ok (.ireturn, 1) := by decide +kernel
theorem d1_18 : decode prog_44_method_2_code 18 = .ok (.iload_n 0, 1) := by decide +kernel
theorem d1_19 : decode prog_44_method_2_code 19 = .ok (.bipush 10, 2) := by decide +kernel
theorem d1_21 : decode prog_44_method_2_code 21 = .ok (.if_icmp .eq 33, 3) := by decide +kernel
theorem d1_24 : decode prog_44_method_2_code 24 = .ok (.iload_n 0, 1) := by decide +kernel
theorem d1_25 : decode prog_44_method_2_code 25 = .ok (.bipush 13, 2) := by decide +kernel
theorem d1_27 : decode prog_44_method_2_code 27 = .ok (.if_icmp .eq 27, 3) := by decide +kernel
theorem d1_30 : decode prog_44_method_2_code 30 = .ok (.iload_n 0, 1) := by decide +kernel
theorem d1_31 : decode prog_44_method_2_code 31 = .ok (.ldc 8, 2) := by decide +kernel
theorem d1_33 : decode prog_44_method_2_code 33 = .ok (.if_icmp .lt 9, 3) := by decide +kernel
theorem d1_42 : decode prog_44_method_2_code 42 = .ok (.iload_n 0, 1) := by decide +kernel
theorem d1_43 : decode prog_44_method_2_code 43 = .ok (.ldc 10, 2) := by decide +kernel
theorem d1_45 : decode prog_44_method_2_code 45 = .ok (.if_icmp .lt 13, 3) := by decide +kernel
theorem d1_58 : decode prog_44_method_2_code 58 = .ok (.iconst 0, 1) := by decide +kernel
theorem d1_6 : decode prog_44_method_2_code 6 = .ok (.iload_n 0, 1) := by decide +kernel
theorem d1_7 : decode prog_44_method_2_code 7 = .ok (.ldc 7, 2) := by decide +kernel
theorem d1_9 : decode prog_44_method_2_code 9 = .ok (.if_icmp .le 45, 3) := by decide +kernel
theorem d1_36 : decode prog_44_method_2_code 36 = .ok (.iload_n 0, 1) := by decide +kernel
theorem d1_37 : decode prog_44_method_2_code 37 = .ok (.ldc 9, 2) := by decide +kernel
theorem d1_39 : decode prog_44_method_2_code 39 = .ok (.if_icmp .le 15, 3) := by decide +kernel
theorem d1_48 : decode prog_44_method_2_code 48 = .ok (.iload_n 0, 1) := by decide +kernel
theorem d1_49 : decode prog_44_method_2_code 49 = .ok (.ldc 13, 2) := by decide +kernel
theorem d1_51 : decode prog_44_method_2_code 51 = .ok (.if_icmp .gt 7, 3) := by decide +kernel
abbrev R1_34 : Room := { frames := 0, cells := 0, slots := 0, locals := 0 }
def f1_34 (p1 : Int32) : Int32 := (if p1 < (32 : Int32) then (if p1 = (9 : Int32) then (1 : Int32) else (if p1 = (10 : Int32) then (1 : Int32) else (if p1 = (13 : Int32) then (1 : Int32) else (0 : Int32)))) else (if (55295 : Int32) < p1 then (if p1 < (57344 : Int32) then (0 : Int32) else (if (65533 : Int32) < p1 then (if p1 < (65536 : Int32) then (0 : Int32) else (if (1114111 : Int32) < p1 then (0 : Int32) else (1 : Int32))) else (1 : Int32))) else (1 : Int32)))
theorem f1_34_nar (p1 : Int32) : nar .boolean (f1_34 p1) = f1_34 p1 := by
  unfold f1_34; (repeat' split) <;> rfl
def Q1_34 (Z : State) (p1 : Int32) (h0 : Heap) (n0 : Nat) (v : Option Value) (h : Heap) (L : List Loc) : Prop := Fr n0 L ∧ h = h0 ∧ v = some (.int (f1_34 p1))
theorem ef1_34 (m : MethodId) (x0 : Int32) : entryFrame m #[(.int x0)] 1 = mkF m 0 #[.val (.int x0)] [] := by first | (simp [entryFrame, mkF, argsToLocals, Value.category]; done) | rfl
theorem pn_0 : plainName "com/example/xylem/xylem/core/xml/XmlChar" = true := by first | (simp [plainName, overriddenIn]; done) | decide +kernel
set_option maxRecDepth 65536 in
set_option maxHeartbeats 40000000 in
theorem rm1_34 (l : Launch) (Z : State) (a0 : Array Value) (hw : ∀ d ∈ tables_1, d.before a0 Z = true) (ws : List Jvm.Cond) (p1 : Int32) (h0 : Heap) (n0 : Nat) (Z0 : n0 ≤ h0.size)  :
    MetFree l (⟨"com/example/xylem/xylem/core/xml/XmlChar", "isAllowed", "(I)Z"⟩ : MethodName) (head1 (Jvm.Cond.code (⟨"com/example/xylem/xylem/core/xml/XmlChar", "isAllowed", "(I)Z"⟩ : MethodName) prog_44_method_2_code 1 (some .boolean) :: ws) R1_34) (fun a U => a = #[(.int p1)] ∧ Z.Warmed39 U.vm ∧ U.heap = h0) (fun _ _ _ _ _ => True) (fun _ U o U' => ∃ v L, o = .returned v ∧ Q1_34 Z p1 h0 n0 v U'.heap L ∧ FrameEnd U o U' L R1_34.cells R1_34.slots) := by
 refine MetFree.of_bodySF (plainFor_of_name pn_0) hisR ?_
 intro p e s m args below meth c s₁ Bd hml0 hP hK
 obtain ⟨rfl, hZ, hh⟩ := hP
 have hx := Bd.exec
 have hby := Bd.bytes
 have hml : c.maxLocals = 1 := hml0
 have hlk : meth.locks = false := Bd.notSynchronized
 have hown : s.vm.findClass "com/example/xylem/xylem/core/xml/XmlChar" = some m.cls := findClass_of_methodNamed Bd.named
 have hnm := (name_of_methodNamed Bd.named Bd.method).1
 have X0 : Stand p l e R1_34 s m #[(.int p1)] below meth c s₁ [] 0 0 := Stand.of_body Bd
 have e0 : s₁.heap = h0 := by rw [← hh, Bd.state]; rfl
 have N0 := Fr.nil n0
 rw [ef1_34 m p1]
 show KEnds p e below s R1_34.cells R1_34.slots (Q1_34 Z p1 h0 n0) s₁ (mkF m 0 #[.val (.int p1)] [])
 refine k_iloadN X0 hx (hb hby d1_0) rfl (pc' := 1) rfl ?_
 refine k_bipush X0 hx (hb hby d1_1) (pc' := 3) rfl (z := (32 : Int32)) rfl ?_
 refine k_icmp_lt X0 hx (hb hby d1_3) (pn := 6) rfl (py := 12) (by decide) (fun hc35 => ?_) (fun hc35 => ?_)
 ·
  refine k_iloadN X0 hx (hb hby d1_12) rfl (pc' := 13) rfl ?_
  refine k_bipush X0 hx (hb hby d1_13) (pc' := 15) rfl (z := (9 : Int32)) rfl ?_
  refine k_icmp_eq X0 hx (hb hby d1_15) (pn := 18) rfl (py := 54) (by decide) (fun hc36 => ?_) (fun hc36 => ?_)
  ·
   refine k_iconst X0 hx (hb hby d1_54) (pc' := 55) rfl (z := (1 : Int32)) rfl ?_
   refine k_goto X0 hx (hb hby d1_55) (pc' := 59) (by decide) ?_
   have hf : f1_34 p1 = (1 : Int32) := by simp only [f1_34, if_pos hc35, if_pos hc36]
   exact k_retN X0 hx (t := .boolean) Bd.returns (by simp) (hb hby d1_59) hlk (by decide) (by decide) (z' := (1 : Int32)) rfl ⟨N0, e0, by rw [hf]⟩
  ·
   refine k_iloadN X0 hx (hb hby d1_18) rfl (pc' := 19) rfl ?_
   refine k_bipush X0 hx (hb hby d1_19) (pc' := 21) rfl (z := (10 : Int32)) rfl ?_
   refine k_icmp_eq X0 hx (hb hby d1_21) (pn := 24) rfl (py := 54) (by decide) (fun hc37 => ?_) (fun hc37 => ?_)
   ·
    refine k_iconst X0 hx (hb hby d1_54) (pc' := 55) rfl (z := (1 : Int32)) rfl ?_
    refine k_goto X0 hx (hb hby d1_55) (pc' := 59) (by decide) ?_
    have hf : f1_34 p1 = (1 : Int32) := by simp only [f1_34, if_pos hc35, if_neg hc36, if_pos hc37]
    exact k_retN X0 hx (t := .boolean) Bd.returns (by simp) (hb hby d1_59) hlk (by decide) (by decide) (z' := (1 : Int32)) rfl ⟨N0, e0, by rw [hf]⟩
   ·
    refine k_iloadN X0 hx (hb hby d1_24) rfl (pc' := 25) rfl ?_
    refine k_bipush X0 hx (hb hby d1_25) (pc' := 27) rfl (z := (13 : Int32)) rfl ?_
    refine k_icmp_eq X0 hx (hb hby d1_27) (pn := 30) rfl (py := 54) (by decide) (fun hc38 => ?_) (fun hc38 => ?_)
    ·
     refine k_iconst X0 hx (hb hby d1_54) (pc' := 55) rfl (z := (1 : Int32)) rfl ?_
     refine k_goto X0 hx (hb hby d1_55) (pc' := 59) (by decide) ?_
     have hf : f1_34 p1 = (1 : Int32) := by simp only [f1_34, if_pos hc35, if_neg hc36, if_neg hc37, if_pos hc38]
     exact k_retN X0 hx (t := .boolean) Bd.returns (by simp) (hb hby d1_59) hlk (by decide) (by decide) (z' := (1 : Int32)) rfl ⟨N0, e0, by rw [hf]⟩
    ·
     refine k_iloadN X0 hx (hb hby d1_30) rfl (pc' := 31) rfl ?_
     refine k_ldc X0 hx hZ hown (hw _ (List.mem_of_getElem? (i := 20) rfl)) (hb hby d1_31) (pc' := 33) rfl ?_
     refine k_icmp_lt X0 hx (hb hby d1_33) (pn := 36) rfl (py := 42) (by decide) (fun _ => ?_) (fun hc => absurd (k_d_xlt_xlt hc35 (by decide)) hc)
     refine k_iloadN X0 hx (hb hby d1_42) rfl (pc' := 43) rfl ?_
     refine k_ldc X0 hx hZ hown (hw _ (List.mem_of_getElem? (i := 21) rfl)) (hb hby d1_43) (pc' := 45) rfl ?_
     refine k_icmp_lt X0 hx (hb hby d1_45) (pn := 48) rfl (py := 58) (by decide) (fun _ => ?_) (fun hc => absurd (k_d_xlt_xlt hc35 (by decide)) hc)
     refine k_iconst X0 hx (hb hby d1_58) (pc' := 59) rfl (z := (0 : Int32)) rfl ?_
     have hf : f1_34 p1 = (0 : Int32) := by simp only [f1_34, if_pos hc35, if_neg hc36, if_neg hc37, if_neg hc38]
     exact k_retN X0 hx (t := .boolean) Bd.returns (by simp) (hb hby d1_59) hlk (by decide) (by decide) (z' := (0 : Int32)) rfl ⟨N0, e0, by rw [hf]⟩
 ·
  refine k_iloadN X0 hx (hb hby d1_6) rfl (pc' := 7) rfl ?_
  refine k_ldc X0 hx hZ hown (hw _ (List.mem_of_getElem? (i := 22) rfl)) (hb hby d1_7) (pc' := 9) rfl ?_
  refine k_icmp_le X0 hx (hb hby d1_9) (pn := 12) rfl (py := 54) (by decide) (fun hc39 => ?_) (fun hc39 => ?_)
  ·
   refine k_iconst X0 hx (hb hby d1_54) (pc' := 55) rfl (z := (1 : Int32)) rfl ?_
   refine k_goto X0 hx (hb hby d1_55) (pc' := 59) (by decide) ?_
   have hf : f1_34 p1 = (1 : Int32) := by simp only [f1_34, if_neg hc35, if_neg hc39]
   exact k_retN X0 hx (t := .boolean) Bd.returns (by simp) (hb hby d1_59) hlk (by decide) (by decide) (z' := (1 : Int32)) rfl ⟨N0, e0, by rw [hf]⟩
  ·
   refine k_iloadN X0 hx (hb hby d1_12) rfl (pc' := 13) rfl ?_
   refine k_bipush X0 hx (hb hby d1_13) (pc' := 15) rfl (z := (9 : Int32)) rfl ?_
   refine k_icmp_eq X0 hx (hb hby d1_15) (pn := 18) rfl (py := 54) (by decide) (fun hc => absurd hc (k_d_ne_nxlt hc35 (by decide))) (fun _ => ?_)
   refine k_iloadN X0 hx (hb hby d1_18) rfl (pc' := 19) rfl ?_
   refine k_bipush X0 hx (hb hby d1_19) (pc' := 21) rfl (z := (10 : Int32)) rfl ?_
   refine k_icmp_eq X0 hx (hb hby d1_21) (pn := 24) rfl (py := 54) (by decide) (fun hc => absurd hc (k_d_ne_nxlt hc35 (by decide))) (fun _ => ?_)
   refine k_iloadN X0 hx (hb hby d1_24) rfl (pc' := 25) rfl ?_
   refine k_bipush X0 hx (hb hby d1_25) (pc' := 27) rfl (z := (13 : Int32)) rfl ?_
   refine k_icmp_eq X0 hx (hb hby d1_27) (pn := 30) rfl (py := 54) (by decide) (fun hc => absurd hc (k_d_ne_nxlt hc35 (by decide))) (fun _ => ?_)
   refine k_iloadN X0 hx (hb hby d1_30) rfl (pc' := 31) rfl ?_
   refine k_ldc X0 hx hZ hown (hw _ (List.mem_of_getElem? (i := 20) rfl)) (hb hby d1_31) (pc' := 33) rfl ?_
   refine k_icmp_lt X0 hx (hb hby d1_33) (pn := 36) rfl (py := 42) (by decide) (fun hc40 => ?_) (fun hc40 => ?_)
   ·
    refine k_iloadN X0 hx (hb hby d1_42) rfl (pc' := 43) rfl ?_
    refine k_ldc X0 hx hZ hown (hw _ (List.mem_of_getElem? (i := 21) rfl)) (hb hby d1_43) (pc' := 45) rfl ?_
    refine k_icmp_lt X0 hx (hb hby d1_45) (pn := 48) rfl (py := 58) (by decide) (fun _ => ?_) (fun hc => absurd (k_d_xlt_xlt hc40 (by decide)) hc)
    refine k_iconst X0 hx (hb hby d1_58) (pc' := 59) rfl (z := (0 : Int32)) rfl ?_
    have hf : f1_34 p1 = (0 : Int32) := by simp only [f1_34, if_neg hc35, if_pos hc39, if_pos hc40]
    exact k_retN X0 hx (t := .boolean) Bd.returns (by simp) (hb hby d1_59) hlk (by decide) (by decide) (z' := (0 : Int32)) rfl ⟨N0, e0, by rw [hf]⟩
   ·
    refine k_iloadN X0 hx (hb hby d1_36) rfl (pc' := 37) rfl ?_
    refine k_ldc X0 hx hZ hown (hw _ (List.mem_of_getElem? (i := 23) rfl)) (hb hby d1_37) (pc' := 39) rfl ?_
    refine k_icmp_le X0 hx (hb hby d1_39) (pn := 42) rfl (py := 54) (by decide) (fun hc41 => ?_) (fun hc41 => ?_)
    ·
     refine k_iconst X0 hx (hb hby d1_54) (pc' := 55) rfl (z := (1 : Int32)) rfl ?_
     refine k_goto X0 hx (hb hby d1_55) (pc' := 59) (by decide) ?_
     have hf : f1_34 p1 = (1 : Int32) := by simp only [f1_34, if_neg hc35, if_pos hc39, if_neg hc40, if_neg hc41]
     exact k_retN X0 hx (t := .boolean) Bd.returns (by simp) (hb hby d1_59) hlk (by decide) (by decide) (z' := (1 : Int32)) rfl ⟨N0, e0, by rw [hf]⟩
    ·
     refine k_iloadN X0 hx (hb hby d1_42) rfl (pc' := 43) rfl ?_
     refine k_ldc X0 hx hZ hown (hw _ (List.mem_of_getElem? (i := 21) rfl)) (hb hby d1_43) (pc' := 45) rfl ?_
     refine k_icmp_lt X0 hx (hb hby d1_45) (pn := 48) rfl (py := 58) (by decide) (fun hc42 => ?_) (fun hc42 => ?_)
     ·
      refine k_iconst X0 hx (hb hby d1_58) (pc' := 59) rfl (z := (0 : Int32)) rfl ?_
      have hf : f1_34 p1 = (0 : Int32) := by simp only [f1_34, if_neg hc35, if_pos hc39, if_neg hc40, if_pos hc41, if_pos hc42]
      exact k_retN X0 hx (t := .boolean) Bd.returns (by simp) (hb hby d1_59) hlk (by decide) (by decide) (z' := (0 : Int32)) rfl ⟨N0, e0, by rw [hf]⟩
     ·
      refine k_iloadN X0 hx (hb hby d1_48) rfl (pc' := 49) rfl ?_
      refine k_ldc X0 hx hZ hown (hw _ (List.mem_of_getElem? (i := 24) rfl)) (hb hby d1_49) (pc' := 51) rfl ?_
      refine k_icmp_gt X0 hx (hb hby d1_51) (pn := 54) rfl (py := 58) (by decide) (fun hc43 => ?_) (fun hc43 => ?_)
      ·
       refine k_iconst X0 hx (hb hby d1_58) (pc' := 59) rfl (z := (0 : Int32)) rfl ?_
       have hf : f1_34 p1 = (0 : Int32) := by simp only [f1_34, if_neg hc35, if_pos hc39, if_neg hc40, if_pos hc41, if_neg hc42, if_pos hc43]
       exact k_retN X0 hx (t := .boolean) Bd.returns (by simp) (hb hby d1_59) hlk (by decide) (by decide) (z' := (0 : Int32)) rfl ⟨N0, e0, by rw [hf]⟩
      ·
       refine k_iconst X0 hx (hb hby d1_54) (pc' := 55) rfl (z := (1 : Int32)) rfl ?_
       refine k_goto X0 hx (hb hby d1_55) (pc' := 59) (by decide) ?_
       have hf : f1_34 p1 = (1 : Int32) := by simp only [f1_34, if_neg hc35, if_pos hc39, if_neg hc40, if_pos hc41, if_neg hc42, if_neg hc43]
       exact k_retN X0 hx (t := .boolean) Bd.returns (by simp) (hb hby d1_59) hlk (by decide) (by decide) (z' := (1 : Int32)) rfl ⟨N0, e0, by rw [hf]⟩
theorem pd_0 : parseMethodDescriptor "(I)Z" = some ⟨[.int], some .boolean⟩ := by decide +kernel
theorem d2_0 : decode method_3_code 0 = .ok (.iload_n 0, 1) := by decide +kernel
theorem d2_1 : decode method_3_code 1 = .ok (.bipush 9, 2) := by decide +kernel
theorem d2_3 : decode method_3_code 3 = .ok (.if_icmp .eq 15, 3) := by decide +kernel
theorem d2_18 : decode method_3_code 18 = .ok (.iconst 1, 1) := by decide +kernel
theorem d2_19 : decode method_3_code 19 = .ok (.ireturn, 1) := by decide +kernel
theorem d2_6 : decode method_3_code 6 = .ok (.iload_n 0, 1) := by decide +kernel
theorem d2_7 : decode method_3_code 7 = .ok (.bipush 10, 2) := by decide +kernel
theorem d2_9 : decode method_3_code 9 = .ok (.if_icmp .eq 9, 3) := by decide +kernel
theorem d2_12 : decode method_3_code 12 = .ok (.iload_n 0, 1) := by decide +kernel
theorem d2_13 : decode method_3_code 13 = .ok (.bipush 13, 2) := by decide +kernel
theorem d2_15 : decode method_3_code 15 = .ok (.if_icmp .ne 5, 3) := by decide +kernel
theorem d2_20 : decode method_3_code 20 = .ok (.iload_n 0, 1) := by decide +kernel
theorem d2_21 : decode method_3_code 21 = .ok (.bipush 32, 2) := by decide +kernel
theorem d2_23 : decode method_3_code 23 = .ok (.if_icmp .lt 9, 3) := by decide +kernel
theorem d2_32 : decode method_3_code 32 = .ok (.iconst 0, 1) := by decide +kernel
theorem d2_33 : decode method_3_code 33 = .ok (.ireturn, 1) := by decide +kernel
theorem d2_26 : decode method_3_code 26 = .ok (.iload_n 0, 1) := by decide +kernel
theorem d2_27 : decode method_3_code 27 = .ok (.ldc 15, 2) := by decide +kernel
theorem d2_29 : decode method_3_code 29 = .ok (.if_icmp .le 5, 3) := by decide +kernel
theorem d2_34 : decode method_3_code 34 = .ok (.iload_n 0, 1) := by decide +kernel
theorem d2_35 : decode method_3_code 35 = .ok (.ldc 8, 2) := by decide +kernel
theorem d2_37 : decode method_3_code 37 = .ok (.if_icmp .lt 11, 3) := by decide +kernel
theorem d2_48 : decode method_3_code 48 = .ok (.iload_n 0, 1) := by decide +kernel
theorem d2_49 : decode method_3_code 49 = .ok (.ldc 12, 2) := by decide +kernel
theorem d2_51 : decode method_3_code 51 = .ok (.if_icmp .eq 9, 3) := by decide +kernel
theorem d2_54 : decode method_3_code 54 = .ok (.iload_n 0, 1) := by decide +kernel
theorem d2_55 : decode method_3_code 55 = .ok (.ldc 13, 2) := by decide +kernel
theorem d2_57 : decode method_3_code 57 = .ok (.if_icmp .ne 5, 3) := by decide +kernel
theorem d2_62 : decode method_3_code 62 = .ok (.iconst 1, 1) := by decide +kernel
theorem d2_63 : decode method_3_code 63 = .ok (.ireturn, 1) := by decide +kernel
theorem d2_40 : decode method_3_code 40 = .ok (.iload_n 0, 1) := by decide +kernel
theorem d2_41 : decode method_3_code 41 = .ok (.ldc 9, 2) := by decide +kernel
theorem d2_43 : decode method_3_code 43 = .ok (.if_icmp .gt 5, 3) := by decide +kernel
theorem d2_60 : decode method_3_code 60 = .ok (.iconst 0, 1) := by decide +kernel
theorem d2_61 : decode method_3_code 61 = .ok (.ireturn, 1) := by decide +kernel
theorem d2_46 : decode method_3_code 46 = .ok (.iconst 0, 1) := by decide +kernel
theorem d2_47 : decode method_3_code 47 = .ok (.ireturn, 1) := by decide +kernel
abbrev R2_46 : Room := { frames := 0, cells := 0, slots := 0, locals := 0 }
def f2_46 (p1 : Int32) : Int32 := (if p1 = (9 : Int32) then (1 : Int32) else (if p1 = (10 : Int32) then (1 : Int32) else (if p1 = (13 : Int32) then (1 : Int32) else (if p1 < (32 : Int32) then (0 : Int32) else (if (1114111 : Int32) < p1 then (0 : Int32) else (if p1 < (55296 : Int32) then (1 : Int32) else (if (57343 : Int32) < p1 then (if p1 = (65534 : Int32) then (0 : Int32) else (if p1 = (65535 : Int32) then (0 : Int32) else (1 : Int32))) else (0 : Int32))))))))
theorem f2_46_nar (p1 : Int32) : nar .boolean (f2_46 p1) = f2_46 p1 := by
  unfold f2_46; (repeat' split) <;> rfl
def Q2_46 (Z : State) (p1 : Int32) (h0 : Heap) (n0 : Nat) (v : Option Value) (h : Heap) (L : List Loc) : Prop := Fr n0 L ∧ h = h0 ∧ v = some (.int (f2_46 p1))
theorem ef2_46 (m : MethodId) (x0 : Int32) : entryFrame m #[(.int x0)] 1 = mkF m 0 #[.val (.int x0)] [] := by first | (simp [entryFrame, mkF, argsToLocals, Value.category]; done) | rfl
theorem pn_1 : plainName "com/example/xylem/xylem/core/xml/XmlCharIsAllowedPinLaw" = true := by first | (simp [plainName, overriddenIn]; done) | decide +kernel
set_option maxRecDepth 65536 in
set_option maxHeartbeats 40000000 in
theorem rm2_46 (l : Launch) (Z : State) (a0 : Array Value) (hw : ∀ d ∈ tables_1, d.before a0 Z = true) (ws : List Jvm.Cond) (p1 : Int32) (h0 : Heap) (n0 : Nat) (Z0 : n0 ≤ h0.size)  :
    MetFree l (⟨"com/example/xylem/xylem/core/xml/XmlCharIsAllowedPinLaw", "expected", "(I)Z"⟩ : MethodName) (head1 (Jvm.Cond.code (⟨"com/example/xylem/xylem/core/xml/XmlCharIsAllowedPinLaw", "expected", "(I)Z"⟩ : MethodName) method_3_code 1 (some .boolean) :: ws) R2_46) (fun a U => a = #[(.int p1)] ∧ Z.Warmed39 U.vm ∧ U.heap = h0) (fun _ _ _ _ _ => True) (fun _ U o U' => ∃ v L, o = .returned v ∧ Q2_46 Z p1 h0 n0 v U'.heap L ∧ FrameEnd U o U' L R2_46.cells R2_46.slots) := by
 refine MetFree.of_bodySF (plainFor_of_name pn_1) hisR ?_
 intro p e s m args below meth c s₁ Bd hml0 hP hK
 obtain ⟨rfl, hZ, hh⟩ := hP
 have hx := Bd.exec
 have hby := Bd.bytes
 have hml : c.maxLocals = 1 := hml0
 have hlk : meth.locks = false := Bd.notSynchronized
 have hown : s.vm.findClass "com/example/xylem/xylem/core/xml/XmlCharIsAllowedPinLaw" = some m.cls := findClass_of_methodNamed Bd.named
 have hnm := (name_of_methodNamed Bd.named Bd.method).1
 have X0 : Stand p l e R2_46 s m #[(.int p1)] below meth c s₁ [] 0 0 := Stand.of_body Bd
 have e0 : s₁.heap = h0 := by rw [← hh, Bd.state]; rfl
 have N0 := Fr.nil n0
 rw [ef2_46 m p1]
 show KEnds p e below s R2_46.cells R2_46.slots (Q2_46 Z p1 h0 n0) s₁ (mkF m 0 #[.val (.int p1)] [])
 refine k_iloadN X0 hx (hb hby d2_0) rfl (pc' := 1) rfl ?_
 refine k_bipush X0 hx (hb hby d2_1) (pc' := 3) rfl (z := (9 : Int32)) rfl ?_
 refine k_icmp_eq X0 hx (hb hby d2_3) (pn := 6) rfl (py := 18) (by decide) (fun hc47 => ?_) (fun hc47 => ?_)
 ·
  refine k_iconst X0 hx (hb hby d2_18) (pc' := 19) rfl (z := (1 : Int32)) rfl ?_
  have hf : f2_46 p1 = (1 : Int32) := by simp only [f2_46, if_pos hc47]
  exact k_retN X0 hx (t := .boolean) Bd.returns (by simp) (hb hby d2_19) hlk (by decide) (by decide) (z' := (1 : Int32)) rfl ⟨N0, e0, by rw [hf]⟩
 ·
  refine k_iloadN X0 hx (hb hby d2_6) rfl (pc' := 7) rfl ?_
  refine k_bipush X0 hx (hb hby d2_7) (pc' := 9) rfl (z := (10 : Int32)) rfl ?_
  refine k_icmp_eq X0 hx (hb hby d2_9) (pn := 12) rfl (py := 18) (by decide) (fun hc48 => ?_) (fun hc48 => ?_)
  ·
   refine k_iconst X0 hx (hb hby d2_18) (pc' := 19) rfl (z := (1 : Int32)) rfl ?_
   have hf : f2_46 p1 = (1 : Int32) := by simp only [f2_46, if_neg hc47, if_pos hc48]
   exact k_retN X0 hx (t := .boolean) Bd.returns (by simp) (hb hby d2_19) hlk (by decide) (by decide) (z' := (1 : Int32)) rfl ⟨N0, e0, by rw [hf]⟩
  ·
   refine k_iloadN X0 hx (hb hby d2_12) rfl (pc' := 13) rfl ?_
   refine k_bipush X0 hx (hb hby d2_13) (pc' := 15) rfl (z := (13 : Int32)) rfl ?_
   refine k_icmp_ne X0 hx (hb hby d2_15) (pn := 18) rfl (py := 20) (by decide) (fun hc49 => ?_) (fun hc49 => ?_)
   ·
    refine k_iloadN X0 hx (hb hby d2_20) rfl (pc' := 21) rfl ?_
    refine k_bipush X0 hx (hb hby d2_21) (pc' := 23) rfl (z := (32 : Int32)) rfl ?_
    refine k_icmp_lt X0 hx (hb hby d2_23) (pn := 26) rfl (py := 32) (by decide) (fun hc50 => ?_) (fun hc50 => ?_)
    ·
     refine k_iconst X0 hx (hb hby d2_32) (pc' := 33) rfl (z := (0 : Int32)) rfl ?_
     have hf : f2_46 p1 = (0 : Int32) := by simp only [f2_46, if_neg hc47, if_neg hc48, if_neg hc49, if_pos hc50]
     exact k_retN X0 hx (t := .boolean) Bd.returns (by simp) (hb hby d2_33) hlk (by decide) (by decide) (z' := (0 : Int32)) rfl ⟨N0, e0, by rw [hf]⟩
    ·
     refine k_iloadN X0 hx (hb hby d2_26) rfl (pc' := 27) rfl ?_
     refine k_ldc X0 hx hZ hown (hw _ (List.mem_of_getElem? (i := 9) rfl)) (hb hby d2_27) (pc' := 29) rfl ?_
     refine k_icmp_le X0 hx (hb hby d2_29) (pn := 32) rfl (py := 34) (by decide) (fun hc51 => ?_) (fun hc51 => ?_)
     ·
      refine k_iloadN X0 hx (hb hby d2_34) rfl (pc' := 35) rfl ?_
      refine k_ldc X0 hx hZ hown (hw _ (List.mem_of_getElem? (i := 2) rfl)) (hb hby d2_35) (pc' := 37) rfl ?_
      refine k_icmp_lt X0 hx (hb hby d2_37) (pn := 40) rfl (py := 48) (by decide) (fun hc52 => ?_) (fun hc52 => ?_)
      ·
       refine k_iloadN X0 hx (hb hby d2_48) rfl (pc' := 49) rfl ?_
       refine k_ldc X0 hx hZ hown (hw _ (List.mem_of_getElem? (i := 6) rfl)) (hb hby d2_49) (pc' := 51) rfl ?_
       refine k_icmp_eq X0 hx (hb hby d2_51) (pn := 54) rfl (py := 60) (by decide) (fun hc => absurd hc (k_d_ne_xlt hc52 (by decide))) (fun _ => ?_)
       refine k_iloadN X0 hx (hb hby d2_54) rfl (pc' := 55) rfl ?_
       refine k_ldc X0 hx hZ hown (hw _ (List.mem_of_getElem? (i := 7) rfl)) (hb hby d2_55) (pc' := 57) rfl ?_
       refine k_icmp_ne X0 hx (hb hby d2_57) (pn := 60) rfl (py := 62) (by decide) (fun _ => ?_) (fun hc => absurd hc (k_d_ne_xlt hc52 (by decide)))
       refine k_iconst X0 hx (hb hby d2_62) (pc' := 63) rfl (z := (1 : Int32)) rfl ?_
       have hf : f2_46 p1 = (1 : Int32) := by simp only [f2_46, if_neg hc47, if_neg hc48, if_neg hc49, if_neg hc50, if_neg hc51, if_pos hc52]
       exact k_retN X0 hx (t := .boolean) Bd.returns (by simp) (hb hby d2_63) hlk (by decide) (by decide) (z' := (1 : Int32)) rfl ⟨N0, e0, by rw [hf]⟩
      ·
       refine k_iloadN X0 hx (hb hby d2_40) rfl (pc' := 41) rfl ?_
       refine k_ldc X0 hx hZ hown (hw _ (List.mem_of_getElem? (i := 3) rfl)) (hb hby d2_41) (pc' := 43) rfl ?_
       refine k_icmp_gt X0 hx (hb hby d2_43) (pn := 46) rfl (py := 48) (by decide) (fun hc53 => ?_) (fun hc53 => ?_)
       ·
        refine k_iloadN X0 hx (hb hby d2_48) rfl (pc' := 49) rfl ?_
        refine k_ldc X0 hx hZ hown (hw _ (List.mem_of_getElem? (i := 6) rfl)) (hb hby d2_49) (pc' := 51) rfl ?_
        refine k_icmp_eq X0 hx (hb hby d2_51) (pn := 54) rfl (py := 60) (by decide) (fun hc54 => ?_) (fun hc54 => ?_)
        ·
         refine k_iconst X0 hx (hb hby d2_60) (pc' := 61) rfl (z := (0 : Int32)) rfl ?_
         have hf : f2_46 p1 = (0 : Int32) := by simp only [f2_46, if_neg hc47, if_neg hc48, if_neg hc49, if_neg hc50, if_neg hc51, if_neg hc52, if_pos hc53, if_pos hc54]
         exact k_retN X0 hx (t := .boolean) Bd.returns (by simp) (hb hby d2_61) hlk (by decide) (by decide) (z' := (0 : Int32)) rfl ⟨N0, e0, by rw [hf]⟩
        ·
         refine k_iloadN X0 hx (hb hby d2_54) rfl (pc' := 55) rfl ?_
         refine k_ldc X0 hx hZ hown (hw _ (List.mem_of_getElem? (i := 7) rfl)) (hb hby d2_55) (pc' := 57) rfl ?_
         refine k_icmp_ne X0 hx (hb hby d2_57) (pn := 60) rfl (py := 62) (by decide) (fun hc55 => ?_) (fun hc55 => ?_)
         ·
          refine k_iconst X0 hx (hb hby d2_62) (pc' := 63) rfl (z := (1 : Int32)) rfl ?_
          have hf : f2_46 p1 = (1 : Int32) := by simp only [f2_46, if_neg hc47, if_neg hc48, if_neg hc49, if_neg hc50, if_neg hc51, if_neg hc52, if_pos hc53, if_neg hc54, if_neg hc55]
          exact k_retN X0 hx (t := .boolean) Bd.returns (by simp) (hb hby d2_63) hlk (by decide) (by decide) (z' := (1 : Int32)) rfl ⟨N0, e0, by rw [hf]⟩
         ·
          refine k_iconst X0 hx (hb hby d2_60) (pc' := 61) rfl (z := (0 : Int32)) rfl ?_
          have hf : f2_46 p1 = (0 : Int32) := by simp only [f2_46, if_neg hc47, if_neg hc48, if_neg hc49, if_neg hc50, if_neg hc51, if_neg hc52, if_pos hc53, if_neg hc54, if_pos hc55]
          exact k_retN X0 hx (t := .boolean) Bd.returns (by simp) (hb hby d2_61) hlk (by decide) (by decide) (z' := (0 : Int32)) rfl ⟨N0, e0, by rw [hf]⟩
       ·
        refine k_iconst X0 hx (hb hby d2_46) (pc' := 47) rfl (z := (0 : Int32)) rfl ?_
        have hf : f2_46 p1 = (0 : Int32) := by simp only [f2_46, if_neg hc47, if_neg hc48, if_neg hc49, if_neg hc50, if_neg hc51, if_neg hc52, if_neg hc53]
        exact k_retN X0 hx (t := .boolean) Bd.returns (by simp) (hb hby d2_47) hlk (by decide) (by decide) (z' := (0 : Int32)) rfl ⟨N0, e0, by rw [hf]⟩
     ·
      refine k_iconst X0 hx (hb hby d2_32) (pc' := 33) rfl (z := (0 : Int32)) rfl ?_
      have hf : f2_46 p1 = (0 : Int32) := by simp only [f2_46, if_neg hc47, if_neg hc48, if_neg hc49, if_neg hc50, if_pos hc51]
      exact k_retN X0 hx (t := .boolean) Bd.returns (by simp) (hb hby d2_33) hlk (by decide) (by decide) (z' := (0 : Int32)) rfl ⟨N0, e0, by rw [hf]⟩
   ·
    refine k_iconst X0 hx (hb hby d2_18) (pc' := 19) rfl (z := (1 : Int32)) rfl ?_
    have hf : f2_46 p1 = (1 : Int32) := by simp only [f2_46, if_neg hc47, if_neg hc48, if_pos hc49]
    exact k_retN X0 hx (t := .boolean) Bd.returns (by simp) (hb hby d2_19) hlk (by decide) (by decide) (z' := (1 : Int32)) rfl ⟨N0, e0, by rw [hf]⟩
theorem ef0 (m : MethodId) (x0 : Int32) (x1 : Int32) : entryFrame m #[(.int x0), (.int x1)] maxLocals = mkF m 0 #[.val (.int x0), .val (.int x1), .unset, .unset, .unset] [] := by first | (simp [entryFrame, mkF, argsToLocals, Value.category, maxLocals]; done) | rfl
theorem own_eq (c : Int32) : f1_34 c = f2_46 c := by
  unfold f1_34 f2_46
  simp only [Int32.lt_iff_toInt_lt, ← Int32.toInt_inj, show (10 : Int32).toInt = 10 from rfl, show (1114111 : Int32).toInt = 1114111 from rfl, show (13 : Int32).toInt = 13 from rfl, show (32 : Int32).toInt = 32 from rfl, show (55295 : Int32).toInt = 55295 from rfl, show (55296 : Int32).toInt = 55296 from rfl, show (57343 : Int32).toInt = 57343 from rfl, show (57344 : Int32).toInt = 57344 from rfl, show (65533 : Int32).toInt = 65533 from rfl, show (65534 : Int32).toInt = 65534 from rfl, show (65535 : Int32).toInt = 65535 from rfl, show (65536 : Int32).toInt = 65536 from rfl, show (9 : Int32).toInt = 9 from rfl]
  have r := rng32 c
  (repeat' split) <;> first | rfl | (exfalso; omega)
def Q0 (n0 : Nat) (v : Option Value) (h : Heap) (L : List Loc) : Prop := v = some (.int 1) ∧ Fr n0 L
set_option maxRecDepth 65536 in
set_option maxHeartbeats 40000000 in
theorem rm0 (l : Launch) (Z : State) (a0 : Array Value) (hw : ∀ d ∈ tables_1, d.before a0 Z = true) (ws : List Jvm.Cond) (i0 : Int32) (i1 : Int32) (h0 : Heap) (n0 : Nat) (Z0 : n0 ≤ h0.size) :
    MetFree l x (head1 (Jvm.Cond.code x code maxLocals ret :: ws) room_1) (fun a U => a = #[(.int i0), (.int i1)] ∧ Z.Warmed39 U.vm ∧ U.heap = h0) (fun _ _ _ _ _ => True) (fun _ U o U' => ∃ v L, o = .returned v ∧ Q0 n0 v U'.heap L ∧ FrameEnd U o U' L 16 128) := by
 refine MetFree.of_bodySF (plainFor_of_name pn_1) hisR ?_
 intro p e s m args below meth c s₁ Bd hml0 hP hK
 obtain ⟨rfl, hZ, hh⟩ := hP
 have hx := Bd.exec
 have hby := Bd.bytes
 have hml : c.maxLocals = 5 := hml0
 have hlk : meth.locks = false := Bd.notSynchronized
 have hown : s.vm.findClass "com/example/xylem/xylem/core/xml/XmlCharIsAllowedPinLaw" = some m.cls := findClass_of_methodNamed Bd.named
 have hnm := (name_of_methodNamed Bd.named Bd.method).1
 have X0 : Stand p l e room_1 s m #[(.int i0), (.int i1)] below meth c s₁ [] 0 0 := Stand.of_body Bd
 have e0 : s₁.heap = h0 := by rw [← hh, Bd.state]; rfl
 have N0 := Fr.nil n0
 rw [show entryFrame m #[(.int i0), (.int i1)] maxLocals = _ from ef0 m i0 i1]
 show KEnds p e below s 16 128 (Q0 n0) s₁ (mkF m 0 #[.val (.int i0), .val (.int i1), .unset, .unset, .unset] [])
 refine k_bipush X0 hx (hb hby at_0) (pc' := 2) rfl (z := (15 : Int32)) rfl ?_
 refine k_newA X0 hx hZ (hw _ (List.mem_of_getElem? (i := 0) rfl)) e0 (hb hby at_2) (by decide) (cap := 15) (by decide) (by decide) (by decide) (by decide) (pc' := 4) rfl (fun T1 h1 b1 k1 g1 X1 e1 E1 V1 => ?_)
 have g_b1 : n0 ≤ b1 := Nat.le_trans Z0 (Nat.le_of_eq g1.symm)
 have Z1 : n0 ≤ h1.size := Nat.le_trans Z0 E1.1
 have Vw1 : Arv Z h1 b1 k1 .int (15 : Int32) [(.int (0 : Int32)), (.int (0 : Int32)), (.int (0 : Int32)), (.int (0 : Int32)), (.int (0 : Int32)), (.int (0 : Int32)), (.int (0 : Int32)), (.int (0 : Int32)), (.int (0 : Int32)), (.int (0 : Int32)), (.int (0 : Int32)), (.int (0 : Int32)), (.int (0 : Int32)), (.int (0 : Int32)), (.int (0 : Int32))] (.int (0 : Int32)) := V1
 refine k_dup X1 hx (hb hby at_4) rfl (pc' := 5) rfl ?_
 refine k_iconst X1 hx (hb hby at_5) (pc' := 6) rfl (z := (0 : Int32)) rfl ?_
 refine k_iconst X1 hx (hb hby at_6) (pc' := 7) rfl (z := (0 : Int32)) rfl ?_
 refine k_iastore X1 hx hZ e1 Vw1 ⟨by decide, by decide⟩ (i := 0) rfl (Nat.le_of_ble_eq_true rfl) (hb hby at_7) (pc' := 8) rfl (fun T2 h2 X2 e2 W2 V2 => ?_)
 have Vw2 : Arv Z h2 b1 k1 .int (15 : Int32) [(.int (0 : Int32)), (.int (0 : Int32)), (.int (0 : Int32)), (.int (0 : Int32)), (.int (0 : Int32)), (.int (0 : Int32)), (.int (0 : Int32)), (.int (0 : Int32)), (.int (0 : Int32)), (.int (0 : Int32)), (.int (0 : Int32)), (.int (0 : Int32)), (.int (0 : Int32)), (.int (0 : Int32)), (.int (0 : Int32))] (.int (0 : Int32)) := V2
 have N2 := Fr.snoc X2 N0 g_b1
 have Z2 : n0 ≤ h2.size := Nat.le_trans Z1 (Nat.le_of_eq W2.size.symm)
 refine k_dup X2 hx (hb hby at_8) rfl (pc' := 9) rfl ?_
 refine k_iconst X2 hx (hb hby at_9) (pc' := 10) rfl (z := (1 : Int32)) rfl ?_
 refine k_bipush X2 hx (hb hby at_10) (pc' := 12) rfl (z := (9 : Int32)) rfl ?_
 refine k_iastore X2 hx hZ e2 Vw2 ⟨by decide, by decide⟩ (i := 1) rfl (Nat.le_of_ble_eq_true rfl) (hb hby at_12) (pc' := 13) rfl (fun T3 h3 X3 e3 W3 V3 => ?_)
 have Vw3 : Arv Z h3 b1 k1 .int (15 : Int32) [(.int (0 : Int32)), (.int (9 : Int32)), (.int (0 : Int32)), (.int (0 : Int32)), (.int (0 : Int32)), (.int (0 : Int32)), (.int (0 : Int32)), (.int (0 : Int32)), (.int (0 : Int32)), (.int (0 : Int32)), (.int (0 : Int32)), (.int (0 : Int32)), (.int (0 : Int32)), (.int (0 : Int32)), (.int (0 : Int32))] (.int (0 : Int32)) := V3
 have N3 := Fr.snoc X3 N2 g_b1
 have Z3 : n0 ≤ h3.size := Nat.le_trans Z2 (Nat.le_of_eq W3.size.symm)
 refine k_dup X3 hx (hb hby at_13) rfl (pc' := 14) rfl ?_
 refine k_iconst X3 hx (hb hby at_14) (pc' := 15) rfl (z := (2 : Int32)) rfl ?_
 refine k_bipush X3 hx (hb hby at_15) (pc' := 17) rfl (z := (10 : Int32)) rfl ?_
 refine k_iastore X3 hx hZ e3 Vw3 ⟨by decide, by decide⟩ (i := 2) rfl (Nat.le_of_ble_eq_true rfl) (hb hby at_17) (pc' := 18) rfl (fun T4 h4 X4 e4 W4 V4 => ?_)
 have Vw4 : Arv Z h4 b1 k1 .int (15 : Int32) [(.int (0 : Int32)), (.int (9 : Int32)), (.int (10 : Int32)), (.int (0 : Int32)), (.int (0 : Int32)), (.int (0 : Int32)), (.int (0 : Int32)), (.int (0 : Int32)), (.int (0 : Int32)), (.int (0 : Int32)), (.int (0 : Int32)), (.int (0 : Int32)), (.int (0 : Int32)), (.int (0 : Int32)), (.int (0 : Int32))] (.int (0 : Int32)) := V4
 have N4 := Fr.snoc X4 N3 g_b1
 have Z4 : n0 ≤ h4.size := Nat.le_trans Z3 (Nat.le_of_eq W4.size.symm)
 refine k_dup X4 hx (hb hby at_18) rfl (pc' := 19) rfl ?_
 refine k_iconst X4 hx (hb hby at_19) (pc' := 20) rfl (z := (3 : Int32)) rfl ?_
 refine k_bipush X4 hx (hb hby at_20) (pc' := 22) rfl (z := (13 : Int32)) rfl ?_
 refine k_iastore X4 hx hZ e4 Vw4 ⟨by decide, by decide⟩ (i := 3) rfl (Nat.le_of_ble_eq_true rfl) (hb hby at_22) (pc' := 23) rfl (fun T5 h5 X5 e5 W5 V5 => ?_)
 have Vw5 : Arv Z h5 b1 k1 .int (15 : Int32) [(.int (0 : Int32)), (.int (9 : Int32)), (.int (10 : Int32)), (.int (13 : Int32)), (.int (0 : Int32)), (.int (0 : Int32)), (.int (0 : Int32)), (.int (0 : Int32)), (.int (0 : Int32)), (.int (0 : Int32)), (.int (0 : Int32)), (.int (0 : Int32)), (.int (0 : Int32)), (.int (0 : Int32)), (.int (0 : Int32))] (.int (0 : Int32)) := V5
 have N5 := Fr.snoc X5 N4 g_b1
 have Z5 : n0 ≤ h5.size := Nat.le_trans Z4 (Nat.le_of_eq W5.size.symm)
 refine k_dup X5 hx (hb hby at_23) rfl (pc' := 24) rfl ?_
 refine k_iconst X5 hx (hb hby at_24) (pc' := 25) rfl (z := (4 : Int32)) rfl ?_
 refine k_bipush X5 hx (hb hby at_25) (pc' := 27) rfl (z := (32 : Int32)) rfl ?_
 refine k_iastore X5 hx hZ e5 Vw5 ⟨by decide, by decide⟩ (i := 4) rfl (Nat.le_of_ble_eq_true rfl) (hb hby at_27) (pc' := 28) rfl (fun T6 h6 X6 e6 W6 V6 => ?_)
 have Vw6 : Arv Z h6 b1 k1 .int (15 : Int32) [(.int (0 : Int32)), (.int (9 : Int32)), (.int (10 : Int32)), (.int (13 : Int32)), (.int (32 : Int32)), (.int (0 : Int32)), (.int (0 : Int32)), (.int (0 : Int32)), (.int (0 : Int32)), (.int (0 : Int32)), (.int (0 : Int32)), (.int (0 : Int32)), (.int (0 : Int32)), (.int (0 : Int32)), (.int (0 : Int32))] (.int (0 : Int32)) := V6
 have N6 := Fr.snoc X6 N5 g_b1
 have Z6 : n0 ≤ h6.size := Nat.le_trans Z5 (Nat.le_of_eq W6.size.symm)
 refine k_dup X6 hx (hb hby at_28) rfl (pc' := 29) rfl ?_
 refine k_iconst X6 hx (hb hby at_29) (pc' := 30) rfl (z := (5 : Int32)) rfl ?_
 refine k_ldc X6 hx hZ hown (hw _ (List.mem_of_getElem? (i := 1) rfl)) (hb hby at_30) (pc' := 32) rfl ?_
 refine k_iastore X6 hx hZ e6 Vw6 ⟨by decide, by decide⟩ (i := 5) rfl (Nat.le_of_ble_eq_true rfl) (hb hby at_32) (pc' := 33) rfl (fun T7 h7 X7 e7 W7 V7 => ?_)
 have Vw7 : Arv Z h7 b1 k1 .int (15 : Int32) [(.int (0 : Int32)), (.int (9 : Int32)), (.int (10 : Int32)), (.int (13 : Int32)), (.int (32 : Int32)), (.int (55295 : Int32)), (.int (0 : Int32)), (.int (0 : Int32)), (.int (0 : Int32)), (.int (0 : Int32)), (.int (0 : Int32)), (.int (0 : Int32)), (.int (0 : Int32)), (.int (0 : Int32)), (.int (0 : Int32))] (.int (0 : Int32)) := V7
 have N7 := Fr.snoc X7 N6 g_b1
 have Z7 : n0 ≤ h7.size := Nat.le_trans Z6 (Nat.le_of_eq W7.size.symm)
 refine k_dup X7 hx (hb hby at_33) rfl (pc' := 34) rfl ?_
 refine k_bipush X7 hx (hb hby at_34) (pc' := 36) rfl (z := (6 : Int32)) rfl ?_
 refine k_ldc X7 hx hZ hown (hw _ (List.mem_of_getElem? (i := 2) rfl)) (hb hby at_36) (pc' := 38) rfl ?_
 refine k_iastore X7 hx hZ e7 Vw7 ⟨by decide, by decide⟩ (i := 6) rfl (Nat.le_of_ble_eq_true rfl) (hb hby at_38) (pc' := 39) rfl (fun T8 h8 X8 e8 W8 V8 => ?_)
 have Vw8 : Arv Z h8 b1 k1 .int (15 : Int32) [(.int (0 : Int32)), (.int (9 : Int32)), (.int (10 : Int32)), (.int (13 : Int32)), (.int (32 : Int32)), (.int (55295 : Int32)), (.int (55296 : Int32)), (.int (0 : Int32)), (.int (0 : Int32)), (.int (0 : Int32)), (.int (0 : Int32)), (.int (0 : Int32)), (.int (0 : Int32)), (.int (0 : Int32)), (.int (0 : Int32))] (.int (0 : Int32)) := V8
 have N8 := Fr.snoc X8 N7 g_b1
 have Z8 : n0 ≤ h8.size := Nat.le_trans Z7 (Nat.le_of_eq W8.size.symm)
 refine k_dup X8 hx (hb hby at_39) rfl (pc' := 40) rfl ?_
 refine k_bipush X8 hx (hb hby at_40) (pc' := 42) rfl (z := (7 : Int32)) rfl ?_
 refine k_ldc X8 hx hZ hown (hw _ (List.mem_of_getElem? (i := 3) rfl)) (hb hby at_42) (pc' := 44) rfl ?_
 refine k_iastore X8 hx hZ e8 Vw8 ⟨by decide, by decide⟩ (i := 7) rfl (Nat.le_of_ble_eq_true rfl) (hb hby at_44) (pc' := 45) rfl (fun T9 h9 X9 e9 W9 V9 => ?_)
 have Vw9 : Arv Z h9 b1 k1 .int (15 : Int32) [(.int (0 : Int32)), (.int (9 : Int32)), (.int (10 : Int32)), (.int (13 : Int32)), (.int (32 : Int32)), (.int (55295 : Int32)), (.int (55296 : Int32)), (.int (57343 : Int32)), (.int (0 : Int32)), (.int (0 : Int32)), (.int (0 : Int32)), (.int (0 : Int32)), (.int (0 : Int32)), (.int (0 : Int32)), (.int (0 : Int32))] (.int (0 : Int32)) := V9
 have N9 := Fr.snoc X9 N8 g_b1
 have Z9 : n0 ≤ h9.size := Nat.le_trans Z8 (Nat.le_of_eq W9.size.symm)
 refine k_dup X9 hx (hb hby at_45) rfl (pc' := 46) rfl ?_
 refine k_bipush X9 hx (hb hby at_46) (pc' := 48) rfl (z := (8 : Int32)) rfl ?_
 refine k_ldc X9 hx hZ hown (hw _ (List.mem_of_getElem? (i := 4) rfl)) (hb hby at_48) (pc' := 50) rfl ?_
 refine k_iastore X9 hx hZ e9 Vw9 ⟨by decide, by decide⟩ (i := 8) rfl (Nat.le_of_ble_eq_true rfl) (hb hby at_50) (pc' := 51) rfl (fun T10 h10 X10 e10 W10 V10 => ?_)
 have Vw10 : Arv Z h10 b1 k1 .int (15 : Int32) [(.int (0 : Int32)), (.int (9 : Int32)), (.int (10 : Int32)), (.int (13 : Int32)), (.int (32 : Int32)), (.int (55295 : Int32)), (.int (55296 : Int32)), (.int (57343 : Int32)), (.int (57344 : Int32)), (.int (0 : Int32)), (.int (0 : Int32)), (.int (0 : Int32)), (.int (0 : Int32)), (.int (0 : Int32)), (.int (0 : Int32))] (.int (0 : Int32)) := V10
 have N10 := Fr.snoc X10 N9 g_b1
 have Z10 : n0 ≤ h10.size := Nat.le_trans Z9 (Nat.le_of_eq W10.size.symm)
 refine k_dup X10 hx (hb hby at_51) rfl (pc' := 52) rfl ?_
 refine k_bipush X10 hx (hb hby at_52) (pc' := 54) rfl (z := (9 : Int32)) rfl ?_
 refine k_ldc X10 hx hZ hown (hw _ (List.mem_of_getElem? (i := 5) rfl)) (hb hby at_54) (pc' := 56) rfl ?_
 refine k_iastore X10 hx hZ e10 Vw10 ⟨by decide, by decide⟩ (i := 9) rfl (Nat.le_of_ble_eq_true rfl) (hb hby at_56) (pc' := 57) rfl (fun T11 h11 X11 e11 W11 V11 => ?_)
 have Vw11 : Arv Z h11 b1 k1 .int (15 : Int32) [(.int (0 : Int32)), (.int (9 : Int32)), (.int (10 : Int32)), (.int (13 : Int32)), (.int (32 : Int32)), (.int (55295 : Int32)), (.int (55296 : Int32)), (.int (57343 : Int32)), (.int (57344 : Int32)), (.int (65533 : Int32)), (.int (0 : Int32)), (.int (0 : Int32)), (.int (0 : Int32)), (.int (0 : Int32)), (.int (0 : Int32))] (.int (0 : Int32)) := V11
 have N11 := Fr.snoc X11 N10 g_b1
 have Z11 : n0 ≤ h11.size := Nat.le_trans Z10 (Nat.le_of_eq W11.size.symm)
 refine k_dup X11 hx (hb hby at_57) rfl (pc' := 58) rfl ?_
 refine k_bipush X11 hx (hb hby at_58) (pc' := 60) rfl (z := (10 : Int32)) rfl ?_
 refine k_ldc X11 hx hZ hown (hw _ (List.mem_of_getElem? (i := 6) rfl)) (hb hby at_60) (pc' := 62) rfl ?_
 refine k_iastore X11 hx hZ e11 Vw11 ⟨by decide, by decide⟩ (i := 10) rfl (Nat.le_of_ble_eq_true rfl) (hb hby at_62) (pc' := 63) rfl (fun T12 h12 X12 e12 W12 V12 => ?_)
 have Vw12 : Arv Z h12 b1 k1 .int (15 : Int32) [(.int (0 : Int32)), (.int (9 : Int32)), (.int (10 : Int32)), (.int (13 : Int32)), (.int (32 : Int32)), (.int (55295 : Int32)), (.int (55296 : Int32)), (.int (57343 : Int32)), (.int (57344 : Int32)), (.int (65533 : Int32)), (.int (65534 : Int32)), (.int (0 : Int32)), (.int (0 : Int32)), (.int (0 : Int32)), (.int (0 : Int32))] (.int (0 : Int32)) := V12
 have N12 := Fr.snoc X12 N11 g_b1
 have Z12 : n0 ≤ h12.size := Nat.le_trans Z11 (Nat.le_of_eq W12.size.symm)
 refine k_dup X12 hx (hb hby at_63) rfl (pc' := 64) rfl ?_
 refine k_bipush X12 hx (hb hby at_64) (pc' := 66) rfl (z := (11 : Int32)) rfl ?_
 refine k_ldc X12 hx hZ hown (hw _ (List.mem_of_getElem? (i := 7) rfl)) (hb hby at_66) (pc' := 68) rfl ?_
 refine k_iastore X12 hx hZ e12 Vw12 ⟨by decide, by decide⟩ (i := 11) rfl (Nat.le_of_ble_eq_true rfl) (hb hby at_68) (pc' := 69) rfl (fun T13 h13 X13 e13 W13 V13 => ?_)
 have Vw13 : Arv Z h13 b1 k1 .int (15 : Int32) [(.int (0 : Int32)), (.int (9 : Int32)), (.int (10 : Int32)), (.int (13 : Int32)), (.int (32 : Int32)), (.int (55295 : Int32)), (.int (55296 : Int32)), (.int (57343 : Int32)), (.int (57344 : Int32)), (.int (65533 : Int32)), (.int (65534 : Int32)), (.int (65535 : Int32)), (.int (0 : Int32)), (.int (0 : Int32)), (.int (0 : Int32))] (.int (0 : Int32)) := V13
 have N13 := Fr.snoc X13 N12 g_b1
 have Z13 : n0 ≤ h13.size := Nat.le_trans Z12 (Nat.le_of_eq W13.size.symm)
 refine k_dup X13 hx (hb hby at_69) rfl (pc' := 70) rfl ?_
 refine k_bipush X13 hx (hb hby at_70) (pc' := 72) rfl (z := (12 : Int32)) rfl ?_
 refine k_ldc X13 hx hZ hown (hw _ (List.mem_of_getElem? (i := 8) rfl)) (hb hby at_72) (pc' := 74) rfl ?_
 refine k_iastore X13 hx hZ e13 Vw13 ⟨by decide, by decide⟩ (i := 12) rfl (Nat.le_of_ble_eq_true rfl) (hb hby at_74) (pc' := 75) rfl (fun T14 h14 X14 e14 W14 V14 => ?_)
 have Vw14 : Arv Z h14 b1 k1 .int (15 : Int32) [(.int (0 : Int32)), (.int (9 : Int32)), (.int (10 : Int32)), (.int (13 : Int32)), (.int (32 : Int32)), (.int (55295 : Int32)), (.int (55296 : Int32)), (.int (57343 : Int32)), (.int (57344 : Int32)), (.int (65533 : Int32)), (.int (65534 : Int32)), (.int (65535 : Int32)), (.int (65536 : Int32)), (.int (0 : Int32)), (.int (0 : Int32))] (.int (0 : Int32)) := V14
 have N14 := Fr.snoc X14 N13 g_b1
 have Z14 : n0 ≤ h14.size := Nat.le_trans Z13 (Nat.le_of_eq W14.size.symm)
 refine k_dup X14 hx (hb hby at_75) rfl (pc' := 76) rfl ?_
 refine k_bipush X14 hx (hb hby at_76) (pc' := 78) rfl (z := (13 : Int32)) rfl ?_
 refine k_ldc X14 hx hZ hown (hw _ (List.mem_of_getElem? (i := 9) rfl)) (hb hby at_78) (pc' := 80) rfl ?_
 refine k_iastore X14 hx hZ e14 Vw14 ⟨by decide, by decide⟩ (i := 13) rfl (Nat.le_of_ble_eq_true rfl) (hb hby at_80) (pc' := 81) rfl (fun T15 h15 X15 e15 W15 V15 => ?_)
 have Vw15 : Arv Z h15 b1 k1 .int (15 : Int32) [(.int (0 : Int32)), (.int (9 : Int32)), (.int (10 : Int32)), (.int (13 : Int32)), (.int (32 : Int32)), (.int (55295 : Int32)), (.int (55296 : Int32)), (.int (57343 : Int32)), (.int (57344 : Int32)), (.int (65533 : Int32)), (.int (65534 : Int32)), (.int (65535 : Int32)), (.int (65536 : Int32)), (.int (1114111 : Int32)), (.int (0 : Int32))] (.int (0 : Int32)) := V15
 have N15 := Fr.snoc X15 N14 g_b1
 have Z15 : n0 ≤ h15.size := Nat.le_trans Z14 (Nat.le_of_eq W15.size.symm)
 refine k_dup X15 hx (hb hby at_81) rfl (pc' := 82) rfl ?_
 refine k_bipush X15 hx (hb hby at_82) (pc' := 84) rfl (z := (14 : Int32)) rfl ?_
 refine k_ldc X15 hx hZ hown (hw _ (List.mem_of_getElem? (i := 10) rfl)) (hb hby at_84) (pc' := 86) rfl ?_
 refine k_iastore X15 hx hZ e15 Vw15 ⟨by decide, by decide⟩ (i := 14) rfl (Nat.le_of_ble_eq_true rfl) (hb hby at_86) (pc' := 87) rfl (fun T16 h16 X16 e16 W16 V16 => ?_)
 have Vw16 : Arv Z h16 b1 k1 .int (15 : Int32) [(.int (0 : Int32)), (.int (9 : Int32)), (.int (10 : Int32)), (.int (13 : Int32)), (.int (32 : Int32)), (.int (55295 : Int32)), (.int (55296 : Int32)), (.int (57343 : Int32)), (.int (57344 : Int32)), (.int (65533 : Int32)), (.int (65534 : Int32)), (.int (65535 : Int32)), (.int (65536 : Int32)), (.int (1114111 : Int32)), (.int (1114112 : Int32))] (.int (0 : Int32)) := V16
 have N16 := Fr.snoc X16 N15 g_b1
 have Z16 : n0 ≤ h16.size := Nat.le_trans Z15 (Nat.le_of_eq W16.size.symm)
 refine k_astoreN X16 hx (hb hby at_87) rfl (Ls' := #[.val (.int i0), .val (.int i1), .val (.ref b1), .unset, .unset]) rfl (pc' := 88) rfl ?_
 refine k_iloadN X16 hx (hb hby at_88) rfl (pc' := 89) rfl ?_
 refine k_ldc X16 hx hZ hown (hw _ (List.mem_of_getElem? (i := 11) rfl)) (hb hby at_89) (pc' := 91) rfl ?_
 refine k_iand X16 hx (hb hby at_91) (pc' := 92) rfl (fun v17 hv17 => ?_)
 refine k_bipush X16 hx (hb hby at_92) (pc' := 94) rfl (z := (16 : Int32)) rfl ?_
 refine k_irem X16 hx (hb hby at_94) (by decide) (pc' := 95) rfl (fun v18 hv18 => ?_)
 refine k_istoreN X16 hx (hb hby at_95) (Ls' := #[.val (.int i0), .val (.int i1), .val (.ref b1), .val (.int v18), .unset]) rfl (pc' := 96) rfl ?_
 refine k_iloadN X16 hx (hb hby at_96) rfl (pc' := 97) rfl ?_
 refine k_bipush X16 hx (hb hby at_97) (pc' := 99) rfl (z := (15 : Int32)) rfl ?_
 refine k_icmp_ne X16 hx (hb hby at_99) (pn := 102) rfl (py := 106) (by decide) (fun hc19 => ?_) (fun hc19 => ?_)
 ·
  refine k_aloadN X16 hx (hb hby at_106) rfl rfl (pc' := 107) rfl ?_
  refine k_iloadN X16 hx (hb hby at_107) rfl (pc' := 108) rfl ?_
  have hj20 : ¬ v18 < 0 ∧ v18 < (15 : Int32) := by
   refine ⟨?_, ?_⟩
   ·
    intro hq21
    have := rng32 v18
    have := rng32 v17
    have := rng32 i1
    have : (2147483647 : Int32).toInt = 2147483647 := by decide
    have q22 : v17.toInt = i1.toInt % 2147483648 := by rw [hv17]; exact c_mask _ _ 31 (by decide) (by decide)
    have : (16 : Int32).toInt = 16 := by decide
    have q23 : (0 ≤ v17.toInt → v18.toInt = v17.toInt % 16) ∧ (v17.toInt < 0 → v18.toInt = -((-v17.toInt) % 16)) := by rw [hv18]; exact c_irem _ _ 16 (by decide)
    have : (15 : Int32).toInt = 15 := by decide
    have q24 : ¬ v18.toInt = (15 : Int32).toInt := fun q => hc19 (Int32.toInt_inj.mp q)
    have : (0 : Int32).toInt = 0 := by decide
    have q25 := hq21; rw [Int32.lt_iff_toInt_lt] at q25
    omega
   ·
    refine Classical.byContradiction (fun hq26 => ?_)
    have := rng32 v18
    have := rng32 v17
    have := rng32 i1
    have : (2147483647 : Int32).toInt = 2147483647 := by decide
    have q27 : v17.toInt = i1.toInt % 2147483648 := by rw [hv17]; exact c_mask _ _ 31 (by decide) (by decide)
    have : (16 : Int32).toInt = 16 := by decide
    have q28 : (0 ≤ v17.toInt → v18.toInt = v17.toInt % 16) ∧ (v17.toInt < 0 → v18.toInt = -((-v17.toInt) % 16)) := by rw [hv18]; exact c_irem _ _ 16 (by decide)
    have : (15 : Int32).toInt = 15 := by decide
    have q29 : ¬ v18.toInt = (15 : Int32).toInt := fun q => hc19 (Int32.toInt_inj.mp q)
    have q30 := hq26; rw [Int32.lt_iff_toInt_lt] at q30
    omega
  refine k_ialoadS X16 hx hZ e16 Vw16 hj20 (hb hby at_108) (pc' := 109) rfl (fun v31 hv31 => ?_)
  refine k_iloadN X16 hx (hb hby at_109) rfl (pc' := 110) rfl ?_
  refine k_iconst X16 hx (hb hby at_110) (pc' := 111) rfl (z := (3 : Int32)) rfl ?_
  refine k_irem X16 hx (hb hby at_111) (by decide) (pc' := 112) rfl (fun v32 hv32 => ?_)
  refine k_iadd X16 hx (hb hby at_112) (pc' := 113) rfl (fun v33 hv33 => ?_)
  refine k_istore X16 hx (hb hby at_113) (Ls' := #[.val (.int i0), .val (.int i1), .val (.ref b1), .val (.int v18), .val (.int v33)]) rfl (pc' := 115) rfl ?_
  refine k_iload X16 hx (hb hby at_115) rfl (pc' := 117) rfl ?_
  refine k_callS X16 hx hZ hown (hw _ (List.mem_of_getElem? (i := 12) rfl)) (hw _ (List.mem_of_getElem? (i := 13) rfl)) (hw _ (List.mem_of_getElem? (i := 14) rfl)) (hw _ (List.mem_of_getElem? (i := 15) rfl)) (by decide) (rm1_34 l Z a0 hw [] v33 h16 n0 Z16 ) (by decide) (by decide) e16 (by rw [hml]; rfl) (argsL := [(.int v33)]) (rest := []) (lenOf pd_0 rfl) rfl (W := 0) (Nat.le_refl _) rfl (hb hby at_117) (by decide) (by decide) (pc' := 120) rfl (fun T44 L44 r44 X44 q44 => ?_)
  obtain ⟨N44, e44, rfl⟩ := q44
  have N44' := Fr.app N16 N44
  show KEnds p e below s _ _ _ T44 (mkF m 120 #[.val (.int i0), .val (.int i1), .val (.ref b1), .val (.int v18), .val (.int v33)] ((.int (f1_34 v33)) :: []))
  obtain ⟨v45, hv45⟩ : ∃ z, z = f1_34 v33 := ⟨_, rfl⟩
  rw [← hv45]
  refine k_iload X44 hx (hb hby at_120) rfl (pc' := 122) rfl ?_
  refine k_callS X44 hx hZ hown (hw _ (List.mem_of_getElem? (i := 16) rfl)) (hw _ (List.mem_of_getElem? (i := 17) rfl)) (hw _ (List.mem_of_getElem? (i := 18) rfl)) (hw _ (List.mem_of_getElem? (i := 19) rfl)) (by decide) (rm2_46 l Z a0 hw [] v33 h16 n0 Z16 ) (by decide) (by decide) e44 (by rw [hml]; rfl) (argsL := [(.int v33)]) (rest := [(.int v45)]) (lenOf pd_0 rfl) rfl (W := 1) (Nat.le_refl _) rfl (hb hby at_122) (by decide) (by decide) (pc' := 125) rfl (fun T56 L56 r56 X56 q56 => ?_)
  obtain ⟨N56, e56, rfl⟩ := q56
  have N56' := Fr.app N44' N56
  show KEnds p e below s _ _ _ T56 (mkF m 125 #[.val (.int i0), .val (.int i1), .val (.ref b1), .val (.int v18), .val (.int v33)] ((.int (f2_46 v33)) :: (.int v45) :: []))
  obtain ⟨v57, hv57⟩ : ∃ z, z = f2_46 v33 := ⟨_, rfl⟩
  rw [← hv57]
  refine k_icmp_ne X56 hx (hb hby at_125) (pn := 128) rfl (py := 132) (by decide) (fun hc => absurd (by rw [hv45, hv57]; exact own_eq _) hc) (fun _ => ?_)
  refine k_iconst X56 hx (hb hby at_128) (pc' := 129) rfl (z := (1 : Int32)) rfl ?_
  refine k_goto X56 hx (hb hby at_129) (pc' := 133) (by decide) ?_
  exact k_retN X56 hx (t := .boolean) Bd.returns (by simp) (hb hby at_133) hlk (by decide) (by decide) (z' := (1 : Int32)) rfl ⟨rfl, N56'⟩
 ·
  refine k_iloadN X16 hx (hb hby at_102) rfl (pc' := 103) rfl ?_
  refine k_goto X16 hx (hb hby at_103) (pc' := 113) (by decide) ?_
  refine k_istore X16 hx (hb hby at_113) (Ls' := #[.val (.int i0), .val (.int i1), .val (.ref b1), .val (.int v18), .val (.int i0)]) rfl (pc' := 115) rfl ?_
  refine k_iload X16 hx (hb hby at_115) rfl (pc' := 117) rfl ?_
  refine k_callS X16 hx hZ hown (hw _ (List.mem_of_getElem? (i := 12) rfl)) (hw _ (List.mem_of_getElem? (i := 13) rfl)) (hw _ (List.mem_of_getElem? (i := 14) rfl)) (hw _ (List.mem_of_getElem? (i := 15) rfl)) (by decide) (rm1_34 l Z a0 hw [] i0 h16 n0 Z16 ) (by decide) (by decide) e16 (by rw [hml]; rfl) (argsL := [(.int i0)]) (rest := []) (lenOf pd_0 rfl) rfl (W := 0) (Nat.le_refl _) rfl (hb hby at_117) (by decide) (by decide) (pc' := 120) rfl (fun T58 L58 r58 X58 q58 => ?_)
  obtain ⟨N58, e58, rfl⟩ := q58
  have N58' := Fr.app N16 N58
  show KEnds p e below s _ _ _ T58 (mkF m 120 #[.val (.int i0), .val (.int i1), .val (.ref b1), .val (.int v18), .val (.int i0)] ((.int (f1_34 i0)) :: []))
  obtain ⟨v59, hv59⟩ : ∃ z, z = f1_34 i0 := ⟨_, rfl⟩
  rw [← hv59]
  refine k_iload X58 hx (hb hby at_120) rfl (pc' := 122) rfl ?_
  refine k_callS X58 hx hZ hown (hw _ (List.mem_of_getElem? (i := 16) rfl)) (hw _ (List.mem_of_getElem? (i := 17) rfl)) (hw _ (List.mem_of_getElem? (i := 18) rfl)) (hw _ (List.mem_of_getElem? (i := 19) rfl)) (by decide) (rm2_46 l Z a0 hw [] i0 h16 n0 Z16 ) (by decide) (by decide) e58 (by rw [hml]; rfl) (argsL := [(.int i0)]) (rest := [(.int v59)]) (lenOf pd_0 rfl) rfl (W := 1) (Nat.le_refl _) rfl (hb hby at_122) (by decide) (by decide) (pc' := 125) rfl (fun T60 L60 r60 X60 q60 => ?_)
  obtain ⟨N60, e60, rfl⟩ := q60
  have N60' := Fr.app N58' N60
  show KEnds p e below s _ _ _ T60 (mkF m 125 #[.val (.int i0), .val (.int i1), .val (.ref b1), .val (.int v18), .val (.int i0)] ((.int (f2_46 i0)) :: (.int v59) :: []))
  obtain ⟨v61, hv61⟩ : ∃ z, z = f2_46 i0 := ⟨_, rfl⟩
  rw [← hv61]
  refine k_icmp_ne X60 hx (hb hby at_125) (pn := 128) rfl (py := 132) (by decide) (fun hc => absurd (by rw [hv59, hv61]; exact own_eq _) hc) (fun _ => ?_)
  refine k_iconst X60 hx (hb hby at_128) (pc' := 129) rfl (z := (1 : Int32)) rfl ?_
  refine k_goto X60 hx (hb hby at_129) (pc' := 133) (by decide) ?_
  exact k_retN X60 hx (t := .boolean) Bd.returns (by simp) (hb hby at_133) hlk (by decide) (by decide) (z' := (1 : Int32)) rfl ⟨rfl, N60'⟩
set_option maxRecDepth 65536 in
set_option maxHeartbeats 40000000 in
theorem comes_1 {Post : Tables → Env → Array Value → State → Outcome → State → Prop} (hpost : ∀ tb e args s v u, (limb_1_1.after args s (.returned v) u = true ∧ limb_1_2.after args s (.returned v) u = true ∧ True) → FrameEnd s (.returned v) u (Jvm.fieldLocs frame_1_writes args s ++ Jvm.arrayLocs frame_1_arrays args s ++ Jvm.staticLocs frame_1_statics s) 16 128 → Post tb e args s (.returned v) u) :
    ArmFor flags0 classFile x code maxLocals ret World_1 tables_1 room_1 Calls_1 rest_1 Pre_1 Post := by
  intro l hfl _ _ p e ha hc hk s m args below hf hA hF happ hP
  obtain ⟨hcalls, hrest, hpre⟩ := hP
  obtain ⟨-, -, -, hnamed, -, -, -, hat⟩ := (Spec.applies_iff hf).mp happ
  obtain ⟨hg, hn⟩ := and_e (Cond.before_iff.mp (show (Jvm.Cond.and given_1 narrow_1).before args s = true from hpre))
  obtain ⟨g62, g63⟩ := and_e hg
  obtain ⟨g64, g65⟩ := and_e g63
  obtain ⟨w0, w1, rfl⟩ : ∃ w0 w1 : Value, args = #[w0, w1] := by
    have hs : args.size = 2 := by simpa [Cond.value, given_1] using g62
    obtain ⟨L⟩ := args
    match L, hs with
    | [w0, w1], _ => exact ⟨w0, w1, rfl⟩
  have hw := fun d (hd : d ∈ tables_1) => atoms_spec (ws := Jvm.Cond.code x code maxLocals ret :: tables_1) hat d (List.mem_cons_of_mem _ hd)
  obtain ⟨i0, ei0⟩ := is_v g64
  obtain rfl : w0 = (.int i0) := Option.some.inj ei0
  obtain ⟨i1, ei1⟩ := is_v g65
  obtain rfl : w1 = (.int i1) := Option.some.inj ei1
  obtain ⟨n, o, h1, h2, h3, _, L, rfl, ⟨rfl, N⟩, hq⟩ := rm0 l s _ hw tables_1 i0 i1 s.heap s.heap.size (Nat.le_refl _) p e ha hc hk s m _ below hf ((Spec.applies_iff_loose hf).mp happ).1 ⟨rfl, State.Warmed39.refl s, rfl⟩ trivial
  refine ⟨n, _, h1, h2, h3, hpost _ _ _ _ _ _ ⟨Cond.after_iff.mpr rfl, Cond.after_iff.mpr (eq_i res_at (Term.int_eval (1)) rfl), trivial⟩ ⟨hq.1, hq.2.1, (hq.2.2.sift fun y hy => Or.inr (N y hy)).mono (by decide) (by decide)⟩⟩
theorem main_1_1 : Claimed_1_1 := comes_1 fun _ _ _ _ _ _ h hF => ⟨h.1, hF⟩
theorem main_1_2 : Claimed_1_2 := comes_1 fun _ _ _ _ _ _ h hF => ⟨h.2.1, hF⟩
end Jvm.Pilot.@@N@@
namespace Jvm.Pilot.@@N@@
open Jvm Jvm.ClassFile Sem Op Lib Jvm.Free Jvm.Stand Jvm.Pilot.@@N@@.Jvm.D
/-! MADE BY PROGRAM (witnessworld.py) out of the Statement's table words and the real class files: 9 classes; the members and pool entries that the words name. The judged class is class 1, her method 1. -/
namespace start1
open Jvm.ClassFile
def u (s : String) : CpInfo := .utf8 (stringToUtf16 s)
/-- a pool by its gaps: so many unusable entries, then the entry; so many at the end -/
def gap : Nat → List CpInfo → List CpInfo
  | 0, r => r
  | n + 1, r => .unusable :: gap n r
def poolList (es : List (Nat × CpInfo)) (last : Nat) : List CpInfo := es.foldr (fun e r => gap e.1 (e.2 :: r)) (gap last [])
def pool (es : List (Nat × CpInfo)) (last : Nat) : Array CpInfo := ⟨poolList es last⟩
def fileOf (pool : Array CpInfo) (this : Nat) (attrs : Array Attribute := #[]) (ms : Array MethodInfo := #[]) (fl : Nat := 33) (sup : Nat := 0) (ifs : Array Nat := #[]) (fds : Array FieldInfo := #[]) : ClassFile where
  minorVersion := 0
  majorVersion := 65
  constantPool := pool
  accessFlags := fl
  thisClass := this
  superClass := sup
  interfaces := ifs
  fields := fds
  methods := ms
  attributes := attrs
def plain (name : String) (sup : Option ClassId) : Class where
  name := name
  kind := .ordinary
  loader := none
  accessFlags := 33
  super := sup
  interfaces := #[]
  cf := none
  fields := #[]
  methods := #[]
  instanceTypes := #[]
  staticTypes := #[]
  resolved := #[]
  callSites := []
  init := .initialized
  statics := none
  mirror := none

def pool0 : Array CpInfo := pool [(5, u "<init>"), (0, u "()V"), (1, .class_ 10), (1, u "java/lang/Object")] 113

def k0m0 : Method := { name := "<init>", desc := "()V", sig := { parameters := [], returnType := none }, accessFlags := 1, code := none }
/-- java/lang/Object -/
def k0 : Class := { plain "java/lang/Object" none with
  accessFlags := 33
  interfaces := #[]
  cf := some (fileOf pool0 8 #[] #[{ accessFlags := 1, nameIndex := 5, descriptorIndex := 6, attributes := #[] }] 33 0 #[] #[])
  fields := #[]
  methods := #[k0m0]
  instanceTypes := #[]
  staticTypes := #[]
  resolved := Array.replicate 124 none
  statics := none }

def pool1 : Array CpInfo := pool [(2, .class_ 4), (1, u "java/lang/Object"), (0, u "<init>"), (0, u "()V"), (0, .integer 55295), (0, .integer 55296), (0, .integer 57343), (0, .integer 57344), (0, .integer 65533), (0, .integer 65534), (0, .integer 65535), (0, .integer 65536), (0, .integer 1114111), (0, .integer 1114112), (0, .integer 2147483647), (0, .methodref 19 20), (0, .class_ 21), (0, .nameAndType 22 23), (0, u "com/example/xylem/xylem/core/xml/XmlChar"), (0, u "isAllowed"), (0, u "(I)Z"), (0, .methodref 25 26), (0, .class_ 27), (0, .nameAndType 28 23), (0, u "com/example/xylem/xylem/core/xml/XmlCharIsAllowedPinLaw"), (0, u "expected"), (2, u "law"), (0, u "(II)Z")] 5

def k1m0 : Method := { name := "<init>", desc := "()V", sig := { parameters := [], returnType := none }, accessFlags := 2, code := none }
def k1c1 : Code := { maxStack := 4, maxLocals := 5, code := code, exceptionTable := #[], attributes := #[] }
def k1m1 : Method := { name := "law", desc := "(II)Z", sig := { parameters := [.int, .int], returnType := some .boolean }, accessFlags := 9, code := some k1c1 }
def k1c2 : Code := { maxStack := 2, maxLocals := 1, code := method_3_code, exceptionTable := #[], attributes := #[] }
def k1m2 : Method := { name := "expected", desc := "(I)Z", sig := { parameters := [.int], returnType := some .boolean }, accessFlags := 10, code := some k1c2 }
/-- com/example/xylem/xylem/core/xml/XmlCharIsAllowedPinLaw -/
def k1 : Class := { plain "com/example/xylem/xylem/core/xml/XmlCharIsAllowedPinLaw" (some 0) with
  accessFlags := 49
  interfaces := #[]
  cf := some (fileOf pool1 25 #[] #[{ accessFlags := 2, nameIndex := 5, descriptorIndex := 6, attributes := #[] }, { accessFlags := 9, nameIndex := 31, descriptorIndex := 32, attributes := #[] }, { accessFlags := 10, nameIndex := 28, descriptorIndex := 23, attributes := #[] }] 49 2 #[] #[])
  fields := #[]
  methods := #[k1m0, k1m1, k1m2]
  instanceTypes := #[]
  staticTypes := #[]
  resolved := Array.replicate 38 none
  statics := none }

def pool2 : Array CpInfo := pool [(2, .class_ 4), (1, u "java/lang/Object"), (0, u "<init>"), (0, u "()V"), (0, .integer 55295), (0, .integer 57344), (0, .integer 65533), (0, .integer 65536), (2, .integer 1114111), (11, .class_ 27), (1, u "com/example/xylem/xylem/core/xml/XmlChar"), (0, u "isAllowed"), (0, u "(I)Z")] 36

def k2m0 : Method := { name := "<init>", desc := "()V", sig := { parameters := [], returnType := none }, accessFlags := 2, code := none }
def k2c1 : Code := { maxStack := 2, maxLocals := 1, code := prog_44_method_2_code, exceptionTable := #[], attributes := #[] }
def k2m1 : Method := { name := "isAllowed", desc := "(I)Z", sig := { parameters := [.int], returnType := some .boolean }, accessFlags := 9, code := some k2c1 }
/-- com/example/xylem/xylem/core/xml/XmlChar -/
def k2 : Class := { plain "com/example/xylem/xylem/core/xml/XmlChar" (some 0) with
  accessFlags := 49
  interfaces := #[]
  cf := some (fileOf pool2 25 #[] #[{ accessFlags := 2, nameIndex := 5, descriptorIndex := 6, attributes := #[] }, { accessFlags := 9, nameIndex := 28, descriptorIndex := 29, attributes := #[] }] 49 2 #[] #[])
  fields := #[]
  methods := #[k2m0, k2m1]
  instanceTypes := #[]
  staticTypes := #[]
  resolved := Array.replicate 66 none
  statics := none }

def pool3 : Array CpInfo := pool [(1, u "java/lang/Cloneable"), (0, .class_ 1), (0, u "java/lang/Object"), (0, .class_ 3)] 3

/-- java/lang/Cloneable -/
def k3 : Class := { plain "java/lang/Cloneable" (some 0) with
  accessFlags := 1537
  interfaces := #[]
  cf := some (fileOf pool3 2 #[] #[] 1537 4 #[] #[])
  fields := #[]
  methods := #[]
  instanceTypes := #[]
  staticTypes := #[]
  resolved := Array.replicate 8 none
  statics := none }

def pool4 : Array CpInfo := pool [(1, u "java/io/Serializable"), (0, .class_ 1), (0, u "java/lang/Object"), (0, .class_ 3)] 3

/-- java/io/Serializable -/
def k4 : Class := { plain "java/io/Serializable" (some 0) with
  accessFlags := 1537
  interfaces := #[]
  cf := some (fileOf pool4 2 #[] #[] 1537 4 #[] #[])
  fields := #[]
  methods := #[]
  instanceTypes := #[]
  staticTypes := #[]
  resolved := Array.replicate 8 none
  statics := none }

/-- the primitive byte -/
def k5 : Class := { plain "byte" none with kind := .primitive 'B', accessFlags := 0x411 }
/-- [B -/
def k6 : Class := { plain "[B" (some 0) with kind := .array 5 .byte, interfaces := #[3, 4], accessFlags := 1041 }

/-- the primitive int -/
def k7 : Class := { plain "int" none with kind := .primitive 'I', accessFlags := 0x411 }
/-- [I -/
def k8 : Class := { plain "[I" (some 0) with kind := .array 7 .int, interfaces := #[3, 4], accessFlags := 1041 }

def heap : Heap := #[]
def classes : Array Class := #[k0, k1, k2, k3, k4, k5, k6, k7, k8]
def interned : List (Array UInt16 × Addr) := []
def slotsUsed : Nat := 0
def theMethod : MethodId := ⟨1, 1⟩
def args0 : Array Value := #[.int 5, .int 7]
def aboutOver (below : List Frame) : State where
  vm := { classes := classes, interned := interned.toArray }
  heap := heap
  slotsUsed := slotsUsed
  threads := #[{ frames := .invoking theMethod args0 :: below }]
def below0 : List Frame := [.native { method := ⟨0, 0⟩, args := #[] }]
def about1 : State := aboutOver below0
def p0 : Program := .bare "" "" ""
def e0 : Env := launch0.env 0 0 0
theorem w_frames : about1.frames = Frame.invoking theMethod args0 :: below0 := rfl
set_option maxRecDepth 65536 in
theorem w_args : argsFit about1.vm theMethod args0 = true := by decide +kernel
set_option maxRecDepth 65536 in
theorem w_heap : heapFits about1 = true := by decide +kernel
set_option maxRecDepth 65536 in
theorem w_runnable : about1.curStatus? = some .runnable := by decide +kernel
set_option maxRecDepth 65536 in
theorem w_alone : about1.alone = true := by decide +kernel
set_option maxRecDepth 65536 in
theorem w_named : about1.methodNamed? x = some theMethod := by decide +kernel
set_option maxRecDepth 65536 in
theorem w_hears : about1.hears theMethod below0 = true := by decide +kernel
set_option maxRecDepth 65536 in
theorem w_ripe : about1.ripe theMethod args0 below0 = true := by decide +kernel
theorem w_running : about1.status = .running := rfl
set_option maxRecDepth 65536 in
theorem w_room : about1.hasRoom e0.platform room_1 = true :=
  launch0.hasRoom_least _ room_1 (by decide +kernel) (by decide +kernel) (by decide +kernel) (by decide +kernel) (by decide +kernel) (by decide +kernel)
theorem allAtoms_all (ts : List Jvm.Cond) (a : Array Jvm.Value) (st : Jvm.State) : (allAtoms ts).before a st = ts.all (fun c => c.before a st) := by
  induction ts with
  | nil => rfl
  | cons c t ih =>
    show (Jvm.Cond.and c (allAtoms t)).before a st = _
    rw [Jvm.Cond.before_and, ih, List.all_cons]
def words1 : List Jvm.Cond := Jvm.Cond.code x code maxLocals ret :: tables_1
/-- a 'code' word, met by the world's own term for the bytes: nothing is compared byte by byte -/
theorem code_word {y : MethodName} {bytes : ByteArray} {mx : Nat} {rt : Option FieldType} {a : Array Value} {s : State} {m : MethodId} {meth : Method} {c : Code} (h1 : s.methodNamed? y = some m) (h2 : s.vm.method? m = some meth) (h3 : meth.code = some c) (h4 : c.code = bytes)
    (h5 : (c.maxLocals == mx && c.exceptionTable.isEmpty && decide (c.maxStack ≤ mostOperands) && decide (meth.sig.returnType = rt) && !meth.locks && decide (parseMethodDescriptor y.desc = some meth.sig)) = true) : (Jvm.Cond.code y bytes mx rt).before a s = true := by
  simp only [Bool.and_eq_true, beq_iff_eq, Bool.not_eq_true', decide_eq_true_eq] at h5
  obtain ⟨⟨⟨⟨⟨g1, g2⟩, g3⟩, g4⟩, g5⟩, g6⟩ := h5
  simp [Cond.before, Cond.holds, Cond.value, h1, h2, h3, h4, g1, g2, g3, g4, g5, g6]
def isCode : Jvm.Cond → Bool
  | .code _ _ _ _ => true
  | _ => false
theorem all_split {L : List Jvm.Cond} {P : Jvm.Cond → Bool} (h1 : L.all (fun c => isCode c || P c) = true) (h2 : ∀ c ∈ L.filter isCode, P c = true) : L.all P = true := by
  refine List.all_eq_true.mpr fun c hc => ?_
  have h := List.all_eq_true.mp h1 c hc
  rcases Bool.eq_false_or_eq_true (isCode c) with hi | hi
  · exact h2 c (List.mem_filter.mpr ⟨hc, hi⟩)
  · simpa [hi] using h
set_option maxRecDepth 65536 in
theorem w_c0 : (Jvm.Cond.code x code maxLocals ret).before args0 about1 = true := code_word (m := ⟨1, 1⟩) (meth := k1m1) (c := k1c1) (by decide +kernel) rfl rfl rfl (by decide +kernel)
set_option maxRecDepth 65536 in
theorem w_c1 : (Jvm.Cond.code ({ cls := "com/example/xylem/xylem/core/xml/XmlChar", name := "isAllowed", desc := "(I)Z" } : Jvm.MethodName) prog_44_method_2_code (1 : Nat) (Option.some Jvm.ClassFile.FieldType.boolean)).before args0 about1 = true := code_word (m := ⟨2, 1⟩) (meth := k2m1) (c := k2c1) (by decide +kernel) rfl rfl rfl (by decide +kernel)
set_option maxRecDepth 65536 in
theorem w_c2 : (Jvm.Cond.code ({ cls := "com/example/xylem/xylem/core/xml/XmlCharIsAllowedPinLaw", name := "expected", desc := "(I)Z" } : Jvm.MethodName) method_3_code (1 : Nat) (Option.some Jvm.ClassFile.FieldType.boolean)).before args0 about1 = true := code_word (m := ⟨1, 2⟩) (meth := k1m2) (c := k1c2) (by decide +kernel) rfl rfl rfl (by decide +kernel)
def codes1 : List Jvm.Cond := [Jvm.Cond.code x code maxLocals ret, Jvm.Cond.code ({ cls := "com/example/xylem/xylem/core/xml/XmlChar", name := "isAllowed", desc := "(I)Z" } : Jvm.MethodName) prog_44_method_2_code (1 : Nat) (Option.some Jvm.ClassFile.FieldType.boolean), Jvm.Cond.code ({ cls := "com/example/xylem/xylem/core/xml/XmlCharIsAllowedPinLaw", name := "expected", desc := "(I)Z" } : Jvm.MethodName) method_3_code (1 : Nat) (Option.some Jvm.ClassFile.FieldType.boolean)]
set_option maxRecDepth 65536 in
theorem codes_eq : words1.filter isCode = codes1 := rfl
theorem w_codes : ∀ c ∈ words1.filter isCode, c.before args0 about1 = true := by
  rw [codes_eq]
  intro c hc
  simp only [codes1, List.mem_cons, List.not_mem_nil, or_false] at hc
  rcases hc with rfl | rfl | rfl
  · exact w_c0
  · exact w_c1
  · exact w_c2
set_option maxRecDepth 65536 in
theorem w_t1 : (words1.take 24).all (fun c => isCode c || c.before args0 about1) = true := by decide +kernel
set_option maxRecDepth 65536 in
theorem w_t2 : (words1.drop 24).all (fun c => isCode c || c.before args0 about1) = true := by decide +kernel
theorem w_tables : (allAtoms (Jvm.Cond.code x code maxLocals ret :: tables_1)).before args0 about1 = true := by
  rw [allAtoms_all]
  show words1.all (fun c => c.before args0 about1) = true
  refine all_split ?_ w_codes
  rw [← List.take_append_drop 24 words1, List.all_append, w_t1, w_t2]
  rfl
set_option maxRecDepth 65536 in
theorem w_case : (Jvm.Cond.and given_1 narrow_1).before args0 about1 = true := by decide +kernel
theorem w_applies : (headSpec (Jvm.Cond.code x code maxLocals ret :: tables_1) room_1).applies x e0.platform about1 = true :=
  (Spec.applies_iff w_frames).mpr ⟨w_running, w_runnable, w_alone, w_named, w_hears, w_ripe, w_room, w_tables⟩
theorem atStart : AtStart classFile x code maxLocals ret World_1 tables_1 room_1 Calls_1 rest_1 Pre_1 launch0 p0 e0 about1 theMethod args0 below0 :=
  ⟨lists_1, trivial, launch0.admits_env _ _ _, launch0.least_env, fairChoices_fair.cas, fairChoices_fair.clock, w_frames, w_args, w_heap, w_applies, trivial, trivial, w_case⟩
end start1
theorem witness_1 : WitnessClaimed_1 := ⟨start1.p0, start1.e0, start1.about1, start1.theMethod, start1.args0, start1.below0, start1.atStart⟩
end Jvm.Pilot.@@N@@
