import JvmDerived
import JvmDerived.Pilot.@@N@@Statement
import JvmDerived.Pilot.@@N@@Code
set_option linter.unusedVariables false
set_option linter.unusedSimpArgs false
namespace Jvm.OwnK
open Sem ClassFile Op Lib Jvm.Stand Jvm.Free Jvm.LawKit Jvm.RoadKit
section
variable {p : Program} {l : Launch} {e : Env} {R : Room} {s : State} {m : MethodId} {args : Array Value} {below : List Frame} {meth : Method} {c : Code} {T : State} {locs : List Loc} {cells slots : Nat} {Cn Sn : Nat} {Q : Option Value → Heap → List Loc → Prop}
/-- from the frame f the run comes to an end that Q takes -/
def KEnds (p : Program) (e : Env) (below : List Frame) (s : State) (Cn Sn : Nat) (Q : Option Value → Heap → List Loc → Prop) (T : State) (f : JFrame) : Prop :=
  ∃ s₂ o, Steps p.tables e below (T.setTop f) s₂ ∧ s₂.status = .running ∧ Ended s₂ below o ∧ ∃ v L, o = .returned v ∧ Q v s₂.heap L ∧ FrameEnd s o s₂ L Cn Sn
theorem k_via {T' : State} {f f' : JFrame} (st : ∀ t, Steps p.tables e below (T'.setTop f') t → Steps p.tables e below (T.setTop f) t) (k : KEnds p e below s Cn Sn Q T' f') : KEnds p e below s Cn Sn Q T f := by
  obtain ⟨s₂, o, h, r⟩ := k
  exact ⟨s₂, o, st _ h, r⟩
theorem k_iload (X : Stand p l e R s m args below meth c T locs cells slots) (hx : p.tables.exec = Jvm.exec) {pc pc' : Nat} {Ls : Array Slot} {St : List Value} {i : Nat} {v : Int32} (hd : decode c.code pc = .ok (.iload i, 2)) (hl : Ls[i]? = some (.val (.int v))) (hpc : pc + 2 = pc') (k : KEnds p e below s Cn Sn Q T (mkF m pc' Ls (.int v :: St))) : KEnds p e below s Cn Sn Q T (mkF m pc Ls (St)) := by
  subst hpc; exact k_via (fun t h => XS.iload X.here hx rfl hd hl h) k
theorem k_istore (X : Stand p l e R s m args below meth c T locs cells slots) (hx : p.tables.exec = Jvm.exec) {pc pc' : Nat} {Ls : Array Slot} {St : List Value} {i : Nat} {v : Int32} {Ls' : Array Slot} (hd : decode c.code pc = .ok (.istore i, 2)) (hl : storeLocals Ls i (.int v) = some Ls') (hpc : pc + 2 = pc') (k : KEnds p e below s Cn Sn Q T (mkF m pc' Ls' (St))) : KEnds p e below s Cn Sn Q T (mkF m pc Ls (.int v :: St)) := by
  subst hpc; exact k_via (fun t h => XS.istore X.here hx rfl hd rfl hl h) k
theorem k_lloadN (X : Stand p l e R s m args below meth c T locs cells slots) (hx : p.tables.exec = Jvm.exec) {pc pc' : Nat} {Ls : Array Slot} {St : List Value} {i : Fin 4} {v : Int64} (hd : decode c.code pc = .ok (.lload_n i, 1)) (hl : Ls[i.val]? = some (.val (.long v))) (hpc : pc + 1 = pc') (k : KEnds p e below s Cn Sn Q T (mkF m pc' Ls (.long v :: St))) : KEnds p e below s Cn Sn Q T (mkF m pc Ls (St)) := by
  subst hpc; exact k_via (fun t h => XS.lloadN X.here hx rfl hd hl h) k
theorem k_lload (X : Stand p l e R s m args below meth c T locs cells slots) (hx : p.tables.exec = Jvm.exec) {pc pc' : Nat} {Ls : Array Slot} {St : List Value} {i : Nat} {v : Int64} (hd : decode c.code pc = .ok (.lload i, 2)) (hl : Ls[i]? = some (.val (.long v))) (hpc : pc + 2 = pc') (k : KEnds p e below s Cn Sn Q T (mkF m pc' Ls (.long v :: St))) : KEnds p e below s Cn Sn Q T (mkF m pc Ls (St)) := by
  subst hpc; exact k_via (fun t h => XS.lload X.here hx rfl hd hl h) k
theorem k_lstore (X : Stand p l e R s m args below meth c T locs cells slots) (hx : p.tables.exec = Jvm.exec) {pc pc' : Nat} {Ls : Array Slot} {St : List Value} {i : Nat} {v : Int64} {Ls' : Array Slot} (hd : decode c.code pc = .ok (.lstore i, 2)) (hl : storeLocals Ls i (.long v) = some Ls') (hpc : pc + 2 = pc') (k : KEnds p e below s Cn Sn Q T (mkF m pc' Ls' (St))) : KEnds p e below s Cn Sn Q T (mkF m pc Ls (.long v :: St)) := by
  subst hpc; exact k_via (fun t h => XS.lstore X.here hx rfl hd rfl hl h) k
theorem k_iconst (X : Stand p l e R s m args below meth c T locs cells slots) (hx : p.tables.exec = Jvm.exec) {pc pc' : Nat} {Ls : Array Slot} {St : List Value} {i : Int} {z : Int32} (hd : decode c.code pc = .ok (.iconst i, 1)) (hpc : pc + 1 = pc') (hz : Int32.ofInt i = z) (k : KEnds p e below s Cn Sn Q T (mkF m pc' Ls (.int z :: St))) : KEnds p e below s Cn Sn Q T (mkF m pc Ls St) := by
  subst hpc hz; exact k_via (fun t h => XS.iconst X.here hx rfl hd h) k
theorem k_goto (X : Stand p l e R s m args below meth c T locs cells slots) (hx : p.tables.exec = Jvm.exec) {pc pc' : Nat} {Ls : Array Slot} {St : List Value} {o : Int} (hd : decode c.code pc = .ok (.goto o, 3)) (hp : (pc : Int) + o = (pc' : Int)) (k : KEnds p e below s Cn Sn Q T (mkF m pc' Ls St)) : KEnds p e below s Cn Sn Q T (mkF m pc Ls St) :=
  k_via (fun t h => XS.goto X.here hx rfl (pc0 := pc) rfl hd (by omega) (by omega) h) k
theorem k_if_lt (X : Stand p l e R s m args below meth c T locs cells slots) (hx : p.tables.exec = Jvm.exec) {pc pn py : Nat} {Ls : Array Slot} {St : List Value} {x : Int32} {o : Int} (hd : decode c.code pc = .ok (.ifCond .lt o, 3)) (hn : pc + 3 = pn) (hp : (pc : Int) + o = (py : Int)) (ky : x < (0 : Int32) → KEnds p e below s Cn Sn Q T (mkF m py Ls St)) (kn : ¬ x < (0 : Int32) → KEnds p e below s Cn Sn Q T (mkF m pn Ls St)) : KEnds p e below s Cn Sn Q T (mkF m pc Ls (.int x :: St)) := by
  subst hn
  by_cases hc : x < (0 : Int32)
  · exact k_via (fun t h => XS.ifYes X.here hx rfl (pc0 := pc) rfl hd rfl ((if0 _ _).trans (tlt hc).1) (by omega) (by omega) h) (ky hc)
  · exact k_via (fun t h => XS.ifNo X.here hx rfl hd rfl ((if0 _ _).trans (flt hc).1) h) (kn hc)
theorem k_lcif_lt (X : Stand p l e R s m args below meth c T locs cells slots) (hx : p.tables.exec = Jvm.exec) {pc pn py : Nat} {Ls : Array Slot} {St : List Value} {x y : Int64} {o : Int} {pm : Nat} (hd0 : decode c.code pc = .ok (.lcmp, 1)) (hm : pc + 1 = pm) (hd : decode c.code pm = .ok (.ifCond .lt o, 3)) (hn : pm + 3 = pn) (hp : (pm : Int) + o = (py : Int)) (ky : x < y → KEnds p e below s Cn Sn Q T (mkF m py Ls St)) (kn : ¬ x < y → KEnds p e below s Cn Sn Q T (mkF m pn Ls St)) : KEnds p e below s Cn Sn Q T (mkF m pc Ls (.long y :: .long x :: St)) := by
  subst hm
  have F := k_if_lt (Q := Q) (Cn := Cn) (Sn := Sn) (Ls := Ls) (St := St) (x := lcmpW x y) X hx hd hn hp (fun hc => ky ((lw_lt x y).mp hc)) (fun hc => kn (fun q => hc ((lw_lt x y).mpr q)))
  exact k_via (fun t h => XS.lcmp X.here hx rfl hd0 rfl h) F
theorem k_if_gt (X : Stand p l e R s m args below meth c T locs cells slots) (hx : p.tables.exec = Jvm.exec) {pc pn py : Nat} {Ls : Array Slot} {St : List Value} {x : Int32} {o : Int} (hd : decode c.code pc = .ok (.ifCond .gt o, 3)) (hn : pc + 3 = pn) (hp : (pc : Int) + o = (py : Int)) (ky : (0 : Int32) < x → KEnds p e below s Cn Sn Q T (mkF m py Ls St)) (kn : ¬ (0 : Int32) < x → KEnds p e below s Cn Sn Q T (mkF m pn Ls St)) : KEnds p e below s Cn Sn Q T (mkF m pc Ls (.int x :: St)) := by
  subst hn
  by_cases hc : (0 : Int32) < x
  · exact k_via (fun t h => XS.ifYes X.here hx rfl (pc0 := pc) rfl hd rfl ((if0 _ _).trans (tlt hc).2.2.1) (by omega) (by omega) h) (ky hc)
  · exact k_via (fun t h => XS.ifNo X.here hx rfl hd rfl ((if0 _ _).trans (flt hc).2.2.1) h) (kn hc)
theorem k_lcif_gt (X : Stand p l e R s m args below meth c T locs cells slots) (hx : p.tables.exec = Jvm.exec) {pc pn py : Nat} {Ls : Array Slot} {St : List Value} {x y : Int64} {o : Int} {pm : Nat} (hd0 : decode c.code pc = .ok (.lcmp, 1)) (hm : pc + 1 = pm) (hd : decode c.code pm = .ok (.ifCond .gt o, 3)) (hn : pm + 3 = pn) (hp : (pm : Int) + o = (py : Int)) (ky : y < x → KEnds p e below s Cn Sn Q T (mkF m py Ls St)) (kn : ¬ y < x → KEnds p e below s Cn Sn Q T (mkF m pn Ls St)) : KEnds p e below s Cn Sn Q T (mkF m pc Ls (.long y :: .long x :: St)) := by
  subst hm
  have F := k_if_gt (Q := Q) (Cn := Cn) (Sn := Sn) (Ls := Ls) (St := St) (x := lcmpW x y) X hx hd hn hp (fun hc => ky ((lw_gt x y).mp hc)) (fun hc => kn (fun q => hc ((lw_gt x y).mpr q)))
  exact k_via (fun t h => XS.lcmp X.here hx rfl hd0 rfl h) F
theorem k_if_eq (X : Stand p l e R s m args below meth c T locs cells slots) (hx : p.tables.exec = Jvm.exec) {pc pn py : Nat} {Ls : Array Slot} {St : List Value} {x : Int32} {o : Int} (hd : decode c.code pc = .ok (.ifCond .eq o, 3)) (hn : pc + 3 = pn) (hp : (pc : Int) + o = (py : Int)) (ky : x = (0 : Int32) → KEnds p e below s Cn Sn Q T (mkF m py Ls St)) (kn : ¬ x = (0 : Int32) → KEnds p e below s Cn Sn Q T (mkF m pn Ls St)) : KEnds p e below s Cn Sn Q T (mkF m pc Ls (.int x :: St)) := by
  subst hn
  by_cases hc : x = (0 : Int32)
  · exact k_via (fun t h => XS.ifYes X.here hx rfl (pc0 := pc) rfl hd rfl ((if0 _ _).trans (teq hc).1) (by omega) (by omega) h) (ky hc)
  · exact k_via (fun t h => XS.ifNo X.here hx rfl hd rfl ((if0 _ _).trans (feq hc).1) h) (kn hc)
theorem k_if_ne (X : Stand p l e R s m args below meth c T locs cells slots) (hx : p.tables.exec = Jvm.exec) {pc pn py : Nat} {Ls : Array Slot} {St : List Value} {x : Int32} {o : Int} (hd : decode c.code pc = .ok (.ifCond .ne o, 3)) (hn : pc + 3 = pn) (hp : (pc : Int) + o = (py : Int)) (ky : ¬ x = (0 : Int32) → KEnds p e below s Cn Sn Q T (mkF m py Ls St)) (kn : x = (0 : Int32) → KEnds p e below s Cn Sn Q T (mkF m pn Ls St)) : KEnds p e below s Cn Sn Q T (mkF m pc Ls (.int x :: St)) := by
  subst hn
  by_cases hc : x = (0 : Int32)
  · exact k_via (fun t h => XS.ifNo X.here hx rfl hd rfl ((if0 _ _).trans (teq hc).2) h) (kn hc)
  · exact k_via (fun t h => XS.ifYes X.here hx rfl (pc0 := pc) rfl hd rfl ((if0 _ _).trans (feq hc).2) (by omega) (by omega) h) (ky hc)
theorem k_retN (X : Stand p l e R s m args below meth c T locs cells slots) (hx : p.tables.exec = Jvm.exec) {pc : Nat} {Ls : Array Slot} {St : List Value} {t : FieldType} {z z' : Int32} (hret : meth.sig.returnType = some t) (ht : t = .boolean ∨ t = .byte ∨ t = .char ∨ t = .short) (hd : decode c.code pc = .ok (.ireturn, 1)) (hlk : meth.locks = false) (hC : cells ≤ Cn) (hS : slots ≤ Sn) (hz : nar t z = z') (q : Q (some (.int z')) T.heap locs) : KEnds p e below s Cn Sn Q T (mkF m pc Ls (.int z :: St)) := by
  subst hz
  obtain ⟨fs, hr, hrun, hended, hW, hsame⟩ := X.leave (v := some (.int (nar t z))) (fun h => by rw [hret] at h; cases h) hlk
  exact ⟨_, _, retN X hx hret ht hd hr, hrun, hended, _, _, rfl, q, ⟨_, rfl⟩, hW, hsame.mono hC hS⟩
theorem k_retL (X : Stand p l e R s m args below meth c T locs cells slots) (hx : p.tables.exec = Jvm.exec) {pc : Nat} {Ls : Array Slot} {St : List Value} {z : Int64} (hret : meth.sig.returnType = some .long) (hd : decode c.code pc = .ok (.lreturn, 1)) (hlk : meth.locks = false) (hC : cells ≤ Cn) (hS : slots ≤ Sn) (q : Q (some (.long z)) T.heap locs) : KEnds p e below s Cn Sn Q T (mkF m pc Ls (.long z :: St)) := by
  obtain ⟨fs, hr, hrun, hended, hW, hsame⟩ := X.leave (v := some (.long z)) (fun h => by rw [hret] at h; cases h) hlk
  exact ⟨_, _, retOut X hx hret rfl (Or.inr (Or.inl ⟨rfl, rfl, _, rfl⟩)) hd hr, hrun, hended, _, _, rfl, q, ⟨_, rfl⟩, hW, hsame.mono hC hS⟩
variable {Z : State} {a0 : Array Value} {h : Heap} {own : String}
theorem k_ldcL (X : Stand p l e R s m args below meth c T locs cells slots) (hx : p.tables.exec = Jvm.exec) (hZ : Z.Warmed39 s.vm) (hown : s.vm.findClass own = some m.cls) {pc pc' : Nat} {Ls : Array Slot} {St : List Value} {index : Nat} {v : Int64} (w : (Cond.constantLong own index v).before a0 Z = true) (hd : decode c.code pc = .ok (.ldc2_w index, 3)) (hpc : pc + 3 = pc') (k : KEnds p e below s Cn Sn Q T (mkF m pc' Ls (.long v :: St))) : KEnds p e below s Cn Sn Q T (mkF m pc Ls St) := by
  subst hpc; exact k_via (X.ldc2Long hx hown (mvT hZ w) (g := mkF m pc Ls St) rfl hd) k
theorem k_callS (X : Stand p l e R s m args below meth c T locs cells slots) (hx : p.tables.exec = Jvm.exec) (hZ : Z.Warmed39 s.vm) (hown : s.vm.findClass own = some m.cls) {pc pc' : Nat} {Ls : Array Slot} {St : List Value} {y : MethodName} {bytes : ByteArray} {maxL : Nat} {ret : Option FieldType} {rm : Room} {index W : Nat} {as' : Array Value} {Q' : Option Value → Heap → List Loc → Prop} (w1 : (Cond.methodLink own index y).before a0 Z = true) (w2 : (Cond.static y).before a0 Z = true) (w3 : (Cond.initialized y.cls).before a0 Z = true) (w4 : (Cond.code y bytes maxL ret).before a0 Z = true) (hy : y.cls ≠ "java/lang/invoke/MethodHandle" ∧ y.cls ≠ "java/lang/invoke/VarHandle") (hM : MetFree l y (head1 [Cond.code y bytes maxL ret] rm) (fun a U => a = as' ∧ Z.Warmed39 U.vm ∧ U.heap = h) (fun _ _ _ _ _ => True) (fun _ U o U' => ∃ v L, o = .returned v ∧ Q' v U'.heap L ∧ FrameEnd U o U' L rm.cells rm.slots)) (hf : rm.frames + 1 ≤ R.frames) (hl : W + (maxL + 11) + rm.locals ≤ R.locals) (eT : T.heap = h) (hsize : Ls.size = c.maxLocals) {argsL rest : List Value} (hlen : ∀ sig, parseMethodDescriptor y.desc = some sig → argsL.length = sig.parameters.length) (hst : St = argsL.reverse ++ rest) (hW : (rest.map fun v => v.category).sum ≤ W) (has : argsL.toArray = as') (hd : decode c.code pc = .ok (.invokestatic index, 3)) (hce : cells + rm.cells ≤ R.cells) (hsl : slots + rm.slots ≤ R.slots) (hpc : pc + 3 = pc') (k : ∀ T' L v, Stand p l e R s m args below meth c T' (locs ++ L) (cells + rm.cells) (slots + rm.slots) → Q' v T'.heap L → KEnds p e below s Cn Sn Q T' (mkF m pc' Ls (v.toList ++ rest))) : KEnds p e below s Cn Sn Q T (mkF m pc Ls St) := by
  subst hpc
  obtain ⟨v, _, ⟨T', L', k', n'⟩, -, X', ⟨Lc, hQ, l', y', z'⟩, st⟩ := Jvm.LawKit.callS X hx (y := y) hown (mvT hZ w1) (mvT hZ w2) (mvT hZ w3) (mvT hZ w4) hy (backOf (W := W) hM hZ w4 w3 hf hl) (g := mkF m pc Ls St) rfl hsize hlen hst (by show 2 * 0 + _ ≤ _; omega) hd (fun _ _ => ⟨has, eT, hce, hsl⟩)
  dsimp only [Pt.U, Pt.locs, Pt.cells, Pt.slots] at X' l' y' z' st hQ
  subst l' y' z'
  exact k_via st (k T' Lc v X' hQ)
end
end Jvm.OwnK
namespace Jvm.Pilot.@@N@@
open Jvm Jvm.ClassFile Sem Op Lib Jvm.Free Jvm.Stand Jvm.LawKit Jvm.RoadKit Jvm.OwnK Bundle Jvm.Pilot.@@N@@.Jvm.D
theorem d1_0 : decode jdk_29_method_70_code 0 = .ok (.lload_n 0, 1) := by decide +kernel
theorem d1_1 : decode jdk_29_method_70_code 1 = .ok (.lload_n 2, 1) := by decide +kernel
theorem d1_2 : decode jdk_29_method_70_code 2 = .ok (.lcmp, 1) := by decide +kernel
theorem d1_3 : decode jdk_29_method_70_code 3 = .ok (.ifCond .gt 7, 3) := by decide +kernel
theorem d1_10 : decode jdk_29_method_70_code 10 = .ok (.lload_n 2, 1) := by decide +kernel
theorem d1_11 : decode jdk_29_method_70_code 11 = .ok (.lreturn, 1) := by decide +kernel
theorem d1_6 : decode jdk_29_method_70_code 6 = .ok (.lload_n 0, 1) := by decide +kernel
theorem d1_7 : decode jdk_29_method_70_code 7 = .ok (.goto 4, 3) := by decide +kernel
abbrev R1_1 : Room := { frames := 0, cells := 0, slots := 0, locals := 0 }
def Q1_1 (Z : State) (p1 : Int64) (p2 : Int64) (h0 : Heap) (n0 : Nat) (v : Option Value) (h : Heap) (L : List Loc) : Prop := Fr n0 L ∧ h = h0 ∧ ((p2 < p1 ∧ v = some (.long p2)) ∨ (¬ p2 < p1 ∧ v = some (.long p1)))
theorem ef1_1 (m : MethodId) (x0 : Int64) (x1 : Int64) : entryFrame m #[(.long x0), (.long x1)] 4 = mkF m 0 #[.val (.long x0), .second, .val (.long x1), .second] [] := by first | (simp [entryFrame, mkF, argsToLocals, Value.category]; done) | rfl
set_option maxRecDepth 65536 in
set_option maxHeartbeats 40000000 in
theorem rm1_1 (l : Launch) (Z : State) (a0 : Array Value) (hw : ∀ d ∈ tables_1, d.before a0 Z = true) (ws : List Jvm.Cond) (p1 : Int64) (p2 : Int64) (h0 : Heap) (n0 : Nat) (Z0 : n0 ≤ h0.size)  :
    MetFree l (⟨"java/lang/Math", "min", "(JJ)J"⟩ : MethodName) (head1 (Jvm.Cond.code (⟨"java/lang/Math", "min", "(JJ)J"⟩ : MethodName) jdk_29_method_70_code 4 (some .long) :: ws) R1_1) (fun a U => a = #[(.long p1), (.long p2)] ∧ Z.Warmed39 U.vm ∧ U.heap = h0) (fun _ _ _ _ _ => True) (fun _ U o U' => ∃ v L, o = .returned v ∧ Q1_1 Z p1 p2 h0 n0 v U'.heap L ∧ FrameEnd U o U' L R1_1.cells R1_1.slots) := by
 refine MetFree.of_bodySF (Jvm.Free.JP.mathPlain rfl (by decide +kernel)) hisR ?_
 intro p e s m args below meth c s₁ Bd hml0 hP hK
 obtain ⟨rfl, hZ, hh⟩ := hP
 have hx := Bd.exec
 have hby := Bd.bytes
 have hml : c.maxLocals = 4 := hml0
 have hlk : meth.locks = false := Bd.notSynchronized
 have hown : s.vm.findClass "java/lang/Math" = some m.cls := findClass_of_methodNamed Bd.named
 have hnm := (name_of_methodNamed Bd.named Bd.method).1
 have X0 : Stand p l e R1_1 s m #[(.long p1), (.long p2)] below meth c s₁ [] 0 0 := Stand.of_body Bd
 have e0 : s₁.heap = h0 := by rw [← hh, Bd.state]; rfl
 have N0 := Fr.nil n0
 rw [ef1_1 m p1 p2]
 show KEnds p e below s R1_1.cells R1_1.slots (Q1_1 Z p1 p2 h0 n0) s₁ (mkF m 0 #[.val (.long p1), .second, .val (.long p2), .second] [])
 refine k_lloadN X0 hx (hb hby d1_0) rfl (pc' := 1) rfl ?_
 refine k_lloadN X0 hx (hb hby d1_1) rfl (pc' := 2) rfl ?_
 refine k_lcif_gt X0 hx (hb hby d1_2) (pm := 3) rfl (hb hby d1_3) (pn := 6) rfl (py := 10) (by decide) (fun hc2 => ?_) (fun hc2 => ?_)
 ·
  refine k_lloadN X0 hx (hb hby d1_10) rfl (pc' := 11) rfl ?_
  exact k_retL X0 hx Bd.returns (hb hby d1_11) hlk (by decide) (by decide) ⟨N0, e0, (Or.inl ⟨hc2, rfl⟩)⟩
 ·
  refine k_lloadN X0 hx (hb hby d1_6) rfl (pc' := 7) rfl ?_
  refine k_goto X0 hx (hb hby d1_7) (pc' := 11) (by decide) ?_
  exact k_retL X0 hx Bd.returns (hb hby d1_11) hlk (by decide) (by decide) ⟨N0, e0, (Or.inr ⟨hc2, rfl⟩)⟩
theorem pd_0 : parseMethodDescriptor "(JJ)J" = some ⟨[.long, .long], some .long⟩ := by decide +kernel
theorem d2_0 : decode jdk_29_method_66_code 0 = .ok (.lload_n 0, 1) := by decide +kernel
theorem d2_1 : decode jdk_29_method_66_code 1 = .ok (.lload_n 2, 1) := by decide +kernel
theorem d2_2 : decode jdk_29_method_66_code 2 = .ok (.lcmp, 1) := by decide +kernel
theorem d2_3 : decode jdk_29_method_66_code 3 = .ok (.ifCond .lt 7, 3) := by decide +kernel
theorem d2_10 : decode jdk_29_method_66_code 10 = .ok (.lload_n 2, 1) := by decide +kernel
theorem d2_11 : decode jdk_29_method_66_code 11 = .ok (.lreturn, 1) := by decide +kernel
theorem d2_6 : decode jdk_29_method_66_code 6 = .ok (.lload_n 0, 1) := by decide +kernel
theorem d2_7 : decode jdk_29_method_66_code 7 = .ok (.goto 4, 3) := by decide +kernel
abbrev R2_6 : Room := { frames := 0, cells := 0, slots := 0, locals := 0 }
def Q2_6 (Z : State) (p1 : Int64) (p2 : Int64) (h0 : Heap) (n0 : Nat) (v : Option Value) (h : Heap) (L : List Loc) : Prop := Fr n0 L ∧ h = h0 ∧ ((p1 < p2 ∧ v = some (.long p2)) ∨ (¬ p1 < p2 ∧ v = some (.long p1)))
theorem ef2_6 (m : MethodId) (x0 : Int64) (x1 : Int64) : entryFrame m #[(.long x0), (.long x1)] 4 = mkF m 0 #[.val (.long x0), .second, .val (.long x1), .second] [] := by first | (simp [entryFrame, mkF, argsToLocals, Value.category]; done) | rfl
set_option maxRecDepth 65536 in
set_option maxHeartbeats 40000000 in
theorem rm2_6 (l : Launch) (Z : State) (a0 : Array Value) (hw : ∀ d ∈ tables_1, d.before a0 Z = true) (ws : List Jvm.Cond) (p1 : Int64) (p2 : Int64) (h0 : Heap) (n0 : Nat) (Z0 : n0 ≤ h0.size)  :
    MetFree l (⟨"java/lang/Math", "max", "(JJ)J"⟩ : MethodName) (head1 (Jvm.Cond.code (⟨"java/lang/Math", "max", "(JJ)J"⟩ : MethodName) jdk_29_method_66_code 4 (some .long) :: ws) R2_6) (fun a U => a = #[(.long p1), (.long p2)] ∧ Z.Warmed39 U.vm ∧ U.heap = h0) (fun _ _ _ _ _ => True) (fun _ U o U' => ∃ v L, o = .returned v ∧ Q2_6 Z p1 p2 h0 n0 v U'.heap L ∧ FrameEnd U o U' L R2_6.cells R2_6.slots) := by
 refine MetFree.of_bodySF (Jvm.Free.JP.mathPlain rfl (by decide +kernel)) hisR ?_
 intro p e s m args below meth c s₁ Bd hml0 hP hK
 obtain ⟨rfl, hZ, hh⟩ := hP
 have hx := Bd.exec
 have hby := Bd.bytes
 have hml : c.maxLocals = 4 := hml0
 have hlk : meth.locks = false := Bd.notSynchronized
 have hown : s.vm.findClass "java/lang/Math" = some m.cls := findClass_of_methodNamed Bd.named
 have hnm := (name_of_methodNamed Bd.named Bd.method).1
 have X0 : Stand p l e R2_6 s m #[(.long p1), (.long p2)] below meth c s₁ [] 0 0 := Stand.of_body Bd
 have e0 : s₁.heap = h0 := by rw [← hh, Bd.state]; rfl
 have N0 := Fr.nil n0
 rw [ef2_6 m p1 p2]
 show KEnds p e below s R2_6.cells R2_6.slots (Q2_6 Z p1 p2 h0 n0) s₁ (mkF m 0 #[.val (.long p1), .second, .val (.long p2), .second] [])
 refine k_lloadN X0 hx (hb hby d2_0) rfl (pc' := 1) rfl ?_
 refine k_lloadN X0 hx (hb hby d2_1) rfl (pc' := 2) rfl ?_
 refine k_lcif_lt X0 hx (hb hby d2_2) (pm := 3) rfl (hb hby d2_3) (pn := 6) rfl (py := 10) (by decide) (fun hc7 => ?_) (fun hc7 => ?_)
 ·
  refine k_lloadN X0 hx (hb hby d2_10) rfl (pc' := 11) rfl ?_
  exact k_retL X0 hx Bd.returns (hb hby d2_11) hlk (by decide) (by decide) ⟨N0, e0, (Or.inl ⟨hc7, rfl⟩)⟩
 ·
  refine k_lloadN X0 hx (hb hby d2_6) rfl (pc' := 7) rfl ?_
  refine k_goto X0 hx (hb hby d2_7) (pc' := 11) (by decide) ?_
  exact k_retL X0 hx Bd.returns (hb hby d2_11) hlk (by decide) (by decide) ⟨N0, e0, (Or.inr ⟨hc7, rfl⟩)⟩
theorem d3_0 : decode prog_131_method_2_code 0 = .ok (.lload_n 0, 1) := by decide +kernel
theorem d3_1 : decode prog_131_method_2_code 1 = .ok (.ldc2_w 9, 3) := by decide +kernel
theorem d3_4 : decode prog_131_method_2_code 4 = .ok (.lcmp, 1) := by decide +kernel
theorem d3_5 : decode prog_131_method_2_code 5 = .ok (.ifCond .gt 7, 3) := by decide +kernel
theorem d3_12 : decode prog_131_method_2_code 12 = .ok (.iconst 0, 1) := by decide +kernel
theorem d3_13 : decode prog_131_method_2_code 13 = .ok (.ireturn, 1) := by decide +kernel
theorem d3_8 : decode prog_131_method_2_code 8 = .ok (.iconst 1, 1) := by decide +kernel
theorem d3_9 : decode prog_131_method_2_code 9 = .ok (.goto 4, 3) := by decide +kernel
abbrev R3_11 : Room := { frames := 0, cells := 0, slots := 0, locals := 0 }
def Q3_11 (Z : State) (p1 : Int64) (h0 : Heap) (n0 : Nat) (v : Option Value) (h : Heap) (L : List Loc) : Prop := Fr n0 L ∧ h = h0 ∧ (((16777216 : Int64) < p1 ∧ v = some (.int (0 : Int32))) ∨ (¬ (16777216 : Int64) < p1 ∧ v = some (.int (1 : Int32))))
theorem ef3_11 (m : MethodId) (x0 : Int64) : entryFrame m #[(.long x0)] 2 = mkF m 0 #[.val (.long x0), .second] [] := by first | (simp [entryFrame, mkF, argsToLocals, Value.category]; done) | rfl
theorem pn_0 : plainName "com/example/corella/corella/hl7/MessageSize" = true := by first | (simp [plainName, overriddenIn]; done) | decide +kernel
set_option maxRecDepth 65536 in
set_option maxHeartbeats 40000000 in
theorem rm3_11 (l : Launch) (Z : State) (a0 : Array Value) (hw : ∀ d ∈ tables_1, d.before a0 Z = true) (ws : List Jvm.Cond) (p1 : Int64) (h0 : Heap) (n0 : Nat) (Z0 : n0 ≤ h0.size)  :
    MetFree l (⟨"com/example/corella/corella/hl7/MessageSize", "isAccepted", "(J)Z"⟩ : MethodName) (head1 (Jvm.Cond.code (⟨"com/example/corella/corella/hl7/MessageSize", "isAccepted", "(J)Z"⟩ : MethodName) prog_131_method_2_code 2 (some .boolean) :: ws) R3_11) (fun a U => a = #[(.long p1)] ∧ Z.Warmed39 U.vm ∧ U.heap = h0) (fun _ _ _ _ _ => True) (fun _ U o U' => ∃ v L, o = .returned v ∧ Q3_11 Z p1 h0 n0 v U'.heap L ∧ FrameEnd U o U' L R3_11.cells R3_11.slots) := by
 refine MetFree.of_bodySF (plainFor_of_name pn_0) hisR ?_
 intro p e s m args below meth c s₁ Bd hml0 hP hK
 obtain ⟨rfl, hZ, hh⟩ := hP
 have hx := Bd.exec
 have hby := Bd.bytes
 have hml : c.maxLocals = 2 := hml0
 have hlk : meth.locks = false := Bd.notSynchronized
 have hown : s.vm.findClass "com/example/corella/corella/hl7/MessageSize" = some m.cls := findClass_of_methodNamed Bd.named
 have hnm := (name_of_methodNamed Bd.named Bd.method).1
 have X0 : Stand p l e R3_11 s m #[(.long p1)] below meth c s₁ [] 0 0 := Stand.of_body Bd
 have e0 : s₁.heap = h0 := by rw [← hh, Bd.state]; rfl
 have N0 := Fr.nil n0
 rw [ef3_11 m p1]
 show KEnds p e below s R3_11.cells R3_11.slots (Q3_11 Z p1 h0 n0) s₁ (mkF m 0 #[.val (.long p1), .second] [])
 refine k_lloadN X0 hx (hb hby d3_0) rfl (pc' := 1) rfl ?_
 refine k_ldcL X0 hx hZ hown (hw _ (List.mem_of_getElem? (i := 11) rfl)) (hb hby d3_1) (pc' := 4) rfl ?_
 refine k_lcif_gt X0 hx (hb hby d3_4) (pm := 5) rfl (hb hby d3_5) (pn := 8) rfl (py := 12) (by decide) (fun hc12 => ?_) (fun hc12 => ?_)
 ·
  refine k_iconst X0 hx (hb hby d3_12) (pc' := 13) rfl (z := (0 : Int32)) rfl ?_
  exact k_retN X0 hx (t := .boolean) Bd.returns (by simp) (hb hby d3_13) hlk (by decide) (by decide) (z' := (0 : Int32)) rfl ⟨N0, e0, (Or.inl ⟨hc12, rfl⟩)⟩
 ·
  refine k_iconst X0 hx (hb hby d3_8) (pc' := 9) rfl (z := (1 : Int32)) rfl ?_
  refine k_goto X0 hx (hb hby d3_9) (pc' := 13) (by decide) ?_
  exact k_retN X0 hx (t := .boolean) Bd.returns (by simp) (hb hby d3_13) hlk (by decide) (by decide) (z' := (1 : Int32)) rfl ⟨N0, e0, (Or.inr ⟨hc12, rfl⟩)⟩
theorem pd_1 : parseMethodDescriptor "(J)Z" = some ⟨[.long], some .boolean⟩ := by decide +kernel
abbrev R3_19 : Room := { frames := 0, cells := 0, slots := 0, locals := 0 }
def Q3_19 (Z : State)  (h0 : Heap) (n0 : Nat) (v : Option Value) (h : Heap) (L : List Loc) : Prop := Fr n0 L ∧ h = h0 ∧ ((v = some (.int (1 : Int32))))
theorem ef3_19 (m : MethodId)  : entryFrame m #[(.long (16777216 : Int64))] 2 = mkF m 0 #[.val (.long (16777216 : Int64)), .second] [] := by first | (simp [entryFrame, mkF, argsToLocals, Value.category]; done) | rfl
set_option maxRecDepth 65536 in
set_option maxHeartbeats 40000000 in
theorem rm3_19 (l : Launch) (Z : State) (a0 : Array Value) (hw : ∀ d ∈ tables_1, d.before a0 Z = true) (ws : List Jvm.Cond)  (h0 : Heap) (n0 : Nat) (Z0 : n0 ≤ h0.size)  :
    MetFree l (⟨"com/example/corella/corella/hl7/MessageSize", "isAccepted", "(J)Z"⟩ : MethodName) (head1 (Jvm.Cond.code (⟨"com/example/corella/corella/hl7/MessageSize", "isAccepted", "(J)Z"⟩ : MethodName) prog_131_method_2_code 2 (some .boolean) :: ws) R3_19) (fun a U => a = #[(.long (16777216 : Int64))] ∧ Z.Warmed39 U.vm ∧ U.heap = h0) (fun _ _ _ _ _ => True) (fun _ U o U' => ∃ v L, o = .returned v ∧ Q3_19 Z  h0 n0 v U'.heap L ∧ FrameEnd U o U' L R3_19.cells R3_19.slots) := by
 refine MetFree.of_bodySF (plainFor_of_name pn_0) hisR ?_
 intro p e s m args below meth c s₁ Bd hml0 hP hK
 obtain ⟨rfl, hZ, hh⟩ := hP
 have hx := Bd.exec
 have hby := Bd.bytes
 have hml : c.maxLocals = 2 := hml0
 have hlk : meth.locks = false := Bd.notSynchronized
 have hown : s.vm.findClass "com/example/corella/corella/hl7/MessageSize" = some m.cls := findClass_of_methodNamed Bd.named
 have hnm := (name_of_methodNamed Bd.named Bd.method).1
 have X0 : Stand p l e R3_19 s m #[(.long (16777216 : Int64))] below meth c s₁ [] 0 0 := Stand.of_body Bd
 have e0 : s₁.heap = h0 := by rw [← hh, Bd.state]; rfl
 have N0 := Fr.nil n0
 rw [ef3_19 m ]
 show KEnds p e below s R3_19.cells R3_19.slots (Q3_19 Z  h0 n0) s₁ (mkF m 0 #[.val (.long (16777216 : Int64)), .second] [])
 refine k_lloadN X0 hx (hb hby d3_0) rfl (pc' := 1) rfl ?_
 refine k_ldcL X0 hx hZ hown (hw _ (List.mem_of_getElem? (i := 11) rfl)) (hb hby d3_1) (pc' := 4) rfl ?_
 refine k_lcif_gt X0 hx (hb hby d3_4) (pm := 5) rfl (hb hby d3_5) (pn := 8) rfl (py := 12) (by decide) (fun hc => absurd hc (by decide)) (fun _ => ?_)
 refine k_iconst X0 hx (hb hby d3_8) (pc' := 9) rfl (z := (1 : Int32)) rfl ?_
 refine k_goto X0 hx (hb hby d3_9) (pc' := 13) (by decide) ?_
 exact k_retN X0 hx (t := .boolean) Bd.returns (by simp) (hb hby d3_13) hlk (by decide) (by decide) (z' := (1 : Int32)) rfl ⟨N0, e0, rfl⟩
abbrev R3_21 : Room := { frames := 0, cells := 0, slots := 0, locals := 0 }
def Q3_21 (Z : State)  (h0 : Heap) (n0 : Nat) (v : Option Value) (h : Heap) (L : List Loc) : Prop := Fr n0 L ∧ h = h0 ∧ ((v = some (.int (0 : Int32))))
theorem ef3_21 (m : MethodId)  : entryFrame m #[(.long (16777217 : Int64))] 2 = mkF m 0 #[.val (.long (16777217 : Int64)), .second] [] := by first | (simp [entryFrame, mkF, argsToLocals, Value.category]; done) | rfl
set_option maxRecDepth 65536 in
set_option maxHeartbeats 40000000 in
theorem rm3_21 (l : Launch) (Z : State) (a0 : Array Value) (hw : ∀ d ∈ tables_1, d.before a0 Z = true) (ws : List Jvm.Cond)  (h0 : Heap) (n0 : Nat) (Z0 : n0 ≤ h0.size)  :
    MetFree l (⟨"com/example/corella/corella/hl7/MessageSize", "isAccepted", "(J)Z"⟩ : MethodName) (head1 (Jvm.Cond.code (⟨"com/example/corella/corella/hl7/MessageSize", "isAccepted", "(J)Z"⟩ : MethodName) prog_131_method_2_code 2 (some .boolean) :: ws) R3_21) (fun a U => a = #[(.long (16777217 : Int64))] ∧ Z.Warmed39 U.vm ∧ U.heap = h0) (fun _ _ _ _ _ => True) (fun _ U o U' => ∃ v L, o = .returned v ∧ Q3_21 Z  h0 n0 v U'.heap L ∧ FrameEnd U o U' L R3_21.cells R3_21.slots) := by
 refine MetFree.of_bodySF (plainFor_of_name pn_0) hisR ?_
 intro p e s m args below meth c s₁ Bd hml0 hP hK
 obtain ⟨rfl, hZ, hh⟩ := hP
 have hx := Bd.exec
 have hby := Bd.bytes
 have hml : c.maxLocals = 2 := hml0
 have hlk : meth.locks = false := Bd.notSynchronized
 have hown : s.vm.findClass "com/example/corella/corella/hl7/MessageSize" = some m.cls := findClass_of_methodNamed Bd.named
 have hnm := (name_of_methodNamed Bd.named Bd.method).1
 have X0 : Stand p l e R3_21 s m #[(.long (16777217 : Int64))] below meth c s₁ [] 0 0 := Stand.of_body Bd
 have e0 : s₁.heap = h0 := by rw [← hh, Bd.state]; rfl
 have N0 := Fr.nil n0
 rw [ef3_21 m ]
 show KEnds p e below s R3_21.cells R3_21.slots (Q3_21 Z  h0 n0) s₁ (mkF m 0 #[.val (.long (16777217 : Int64)), .second] [])
 refine k_lloadN X0 hx (hb hby d3_0) rfl (pc' := 1) rfl ?_
 refine k_ldcL X0 hx hZ hown (hw _ (List.mem_of_getElem? (i := 11) rfl)) (hb hby d3_1) (pc' := 4) rfl ?_
 refine k_lcif_gt X0 hx (hb hby d3_4) (pm := 5) rfl (hb hby d3_5) (pn := 8) rfl (py := 12) (by decide) (fun _ => ?_) (fun hc => absurd (by decide) hc)
 refine k_iconst X0 hx (hb hby d3_12) (pc' := 13) rfl (z := (0 : Int32)) rfl ?_
 exact k_retN X0 hx (t := .boolean) Bd.returns (by simp) (hb hby d3_13) hlk (by decide) (by decide) (z' := (0 : Int32)) rfl ⟨N0, e0, rfl⟩
theorem ef0 (m : MethodId) (x0 : Int64) (x1 : Int64) : entryFrame m #[(.long x0), (.long x1)] maxLocals = mkF m 0 #[.val (.long x0), .second, .val (.long x1), .second, .unset, .unset, .unset, .unset, .unset, .unset, .unset, .unset, .unset] [] := by first | (simp [entryFrame, mkF, argsToLocals, Value.category, maxLocals]; done) | rfl
theorem pn_1 : plainName "com/example/corella/corella/hl7/MessageSizeIsAcceptedPinLaw" = true := by first | (simp [plainName, overriddenIn]; done) | decide +kernel
def Q0 (n0 : Nat) (v : Option Value) (h : Heap) (L : List Loc) : Prop := v = some (.int 1) ∧ Fr n0 L
set_option maxRecDepth 65536 in
set_option maxHeartbeats 40000000 in
theorem rm0 (l : Launch) (Z : State) (a0 : Array Value) (hw : ∀ d ∈ tables_1, d.before a0 Z = true) (ws : List Jvm.Cond) (i0 : Int64) (i1 : Int64) (h0 : Heap) (n0 : Nat) (Z0 : n0 ≤ h0.size) :
    MetFree l x (head1 (Jvm.Cond.code x code maxLocals ret :: ws) room_1) (fun a U => a = #[(.long i0), (.long i1)] ∧ Z.Warmed39 U.vm ∧ U.heap = h0) (fun _ _ _ _ _ => True) (fun _ U o U' => ∃ v L, o = .returned v ∧ Q0 n0 v U'.heap L ∧ FrameEnd U o U' L 0 0) := by
 refine MetFree.of_bodySF (plainFor_of_name pn_1) hisR ?_
 intro p e s m args below meth c s₁ Bd hml0 hP hK
 obtain ⟨rfl, hZ, hh⟩ := hP
 have hx := Bd.exec
 have hby := Bd.bytes
 have hml : c.maxLocals = 13 := hml0
 have hlk : meth.locks = false := Bd.notSynchronized
 have hown : s.vm.findClass "com/example/corella/corella/hl7/MessageSizeIsAcceptedPinLaw" = some m.cls := findClass_of_methodNamed Bd.named
 have hnm := (name_of_methodNamed Bd.named Bd.method).1
 have X0 : Stand p l e room_1 s m #[(.long i0), (.long i1)] below meth c s₁ [] 0 0 := Stand.of_body Bd
 have e0 : s₁.heap = h0 := by rw [← hh, Bd.state]; rfl
 have N0 := Fr.nil n0
 rw [show entryFrame m #[(.long i0), (.long i1)] maxLocals = _ from ef0 m i0 i1]
 show KEnds p e below s 0 0 (Q0 n0) s₁ (mkF m 0 #[.val (.long i0), .second, .val (.long i1), .second, .unset, .unset, .unset, .unset, .unset, .unset, .unset, .unset, .unset] [])
 refine k_lloadN X0 hx (hb hby at_0) rfl (pc' := 1) rfl ?_
 refine k_lloadN X0 hx (hb hby at_1) rfl (pc' := 2) rfl ?_
 refine k_callS X0 hx hZ hown (hw _ (List.mem_of_getElem? (i := 0) rfl)) (hw _ (List.mem_of_getElem? (i := 1) rfl)) (hw _ (List.mem_of_getElem? (i := 2) rfl)) (hw _ (List.mem_of_getElem? (i := 3) rfl)) (by decide) (rm1_1 l Z a0 hw [] i0 i1 h0 n0 Z0 ) (by decide) (by decide) e0 (by rw [hml]; rfl) (argsL := [(.long i0), (.long i1)]) (rest := []) (lenOf pd_0 rfl) rfl (W := 0) (Nat.le_refl _) rfl (hb hby at_2) (by decide) (by decide) (pc' := 5) rfl (fun T3 L3 r3 X3 q3 => ?_)
 obtain ⟨N3, e3, q3⟩ := q3
 have N3' := Fr.app N0 N3
 rcases q3 with ⟨hc4, rfl⟩ | ⟨hc5, rfl⟩
 ·
  show KEnds p e below s _ _ _ T3 (mkF m 5 #[.val (.long i0), .second, .val (.long i1), .second, .unset, .unset, .unset, .unset, .unset, .unset, .unset, .unset, .unset] [(.long i1)])
  refine k_lstore X3 hx (hb hby at_5) (Ls' := #[.val (.long i0), .second, .val (.long i1), .second, .val (.long i1), .second, .unset, .unset, .unset, .unset, .unset, .unset, .unset]) rfl (pc' := 7) rfl ?_
  refine k_lloadN X3 hx (hb hby at_7) rfl (pc' := 8) rfl ?_
  refine k_lloadN X3 hx (hb hby at_8) rfl (pc' := 9) rfl ?_
  refine k_callS X3 hx hZ hown (hw _ (List.mem_of_getElem? (i := 4) rfl)) (hw _ (List.mem_of_getElem? (i := 5) rfl)) (hw _ (List.mem_of_getElem? (i := 2) rfl)) (hw _ (List.mem_of_getElem? (i := 6) rfl)) (by decide) (rm2_6 l Z a0 hw [] i0 i1 h0 n0 Z0 ) (by decide) (by decide) e3 (by rw [hml]; rfl) (argsL := [(.long i0), (.long i1)]) (rest := []) (lenOf pd_0 rfl) rfl (W := 0) (Nat.le_refl _) rfl (hb hby at_9) (by decide) (by decide) (pc' := 12) rfl (fun T8 L8 r8 X8 q8 => ?_)
  obtain ⟨N8, e8, q8⟩ := q8
  have N8' := Fr.app N3' N8
  rcases q8 with ⟨hc9, rfl⟩ | ⟨hc10, rfl⟩
  ·
   show KEnds p e below s _ _ _ T8 (mkF m 12 #[.val (.long i0), .second, .val (.long i1), .second, .val (.long i1), .second, .unset, .unset, .unset, .unset, .unset, .unset, .unset] [(.long i1)])
   refine k_lstore X8 hx (hb hby at_12) (Ls' := #[.val (.long i0), .second, .val (.long i1), .second, .val (.long i1), .second, .val (.long i1), .second, .unset, .unset, .unset, .unset, .unset]) rfl (pc' := 14) rfl ?_
   refine k_lload X8 hx (hb hby at_14) rfl (pc' := 16) rfl ?_
   refine k_callS X8 hx hZ hown (hw _ (List.mem_of_getElem? (i := 7) rfl)) (hw _ (List.mem_of_getElem? (i := 8) rfl)) (hw _ (List.mem_of_getElem? (i := 9) rfl)) (hw _ (List.mem_of_getElem? (i := 10) rfl)) (by decide) (rm3_11 l Z a0 hw [] i1 h0 n0 Z0 ) (by decide) (by decide) e8 (by rw [hml]; rfl) (argsL := [(.long i1)]) (rest := []) (lenOf pd_1 rfl) rfl (W := 0) (Nat.le_refl _) rfl (hb hby at_16) (by decide) (by decide) (pc' := 19) rfl (fun T13 L13 r13 X13 q13 => ?_)
   obtain ⟨N13, e13, q13⟩ := q13
   have N13' := Fr.app N8' N13
   rcases q13 with ⟨hc14, rfl⟩ | ⟨hc15, rfl⟩
   ·
    show KEnds p e below s _ _ _ T13 (mkF m 19 #[.val (.long i0), .second, .val (.long i1), .second, .val (.long i1), .second, .val (.long i1), .second, .unset, .unset, .unset, .unset, .unset] [(.int (0 : Int32))])
    refine k_istore X13 hx (hb hby at_19) (Ls' := #[.val (.long i0), .second, .val (.long i1), .second, .val (.long i1), .second, .val (.long i1), .second, .val (.int (0 : Int32)), .unset, .unset, .unset, .unset]) rfl (pc' := 21) rfl ?_
    refine k_lload X13 hx (hb hby at_21) rfl (pc' := 23) rfl ?_
    refine k_callS X13 hx hZ hown (hw _ (List.mem_of_getElem? (i := 7) rfl)) (hw _ (List.mem_of_getElem? (i := 8) rfl)) (hw _ (List.mem_of_getElem? (i := 9) rfl)) (hw _ (List.mem_of_getElem? (i := 10) rfl)) (by decide) (rm3_11 l Z a0 hw [] i1 h0 n0 Z0 ) (by decide) (by decide) e13 (by rw [hml]; rfl) (argsL := [(.long i1)]) (rest := []) (lenOf pd_1 rfl) rfl (W := 0) (Nat.le_refl _) rfl (hb hby at_23) (by decide) (by decide) (pc' := 26) rfl (fun T16 L16 r16 X16 q16 => ?_)
    obtain ⟨N16, e16, q16⟩ := q16
    have N16' := Fr.app N13' N16
    rcases q16 with ⟨hc17, rfl⟩ | ⟨hc18, rfl⟩
    ·
     show KEnds p e below s _ _ _ T16 (mkF m 26 #[.val (.long i0), .second, .val (.long i1), .second, .val (.long i1), .second, .val (.long i1), .second, .val (.int (0 : Int32)), .unset, .unset, .unset, .unset] [(.int (0 : Int32))])
     refine k_istore X16 hx (hb hby at_26) (Ls' := #[.val (.long i0), .second, .val (.long i1), .second, .val (.long i1), .second, .val (.long i1), .second, .val (.int (0 : Int32)), .val (.int (0 : Int32)), .unset, .unset, .unset]) rfl (pc' := 28) rfl ?_
     refine k_iload X16 hx (hb hby at_28) rfl (pc' := 30) rfl ?_
     refine k_if_eq X16 hx (hb hby at_30) (pn := 33) rfl (py := 38) (by decide) (fun _ => ?_) (fun hc => absurd (by decide) hc)
     refine k_iconst X16 hx (hb hby at_38) (pc' := 39) rfl (z := (1 : Int32)) rfl ?_
     refine k_goto X16 hx (hb hby at_39) (pc' := 43) (by decide) ?_
     refine k_istore X16 hx (hb hby at_43) (Ls' := #[.val (.long i0), .second, .val (.long i1), .second, .val (.long i1), .second, .val (.long i1), .second, .val (.int (0 : Int32)), .val (.int (0 : Int32)), .val (.int (1 : Int32)), .unset, .unset]) rfl (pc' := 45) rfl ?_
     refine k_ldcL X16 hx hZ hown (hw _ (List.mem_of_getElem? (i := 12) rfl)) (hb hby at_45) (pc' := 48) rfl ?_
     refine k_callS X16 hx hZ hown (hw _ (List.mem_of_getElem? (i := 7) rfl)) (hw _ (List.mem_of_getElem? (i := 8) rfl)) (hw _ (List.mem_of_getElem? (i := 9) rfl)) (hw _ (List.mem_of_getElem? (i := 10) rfl)) (by decide) (rm3_19 l Z a0 hw []  h0 n0 Z0 ) (by decide) (by decide) e16 (by rw [hml]; rfl) (argsL := [(.long (16777216 : Int64))]) (rest := []) (lenOf pd_1 rfl) rfl (W := 0) (Nat.le_refl _) rfl (hb hby at_48) (by decide) (by decide) (pc' := 51) rfl (fun T20 L20 r20 X20 q20 => ?_)
     obtain ⟨N20, e20, q20⟩ := q20
     have N20' := Fr.app N16' N20
     obtain rfl := q20
     show KEnds p e below s _ _ _ T20 (mkF m 51 #[.val (.long i0), .second, .val (.long i1), .second, .val (.long i1), .second, .val (.long i1), .second, .val (.int (0 : Int32)), .val (.int (0 : Int32)), .val (.int (1 : Int32)), .unset, .unset] [(.int (1 : Int32))])
     refine k_istore X20 hx (hb hby at_51) (Ls' := #[.val (.long i0), .second, .val (.long i1), .second, .val (.long i1), .second, .val (.long i1), .second, .val (.int (0 : Int32)), .val (.int (0 : Int32)), .val (.int (1 : Int32)), .val (.int (1 : Int32)), .unset]) rfl (pc' := 53) rfl ?_
     refine k_ldcL X20 hx hZ hown (hw _ (List.mem_of_getElem? (i := 13) rfl)) (hb hby at_53) (pc' := 56) rfl ?_
     refine k_callS X20 hx hZ hown (hw _ (List.mem_of_getElem? (i := 7) rfl)) (hw _ (List.mem_of_getElem? (i := 8) rfl)) (hw _ (List.mem_of_getElem? (i := 9) rfl)) (hw _ (List.mem_of_getElem? (i := 10) rfl)) (by decide) (rm3_21 l Z a0 hw []  h0 n0 Z0 ) (by decide) (by decide) e20 (by rw [hml]; rfl) (argsL := [(.long (16777217 : Int64))]) (rest := []) (lenOf pd_1 rfl) rfl (W := 0) (Nat.le_refl _) rfl (hb hby at_56) (by decide) (by decide) (pc' := 59) rfl (fun T22 L22 r22 X22 q22 => ?_)
     obtain ⟨N22, e22, q22⟩ := q22
     have N22' := Fr.app N20' N22
     obtain rfl := q22
     show KEnds p e below s _ _ _ T22 (mkF m 59 #[.val (.long i0), .second, .val (.long i1), .second, .val (.long i1), .second, .val (.long i1), .second, .val (.int (0 : Int32)), .val (.int (0 : Int32)), .val (.int (1 : Int32)), .val (.int (1 : Int32)), .unset] [(.int (0 : Int32))])
     refine k_istore X22 hx (hb hby at_59) (Ls' := #[.val (.long i0), .second, .val (.long i1), .second, .val (.long i1), .second, .val (.long i1), .second, .val (.int (0 : Int32)), .val (.int (0 : Int32)), .val (.int (1 : Int32)), .val (.int (1 : Int32)), .val (.int (0 : Int32))]) rfl (pc' := 61) rfl ?_
     refine k_iload X22 hx (hb hby at_61) rfl (pc' := 63) rfl ?_
     refine k_if_eq X22 hx (hb hby at_63) (pn := 66) rfl (py := 80) (by decide) (fun hc => absurd hc (by decide)) (fun _ => ?_)
     refine k_iload X22 hx (hb hby at_66) rfl (pc' := 68) rfl ?_
     refine k_if_eq X22 hx (hb hby at_68) (pn := 71) rfl (py := 80) (by decide) (fun hc => absurd hc (by decide)) (fun _ => ?_)
     refine k_iload X22 hx (hb hby at_71) rfl (pc' := 73) rfl ?_
     refine k_if_ne X22 hx (hb hby at_73) (pn := 76) rfl (py := 80) (by decide) (fun hc => absurd (by decide) hc) (fun _ => ?_)
     refine k_iconst X22 hx (hb hby at_76) (pc' := 77) rfl (z := (1 : Int32)) rfl ?_
     refine k_goto X22 hx (hb hby at_77) (pc' := 81) (by decide) ?_
     exact k_retN X22 hx (t := .boolean) Bd.returns (by simp) (hb hby at_81) hlk (by decide) (by decide) (z' := (1 : Int32)) rfl ⟨rfl, N22'⟩
    ·
     show KEnds p e below s _ _ _ T16 (mkF m 26 #[.val (.long i0), .second, .val (.long i1), .second, .val (.long i1), .second, .val (.long i1), .second, .val (.int (0 : Int32)), .unset, .unset, .unset, .unset] [(.int (1 : Int32))])
     exact absurd hc14 hc18
   ·
    show KEnds p e below s _ _ _ T13 (mkF m 19 #[.val (.long i0), .second, .val (.long i1), .second, .val (.long i1), .second, .val (.long i1), .second, .unset, .unset, .unset, .unset, .unset] [(.int (1 : Int32))])
    refine k_istore X13 hx (hb hby at_19) (Ls' := #[.val (.long i0), .second, .val (.long i1), .second, .val (.long i1), .second, .val (.long i1), .second, .val (.int (1 : Int32)), .unset, .unset, .unset, .unset]) rfl (pc' := 21) rfl ?_
    refine k_lload X13 hx (hb hby at_21) rfl (pc' := 23) rfl ?_
    refine k_callS X13 hx hZ hown (hw _ (List.mem_of_getElem? (i := 7) rfl)) (hw _ (List.mem_of_getElem? (i := 8) rfl)) (hw _ (List.mem_of_getElem? (i := 9) rfl)) (hw _ (List.mem_of_getElem? (i := 10) rfl)) (by decide) (rm3_11 l Z a0 hw [] i1 h0 n0 Z0 ) (by decide) (by decide) e13 (by rw [hml]; rfl) (argsL := [(.long i1)]) (rest := []) (lenOf pd_1 rfl) rfl (W := 0) (Nat.le_refl _) rfl (hb hby at_23) (by decide) (by decide) (pc' := 26) rfl (fun T23 L23 r23 X23 q23 => ?_)
    obtain ⟨N23, e23, q23⟩ := q23
    have N23' := Fr.app N13' N23
    rcases q23 with ⟨hc24, rfl⟩ | ⟨hc25, rfl⟩
    ·
     show KEnds p e below s _ _ _ T23 (mkF m 26 #[.val (.long i0), .second, .val (.long i1), .second, .val (.long i1), .second, .val (.long i1), .second, .val (.int (1 : Int32)), .unset, .unset, .unset, .unset] [(.int (0 : Int32))])
     exact absurd hc24 hc15
    ·
     show KEnds p e below s _ _ _ T23 (mkF m 26 #[.val (.long i0), .second, .val (.long i1), .second, .val (.long i1), .second, .val (.long i1), .second, .val (.int (1 : Int32)), .unset, .unset, .unset, .unset] [(.int (1 : Int32))])
     refine k_istore X23 hx (hb hby at_26) (Ls' := #[.val (.long i0), .second, .val (.long i1), .second, .val (.long i1), .second, .val (.long i1), .second, .val (.int (1 : Int32)), .val (.int (1 : Int32)), .unset, .unset, .unset]) rfl (pc' := 28) rfl ?_
     refine k_iload X23 hx (hb hby at_28) rfl (pc' := 30) rfl ?_
     refine k_if_eq X23 hx (hb hby at_30) (pn := 33) rfl (py := 38) (by decide) (fun hc => absurd hc (by decide)) (fun _ => ?_)
     refine k_iload X23 hx (hb hby at_33) rfl (pc' := 35) rfl ?_
     refine k_if_eq X23 hx (hb hby at_35) (pn := 38) rfl (py := 42) (by decide) (fun hc => absurd hc (by decide)) (fun _ => ?_)
     refine k_iconst X23 hx (hb hby at_38) (pc' := 39) rfl (z := (1 : Int32)) rfl ?_
     refine k_goto X23 hx (hb hby at_39) (pc' := 43) (by decide) ?_
     refine k_istore X23 hx (hb hby at_43) (Ls' := #[.val (.long i0), .second, .val (.long i1), .second, .val (.long i1), .second, .val (.long i1), .second, .val (.int (1 : Int32)), .val (.int (1 : Int32)), .val (.int (1 : Int32)), .unset, .unset]) rfl (pc' := 45) rfl ?_
     refine k_ldcL X23 hx hZ hown (hw _ (List.mem_of_getElem? (i := 12) rfl)) (hb hby at_45) (pc' := 48) rfl ?_
     refine k_callS X23 hx hZ hown (hw _ (List.mem_of_getElem? (i := 7) rfl)) (hw _ (List.mem_of_getElem? (i := 8) rfl)) (hw _ (List.mem_of_getElem? (i := 9) rfl)) (hw _ (List.mem_of_getElem? (i := 10) rfl)) (by decide) (rm3_19 l Z a0 hw []  h0 n0 Z0 ) (by decide) (by decide) e23 (by rw [hml]; rfl) (argsL := [(.long (16777216 : Int64))]) (rest := []) (lenOf pd_1 rfl) rfl (W := 0) (Nat.le_refl _) rfl (hb hby at_48) (by decide) (by decide) (pc' := 51) rfl (fun T26 L26 r26 X26 q26 => ?_)
     obtain ⟨N26, e26, q26⟩ := q26
     have N26' := Fr.app N23' N26
     obtain rfl := q26
     show KEnds p e below s _ _ _ T26 (mkF m 51 #[.val (.long i0), .second, .val (.long i1), .second, .val (.long i1), .second, .val (.long i1), .second, .val (.int (1 : Int32)), .val (.int (1 : Int32)), .val (.int (1 : Int32)), .unset, .unset] [(.int (1 : Int32))])
     refine k_istore X26 hx (hb hby at_51) (Ls' := #[.val (.long i0), .second, .val (.long i1), .second, .val (.long i1), .second, .val (.long i1), .second, .val (.int (1 : Int32)), .val (.int (1 : Int32)), .val (.int (1 : Int32)), .val (.int (1 : Int32)), .unset]) rfl (pc' := 53) rfl ?_
     refine k_ldcL X26 hx hZ hown (hw _ (List.mem_of_getElem? (i := 13) rfl)) (hb hby at_53) (pc' := 56) rfl ?_
     refine k_callS X26 hx hZ hown (hw _ (List.mem_of_getElem? (i := 7) rfl)) (hw _ (List.mem_of_getElem? (i := 8) rfl)) (hw _ (List.mem_of_getElem? (i := 9) rfl)) (hw _ (List.mem_of_getElem? (i := 10) rfl)) (by decide) (rm3_21 l Z a0 hw []  h0 n0 Z0 ) (by decide) (by decide) e26 (by rw [hml]; rfl) (argsL := [(.long (16777217 : Int64))]) (rest := []) (lenOf pd_1 rfl) rfl (W := 0) (Nat.le_refl _) rfl (hb hby at_56) (by decide) (by decide) (pc' := 59) rfl (fun T27 L27 r27 X27 q27 => ?_)
     obtain ⟨N27, e27, q27⟩ := q27
     have N27' := Fr.app N26' N27
     obtain rfl := q27
     show KEnds p e below s _ _ _ T27 (mkF m 59 #[.val (.long i0), .second, .val (.long i1), .second, .val (.long i1), .second, .val (.long i1), .second, .val (.int (1 : Int32)), .val (.int (1 : Int32)), .val (.int (1 : Int32)), .val (.int (1 : Int32)), .unset] [(.int (0 : Int32))])
     refine k_istore X27 hx (hb hby at_59) (Ls' := #[.val (.long i0), .second, .val (.long i1), .second, .val (.long i1), .second, .val (.long i1), .second, .val (.int (1 : Int32)), .val (.int (1 : Int32)), .val (.int (1 : Int32)), .val (.int (1 : Int32)), .val (.int (0 : Int32))]) rfl (pc' := 61) rfl ?_
     refine k_iload X27 hx (hb hby at_61) rfl (pc' := 63) rfl ?_
     refine k_if_eq X27 hx (hb hby at_63) (pn := 66) rfl (py := 80) (by decide) (fun hc => absurd hc (by decide)) (fun _ => ?_)
     refine k_iload X27 hx (hb hby at_66) rfl (pc' := 68) rfl ?_
     refine k_if_eq X27 hx (hb hby at_68) (pn := 71) rfl (py := 80) (by decide) (fun hc => absurd hc (by decide)) (fun _ => ?_)
     refine k_iload X27 hx (hb hby at_71) rfl (pc' := 73) rfl ?_
     refine k_if_ne X27 hx (hb hby at_73) (pn := 76) rfl (py := 80) (by decide) (fun hc => absurd (by decide) hc) (fun _ => ?_)
     refine k_iconst X27 hx (hb hby at_76) (pc' := 77) rfl (z := (1 : Int32)) rfl ?_
     refine k_goto X27 hx (hb hby at_77) (pc' := 81) (by decide) ?_
     exact k_retN X27 hx (t := .boolean) Bd.returns (by simp) (hb hby at_81) hlk (by decide) (by decide) (z' := (1 : Int32)) rfl ⟨rfl, N27'⟩
  ·
   show KEnds p e below s _ _ _ T8 (mkF m 12 #[.val (.long i0), .second, .val (.long i1), .second, .val (.long i1), .second, .unset, .unset, .unset, .unset, .unset, .unset, .unset] [(.long i0)])
   refine k_lstore X8 hx (hb hby at_12) (Ls' := #[.val (.long i0), .second, .val (.long i1), .second, .val (.long i1), .second, .val (.long i0), .second, .unset, .unset, .unset, .unset, .unset]) rfl (pc' := 14) rfl ?_
   refine k_lload X8 hx (hb hby at_14) rfl (pc' := 16) rfl ?_
   refine k_callS X8 hx hZ hown (hw _ (List.mem_of_getElem? (i := 7) rfl)) (hw _ (List.mem_of_getElem? (i := 8) rfl)) (hw _ (List.mem_of_getElem? (i := 9) rfl)) (hw _ (List.mem_of_getElem? (i := 10) rfl)) (by decide) (rm3_11 l Z a0 hw [] i0 h0 n0 Z0 ) (by decide) (by decide) e8 (by rw [hml]; rfl) (argsL := [(.long i0)]) (rest := []) (lenOf pd_1 rfl) rfl (W := 0) (Nat.le_refl _) rfl (hb hby at_16) (by decide) (by decide) (pc' := 19) rfl (fun T28 L28 r28 X28 q28 => ?_)
   obtain ⟨N28, e28, q28⟩ := q28
   have N28' := Fr.app N8' N28
   rcases q28 with ⟨hc29, rfl⟩ | ⟨hc30, rfl⟩
   ·
    show KEnds p e below s _ _ _ T28 (mkF m 19 #[.val (.long i0), .second, .val (.long i1), .second, .val (.long i1), .second, .val (.long i0), .second, .unset, .unset, .unset, .unset, .unset] [(.int (0 : Int32))])
    refine k_istore X28 hx (hb hby at_19) (Ls' := #[.val (.long i0), .second, .val (.long i1), .second, .val (.long i1), .second, .val (.long i0), .second, .val (.int (0 : Int32)), .unset, .unset, .unset, .unset]) rfl (pc' := 21) rfl ?_
    refine k_lload X28 hx (hb hby at_21) rfl (pc' := 23) rfl ?_
    refine k_callS X28 hx hZ hown (hw _ (List.mem_of_getElem? (i := 7) rfl)) (hw _ (List.mem_of_getElem? (i := 8) rfl)) (hw _ (List.mem_of_getElem? (i := 9) rfl)) (hw _ (List.mem_of_getElem? (i := 10) rfl)) (by decide) (rm3_11 l Z a0 hw [] i1 h0 n0 Z0 ) (by decide) (by decide) e28 (by rw [hml]; rfl) (argsL := [(.long i1)]) (rest := []) (lenOf pd_1 rfl) rfl (W := 0) (Nat.le_refl _) rfl (hb hby at_23) (by decide) (by decide) (pc' := 26) rfl (fun T31 L31 r31 X31 q31 => ?_)
    obtain ⟨N31, e31, q31⟩ := q31
    have N31' := Fr.app N28' N31
    rcases q31 with ⟨hc32, rfl⟩ | ⟨hc33, rfl⟩
    ·
     show KEnds p e below s _ _ _ T31 (mkF m 26 #[.val (.long i0), .second, .val (.long i1), .second, .val (.long i1), .second, .val (.long i0), .second, .val (.int (0 : Int32)), .unset, .unset, .unset, .unset] [(.int (0 : Int32))])
     refine k_istore X31 hx (hb hby at_26) (Ls' := #[.val (.long i0), .second, .val (.long i1), .second, .val (.long i1), .second, .val (.long i0), .second, .val (.int (0 : Int32)), .val (.int (0 : Int32)), .unset, .unset, .unset]) rfl (pc' := 28) rfl ?_
     refine k_iload X31 hx (hb hby at_28) rfl (pc' := 30) rfl ?_
     refine k_if_eq X31 hx (hb hby at_30) (pn := 33) rfl (py := 38) (by decide) (fun _ => ?_) (fun hc => absurd (by decide) hc)
     refine k_iconst X31 hx (hb hby at_38) (pc' := 39) rfl (z := (1 : Int32)) rfl ?_
     refine k_goto X31 hx (hb hby at_39) (pc' := 43) (by decide) ?_
     refine k_istore X31 hx (hb hby at_43) (Ls' := #[.val (.long i0), .second, .val (.long i1), .second, .val (.long i1), .second, .val (.long i0), .second, .val (.int (0 : Int32)), .val (.int (0 : Int32)), .val (.int (1 : Int32)), .unset, .unset]) rfl (pc' := 45) rfl ?_
     refine k_ldcL X31 hx hZ hown (hw _ (List.mem_of_getElem? (i := 12) rfl)) (hb hby at_45) (pc' := 48) rfl ?_
     refine k_callS X31 hx hZ hown (hw _ (List.mem_of_getElem? (i := 7) rfl)) (hw _ (List.mem_of_getElem? (i := 8) rfl)) (hw _ (List.mem_of_getElem? (i := 9) rfl)) (hw _ (List.mem_of_getElem? (i := 10) rfl)) (by decide) (rm3_19 l Z a0 hw []  h0 n0 Z0 ) (by decide) (by decide) e31 (by rw [hml]; rfl) (argsL := [(.long (16777216 : Int64))]) (rest := []) (lenOf pd_1 rfl) rfl (W := 0) (Nat.le_refl _) rfl (hb hby at_48) (by decide) (by decide) (pc' := 51) rfl (fun T34 L34 r34 X34 q34 => ?_)
     obtain ⟨N34, e34, q34⟩ := q34
     have N34' := Fr.app N31' N34
     obtain rfl := q34
     show KEnds p e below s _ _ _ T34 (mkF m 51 #[.val (.long i0), .second, .val (.long i1), .second, .val (.long i1), .second, .val (.long i0), .second, .val (.int (0 : Int32)), .val (.int (0 : Int32)), .val (.int (1 : Int32)), .unset, .unset] [(.int (1 : Int32))])
     refine k_istore X34 hx (hb hby at_51) (Ls' := #[.val (.long i0), .second, .val (.long i1), .second, .val (.long i1), .second, .val (.long i0), .second, .val (.int (0 : Int32)), .val (.int (0 : Int32)), .val (.int (1 : Int32)), .val (.int (1 : Int32)), .unset]) rfl (pc' := 53) rfl ?_
     refine k_ldcL X34 hx hZ hown (hw _ (List.mem_of_getElem? (i := 13) rfl)) (hb hby at_53) (pc' := 56) rfl ?_
     refine k_callS X34 hx hZ hown (hw _ (List.mem_of_getElem? (i := 7) rfl)) (hw _ (List.mem_of_getElem? (i := 8) rfl)) (hw _ (List.mem_of_getElem? (i := 9) rfl)) (hw _ (List.mem_of_getElem? (i := 10) rfl)) (by decide) (rm3_21 l Z a0 hw []  h0 n0 Z0 ) (by decide) (by decide) e34 (by rw [hml]; rfl) (argsL := [(.long (16777217 : Int64))]) (rest := []) (lenOf pd_1 rfl) rfl (W := 0) (Nat.le_refl _) rfl (hb hby at_56) (by decide) (by decide) (pc' := 59) rfl (fun T35 L35 r35 X35 q35 => ?_)
     obtain ⟨N35, e35, q35⟩ := q35
     have N35' := Fr.app N34' N35
     obtain rfl := q35
     show KEnds p e below s _ _ _ T35 (mkF m 59 #[.val (.long i0), .second, .val (.long i1), .second, .val (.long i1), .second, .val (.long i0), .second, .val (.int (0 : Int32)), .val (.int (0 : Int32)), .val (.int (1 : Int32)), .val (.int (1 : Int32)), .unset] [(.int (0 : Int32))])
     refine k_istore X35 hx (hb hby at_59) (Ls' := #[.val (.long i0), .second, .val (.long i1), .second, .val (.long i1), .second, .val (.long i0), .second, .val (.int (0 : Int32)), .val (.int (0 : Int32)), .val (.int (1 : Int32)), .val (.int (1 : Int32)), .val (.int (0 : Int32))]) rfl (pc' := 61) rfl ?_
     refine k_iload X35 hx (hb hby at_61) rfl (pc' := 63) rfl ?_
     refine k_if_eq X35 hx (hb hby at_63) (pn := 66) rfl (py := 80) (by decide) (fun hc => absurd hc (by decide)) (fun _ => ?_)
     refine k_iload X35 hx (hb hby at_66) rfl (pc' := 68) rfl ?_
     refine k_if_eq X35 hx (hb hby at_68) (pn := 71) rfl (py := 80) (by decide) (fun hc => absurd hc (by decide)) (fun _ => ?_)
     refine k_iload X35 hx (hb hby at_71) rfl (pc' := 73) rfl ?_
     refine k_if_ne X35 hx (hb hby at_73) (pn := 76) rfl (py := 80) (by decide) (fun hc => absurd (by decide) hc) (fun _ => ?_)
     refine k_iconst X35 hx (hb hby at_76) (pc' := 77) rfl (z := (1 : Int32)) rfl ?_
     refine k_goto X35 hx (hb hby at_77) (pc' := 81) (by decide) ?_
     exact k_retN X35 hx (t := .boolean) Bd.returns (by simp) (hb hby at_81) hlk (by decide) (by decide) (z' := (1 : Int32)) rfl ⟨rfl, N35'⟩
    ·
     show KEnds p e below s _ _ _ T31 (mkF m 26 #[.val (.long i0), .second, .val (.long i1), .second, .val (.long i1), .second, .val (.long i0), .second, .val (.int (0 : Int32)), .unset, .unset, .unset, .unset] [(.int (1 : Int32))])
     refine k_istore X31 hx (hb hby at_26) (Ls' := #[.val (.long i0), .second, .val (.long i1), .second, .val (.long i1), .second, .val (.long i0), .second, .val (.int (0 : Int32)), .val (.int (1 : Int32)), .unset, .unset, .unset]) rfl (pc' := 28) rfl ?_
     refine k_iload X31 hx (hb hby at_28) rfl (pc' := 30) rfl ?_
     refine k_if_eq X31 hx (hb hby at_30) (pn := 33) rfl (py := 38) (by decide) (fun _ => ?_) (fun hc => absurd (by decide) hc)
     refine k_iconst X31 hx (hb hby at_38) (pc' := 39) rfl (z := (1 : Int32)) rfl ?_
     refine k_goto X31 hx (hb hby at_39) (pc' := 43) (by decide) ?_
     refine k_istore X31 hx (hb hby at_43) (Ls' := #[.val (.long i0), .second, .val (.long i1), .second, .val (.long i1), .second, .val (.long i0), .second, .val (.int (0 : Int32)), .val (.int (1 : Int32)), .val (.int (1 : Int32)), .unset, .unset]) rfl (pc' := 45) rfl ?_
     refine k_ldcL X31 hx hZ hown (hw _ (List.mem_of_getElem? (i := 12) rfl)) (hb hby at_45) (pc' := 48) rfl ?_
     refine k_callS X31 hx hZ hown (hw _ (List.mem_of_getElem? (i := 7) rfl)) (hw _ (List.mem_of_getElem? (i := 8) rfl)) (hw _ (List.mem_of_getElem? (i := 9) rfl)) (hw _ (List.mem_of_getElem? (i := 10) rfl)) (by decide) (rm3_19 l Z a0 hw []  h0 n0 Z0 ) (by decide) (by decide) e31 (by rw [hml]; rfl) (argsL := [(.long (16777216 : Int64))]) (rest := []) (lenOf pd_1 rfl) rfl (W := 0) (Nat.le_refl _) rfl (hb hby at_48) (by decide) (by decide) (pc' := 51) rfl (fun T36 L36 r36 X36 q36 => ?_)
     obtain ⟨N36, e36, q36⟩ := q36
     have N36' := Fr.app N31' N36
     obtain rfl := q36
     show KEnds p e below s _ _ _ T36 (mkF m 51 #[.val (.long i0), .second, .val (.long i1), .second, .val (.long i1), .second, .val (.long i0), .second, .val (.int (0 : Int32)), .val (.int (1 : Int32)), .val (.int (1 : Int32)), .unset, .unset] [(.int (1 : Int32))])
     refine k_istore X36 hx (hb hby at_51) (Ls' := #[.val (.long i0), .second, .val (.long i1), .second, .val (.long i1), .second, .val (.long i0), .second, .val (.int (0 : Int32)), .val (.int (1 : Int32)), .val (.int (1 : Int32)), .val (.int (1 : Int32)), .unset]) rfl (pc' := 53) rfl ?_
     refine k_ldcL X36 hx hZ hown (hw _ (List.mem_of_getElem? (i := 13) rfl)) (hb hby at_53) (pc' := 56) rfl ?_
     refine k_callS X36 hx hZ hown (hw _ (List.mem_of_getElem? (i := 7) rfl)) (hw _ (List.mem_of_getElem? (i := 8) rfl)) (hw _ (List.mem_of_getElem? (i := 9) rfl)) (hw _ (List.mem_of_getElem? (i := 10) rfl)) (by decide) (rm3_21 l Z a0 hw []  h0 n0 Z0 ) (by decide) (by decide) e36 (by rw [hml]; rfl) (argsL := [(.long (16777217 : Int64))]) (rest := []) (lenOf pd_1 rfl) rfl (W := 0) (Nat.le_refl _) rfl (hb hby at_56) (by decide) (by decide) (pc' := 59) rfl (fun T37 L37 r37 X37 q37 => ?_)
     obtain ⟨N37, e37, q37⟩ := q37
     have N37' := Fr.app N36' N37
     obtain rfl := q37
     show KEnds p e below s _ _ _ T37 (mkF m 59 #[.val (.long i0), .second, .val (.long i1), .second, .val (.long i1), .second, .val (.long i0), .second, .val (.int (0 : Int32)), .val (.int (1 : Int32)), .val (.int (1 : Int32)), .val (.int (1 : Int32)), .unset] [(.int (0 : Int32))])
     refine k_istore X37 hx (hb hby at_59) (Ls' := #[.val (.long i0), .second, .val (.long i1), .second, .val (.long i1), .second, .val (.long i0), .second, .val (.int (0 : Int32)), .val (.int (1 : Int32)), .val (.int (1 : Int32)), .val (.int (1 : Int32)), .val (.int (0 : Int32))]) rfl (pc' := 61) rfl ?_
     refine k_iload X37 hx (hb hby at_61) rfl (pc' := 63) rfl ?_
     refine k_if_eq X37 hx (hb hby at_63) (pn := 66) rfl (py := 80) (by decide) (fun hc => absurd hc (by decide)) (fun _ => ?_)
     refine k_iload X37 hx (hb hby at_66) rfl (pc' := 68) rfl ?_
     refine k_if_eq X37 hx (hb hby at_68) (pn := 71) rfl (py := 80) (by decide) (fun hc => absurd hc (by decide)) (fun _ => ?_)
     refine k_iload X37 hx (hb hby at_71) rfl (pc' := 73) rfl ?_
     refine k_if_ne X37 hx (hb hby at_73) (pn := 76) rfl (py := 80) (by decide) (fun hc => absurd (by decide) hc) (fun _ => ?_)
     refine k_iconst X37 hx (hb hby at_76) (pc' := 77) rfl (z := (1 : Int32)) rfl ?_
     refine k_goto X37 hx (hb hby at_77) (pc' := 81) (by decide) ?_
     exact k_retN X37 hx (t := .boolean) Bd.returns (by simp) (hb hby at_81) hlk (by decide) (by decide) (z' := (1 : Int32)) rfl ⟨rfl, N37'⟩
   ·
    show KEnds p e below s _ _ _ T28 (mkF m 19 #[.val (.long i0), .second, .val (.long i1), .second, .val (.long i1), .second, .val (.long i0), .second, .unset, .unset, .unset, .unset, .unset] [(.int (1 : Int32))])
    refine k_istore X28 hx (hb hby at_19) (Ls' := #[.val (.long i0), .second, .val (.long i1), .second, .val (.long i1), .second, .val (.long i0), .second, .val (.int (1 : Int32)), .unset, .unset, .unset, .unset]) rfl (pc' := 21) rfl ?_
    refine k_lload X28 hx (hb hby at_21) rfl (pc' := 23) rfl ?_
    refine k_callS X28 hx hZ hown (hw _ (List.mem_of_getElem? (i := 7) rfl)) (hw _ (List.mem_of_getElem? (i := 8) rfl)) (hw _ (List.mem_of_getElem? (i := 9) rfl)) (hw _ (List.mem_of_getElem? (i := 10) rfl)) (by decide) (rm3_11 l Z a0 hw [] i1 h0 n0 Z0 ) (by decide) (by decide) e28 (by rw [hml]; rfl) (argsL := [(.long i1)]) (rest := []) (lenOf pd_1 rfl) rfl (W := 0) (Nat.le_refl _) rfl (hb hby at_23) (by decide) (by decide) (pc' := 26) rfl (fun T38 L38 r38 X38 q38 => ?_)
    obtain ⟨N38, e38, q38⟩ := q38
    have N38' := Fr.app N28' N38
    rcases q38 with ⟨hc39, rfl⟩ | ⟨hc40, rfl⟩
    ·
     show KEnds p e below s _ _ _ T38 (mkF m 26 #[.val (.long i0), .second, .val (.long i1), .second, .val (.long i1), .second, .val (.long i0), .second, .val (.int (1 : Int32)), .unset, .unset, .unset, .unset] [(.int (0 : Int32))])
     refine k_istore X38 hx (hb hby at_26) (Ls' := #[.val (.long i0), .second, .val (.long i1), .second, .val (.long i1), .second, .val (.long i0), .second, .val (.int (1 : Int32)), .val (.int (0 : Int32)), .unset, .unset, .unset]) rfl (pc' := 28) rfl ?_
     refine k_iload X38 hx (hb hby at_28) rfl (pc' := 30) rfl ?_
     refine k_if_eq X38 hx (hb hby at_30) (pn := 33) rfl (py := 38) (by decide) (fun hc => absurd hc (by decide)) (fun _ => ?_)
     refine k_iload X38 hx (hb hby at_33) rfl (pc' := 35) rfl ?_
     refine k_if_eq X38 hx (hb hby at_35) (pn := 38) rfl (py := 42) (by decide) (fun _ => ?_) (fun hc => absurd (by decide) hc)
     refine k_iconst X38 hx (hb hby at_42) (pc' := 43) rfl (z := (0 : Int32)) rfl ?_
     refine k_istore X38 hx (hb hby at_43) (Ls' := #[.val (.long i0), .second, .val (.long i1), .second, .val (.long i1), .second, .val (.long i0), .second, .val (.int (1 : Int32)), .val (.int (0 : Int32)), .val (.int (0 : Int32)), .unset, .unset]) rfl (pc' := 45) rfl ?_
     refine k_ldcL X38 hx hZ hown (hw _ (List.mem_of_getElem? (i := 12) rfl)) (hb hby at_45) (pc' := 48) rfl ?_
     refine k_callS X38 hx hZ hown (hw _ (List.mem_of_getElem? (i := 7) rfl)) (hw _ (List.mem_of_getElem? (i := 8) rfl)) (hw _ (List.mem_of_getElem? (i := 9) rfl)) (hw _ (List.mem_of_getElem? (i := 10) rfl)) (by decide) (rm3_19 l Z a0 hw []  h0 n0 Z0 ) (by decide) (by decide) e38 (by rw [hml]; rfl) (argsL := [(.long (16777216 : Int64))]) (rest := []) (lenOf pd_1 rfl) rfl (W := 0) (Nat.le_refl _) rfl (hb hby at_48) (by decide) (by decide) (pc' := 51) rfl (fun T41 L41 r41 X41 q41 => ?_)
     obtain ⟨N41, e41, q41⟩ := q41
     have N41' := Fr.app N38' N41
     obtain rfl := q41
     show KEnds p e below s _ _ _ T41 (mkF m 51 #[.val (.long i0), .second, .val (.long i1), .second, .val (.long i1), .second, .val (.long i0), .second, .val (.int (1 : Int32)), .val (.int (0 : Int32)), .val (.int (0 : Int32)), .unset, .unset] [(.int (1 : Int32))])
     refine k_istore X41 hx (hb hby at_51) (Ls' := #[.val (.long i0), .second, .val (.long i1), .second, .val (.long i1), .second, .val (.long i0), .second, .val (.int (1 : Int32)), .val (.int (0 : Int32)), .val (.int (0 : Int32)), .val (.int (1 : Int32)), .unset]) rfl (pc' := 53) rfl ?_
     refine k_ldcL X41 hx hZ hown (hw _ (List.mem_of_getElem? (i := 13) rfl)) (hb hby at_53) (pc' := 56) rfl ?_
     refine k_callS X41 hx hZ hown (hw _ (List.mem_of_getElem? (i := 7) rfl)) (hw _ (List.mem_of_getElem? (i := 8) rfl)) (hw _ (List.mem_of_getElem? (i := 9) rfl)) (hw _ (List.mem_of_getElem? (i := 10) rfl)) (by decide) (rm3_21 l Z a0 hw []  h0 n0 Z0 ) (by decide) (by decide) e41 (by rw [hml]; rfl) (argsL := [(.long (16777217 : Int64))]) (rest := []) (lenOf pd_1 rfl) rfl (W := 0) (Nat.le_refl _) rfl (hb hby at_56) (by decide) (by decide) (pc' := 59) rfl (fun T42 L42 r42 X42 q42 => ?_)
     obtain ⟨N42, e42, q42⟩ := q42
     have N42' := Fr.app N41' N42
     obtain rfl := q42
     show KEnds p e below s _ _ _ T42 (mkF m 59 #[.val (.long i0), .second, .val (.long i1), .second, .val (.long i1), .second, .val (.long i0), .second, .val (.int (1 : Int32)), .val (.int (0 : Int32)), .val (.int (0 : Int32)), .val (.int (1 : Int32)), .unset] [(.int (0 : Int32))])
     refine k_istore X42 hx (hb hby at_59) (Ls' := #[.val (.long i0), .second, .val (.long i1), .second, .val (.long i1), .second, .val (.long i0), .second, .val (.int (1 : Int32)), .val (.int (0 : Int32)), .val (.int (0 : Int32)), .val (.int (1 : Int32)), .val (.int (0 : Int32))]) rfl (pc' := 61) rfl ?_
     refine k_iload X42 hx (hb hby at_61) rfl (pc' := 63) rfl ?_
     refine k_if_eq X42 hx (hb hby at_63) (pn := 66) rfl (py := 80) (by decide) (fun _ => ?_) (fun hc => absurd (by decide) hc)
     refine k_iconst X42 hx (hb hby at_80) (pc' := 81) rfl (z := (0 : Int32)) rfl ?_
     exfalso
     have := rng64 i1
     have := rng64 i0
     have q43 := hc4; rw [Int64.lt_iff_toInt_lt] at q43
     have q44 := hc10; rw [Int64.lt_iff_toInt_lt] at q44
     have : (16777216 : Int64).toInt = 16777216 := by decide
     have q45 := hc30; rw [Int64.lt_iff_toInt_lt] at q45
     have q46 := hc39; rw [Int64.lt_iff_toInt_lt] at q46
     omega
    ·
     show KEnds p e below s _ _ _ T38 (mkF m 26 #[.val (.long i0), .second, .val (.long i1), .second, .val (.long i1), .second, .val (.long i0), .second, .val (.int (1 : Int32)), .unset, .unset, .unset, .unset] [(.int (1 : Int32))])
     refine k_istore X38 hx (hb hby at_26) (Ls' := #[.val (.long i0), .second, .val (.long i1), .second, .val (.long i1), .second, .val (.long i0), .second, .val (.int (1 : Int32)), .val (.int (1 : Int32)), .unset, .unset, .unset]) rfl (pc' := 28) rfl ?_
     refine k_iload X38 hx (hb hby at_28) rfl (pc' := 30) rfl ?_
     refine k_if_eq X38 hx (hb hby at_30) (pn := 33) rfl (py := 38) (by decide) (fun hc => absurd hc (by decide)) (fun _ => ?_)
     refine k_iload X38 hx (hb hby at_33) rfl (pc' := 35) rfl ?_
     refine k_if_eq X38 hx (hb hby at_35) (pn := 38) rfl (py := 42) (by decide) (fun hc => absurd hc (by decide)) (fun _ => ?_)
     refine k_iconst X38 hx (hb hby at_38) (pc' := 39) rfl (z := (1 : Int32)) rfl ?_
     refine k_goto X38 hx (hb hby at_39) (pc' := 43) (by decide) ?_
     refine k_istore X38 hx (hb hby at_43) (Ls' := #[.val (.long i0), .second, .val (.long i1), .second, .val (.long i1), .second, .val (.long i0), .second, .val (.int (1 : Int32)), .val (.int (1 : Int32)), .val (.int (1 : Int32)), .unset, .unset]) rfl (pc' := 45) rfl ?_
     refine k_ldcL X38 hx hZ hown (hw _ (List.mem_of_getElem? (i := 12) rfl)) (hb hby at_45) (pc' := 48) rfl ?_
     refine k_callS X38 hx hZ hown (hw _ (List.mem_of_getElem? (i := 7) rfl)) (hw _ (List.mem_of_getElem? (i := 8) rfl)) (hw _ (List.mem_of_getElem? (i := 9) rfl)) (hw _ (List.mem_of_getElem? (i := 10) rfl)) (by decide) (rm3_19 l Z a0 hw []  h0 n0 Z0 ) (by decide) (by decide) e38 (by rw [hml]; rfl) (argsL := [(.long (16777216 : Int64))]) (rest := []) (lenOf pd_1 rfl) rfl (W := 0) (Nat.le_refl _) rfl (hb hby at_48) (by decide) (by decide) (pc' := 51) rfl (fun T47 L47 r47 X47 q47 => ?_)
     obtain ⟨N47, e47, q47⟩ := q47
     have N47' := Fr.app N38' N47
     obtain rfl := q47
     show KEnds p e below s _ _ _ T47 (mkF m 51 #[.val (.long i0), .second, .val (.long i1), .second, .val (.long i1), .second, .val (.long i0), .second, .val (.int (1 : Int32)), .val (.int (1 : Int32)), .val (.int (1 : Int32)), .unset, .unset] [(.int (1 : Int32))])
     refine k_istore X47 hx (hb hby at_51) (Ls' := #[.val (.long i0), .second, .val (.long i1), .second, .val (.long i1), .second, .val (.long i0), .second, .val (.int (1 : Int32)), .val (.int (1 : Int32)), .val (.int (1 : Int32)), .val (.int (1 : Int32)), .unset]) rfl (pc' := 53) rfl ?_
     refine k_ldcL X47 hx hZ hown (hw _ (List.mem_of_getElem? (i := 13) rfl)) (hb hby at_53) (pc' := 56) rfl ?_
     refine k_callS X47 hx hZ hown (hw _ (List.mem_of_getElem? (i := 7) rfl)) (hw _ (List.mem_of_getElem? (i := 8) rfl)) (hw _ (List.mem_of_getElem? (i := 9) rfl)) (hw _ (List.mem_of_getElem? (i := 10) rfl)) (by decide) (rm3_21 l Z a0 hw []  h0 n0 Z0 ) (by decide) (by decide) e47 (by rw [hml]; rfl) (argsL := [(.long (16777217 : Int64))]) (rest := []) (lenOf pd_1 rfl) rfl (W := 0) (Nat.le_refl _) rfl (hb hby at_56) (by decide) (by decide) (pc' := 59) rfl (fun T48 L48 r48 X48 q48 => ?_)
     obtain ⟨N48, e48, q48⟩ := q48
     have N48' := Fr.app N47' N48
     obtain rfl := q48
     show KEnds p e below s _ _ _ T48 (mkF m 59 #[.val (.long i0), .second, .val (.long i1), .second, .val (.long i1), .second, .val (.long i0), .second, .val (.int (1 : Int32)), .val (.int (1 : Int32)), .val (.int (1 : Int32)), .val (.int (1 : Int32)), .unset] [(.int (0 : Int32))])
     refine k_istore X48 hx (hb hby at_59) (Ls' := #[.val (.long i0), .second, .val (.long i1), .second, .val (.long i1), .second, .val (.long i0), .second, .val (.int (1 : Int32)), .val (.int (1 : Int32)), .val (.int (1 : Int32)), .val (.int (1 : Int32)), .val (.int (0 : Int32))]) rfl (pc' := 61) rfl ?_
     refine k_iload X48 hx (hb hby at_61) rfl (pc' := 63) rfl ?_
     refine k_if_eq X48 hx (hb hby at_63) (pn := 66) rfl (py := 80) (by decide) (fun hc => absurd hc (by decide)) (fun _ => ?_)
     refine k_iload X48 hx (hb hby at_66) rfl (pc' := 68) rfl ?_
     refine k_if_eq X48 hx (hb hby at_68) (pn := 71) rfl (py := 80) (by decide) (fun hc => absurd hc (by decide)) (fun _ => ?_)
     refine k_iload X48 hx (hb hby at_71) rfl (pc' := 73) rfl ?_
     refine k_if_ne X48 hx (hb hby at_73) (pn := 76) rfl (py := 80) (by decide) (fun hc => absurd (by decide) hc) (fun _ => ?_)
     refine k_iconst X48 hx (hb hby at_76) (pc' := 77) rfl (z := (1 : Int32)) rfl ?_
     refine k_goto X48 hx (hb hby at_77) (pc' := 81) (by decide) ?_
     exact k_retN X48 hx (t := .boolean) Bd.returns (by simp) (hb hby at_81) hlk (by decide) (by decide) (z' := (1 : Int32)) rfl ⟨rfl, N48'⟩
 ·
  show KEnds p e below s _ _ _ T3 (mkF m 5 #[.val (.long i0), .second, .val (.long i1), .second, .unset, .unset, .unset, .unset, .unset, .unset, .unset, .unset, .unset] [(.long i0)])
  refine k_lstore X3 hx (hb hby at_5) (Ls' := #[.val (.long i0), .second, .val (.long i1), .second, .val (.long i0), .second, .unset, .unset, .unset, .unset, .unset, .unset, .unset]) rfl (pc' := 7) rfl ?_
  refine k_lloadN X3 hx (hb hby at_7) rfl (pc' := 8) rfl ?_
  refine k_lloadN X3 hx (hb hby at_8) rfl (pc' := 9) rfl ?_
  refine k_callS X3 hx hZ hown (hw _ (List.mem_of_getElem? (i := 4) rfl)) (hw _ (List.mem_of_getElem? (i := 5) rfl)) (hw _ (List.mem_of_getElem? (i := 2) rfl)) (hw _ (List.mem_of_getElem? (i := 6) rfl)) (by decide) (rm2_6 l Z a0 hw [] i0 i1 h0 n0 Z0 ) (by decide) (by decide) e3 (by rw [hml]; rfl) (argsL := [(.long i0), (.long i1)]) (rest := []) (lenOf pd_0 rfl) rfl (W := 0) (Nat.le_refl _) rfl (hb hby at_9) (by decide) (by decide) (pc' := 12) rfl (fun T49 L49 r49 X49 q49 => ?_)
  obtain ⟨N49, e49, q49⟩ := q49
  have N49' := Fr.app N3' N49
  rcases q49 with ⟨hc50, rfl⟩ | ⟨hc51, rfl⟩
  ·
   show KEnds p e below s _ _ _ T49 (mkF m 12 #[.val (.long i0), .second, .val (.long i1), .second, .val (.long i0), .second, .unset, .unset, .unset, .unset, .unset, .unset, .unset] [(.long i1)])
   refine k_lstore X49 hx (hb hby at_12) (Ls' := #[.val (.long i0), .second, .val (.long i1), .second, .val (.long i0), .second, .val (.long i1), .second, .unset, .unset, .unset, .unset, .unset]) rfl (pc' := 14) rfl ?_
   refine k_lload X49 hx (hb hby at_14) rfl (pc' := 16) rfl ?_
   refine k_callS X49 hx hZ hown (hw _ (List.mem_of_getElem? (i := 7) rfl)) (hw _ (List.mem_of_getElem? (i := 8) rfl)) (hw _ (List.mem_of_getElem? (i := 9) rfl)) (hw _ (List.mem_of_getElem? (i := 10) rfl)) (by decide) (rm3_11 l Z a0 hw [] i1 h0 n0 Z0 ) (by decide) (by decide) e49 (by rw [hml]; rfl) (argsL := [(.long i1)]) (rest := []) (lenOf pd_1 rfl) rfl (W := 0) (Nat.le_refl _) rfl (hb hby at_16) (by decide) (by decide) (pc' := 19) rfl (fun T52 L52 r52 X52 q52 => ?_)
   obtain ⟨N52, e52, q52⟩ := q52
   have N52' := Fr.app N49' N52
   rcases q52 with ⟨hc53, rfl⟩ | ⟨hc54, rfl⟩
   ·
    show KEnds p e below s _ _ _ T52 (mkF m 19 #[.val (.long i0), .second, .val (.long i1), .second, .val (.long i0), .second, .val (.long i1), .second, .unset, .unset, .unset, .unset, .unset] [(.int (0 : Int32))])
    refine k_istore X52 hx (hb hby at_19) (Ls' := #[.val (.long i0), .second, .val (.long i1), .second, .val (.long i0), .second, .val (.long i1), .second, .val (.int (0 : Int32)), .unset, .unset, .unset, .unset]) rfl (pc' := 21) rfl ?_
    refine k_lload X52 hx (hb hby at_21) rfl (pc' := 23) rfl ?_
    refine k_callS X52 hx hZ hown (hw _ (List.mem_of_getElem? (i := 7) rfl)) (hw _ (List.mem_of_getElem? (i := 8) rfl)) (hw _ (List.mem_of_getElem? (i := 9) rfl)) (hw _ (List.mem_of_getElem? (i := 10) rfl)) (by decide) (rm3_11 l Z a0 hw [] i0 h0 n0 Z0 ) (by decide) (by decide) e52 (by rw [hml]; rfl) (argsL := [(.long i0)]) (rest := []) (lenOf pd_1 rfl) rfl (W := 0) (Nat.le_refl _) rfl (hb hby at_23) (by decide) (by decide) (pc' := 26) rfl (fun T55 L55 r55 X55 q55 => ?_)
    obtain ⟨N55, e55, q55⟩ := q55
    have N55' := Fr.app N52' N55
    rcases q55 with ⟨hc56, rfl⟩ | ⟨hc57, rfl⟩
    ·
     show KEnds p e below s _ _ _ T55 (mkF m 26 #[.val (.long i0), .second, .val (.long i1), .second, .val (.long i0), .second, .val (.long i1), .second, .val (.int (0 : Int32)), .unset, .unset, .unset, .unset] [(.int (0 : Int32))])
     refine k_istore X55 hx (hb hby at_26) (Ls' := #[.val (.long i0), .second, .val (.long i1), .second, .val (.long i0), .second, .val (.long i1), .second, .val (.int (0 : Int32)), .val (.int (0 : Int32)), .unset, .unset, .unset]) rfl (pc' := 28) rfl ?_
     refine k_iload X55 hx (hb hby at_28) rfl (pc' := 30) rfl ?_
     refine k_if_eq X55 hx (hb hby at_30) (pn := 33) rfl (py := 38) (by decide) (fun _ => ?_) (fun hc => absurd (by decide) hc)
     refine k_iconst X55 hx (hb hby at_38) (pc' := 39) rfl (z := (1 : Int32)) rfl ?_
     refine k_goto X55 hx (hb hby at_39) (pc' := 43) (by decide) ?_
     refine k_istore X55 hx (hb hby at_43) (Ls' := #[.val (.long i0), .second, .val (.long i1), .second, .val (.long i0), .second, .val (.long i1), .second, .val (.int (0 : Int32)), .val (.int (0 : Int32)), .val (.int (1 : Int32)), .unset, .unset]) rfl (pc' := 45) rfl ?_
     refine k_ldcL X55 hx hZ hown (hw _ (List.mem_of_getElem? (i := 12) rfl)) (hb hby at_45) (pc' := 48) rfl ?_
     refine k_callS X55 hx hZ hown (hw _ (List.mem_of_getElem? (i := 7) rfl)) (hw _ (List.mem_of_getElem? (i := 8) rfl)) (hw _ (List.mem_of_getElem? (i := 9) rfl)) (hw _ (List.mem_of_getElem? (i := 10) rfl)) (by decide) (rm3_19 l Z a0 hw []  h0 n0 Z0 ) (by decide) (by decide) e55 (by rw [hml]; rfl) (argsL := [(.long (16777216 : Int64))]) (rest := []) (lenOf pd_1 rfl) rfl (W := 0) (Nat.le_refl _) rfl (hb hby at_48) (by decide) (by decide) (pc' := 51) rfl (fun T58 L58 r58 X58 q58 => ?_)
     obtain ⟨N58, e58, q58⟩ := q58
     have N58' := Fr.app N55' N58
     obtain rfl := q58
     show KEnds p e below s _ _ _ T58 (mkF m 51 #[.val (.long i0), .second, .val (.long i1), .second, .val (.long i0), .second, .val (.long i1), .second, .val (.int (0 : Int32)), .val (.int (0 : Int32)), .val (.int (1 : Int32)), .unset, .unset] [(.int (1 : Int32))])
     refine k_istore X58 hx (hb hby at_51) (Ls' := #[.val (.long i0), .second, .val (.long i1), .second, .val (.long i0), .second, .val (.long i1), .second, .val (.int (0 : Int32)), .val (.int (0 : Int32)), .val (.int (1 : Int32)), .val (.int (1 : Int32)), .unset]) rfl (pc' := 53) rfl ?_
     refine k_ldcL X58 hx hZ hown (hw _ (List.mem_of_getElem? (i := 13) rfl)) (hb hby at_53) (pc' := 56) rfl ?_
     refine k_callS X58 hx hZ hown (hw _ (List.mem_of_getElem? (i := 7) rfl)) (hw _ (List.mem_of_getElem? (i := 8) rfl)) (hw _ (List.mem_of_getElem? (i := 9) rfl)) (hw _ (List.mem_of_getElem? (i := 10) rfl)) (by decide) (rm3_21 l Z a0 hw []  h0 n0 Z0 ) (by decide) (by decide) e58 (by rw [hml]; rfl) (argsL := [(.long (16777217 : Int64))]) (rest := []) (lenOf pd_1 rfl) rfl (W := 0) (Nat.le_refl _) rfl (hb hby at_56) (by decide) (by decide) (pc' := 59) rfl (fun T59 L59 r59 X59 q59 => ?_)
     obtain ⟨N59, e59, q59⟩ := q59
     have N59' := Fr.app N58' N59
     obtain rfl := q59
     show KEnds p e below s _ _ _ T59 (mkF m 59 #[.val (.long i0), .second, .val (.long i1), .second, .val (.long i0), .second, .val (.long i1), .second, .val (.int (0 : Int32)), .val (.int (0 : Int32)), .val (.int (1 : Int32)), .val (.int (1 : Int32)), .unset] [(.int (0 : Int32))])
     refine k_istore X59 hx (hb hby at_59) (Ls' := #[.val (.long i0), .second, .val (.long i1), .second, .val (.long i0), .second, .val (.long i1), .second, .val (.int (0 : Int32)), .val (.int (0 : Int32)), .val (.int (1 : Int32)), .val (.int (1 : Int32)), .val (.int (0 : Int32))]) rfl (pc' := 61) rfl ?_
     refine k_iload X59 hx (hb hby at_61) rfl (pc' := 63) rfl ?_
     refine k_if_eq X59 hx (hb hby at_63) (pn := 66) rfl (py := 80) (by decide) (fun hc => absurd hc (by decide)) (fun _ => ?_)
     refine k_iload X59 hx (hb hby at_66) rfl (pc' := 68) rfl ?_
     refine k_if_eq X59 hx (hb hby at_68) (pn := 71) rfl (py := 80) (by decide) (fun hc => absurd hc (by decide)) (fun _ => ?_)
     refine k_iload X59 hx (hb hby at_71) rfl (pc' := 73) rfl ?_
     refine k_if_ne X59 hx (hb hby at_73) (pn := 76) rfl (py := 80) (by decide) (fun hc => absurd (by decide) hc) (fun _ => ?_)
     refine k_iconst X59 hx (hb hby at_76) (pc' := 77) rfl (z := (1 : Int32)) rfl ?_
     refine k_goto X59 hx (hb hby at_77) (pc' := 81) (by decide) ?_
     exact k_retN X59 hx (t := .boolean) Bd.returns (by simp) (hb hby at_81) hlk (by decide) (by decide) (z' := (1 : Int32)) rfl ⟨rfl, N59'⟩
    ·
     show KEnds p e below s _ _ _ T55 (mkF m 26 #[.val (.long i0), .second, .val (.long i1), .second, .val (.long i0), .second, .val (.long i1), .second, .val (.int (0 : Int32)), .unset, .unset, .unset, .unset] [(.int (1 : Int32))])
     refine k_istore X55 hx (hb hby at_26) (Ls' := #[.val (.long i0), .second, .val (.long i1), .second, .val (.long i0), .second, .val (.long i1), .second, .val (.int (0 : Int32)), .val (.int (1 : Int32)), .unset, .unset, .unset]) rfl (pc' := 28) rfl ?_
     refine k_iload X55 hx (hb hby at_28) rfl (pc' := 30) rfl ?_
     refine k_if_eq X55 hx (hb hby at_30) (pn := 33) rfl (py := 38) (by decide) (fun _ => ?_) (fun hc => absurd (by decide) hc)
     refine k_iconst X55 hx (hb hby at_38) (pc' := 39) rfl (z := (1 : Int32)) rfl ?_
     refine k_goto X55 hx (hb hby at_39) (pc' := 43) (by decide) ?_
     refine k_istore X55 hx (hb hby at_43) (Ls' := #[.val (.long i0), .second, .val (.long i1), .second, .val (.long i0), .second, .val (.long i1), .second, .val (.int (0 : Int32)), .val (.int (1 : Int32)), .val (.int (1 : Int32)), .unset, .unset]) rfl (pc' := 45) rfl ?_
     refine k_ldcL X55 hx hZ hown (hw _ (List.mem_of_getElem? (i := 12) rfl)) (hb hby at_45) (pc' := 48) rfl ?_
     refine k_callS X55 hx hZ hown (hw _ (List.mem_of_getElem? (i := 7) rfl)) (hw _ (List.mem_of_getElem? (i := 8) rfl)) (hw _ (List.mem_of_getElem? (i := 9) rfl)) (hw _ (List.mem_of_getElem? (i := 10) rfl)) (by decide) (rm3_19 l Z a0 hw []  h0 n0 Z0 ) (by decide) (by decide) e55 (by rw [hml]; rfl) (argsL := [(.long (16777216 : Int64))]) (rest := []) (lenOf pd_1 rfl) rfl (W := 0) (Nat.le_refl _) rfl (hb hby at_48) (by decide) (by decide) (pc' := 51) rfl (fun T60 L60 r60 X60 q60 => ?_)
     obtain ⟨N60, e60, q60⟩ := q60
     have N60' := Fr.app N55' N60
     obtain rfl := q60
     show KEnds p e below s _ _ _ T60 (mkF m 51 #[.val (.long i0), .second, .val (.long i1), .second, .val (.long i0), .second, .val (.long i1), .second, .val (.int (0 : Int32)), .val (.int (1 : Int32)), .val (.int (1 : Int32)), .unset, .unset] [(.int (1 : Int32))])
     refine k_istore X60 hx (hb hby at_51) (Ls' := #[.val (.long i0), .second, .val (.long i1), .second, .val (.long i0), .second, .val (.long i1), .second, .val (.int (0 : Int32)), .val (.int (1 : Int32)), .val (.int (1 : Int32)), .val (.int (1 : Int32)), .unset]) rfl (pc' := 53) rfl ?_
     refine k_ldcL X60 hx hZ hown (hw _ (List.mem_of_getElem? (i := 13) rfl)) (hb hby at_53) (pc' := 56) rfl ?_
     refine k_callS X60 hx hZ hown (hw _ (List.mem_of_getElem? (i := 7) rfl)) (hw _ (List.mem_of_getElem? (i := 8) rfl)) (hw _ (List.mem_of_getElem? (i := 9) rfl)) (hw _ (List.mem_of_getElem? (i := 10) rfl)) (by decide) (rm3_21 l Z a0 hw []  h0 n0 Z0 ) (by decide) (by decide) e60 (by rw [hml]; rfl) (argsL := [(.long (16777217 : Int64))]) (rest := []) (lenOf pd_1 rfl) rfl (W := 0) (Nat.le_refl _) rfl (hb hby at_56) (by decide) (by decide) (pc' := 59) rfl (fun T61 L61 r61 X61 q61 => ?_)
     obtain ⟨N61, e61, q61⟩ := q61
     have N61' := Fr.app N60' N61
     obtain rfl := q61
     show KEnds p e below s _ _ _ T61 (mkF m 59 #[.val (.long i0), .second, .val (.long i1), .second, .val (.long i0), .second, .val (.long i1), .second, .val (.int (0 : Int32)), .val (.int (1 : Int32)), .val (.int (1 : Int32)), .val (.int (1 : Int32)), .unset] [(.int (0 : Int32))])
     refine k_istore X61 hx (hb hby at_59) (Ls' := #[.val (.long i0), .second, .val (.long i1), .second, .val (.long i0), .second, .val (.long i1), .second, .val (.int (0 : Int32)), .val (.int (1 : Int32)), .val (.int (1 : Int32)), .val (.int (1 : Int32)), .val (.int (0 : Int32))]) rfl (pc' := 61) rfl ?_
     refine k_iload X61 hx (hb hby at_61) rfl (pc' := 63) rfl ?_
     refine k_if_eq X61 hx (hb hby at_63) (pn := 66) rfl (py := 80) (by decide) (fun hc => absurd hc (by decide)) (fun _ => ?_)
     refine k_iload X61 hx (hb hby at_66) rfl (pc' := 68) rfl ?_
     refine k_if_eq X61 hx (hb hby at_68) (pn := 71) rfl (py := 80) (by decide) (fun hc => absurd hc (by decide)) (fun _ => ?_)
     refine k_iload X61 hx (hb hby at_71) rfl (pc' := 73) rfl ?_
     refine k_if_ne X61 hx (hb hby at_73) (pn := 76) rfl (py := 80) (by decide) (fun hc => absurd (by decide) hc) (fun _ => ?_)
     refine k_iconst X61 hx (hb hby at_76) (pc' := 77) rfl (z := (1 : Int32)) rfl ?_
     refine k_goto X61 hx (hb hby at_77) (pc' := 81) (by decide) ?_
     exact k_retN X61 hx (t := .boolean) Bd.returns (by simp) (hb hby at_81) hlk (by decide) (by decide) (z' := (1 : Int32)) rfl ⟨rfl, N61'⟩
   ·
    show KEnds p e below s _ _ _ T52 (mkF m 19 #[.val (.long i0), .second, .val (.long i1), .second, .val (.long i0), .second, .val (.long i1), .second, .unset, .unset, .unset, .unset, .unset] [(.int (1 : Int32))])
    refine k_istore X52 hx (hb hby at_19) (Ls' := #[.val (.long i0), .second, .val (.long i1), .second, .val (.long i0), .second, .val (.long i1), .second, .val (.int (1 : Int32)), .unset, .unset, .unset, .unset]) rfl (pc' := 21) rfl ?_
    refine k_lload X52 hx (hb hby at_21) rfl (pc' := 23) rfl ?_
    refine k_callS X52 hx hZ hown (hw _ (List.mem_of_getElem? (i := 7) rfl)) (hw _ (List.mem_of_getElem? (i := 8) rfl)) (hw _ (List.mem_of_getElem? (i := 9) rfl)) (hw _ (List.mem_of_getElem? (i := 10) rfl)) (by decide) (rm3_11 l Z a0 hw [] i0 h0 n0 Z0 ) (by decide) (by decide) e52 (by rw [hml]; rfl) (argsL := [(.long i0)]) (rest := []) (lenOf pd_1 rfl) rfl (W := 0) (Nat.le_refl _) rfl (hb hby at_23) (by decide) (by decide) (pc' := 26) rfl (fun T62 L62 r62 X62 q62 => ?_)
    obtain ⟨N62, e62, q62⟩ := q62
    have N62' := Fr.app N52' N62
    rcases q62 with ⟨hc63, rfl⟩ | ⟨hc64, rfl⟩
    ·
     show KEnds p e below s _ _ _ T62 (mkF m 26 #[.val (.long i0), .second, .val (.long i1), .second, .val (.long i0), .second, .val (.long i1), .second, .val (.int (1 : Int32)), .unset, .unset, .unset, .unset] [(.int (0 : Int32))])
     refine k_istore X62 hx (hb hby at_26) (Ls' := #[.val (.long i0), .second, .val (.long i1), .second, .val (.long i0), .second, .val (.long i1), .second, .val (.int (1 : Int32)), .val (.int (0 : Int32)), .unset, .unset, .unset]) rfl (pc' := 28) rfl ?_
     refine k_iload X62 hx (hb hby at_28) rfl (pc' := 30) rfl ?_
     refine k_if_eq X62 hx (hb hby at_30) (pn := 33) rfl (py := 38) (by decide) (fun hc => absurd hc (by decide)) (fun _ => ?_)
     refine k_iload X62 hx (hb hby at_33) rfl (pc' := 35) rfl ?_
     refine k_if_eq X62 hx (hb hby at_35) (pn := 38) rfl (py := 42) (by decide) (fun _ => ?_) (fun hc => absurd (by decide) hc)
     refine k_iconst X62 hx (hb hby at_42) (pc' := 43) rfl (z := (0 : Int32)) rfl ?_
     refine k_istore X62 hx (hb hby at_43) (Ls' := #[.val (.long i0), .second, .val (.long i1), .second, .val (.long i0), .second, .val (.long i1), .second, .val (.int (1 : Int32)), .val (.int (0 : Int32)), .val (.int (0 : Int32)), .unset, .unset]) rfl (pc' := 45) rfl ?_
     refine k_ldcL X62 hx hZ hown (hw _ (List.mem_of_getElem? (i := 12) rfl)) (hb hby at_45) (pc' := 48) rfl ?_
     refine k_callS X62 hx hZ hown (hw _ (List.mem_of_getElem? (i := 7) rfl)) (hw _ (List.mem_of_getElem? (i := 8) rfl)) (hw _ (List.mem_of_getElem? (i := 9) rfl)) (hw _ (List.mem_of_getElem? (i := 10) rfl)) (by decide) (rm3_19 l Z a0 hw []  h0 n0 Z0 ) (by decide) (by decide) e62 (by rw [hml]; rfl) (argsL := [(.long (16777216 : Int64))]) (rest := []) (lenOf pd_1 rfl) rfl (W := 0) (Nat.le_refl _) rfl (hb hby at_48) (by decide) (by decide) (pc' := 51) rfl (fun T65 L65 r65 X65 q65 => ?_)
     obtain ⟨N65, e65, q65⟩ := q65
     have N65' := Fr.app N62' N65
     obtain rfl := q65
     show KEnds p e below s _ _ _ T65 (mkF m 51 #[.val (.long i0), .second, .val (.long i1), .second, .val (.long i0), .second, .val (.long i1), .second, .val (.int (1 : Int32)), .val (.int (0 : Int32)), .val (.int (0 : Int32)), .unset, .unset] [(.int (1 : Int32))])
     refine k_istore X65 hx (hb hby at_51) (Ls' := #[.val (.long i0), .second, .val (.long i1), .second, .val (.long i0), .second, .val (.long i1), .second, .val (.int (1 : Int32)), .val (.int (0 : Int32)), .val (.int (0 : Int32)), .val (.int (1 : Int32)), .unset]) rfl (pc' := 53) rfl ?_
     refine k_ldcL X65 hx hZ hown (hw _ (List.mem_of_getElem? (i := 13) rfl)) (hb hby at_53) (pc' := 56) rfl ?_
     refine k_callS X65 hx hZ hown (hw _ (List.mem_of_getElem? (i := 7) rfl)) (hw _ (List.mem_of_getElem? (i := 8) rfl)) (hw _ (List.mem_of_getElem? (i := 9) rfl)) (hw _ (List.mem_of_getElem? (i := 10) rfl)) (by decide) (rm3_21 l Z a0 hw []  h0 n0 Z0 ) (by decide) (by decide) e65 (by rw [hml]; rfl) (argsL := [(.long (16777217 : Int64))]) (rest := []) (lenOf pd_1 rfl) rfl (W := 0) (Nat.le_refl _) rfl (hb hby at_56) (by decide) (by decide) (pc' := 59) rfl (fun T66 L66 r66 X66 q66 => ?_)
     obtain ⟨N66, e66, q66⟩ := q66
     have N66' := Fr.app N65' N66
     obtain rfl := q66
     show KEnds p e below s _ _ _ T66 (mkF m 59 #[.val (.long i0), .second, .val (.long i1), .second, .val (.long i0), .second, .val (.long i1), .second, .val (.int (1 : Int32)), .val (.int (0 : Int32)), .val (.int (0 : Int32)), .val (.int (1 : Int32)), .unset] [(.int (0 : Int32))])
     refine k_istore X66 hx (hb hby at_59) (Ls' := #[.val (.long i0), .second, .val (.long i1), .second, .val (.long i0), .second, .val (.long i1), .second, .val (.int (1 : Int32)), .val (.int (0 : Int32)), .val (.int (0 : Int32)), .val (.int (1 : Int32)), .val (.int (0 : Int32))]) rfl (pc' := 61) rfl ?_
     refine k_iload X66 hx (hb hby at_61) rfl (pc' := 63) rfl ?_
     refine k_if_eq X66 hx (hb hby at_63) (pn := 66) rfl (py := 80) (by decide) (fun _ => ?_) (fun hc => absurd (by decide) hc)
     refine k_iconst X66 hx (hb hby at_80) (pc' := 81) rfl (z := (0 : Int32)) rfl ?_
     exfalso
     have := rng64 i1
     have := rng64 i0
     have q67 := hc5; rw [Int64.lt_iff_toInt_lt] at q67
     have q68 := hc50; rw [Int64.lt_iff_toInt_lt] at q68
     have : (16777216 : Int64).toInt = 16777216 := by decide
     have q69 := hc54; rw [Int64.lt_iff_toInt_lt] at q69
     have q70 := hc63; rw [Int64.lt_iff_toInt_lt] at q70
     omega
    ·
     show KEnds p e below s _ _ _ T62 (mkF m 26 #[.val (.long i0), .second, .val (.long i1), .second, .val (.long i0), .second, .val (.long i1), .second, .val (.int (1 : Int32)), .unset, .unset, .unset, .unset] [(.int (1 : Int32))])
     refine k_istore X62 hx (hb hby at_26) (Ls' := #[.val (.long i0), .second, .val (.long i1), .second, .val (.long i0), .second, .val (.long i1), .second, .val (.int (1 : Int32)), .val (.int (1 : Int32)), .unset, .unset, .unset]) rfl (pc' := 28) rfl ?_
     refine k_iload X62 hx (hb hby at_28) rfl (pc' := 30) rfl ?_
     refine k_if_eq X62 hx (hb hby at_30) (pn := 33) rfl (py := 38) (by decide) (fun hc => absurd hc (by decide)) (fun _ => ?_)
     refine k_iload X62 hx (hb hby at_33) rfl (pc' := 35) rfl ?_
     refine k_if_eq X62 hx (hb hby at_35) (pn := 38) rfl (py := 42) (by decide) (fun hc => absurd hc (by decide)) (fun _ => ?_)
     refine k_iconst X62 hx (hb hby at_38) (pc' := 39) rfl (z := (1 : Int32)) rfl ?_
     refine k_goto X62 hx (hb hby at_39) (pc' := 43) (by decide) ?_
     refine k_istore X62 hx (hb hby at_43) (Ls' := #[.val (.long i0), .second, .val (.long i1), .second, .val (.long i0), .second, .val (.long i1), .second, .val (.int (1 : Int32)), .val (.int (1 : Int32)), .val (.int (1 : Int32)), .unset, .unset]) rfl (pc' := 45) rfl ?_
     refine k_ldcL X62 hx hZ hown (hw _ (List.mem_of_getElem? (i := 12) rfl)) (hb hby at_45) (pc' := 48) rfl ?_
     refine k_callS X62 hx hZ hown (hw _ (List.mem_of_getElem? (i := 7) rfl)) (hw _ (List.mem_of_getElem? (i := 8) rfl)) (hw _ (List.mem_of_getElem? (i := 9) rfl)) (hw _ (List.mem_of_getElem? (i := 10) rfl)) (by decide) (rm3_19 l Z a0 hw []  h0 n0 Z0 ) (by decide) (by decide) e62 (by rw [hml]; rfl) (argsL := [(.long (16777216 : Int64))]) (rest := []) (lenOf pd_1 rfl) rfl (W := 0) (Nat.le_refl _) rfl (hb hby at_48) (by decide) (by decide) (pc' := 51) rfl (fun T71 L71 r71 X71 q71 => ?_)
     obtain ⟨N71, e71, q71⟩ := q71
     have N71' := Fr.app N62' N71
     obtain rfl := q71
     show KEnds p e below s _ _ _ T71 (mkF m 51 #[.val (.long i0), .second, .val (.long i1), .second, .val (.long i0), .second, .val (.long i1), .second, .val (.int (1 : Int32)), .val (.int (1 : Int32)), .val (.int (1 : Int32)), .unset, .unset] [(.int (1 : Int32))])
     refine k_istore X71 hx (hb hby at_51) (Ls' := #[.val (.long i0), .second, .val (.long i1), .second, .val (.long i0), .second, .val (.long i1), .second, .val (.int (1 : Int32)), .val (.int (1 : Int32)), .val (.int (1 : Int32)), .val (.int (1 : Int32)), .unset]) rfl (pc' := 53) rfl ?_
     refine k_ldcL X71 hx hZ hown (hw _ (List.mem_of_getElem? (i := 13) rfl)) (hb hby at_53) (pc' := 56) rfl ?_
     refine k_callS X71 hx hZ hown (hw _ (List.mem_of_getElem? (i := 7) rfl)) (hw _ (List.mem_of_getElem? (i := 8) rfl)) (hw _ (List.mem_of_getElem? (i := 9) rfl)) (hw _ (List.mem_of_getElem? (i := 10) rfl)) (by decide) (rm3_21 l Z a0 hw []  h0 n0 Z0 ) (by decide) (by decide) e71 (by rw [hml]; rfl) (argsL := [(.long (16777217 : Int64))]) (rest := []) (lenOf pd_1 rfl) rfl (W := 0) (Nat.le_refl _) rfl (hb hby at_56) (by decide) (by decide) (pc' := 59) rfl (fun T72 L72 r72 X72 q72 => ?_)
     obtain ⟨N72, e72, q72⟩ := q72
     have N72' := Fr.app N71' N72
     obtain rfl := q72
     show KEnds p e below s _ _ _ T72 (mkF m 59 #[.val (.long i0), .second, .val (.long i1), .second, .val (.long i0), .second, .val (.long i1), .second, .val (.int (1 : Int32)), .val (.int (1 : Int32)), .val (.int (1 : Int32)), .val (.int (1 : Int32)), .unset] [(.int (0 : Int32))])
     refine k_istore X72 hx (hb hby at_59) (Ls' := #[.val (.long i0), .second, .val (.long i1), .second, .val (.long i0), .second, .val (.long i1), .second, .val (.int (1 : Int32)), .val (.int (1 : Int32)), .val (.int (1 : Int32)), .val (.int (1 : Int32)), .val (.int (0 : Int32))]) rfl (pc' := 61) rfl ?_
     refine k_iload X72 hx (hb hby at_61) rfl (pc' := 63) rfl ?_
     refine k_if_eq X72 hx (hb hby at_63) (pn := 66) rfl (py := 80) (by decide) (fun hc => absurd hc (by decide)) (fun _ => ?_)
     refine k_iload X72 hx (hb hby at_66) rfl (pc' := 68) rfl ?_
     refine k_if_eq X72 hx (hb hby at_68) (pn := 71) rfl (py := 80) (by decide) (fun hc => absurd hc (by decide)) (fun _ => ?_)
     refine k_iload X72 hx (hb hby at_71) rfl (pc' := 73) rfl ?_
     refine k_if_ne X72 hx (hb hby at_73) (pn := 76) rfl (py := 80) (by decide) (fun hc => absurd (by decide) hc) (fun _ => ?_)
     refine k_iconst X72 hx (hb hby at_76) (pc' := 77) rfl (z := (1 : Int32)) rfl ?_
     refine k_goto X72 hx (hb hby at_77) (pc' := 81) (by decide) ?_
     exact k_retN X72 hx (t := .boolean) Bd.returns (by simp) (hb hby at_81) hlk (by decide) (by decide) (z' := (1 : Int32)) rfl ⟨rfl, N72'⟩
  ·
   show KEnds p e below s _ _ _ T49 (mkF m 12 #[.val (.long i0), .second, .val (.long i1), .second, .val (.long i0), .second, .unset, .unset, .unset, .unset, .unset, .unset, .unset] [(.long i0)])
   refine k_lstore X49 hx (hb hby at_12) (Ls' := #[.val (.long i0), .second, .val (.long i1), .second, .val (.long i0), .second, .val (.long i0), .second, .unset, .unset, .unset, .unset, .unset]) rfl (pc' := 14) rfl ?_
   refine k_lload X49 hx (hb hby at_14) rfl (pc' := 16) rfl ?_
   refine k_callS X49 hx hZ hown (hw _ (List.mem_of_getElem? (i := 7) rfl)) (hw _ (List.mem_of_getElem? (i := 8) rfl)) (hw _ (List.mem_of_getElem? (i := 9) rfl)) (hw _ (List.mem_of_getElem? (i := 10) rfl)) (by decide) (rm3_11 l Z a0 hw [] i0 h0 n0 Z0 ) (by decide) (by decide) e49 (by rw [hml]; rfl) (argsL := [(.long i0)]) (rest := []) (lenOf pd_1 rfl) rfl (W := 0) (Nat.le_refl _) rfl (hb hby at_16) (by decide) (by decide) (pc' := 19) rfl (fun T73 L73 r73 X73 q73 => ?_)
   obtain ⟨N73, e73, q73⟩ := q73
   have N73' := Fr.app N49' N73
   rcases q73 with ⟨hc74, rfl⟩ | ⟨hc75, rfl⟩
   ·
    show KEnds p e below s _ _ _ T73 (mkF m 19 #[.val (.long i0), .second, .val (.long i1), .second, .val (.long i0), .second, .val (.long i0), .second, .unset, .unset, .unset, .unset, .unset] [(.int (0 : Int32))])
    refine k_istore X73 hx (hb hby at_19) (Ls' := #[.val (.long i0), .second, .val (.long i1), .second, .val (.long i0), .second, .val (.long i0), .second, .val (.int (0 : Int32)), .unset, .unset, .unset, .unset]) rfl (pc' := 21) rfl ?_
    refine k_lload X73 hx (hb hby at_21) rfl (pc' := 23) rfl ?_
    refine k_callS X73 hx hZ hown (hw _ (List.mem_of_getElem? (i := 7) rfl)) (hw _ (List.mem_of_getElem? (i := 8) rfl)) (hw _ (List.mem_of_getElem? (i := 9) rfl)) (hw _ (List.mem_of_getElem? (i := 10) rfl)) (by decide) (rm3_11 l Z a0 hw [] i0 h0 n0 Z0 ) (by decide) (by decide) e73 (by rw [hml]; rfl) (argsL := [(.long i0)]) (rest := []) (lenOf pd_1 rfl) rfl (W := 0) (Nat.le_refl _) rfl (hb hby at_23) (by decide) (by decide) (pc' := 26) rfl (fun T76 L76 r76 X76 q76 => ?_)
    obtain ⟨N76, e76, q76⟩ := q76
    have N76' := Fr.app N73' N76
    rcases q76 with ⟨hc77, rfl⟩ | ⟨hc78, rfl⟩
    ·
     show KEnds p e below s _ _ _ T76 (mkF m 26 #[.val (.long i0), .second, .val (.long i1), .second, .val (.long i0), .second, .val (.long i0), .second, .val (.int (0 : Int32)), .unset, .unset, .unset, .unset] [(.int (0 : Int32))])
     refine k_istore X76 hx (hb hby at_26) (Ls' := #[.val (.long i0), .second, .val (.long i1), .second, .val (.long i0), .second, .val (.long i0), .second, .val (.int (0 : Int32)), .val (.int (0 : Int32)), .unset, .unset, .unset]) rfl (pc' := 28) rfl ?_
     refine k_iload X76 hx (hb hby at_28) rfl (pc' := 30) rfl ?_
     refine k_if_eq X76 hx (hb hby at_30) (pn := 33) rfl (py := 38) (by decide) (fun _ => ?_) (fun hc => absurd (by decide) hc)
     refine k_iconst X76 hx (hb hby at_38) (pc' := 39) rfl (z := (1 : Int32)) rfl ?_
     refine k_goto X76 hx (hb hby at_39) (pc' := 43) (by decide) ?_
     refine k_istore X76 hx (hb hby at_43) (Ls' := #[.val (.long i0), .second, .val (.long i1), .second, .val (.long i0), .second, .val (.long i0), .second, .val (.int (0 : Int32)), .val (.int (0 : Int32)), .val (.int (1 : Int32)), .unset, .unset]) rfl (pc' := 45) rfl ?_
     refine k_ldcL X76 hx hZ hown (hw _ (List.mem_of_getElem? (i := 12) rfl)) (hb hby at_45) (pc' := 48) rfl ?_
     refine k_callS X76 hx hZ hown (hw _ (List.mem_of_getElem? (i := 7) rfl)) (hw _ (List.mem_of_getElem? (i := 8) rfl)) (hw _ (List.mem_of_getElem? (i := 9) rfl)) (hw _ (List.mem_of_getElem? (i := 10) rfl)) (by decide) (rm3_19 l Z a0 hw []  h0 n0 Z0 ) (by decide) (by decide) e76 (by rw [hml]; rfl) (argsL := [(.long (16777216 : Int64))]) (rest := []) (lenOf pd_1 rfl) rfl (W := 0) (Nat.le_refl _) rfl (hb hby at_48) (by decide) (by decide) (pc' := 51) rfl (fun T79 L79 r79 X79 q79 => ?_)
     obtain ⟨N79, e79, q79⟩ := q79
     have N79' := Fr.app N76' N79
     obtain rfl := q79
     show KEnds p e below s _ _ _ T79 (mkF m 51 #[.val (.long i0), .second, .val (.long i1), .second, .val (.long i0), .second, .val (.long i0), .second, .val (.int (0 : Int32)), .val (.int (0 : Int32)), .val (.int (1 : Int32)), .unset, .unset] [(.int (1 : Int32))])
     refine k_istore X79 hx (hb hby at_51) (Ls' := #[.val (.long i0), .second, .val (.long i1), .second, .val (.long i0), .second, .val (.long i0), .second, .val (.int (0 : Int32)), .val (.int (0 : Int32)), .val (.int (1 : Int32)), .val (.int (1 : Int32)), .unset]) rfl (pc' := 53) rfl ?_
     refine k_ldcL X79 hx hZ hown (hw _ (List.mem_of_getElem? (i := 13) rfl)) (hb hby at_53) (pc' := 56) rfl ?_
     refine k_callS X79 hx hZ hown (hw _ (List.mem_of_getElem? (i := 7) rfl)) (hw _ (List.mem_of_getElem? (i := 8) rfl)) (hw _ (List.mem_of_getElem? (i := 9) rfl)) (hw _ (List.mem_of_getElem? (i := 10) rfl)) (by decide) (rm3_21 l Z a0 hw []  h0 n0 Z0 ) (by decide) (by decide) e79 (by rw [hml]; rfl) (argsL := [(.long (16777217 : Int64))]) (rest := []) (lenOf pd_1 rfl) rfl (W := 0) (Nat.le_refl _) rfl (hb hby at_56) (by decide) (by decide) (pc' := 59) rfl (fun T80 L80 r80 X80 q80 => ?_)
     obtain ⟨N80, e80, q80⟩ := q80
     have N80' := Fr.app N79' N80
     obtain rfl := q80
     show KEnds p e below s _ _ _ T80 (mkF m 59 #[.val (.long i0), .second, .val (.long i1), .second, .val (.long i0), .second, .val (.long i0), .second, .val (.int (0 : Int32)), .val (.int (0 : Int32)), .val (.int (1 : Int32)), .val (.int (1 : Int32)), .unset] [(.int (0 : Int32))])
     refine k_istore X80 hx (hb hby at_59) (Ls' := #[.val (.long i0), .second, .val (.long i1), .second, .val (.long i0), .second, .val (.long i0), .second, .val (.int (0 : Int32)), .val (.int (0 : Int32)), .val (.int (1 : Int32)), .val (.int (1 : Int32)), .val (.int (0 : Int32))]) rfl (pc' := 61) rfl ?_
     refine k_iload X80 hx (hb hby at_61) rfl (pc' := 63) rfl ?_
     refine k_if_eq X80 hx (hb hby at_63) (pn := 66) rfl (py := 80) (by decide) (fun hc => absurd hc (by decide)) (fun _ => ?_)
     refine k_iload X80 hx (hb hby at_66) rfl (pc' := 68) rfl ?_
     refine k_if_eq X80 hx (hb hby at_68) (pn := 71) rfl (py := 80) (by decide) (fun hc => absurd hc (by decide)) (fun _ => ?_)
     refine k_iload X80 hx (hb hby at_71) rfl (pc' := 73) rfl ?_
     refine k_if_ne X80 hx (hb hby at_73) (pn := 76) rfl (py := 80) (by decide) (fun hc => absurd (by decide) hc) (fun _ => ?_)
     refine k_iconst X80 hx (hb hby at_76) (pc' := 77) rfl (z := (1 : Int32)) rfl ?_
     refine k_goto X80 hx (hb hby at_77) (pc' := 81) (by decide) ?_
     exact k_retN X80 hx (t := .boolean) Bd.returns (by simp) (hb hby at_81) hlk (by decide) (by decide) (z' := (1 : Int32)) rfl ⟨rfl, N80'⟩
    ·
     show KEnds p e below s _ _ _ T76 (mkF m 26 #[.val (.long i0), .second, .val (.long i1), .second, .val (.long i0), .second, .val (.long i0), .second, .val (.int (0 : Int32)), .unset, .unset, .unset, .unset] [(.int (1 : Int32))])
     exact absurd hc74 hc78
   ·
    show KEnds p e below s _ _ _ T73 (mkF m 19 #[.val (.long i0), .second, .val (.long i1), .second, .val (.long i0), .second, .val (.long i0), .second, .unset, .unset, .unset, .unset, .unset] [(.int (1 : Int32))])
    refine k_istore X73 hx (hb hby at_19) (Ls' := #[.val (.long i0), .second, .val (.long i1), .second, .val (.long i0), .second, .val (.long i0), .second, .val (.int (1 : Int32)), .unset, .unset, .unset, .unset]) rfl (pc' := 21) rfl ?_
    refine k_lload X73 hx (hb hby at_21) rfl (pc' := 23) rfl ?_
    refine k_callS X73 hx hZ hown (hw _ (List.mem_of_getElem? (i := 7) rfl)) (hw _ (List.mem_of_getElem? (i := 8) rfl)) (hw _ (List.mem_of_getElem? (i := 9) rfl)) (hw _ (List.mem_of_getElem? (i := 10) rfl)) (by decide) (rm3_11 l Z a0 hw [] i0 h0 n0 Z0 ) (by decide) (by decide) e73 (by rw [hml]; rfl) (argsL := [(.long i0)]) (rest := []) (lenOf pd_1 rfl) rfl (W := 0) (Nat.le_refl _) rfl (hb hby at_23) (by decide) (by decide) (pc' := 26) rfl (fun T81 L81 r81 X81 q81 => ?_)
    obtain ⟨N81, e81, q81⟩ := q81
    have N81' := Fr.app N73' N81
    rcases q81 with ⟨hc82, rfl⟩ | ⟨hc83, rfl⟩
    ·
     show KEnds p e below s _ _ _ T81 (mkF m 26 #[.val (.long i0), .second, .val (.long i1), .second, .val (.long i0), .second, .val (.long i0), .second, .val (.int (1 : Int32)), .unset, .unset, .unset, .unset] [(.int (0 : Int32))])
     exact absurd hc82 hc75
    ·
     show KEnds p e below s _ _ _ T81 (mkF m 26 #[.val (.long i0), .second, .val (.long i1), .second, .val (.long i0), .second, .val (.long i0), .second, .val (.int (1 : Int32)), .unset, .unset, .unset, .unset] [(.int (1 : Int32))])
     refine k_istore X81 hx (hb hby at_26) (Ls' := #[.val (.long i0), .second, .val (.long i1), .second, .val (.long i0), .second, .val (.long i0), .second, .val (.int (1 : Int32)), .val (.int (1 : Int32)), .unset, .unset, .unset]) rfl (pc' := 28) rfl ?_
     refine k_iload X81 hx (hb hby at_28) rfl (pc' := 30) rfl ?_
     refine k_if_eq X81 hx (hb hby at_30) (pn := 33) rfl (py := 38) (by decide) (fun hc => absurd hc (by decide)) (fun _ => ?_)
     refine k_iload X81 hx (hb hby at_33) rfl (pc' := 35) rfl ?_
     refine k_if_eq X81 hx (hb hby at_35) (pn := 38) rfl (py := 42) (by decide) (fun hc => absurd hc (by decide)) (fun _ => ?_)
     refine k_iconst X81 hx (hb hby at_38) (pc' := 39) rfl (z := (1 : Int32)) rfl ?_
     refine k_goto X81 hx (hb hby at_39) (pc' := 43) (by decide) ?_
     refine k_istore X81 hx (hb hby at_43) (Ls' := #[.val (.long i0), .second, .val (.long i1), .second, .val (.long i0), .second, .val (.long i0), .second, .val (.int (1 : Int32)), .val (.int (1 : Int32)), .val (.int (1 : Int32)), .unset, .unset]) rfl (pc' := 45) rfl ?_
     refine k_ldcL X81 hx hZ hown (hw _ (List.mem_of_getElem? (i := 12) rfl)) (hb hby at_45) (pc' := 48) rfl ?_
     refine k_callS X81 hx hZ hown (hw _ (List.mem_of_getElem? (i := 7) rfl)) (hw _ (List.mem_of_getElem? (i := 8) rfl)) (hw _ (List.mem_of_getElem? (i := 9) rfl)) (hw _ (List.mem_of_getElem? (i := 10) rfl)) (by decide) (rm3_19 l Z a0 hw []  h0 n0 Z0 ) (by decide) (by decide) e81 (by rw [hml]; rfl) (argsL := [(.long (16777216 : Int64))]) (rest := []) (lenOf pd_1 rfl) rfl (W := 0) (Nat.le_refl _) rfl (hb hby at_48) (by decide) (by decide) (pc' := 51) rfl (fun T84 L84 r84 X84 q84 => ?_)
     obtain ⟨N84, e84, q84⟩ := q84
     have N84' := Fr.app N81' N84
     obtain rfl := q84
     show KEnds p e below s _ _ _ T84 (mkF m 51 #[.val (.long i0), .second, .val (.long i1), .second, .val (.long i0), .second, .val (.long i0), .second, .val (.int (1 : Int32)), .val (.int (1 : Int32)), .val (.int (1 : Int32)), .unset, .unset] [(.int (1 : Int32))])
     refine k_istore X84 hx (hb hby at_51) (Ls' := #[.val (.long i0), .second, .val (.long i1), .second, .val (.long i0), .second, .val (.long i0), .second, .val (.int (1 : Int32)), .val (.int (1 : Int32)), .val (.int (1 : Int32)), .val (.int (1 : Int32)), .unset]) rfl (pc' := 53) rfl ?_
     refine k_ldcL X84 hx hZ hown (hw _ (List.mem_of_getElem? (i := 13) rfl)) (hb hby at_53) (pc' := 56) rfl ?_
     refine k_callS X84 hx hZ hown (hw _ (List.mem_of_getElem? (i := 7) rfl)) (hw _ (List.mem_of_getElem? (i := 8) rfl)) (hw _ (List.mem_of_getElem? (i := 9) rfl)) (hw _ (List.mem_of_getElem? (i := 10) rfl)) (by decide) (rm3_21 l Z a0 hw []  h0 n0 Z0 ) (by decide) (by decide) e84 (by rw [hml]; rfl) (argsL := [(.long (16777217 : Int64))]) (rest := []) (lenOf pd_1 rfl) rfl (W := 0) (Nat.le_refl _) rfl (hb hby at_56) (by decide) (by decide) (pc' := 59) rfl (fun T85 L85 r85 X85 q85 => ?_)
     obtain ⟨N85, e85, q85⟩ := q85
     have N85' := Fr.app N84' N85
     obtain rfl := q85
     show KEnds p e below s _ _ _ T85 (mkF m 59 #[.val (.long i0), .second, .val (.long i1), .second, .val (.long i0), .second, .val (.long i0), .second, .val (.int (1 : Int32)), .val (.int (1 : Int32)), .val (.int (1 : Int32)), .val (.int (1 : Int32)), .unset] [(.int (0 : Int32))])
     refine k_istore X85 hx (hb hby at_59) (Ls' := #[.val (.long i0), .second, .val (.long i1), .second, .val (.long i0), .second, .val (.long i0), .second, .val (.int (1 : Int32)), .val (.int (1 : Int32)), .val (.int (1 : Int32)), .val (.int (1 : Int32)), .val (.int (0 : Int32))]) rfl (pc' := 61) rfl ?_
     refine k_iload X85 hx (hb hby at_61) rfl (pc' := 63) rfl ?_
     refine k_if_eq X85 hx (hb hby at_63) (pn := 66) rfl (py := 80) (by decide) (fun hc => absurd hc (by decide)) (fun _ => ?_)
     refine k_iload X85 hx (hb hby at_66) rfl (pc' := 68) rfl ?_
     refine k_if_eq X85 hx (hb hby at_68) (pn := 71) rfl (py := 80) (by decide) (fun hc => absurd hc (by decide)) (fun _ => ?_)
     refine k_iload X85 hx (hb hby at_71) rfl (pc' := 73) rfl ?_
     refine k_if_ne X85 hx (hb hby at_73) (pn := 76) rfl (py := 80) (by decide) (fun hc => absurd (by decide) hc) (fun _ => ?_)
     refine k_iconst X85 hx (hb hby at_76) (pc' := 77) rfl (z := (1 : Int32)) rfl ?_
     refine k_goto X85 hx (hb hby at_77) (pc' := 81) (by decide) ?_
     exact k_retN X85 hx (t := .boolean) Bd.returns (by simp) (hb hby at_81) hlk (by decide) (by decide) (z' := (1 : Int32)) rfl ⟨rfl, N85'⟩
set_option maxRecDepth 65536 in
set_option maxHeartbeats 40000000 in
theorem comes_1 {Post : Tables → Env → Array Value → State → Outcome → State → Prop} (hpost : ∀ tb e args s v u, (limb_1_1.after args s (.returned v) u = true ∧ limb_1_2.after args s (.returned v) u = true ∧ True) → FrameEnd s (.returned v) u (Jvm.fieldLocs frame_1_writes args s ++ Jvm.arrayLocs frame_1_arrays args s ++ Jvm.staticLocs frame_1_statics s) 0 0 → Post tb e args s (.returned v) u) :
    ArmFor flags0 classFile x code maxLocals ret World_1 tables_1 room_1 Calls_1 rest_1 Pre_1 Post := by
  intro l hfl _ _ p e ha hc hk s m args below hf hA hF happ hP
  obtain ⟨hcalls, hrest, hpre⟩ := hP
  obtain ⟨-, -, -, hnamed, -, -, -, hat⟩ := (Spec.applies_iff hf).mp happ
  obtain ⟨hg, hn⟩ := and_e (Cond.before_iff.mp (show (Jvm.Cond.and given_1 narrow_1).before args s = true from hpre))
  obtain ⟨g86, g87⟩ := and_e hg
  obtain ⟨g88, g89⟩ := and_e g87
  obtain ⟨w0, w1, rfl⟩ : ∃ w0 w1 : Value, args = #[w0, w1] := by
    have hs : args.size = 2 := by simpa [Cond.value, given_1] using g86
    obtain ⟨L⟩ := args
    match L, hs with
    | [w0, w1], _ => exact ⟨w0, w1, rfl⟩
  have hw := fun d (hd : d ∈ tables_1) => atoms_spec (ws := Jvm.Cond.code x code maxLocals ret :: tables_1) hat d (List.mem_cons_of_mem _ hd)
  obtain ⟨i0, ei0⟩ := isL_v g88
  obtain rfl : w0 = (.long i0) := Option.some.inj ei0
  obtain ⟨i1, ei1⟩ := isL_v g89
  obtain rfl : w1 = (.long i1) := Option.some.inj ei1
  obtain ⟨n, o, h1, h2, h3, _, L, rfl, ⟨rfl, N⟩, hq⟩ := rm0 l s _ hw tables_1 i0 i1 s.heap s.heap.size (Nat.le_refl _) p e ha hc hk s m _ below hf ((Spec.applies_iff_loose hf).mp happ).1 ⟨rfl, State.Warmed39.refl s, rfl⟩ trivial
  refine ⟨n, _, h1, h2, h3, hpost _ _ _ _ _ _ ⟨Cond.after_iff.mpr rfl, Cond.after_iff.mpr (eq_i res_at (Term.int_eval (1)) rfl), trivial⟩ ⟨hq.1, hq.2.1, (hq.2.2.sift fun y hy => Or.inr (N y hy)).mono (by decide) (by decide)⟩⟩
theorem main_1_1 : Claimed_1_1 := comes_1 fun _ _ _ _ _ _ h hF => ⟨h.1, hF⟩
theorem main_1_2 : Claimed_1_2 := comes_1 fun _ _ _ _ _ _ h hF => ⟨h.2.1, hF⟩
end Jvm.Pilot.@@N@@
namespace Jvm.Pilot.@@N@@
open Jvm Jvm.ClassFile Sem Op Lib Jvm.Free Jvm.Stand Jvm.Pilot.@@N@@.Jvm.D
/-! MADE BY PROGRAM (witnessworld.py) out of the Statement's table words and the real class files: 10 classes; the members and pool entries that the words name. The judged class is class 1, her method 1. -/
namespace start1
open Jvm.ClassFile
def u (s : String) : CpInfo := .utf8 (stringToUtf16 s)
/-- a pool by its gaps: so many unusable entries, then the entry; so many at the end -/
def gap : Nat → List CpInfo → List CpInfo
  | 0, r => r
  | n + 1, r => .unusable :: gap n r
def poolList (es : List (Nat × CpInfo)) (last : Nat) : List CpInfo := es.foldr (fun e r => gap e.1 (e.2 :: r)) (gap last [])
def pool (es : List (Nat × CpInfo)) (last : Nat) : Array CpInfo := ⟨poolList es last⟩
def fileOf (pool : Array CpInfo) (this : Nat) (attrs : Array Attribute := #[]) (ms : Array MethodInfo := #[]) (fl : Nat := 33) (sup : Nat := 0) (ifs : Array Nat := #[]) (fds : Array FieldInfo := #[]) : ClassFile where
  minorVersion := 0
  majorVersion := 65
  constantPool := pool
  accessFlags := fl
  thisClass := this
  superClass := sup
  interfaces := ifs
  fields := fds
  methods := ms
  attributes := attrs
def plain (name : String) (sup : Option ClassId) : Class where
  name := name
  kind := .ordinary
  loader := none
  accessFlags := 33
  super := sup
  interfaces := #[]
  cf := none
  fields := #[]
  methods := #[]
  instanceTypes := #[]
  staticTypes := #[]
  resolved := #[]
  callSites := []
  init := .initialized
  statics := none
  mirror := none

def pool0 : Array CpInfo := pool [(5, u "<init>"), (0, u "()V"), (1, .class_ 10), (1, u "java/lang/Object")] 113

def k0m0 : Method := { name := "<init>", desc := "()V", sig := { parameters := [], returnType := none }, accessFlags := 1, code := none }
/-- java/lang/Object -/
def k0 : Class := { plain "java/lang/Object" none with
  accessFlags := 33
  interfaces := #[]
  cf := some (fileOf pool0 8 #[] #[{ accessFlags := 1, nameIndex := 5, descriptorIndex := 6, attributes := #[] }] 33 0 #[] #[])
  fields := #[]
  methods := #[k0m0]
  instanceTypes := #[]
  staticTypes := #[]
  resolved := Array.replicate 124 none
  statics := none }

def pool1 : Array CpInfo := pool [(2, .class_ 4), (1, u "java/lang/Object"), (0, u "<init>"), (0, u "()V"), (0, .methodref 8 9), (0, .class_ 10), (0, .nameAndType 11 12), (0, u "java/lang/Math"), (0, u "min"), (0, u "(JJ)J"), (0, .methodref 8 14), (0, .nameAndType 15 12), (0, u "max"), (0, .methodref 17 18), (0, .class_ 19), (0, .nameAndType 20 21), (0, u "com/example/corella/corella/hl7/MessageSize"), (0, u "isAccepted"), (0, u "(J)Z"), (0, .long 16777216), (1, .long 16777217), (1, .class_ 27), (0, u "com/example/corella/corella/hl7/MessageSizeIsAcceptedPinLaw"), (2, u "law"), (0, u "(JJ)Z")] 3

def k1m0 : Method := { name := "<init>", desc := "()V", sig := { parameters := [], returnType := none }, accessFlags := 2, code := none }
def k1c1 : Code := { maxStack := 4, maxLocals := 13, code := code, exceptionTable := #[], attributes := #[] }
def k1m1 : Method := { name := "law", desc := "(JJ)Z", sig := { parameters := [.long, .long], returnType := some .boolean }, accessFlags := 9, code := some k1c1 }
/-- com/example/corella/corella/hl7/MessageSizeIsAcceptedPinLaw -/
def k1 : Class := { plain "com/example/corella/corella/hl7/MessageSizeIsAcceptedPinLaw" (some 0) with
  accessFlags := 49
  interfaces := #[]
  cf := some (fileOf pool1 26 #[] #[{ accessFlags := 2, nameIndex := 5, descriptorIndex := 6, attributes := #[] }, { accessFlags := 9, nameIndex := 30, descriptorIndex := 31, attributes := #[] }] 49 2 #[] #[])
  fields := #[]
  methods := #[k1m0, k1m1]
  instanceTypes := #[]
  staticTypes := #[]
  resolved := Array.replicate 35 none
  statics := none }

def pool2 : Array CpInfo := pool [(1, .class_ 2), (0, u "java/lang/Math"), (1, .class_ 6), (1, u "java/lang/Object"), (0, u "<init>"), (0, u "()V"), (89, .class_ 100), (1, u "java/lang/Math$RandomNumberGeneratorHolder"), (20, u "(JJ)J"), (50, u "negativeZeroFloatBits"), (0, u "J"), (2, u "negativeZeroDoubleBits"), (21, u "max"), (2, u "min"), (43, u "$assertionsDisabled"), (0, u "Z"), (91, u "twoToTheDoubleScaleDown"), (0, u "D"), (4, u "twoToTheDoubleScaleUp"), (9, u "E"), (3, u "PI"), (2, u "TAU"), (2, u "DEGREES_TO_RADIANS"), (0, u "RADIANS_TO_DEGREES")] 94

def k2m0 : Method := { name := "<init>", desc := "()V", sig := { parameters := [], returnType := none }, accessFlags := 2, code := none }
def k2c1 : Code := { maxStack := 4, maxLocals := 4, code := jdk_29_method_66_code, exceptionTable := #[], attributes := #[] }
def k2m1 : Method := { name := "max", desc := "(JJ)J", sig := { parameters := [.long, .long], returnType := some .long }, accessFlags := 9, code := some k2c1 }
def k2c2 : Code := { maxStack := 4, maxLocals := 4, code := jdk_29_method_70_code, exceptionTable := #[], attributes := #[] }
def k2m2 : Method := { name := "min", desc := "(JJ)J", sig := { parameters := [.long, .long], returnType := some .long }, accessFlags := 9, code := some k2c2 }
/-- java/lang/Math -/
def k2 : Class := { plain "java/lang/Math" (some 0) with
  accessFlags := 49
  interfaces := #[]
  cf := some (fileOf pool2 1 #[.nestMembers #[98]] #[{ accessFlags := 2, nameIndex := 7, descriptorIndex := 8, attributes := #[] }, { accessFlags := 9, nameIndex := 198, descriptorIndex := 121, attributes := #[] }, { accessFlags := 9, nameIndex := 201, descriptorIndex := 121, attributes := #[] }] 49 4 #[] #[{ accessFlags := 25, nameIndex := 354, descriptorIndex := 339, attributes := #[] }, { accessFlags := 25, nameIndex := 358, descriptorIndex := 339, attributes := #[] }, { accessFlags := 25, nameIndex := 361, descriptorIndex := 339, attributes := #[] }, { accessFlags := 26, nameIndex := 364, descriptorIndex := 339, attributes := #[] }, { accessFlags := 26, nameIndex := 365, descriptorIndex := 339, attributes := #[] }, { accessFlags := 26, nameIndex := 172, descriptorIndex := 173, attributes := #[] }, { accessFlags := 26, nameIndex := 176, descriptorIndex := 173, attributes := #[] }, { accessFlags := 8, nameIndex := 344, descriptorIndex := 339, attributes := #[] }, { accessFlags := 8, nameIndex := 338, descriptorIndex := 339, attributes := #[] }, { accessFlags := 4120, nameIndex := 245, descriptorIndex := 246, attributes := #[] }])
  fields := #[{ name := "E", type := .double, accessFlags := 25, slot := 0, constantValue := 0 }, { name := "PI", type := .double, accessFlags := 25, slot := 1, constantValue := 0 }, { name := "TAU", type := .double, accessFlags := 25, slot := 2, constantValue := 0 }, { name := "DEGREES_TO_RADIANS", type := .double, accessFlags := 26, slot := 3, constantValue := 0 }, { name := "RADIANS_TO_DEGREES", type := .double, accessFlags := 26, slot := 4, constantValue := 0 }, { name := "negativeZeroFloatBits", type := .long, accessFlags := 26, slot := 5, constantValue := 0 }, { name := "negativeZeroDoubleBits", type := .long, accessFlags := 26, slot := 6, constantValue := 0 }, { name := "twoToTheDoubleScaleUp", type := .double, accessFlags := 8, slot := 7, constantValue := 0 }, { name := "twoToTheDoubleScaleDown", type := .double, accessFlags := 8, slot := 8, constantValue := 0 }, { name := "$assertionsDisabled", type := .boolean, accessFlags := 4120, slot := 9, constantValue := 0 }]
  methods := #[k2m0, k2m1, k2m2]
  instanceTypes := #[]
  staticTypes := #[.double, .double, .double, .double, .double, .long, .long, .double, .double, .boolean]
  resolved := Array.replicate 460 none
  statics := none }

def pool3 : Array CpInfo := pool [(2, .class_ 4), (1, u "java/lang/Object"), (0, u "<init>"), (0, u "()V"), (0, .class_ 8), (0, u "com/example/corella/corella/hl7/MessageSize"), (0, .long 16777216), (5, u "MAX_BYTES"), (0, u "I"), (4, u "isAccepted"), (0, u "(J)Z")] 19

def k3m0 : Method := { name := "<init>", desc := "()V", sig := { parameters := [], returnType := none }, accessFlags := 2, code := none }
def k3c1 : Code := { maxStack := 4, maxLocals := 2, code := prog_131_method_2_code, exceptionTable := #[], attributes := #[] }
def k3m1 : Method := { name := "isAccepted", desc := "(J)Z", sig := { parameters := [.long], returnType := some .boolean }, accessFlags := 9, code := some k3c1 }
/-- com/example/corella/corella/hl7/MessageSize -/
def k3 : Class := { plain "com/example/corella/corella/hl7/MessageSize" (some 0) with
  accessFlags := 49
  interfaces := #[]
  cf := some (fileOf pool3 7 #[] #[{ accessFlags := 2, nameIndex := 5, descriptorIndex := 6, attributes := #[] }, { accessFlags := 9, nameIndex := 21, descriptorIndex := 22, attributes := #[] }] 49 2 #[] #[{ accessFlags := 25, nameIndex := 15, descriptorIndex := 16, attributes := #[] }])
  fields := #[{ name := "MAX_BYTES", type := .int, accessFlags := 25, slot := 0, constantValue := 0 }]
  methods := #[k3m0, k3m1]
  instanceTypes := #[]
  staticTypes := #[.int]
  resolved := Array.replicate 42 none
  statics := none }

def pool4 : Array CpInfo := pool [(1, u "java/lang/Cloneable"), (0, .class_ 1), (0, u "java/lang/Object"), (0, .class_ 3)] 3

/-- java/lang/Cloneable -/
def k4 : Class := { plain "java/lang/Cloneable" (some 0) with
  accessFlags := 1537
  interfaces := #[]
  cf := some (fileOf pool4 2 #[] #[] 1537 4 #[] #[])
  fields := #[]
  methods := #[]
  instanceTypes := #[]
  staticTypes := #[]
  resolved := Array.replicate 8 none
  statics := none }

def pool5 : Array CpInfo := pool [(1, u "java/io/Serializable"), (0, .class_ 1), (0, u "java/lang/Object"), (0, .class_ 3)] 3

/-- java/io/Serializable -/
def k5 : Class := { plain "java/io/Serializable" (some 0) with
  accessFlags := 1537
  interfaces := #[]
  cf := some (fileOf pool5 2 #[] #[] 1537 4 #[] #[])
  fields := #[]
  methods := #[]
  instanceTypes := #[]
  staticTypes := #[]
  resolved := Array.replicate 8 none
  statics := none }

/-- the primitive byte -/
def k6 : Class := { plain "byte" none with kind := .primitive 'B', accessFlags := 0x411 }
/-- [B -/
def k7 : Class := { plain "[B" (some 0) with kind := .array 6 .byte, interfaces := #[4, 5], accessFlags := 1041 }

/-- the primitive int -/
def k8 : Class := { plain "int" none with kind := .primitive 'I', accessFlags := 0x411 }
/-- [I -/
def k9 : Class := { plain "[I" (some 0) with kind := .array 8 .int, interfaces := #[4, 5], accessFlags := 1041 }

def heap : Heap := #[]
def classes : Array Class := #[k0, k1, k2, k3, k4, k5, k6, k7, k8, k9]
def interned : List (Array UInt16 × Addr) := []
def slotsUsed : Nat := 0
def theMethod : MethodId := ⟨1, 1⟩
def args0 : Array Value := #[.long 5, .long 7]
def aboutOver (below : List Frame) : State where
  vm := { classes := classes, interned := interned.toArray }
  heap := heap
  slotsUsed := slotsUsed
  threads := #[{ frames := .invoking theMethod args0 :: below }]
def below0 : List Frame := [.native { method := ⟨0, 0⟩, args := #[] }]
def about1 : State := aboutOver below0
def p0 : Program := .bare "" "" ""
def e0 : Env := launch0.env 0 0 0
theorem w_frames : about1.frames = Frame.invoking theMethod args0 :: below0 := rfl
set_option maxRecDepth 65536 in
theorem w_args : argsFit about1.vm theMethod args0 = true := by decide +kernel
set_option maxRecDepth 65536 in
theorem w_heap : heapFits about1 = true := by decide +kernel
set_option maxRecDepth 65536 in
theorem w_runnable : about1.curStatus? = some .runnable := by decide +kernel
set_option maxRecDepth 65536 in
theorem w_alone : about1.alone = true := by decide +kernel
set_option maxRecDepth 65536 in
theorem w_named : about1.methodNamed? x = some theMethod := by decide +kernel
set_option maxRecDepth 65536 in
theorem w_hears : about1.hears theMethod below0 = true := by decide +kernel
set_option maxRecDepth 65536 in
theorem w_ripe : about1.ripe theMethod args0 below0 = true := by decide +kernel
theorem w_running : about1.status = .running := rfl
set_option maxRecDepth 65536 in
theorem w_room : about1.hasRoom e0.platform room_1 = true :=
  launch0.hasRoom_least _ room_1 (by decide +kernel) (by decide +kernel) (by decide +kernel) (by decide +kernel) (by decide +kernel) (by decide +kernel)
theorem allAtoms_all (ts : List Jvm.Cond) (a : Array Jvm.Value) (st : Jvm.State) : (allAtoms ts).before a st = ts.all (fun c => c.before a st) := by
  induction ts with
  | nil => rfl
  | cons c t ih =>
    show (Jvm.Cond.and c (allAtoms t)).before a st = _
    rw [Jvm.Cond.before_and, ih, List.all_cons]
def words1 : List Jvm.Cond := Jvm.Cond.code x code maxLocals ret :: tables_1
/-- a 'code' word, met by the world's own term for the bytes: nothing is compared byte by byte -/
theorem code_word {y : MethodName} {bytes : ByteArray} {mx : Nat} {rt : Option FieldType} {a : Array Value} {s : State} {m : MethodId} {meth : Method} {c : Code} (h1 : s.methodNamed? y = some m) (h2 : s.vm.method? m = some meth) (h3 : meth.code = some c) (h4 : c.code = bytes)
    (h5 : (c.maxLocals == mx && c.exceptionTable.isEmpty && decide (c.maxStack ≤ mostOperands) && decide (meth.sig.returnType = rt) && !meth.locks && decide (parseMethodDescriptor y.desc = some meth.sig)) = true) : (Jvm.Cond.code y bytes mx rt).before a s = true := by
  simp only [Bool.and_eq_true, beq_iff_eq, Bool.not_eq_true', decide_eq_true_eq] at h5
  obtain ⟨⟨⟨⟨⟨g1, g2⟩, g3⟩, g4⟩, g5⟩, g6⟩ := h5
  simp [Cond.before, Cond.holds, Cond.value, h1, h2, h3, h4, g1, g2, g3, g4, g5, g6]
def isCode : Jvm.Cond → Bool
  | .code _ _ _ _ => true
  | _ => false
theorem all_split {L : List Jvm.Cond} {P : Jvm.Cond → Bool} (h1 : L.all (fun c => isCode c || P c) = true) (h2 : ∀ c ∈ L.filter isCode, P c = true) : L.all P = true := by
  refine List.all_eq_true.mpr fun c hc => ?_
  have h := List.all_eq_true.mp h1 c hc
  rcases Bool.eq_false_or_eq_true (isCode c) with hi | hi
  · exact h2 c (List.mem_filter.mpr ⟨hc, hi⟩)
  · simpa [hi] using h
set_option maxRecDepth 65536 in
theorem w_c0 : (Jvm.Cond.code x code maxLocals ret).before args0 about1 = true := code_word (m := ⟨1, 1⟩) (meth := k1m1) (c := k1c1) (by decide +kernel) rfl rfl rfl (by decide +kernel)
set_option maxRecDepth 65536 in
theorem w_c1 : (Jvm.Cond.code ({ cls := "java/lang/Math", name := "min", desc := "(JJ)J" } : Jvm.MethodName) jdk_29_method_70_code (4 : Nat) (Option.some Jvm.ClassFile.FieldType.long)).before args0 about1 = true := code_word (m := ⟨2, 2⟩) (meth := k2m2) (c := k2c2) (by decide +kernel) rfl rfl rfl (by decide +kernel)
set_option maxRecDepth 65536 in
theorem w_c2 : (Jvm.Cond.code ({ cls := "java/lang/Math", name := "max", desc := "(JJ)J" } : Jvm.MethodName) jdk_29_method_66_code (4 : Nat) (Option.some Jvm.ClassFile.FieldType.long)).before args0 about1 = true := code_word (m := ⟨2, 1⟩) (meth := k2m1) (c := k2c1) (by decide +kernel) rfl rfl rfl (by decide +kernel)
set_option maxRecDepth 65536 in
theorem w_c3 : (Jvm.Cond.code ({ cls := "com/example/corella/corella/hl7/MessageSize", name := "isAccepted", desc := "(J)Z" } : Jvm.MethodName) prog_131_method_2_code (2 : Nat) (Option.some Jvm.ClassFile.FieldType.boolean)).before args0 about1 = true := code_word (m := ⟨3, 1⟩) (meth := k3m1) (c := k3c1) (by decide +kernel) rfl rfl rfl (by decide +kernel)
def codes1 : List Jvm.Cond := [Jvm.Cond.code x code maxLocals ret, Jvm.Cond.code ({ cls := "java/lang/Math", name := "min", desc := "(JJ)J" } : Jvm.MethodName) jdk_29_method_70_code (4 : Nat) (Option.some Jvm.ClassFile.FieldType.long), Jvm.Cond.code ({ cls := "java/lang/Math", name := "max", desc := "(JJ)J" } : Jvm.MethodName) jdk_29_method_66_code (4 : Nat) (Option.some Jvm.ClassFile.FieldType.long), Jvm.Cond.code ({ cls := "com/example/corella/corella/hl7/MessageSize", name := "isAccepted", desc := "(J)Z" } : Jvm.MethodName) prog_131_method_2_code (2 : Nat) (Option.some Jvm.ClassFile.FieldType.boolean)]
set_option maxRecDepth 65536 in
theorem codes_eq : words1.filter isCode = codes1 := rfl
theorem w_codes : ∀ c ∈ words1.filter isCode, c.before args0 about1 = true := by
  rw [codes_eq]
  intro c hc
  simp only [codes1, List.mem_cons, List.not_mem_nil, or_false] at hc
  rcases hc with rfl | rfl | rfl | rfl
  · exact w_c0
  · exact w_c1
  · exact w_c2
  · exact w_c3
set_option maxRecDepth 65536 in
theorem w_t1 : words1.all (fun c => isCode c || c.before args0 about1) = true := by decide +kernel
theorem w_tables : (allAtoms (Jvm.Cond.code x code maxLocals ret :: tables_1)).before args0 about1 = true := by
  rw [allAtoms_all]
  show words1.all (fun c => c.before args0 about1) = true
  refine all_split ?_ w_codes
  rw [w_t1]
set_option maxRecDepth 65536 in
theorem w_case : (Jvm.Cond.and given_1 narrow_1).before args0 about1 = true := by decide +kernel
theorem w_applies : (headSpec (Jvm.Cond.code x code maxLocals ret :: tables_1) room_1).applies x e0.platform about1 = true :=
  (Spec.applies_iff w_frames).mpr ⟨w_running, w_runnable, w_alone, w_named, w_hears, w_ripe, w_room, w_tables⟩
theorem atStart : AtStart classFile x code maxLocals ret World_1 tables_1 room_1 Calls_1 rest_1 Pre_1 launch0 p0 e0 about1 theMethod args0 below0 :=
  ⟨lists_1, trivial, launch0.admits_env _ _ _, launch0.least_env, fairChoices_fair.cas, fairChoices_fair.clock, w_frames, w_args, w_heap, w_applies, trivial, trivial, w_case⟩
end start1
theorem witness_1 : WitnessClaimed_1 := ⟨start1.p0, start1.e0, start1.about1, start1.theMethod, start1.args0, start1.below0, start1.atStart⟩
end Jvm.Pilot.@@N@@
