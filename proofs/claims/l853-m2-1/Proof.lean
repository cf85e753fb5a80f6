import JvmDerived
import JvmDerived.Pilot.@@N@@Statement
import JvmDerived.Pilot.@@N@@Code
set_option linter.unusedVariables false
set_option linter.unusedSimpArgs false
namespace Jvm.OwnK
open Sem ClassFile Op Lib Jvm.Stand Jvm.Free Jvm.LawKit Jvm.RoadKit
section
variable {p : Program} {l : Launch} {e : Env} {R : Room} {s : State} {m : MethodId} {args : Array Value} {below : List Frame} {meth : Method} {c : Code} {T : State} {locs : List Loc} {cells slots : Nat} {Cn Sn : Nat} {Q : Option Value → Heap → List Loc → Prop}
/-- from the frame f the run comes to an end that Q takes -/
def KEnds (p : Program) (e : Env) (below : List Frame) (s : State) (Cn Sn : Nat) (Q : Option Value → Heap → List Loc → Prop) (T : State) (f : JFrame) : Prop :=
  ∃ s₂ o, Steps p.tables e below (T.setTop f) s₂ ∧ s₂.status = .running ∧ Ended s₂ below o ∧ ∃ v L, o = .returned v ∧ Q v s₂.heap L ∧ FrameEnd s o s₂ L Cn Sn
theorem k_via {T' : State} {f f' : JFrame} (st : ∀ t, Steps p.tables e below (T'.setTop f') t → Steps p.tables e below (T.setTop f) t) (k : KEnds p e below s Cn Sn Q T' f') : KEnds p e below s Cn Sn Q T f := by
  obtain ⟨s₂, o, h, r⟩ := k
  exact ⟨s₂, o, st _ h, r⟩
theorem k_iloadN (X : Stand p l e R s m args below meth c T locs cells slots) (hx : p.tables.exec = Jvm.exec) {pc pc' : Nat} {Ls : Array Slot} {St : List Value} {i : Fin 4} {v : Int32} (hd : decode c.code pc = .ok (.iload_n i, 1)) (hl : Ls[i.val]? = some (.val (.int v))) (hpc : pc + 1 = pc') (k : KEnds p e below s Cn Sn Q T (mkF m pc' Ls (.int v :: St))) : KEnds p e below s Cn Sn Q T (mkF m pc Ls (St)) := by
  subst hpc; exact k_via (fun t h => XS.iloadN X.here hx rfl hd hl h) k
theorem k_iload (X : Stand p l e R s m args below meth c T locs cells slots) (hx : p.tables.exec = Jvm.exec) {pc pc' : Nat} {Ls : Array Slot} {St : List Value} {i : Nat} {v : Int32} (hd : decode c.code pc = .ok (.iload i, 2)) (hl : Ls[i]? = some (.val (.int v))) (hpc : pc + 2 = pc') (k : KEnds p e below s Cn Sn Q T (mkF m pc' Ls (.int v :: St))) : KEnds p e below s Cn Sn Q T (mkF m pc Ls (St)) := by
  subst hpc; exact k_via (fun t h => XS.iload X.here hx rfl hd hl h) k
theorem k_istoreN (X : Stand p l e R s m args below meth c T locs cells slots) (hx : p.tables.exec = Jvm.exec) {pc pc' : Nat} {Ls : Array Slot} {St : List Value} {i : Fin 4} {v : Int32} {Ls' : Array Slot} (hd : decode c.code pc = .ok (.istore_n i, 1)) (hl : storeLocals Ls i.val (.int v) = some Ls') (hpc : pc + 1 = pc') (k : KEnds p e below s Cn Sn Q T (mkF m pc' Ls' (St))) : KEnds p e below s Cn Sn Q T (mkF m pc Ls (.int v :: St)) := by
  subst hpc; exact k_via (fun t h => XS.istoreN X.here hx rfl hd rfl hl h) k
theorem k_istore (X : Stand p l e R s m args below meth c T locs cells slots) (hx : p.tables.exec = Jvm.exec) {pc pc' : Nat} {Ls : Array Slot} {St : List Value} {i : Nat} {v : Int32} {Ls' : Array Slot} (hd : decode c.code pc = .ok (.istore i, 2)) (hl : storeLocals Ls i (.int v) = some Ls') (hpc : pc + 2 = pc') (k : KEnds p e below s Cn Sn Q T (mkF m pc' Ls' (St))) : KEnds p e below s Cn Sn Q T (mkF m pc Ls (.int v :: St)) := by
  subst hpc; exact k_via (fun t h => XS.istore X.here hx rfl hd rfl hl h) k
theorem k_iconst (X : Stand p l e R s m args below meth c T locs cells slots) (hx : p.tables.exec = Jvm.exec) {pc pc' : Nat} {Ls : Array Slot} {St : List Value} {i : Int} {z : Int32} (hd : decode c.code pc = .ok (.iconst i, 1)) (hpc : pc + 1 = pc') (hz : Int32.ofInt i = z) (k : KEnds p e below s Cn Sn Q T (mkF m pc' Ls (.int z :: St))) : KEnds p e below s Cn Sn Q T (mkF m pc Ls St) := by
  subst hpc hz; exact k_via (fun t h => XS.iconst X.here hx rfl hd h) k
theorem k_bipush (X : Stand p l e R s m args below meth c T locs cells slots) (hx : p.tables.exec = Jvm.exec) {pc pc' : Nat} {Ls : Array Slot} {St : List Value} {i : Int} {z : Int32} (hd : decode c.code pc = .ok (.bipush i, 2)) (hpc : pc + 2 = pc') (hz : (Int8.ofInt i).toInt32 = z) (k : KEnds p e below s Cn Sn Q T (mkF m pc' Ls (.int z :: St))) : KEnds p e below s Cn Sn Q T (mkF m pc Ls St) := by
  subst hpc hz; exact k_via (fun t h => XS.bipush X.here hx rfl hd h) k
theorem k_isub (X : Stand p l e R s m args below meth c T locs cells slots) (hx : p.tables.exec = Jvm.exec) {pc pc' : Nat} {Ls : Array Slot} {St : List Value} {x y : Int32} (hd : decode c.code pc = .ok (.isub, 1))  (hpc : pc + 1 = pc') (k : ∀ z : Int32, z = x - y → KEnds p e below s Cn Sn Q T (mkF m pc' Ls (.int z :: St))) : KEnds p e below s Cn Sn Q T (mkF m pc Ls (.int y :: .int x :: St)) := by
  subst hpc; exact k_via (fun t h => XS.isub X.here hx rfl hd rfl h) (k _ rfl)
theorem k_iand (X : Stand p l e R s m args below meth c T locs cells slots) (hx : p.tables.exec = Jvm.exec) {pc pc' : Nat} {Ls : Array Slot} {St : List Value} {x y : Int32} (hd : decode c.code pc = .ok (.iand, 1))  (hpc : pc + 1 = pc') (k : ∀ z : Int32, z = x &&& y → KEnds p e below s Cn Sn Q T (mkF m pc' Ls (.int z :: St))) : KEnds p e below s Cn Sn Q T (mkF m pc Ls (.int y :: .int x :: St)) := by
  subst hpc; exact k_via (fun t h => XS.iand X.here hx rfl hd rfl h) (k _ rfl)
theorem k_ior (X : Stand p l e R s m args below meth c T locs cells slots) (hx : p.tables.exec = Jvm.exec) {pc pc' : Nat} {Ls : Array Slot} {St : List Value} {x y : Int32} (hd : decode c.code pc = .ok (.ior, 1))  (hpc : pc + 1 = pc') (k : ∀ z : Int32, z = x ||| y → KEnds p e below s Cn Sn Q T (mkF m pc' Ls (.int z :: St))) : KEnds p e below s Cn Sn Q T (mkF m pc Ls (.int y :: .int x :: St)) := by
  subst hpc; exact k_via (fun t h => XS.ior X.here hx rfl hd rfl h) (k _ rfl)
theorem k_i2c (X : Stand p l e R s m args below meth c T locs cells slots) (hx : p.tables.exec = Jvm.exec) {pc pc' : Nat} {Ls : Array Slot} {St : List Value} {x : Int32} (hd : decode c.code pc = .ok (.i2c, 1))  (hpc : pc + 1 = pc') (k : ∀ z : Int32, z = x.toUInt32.toUInt16.toUInt32.toInt32 → KEnds p e below s Cn Sn Q T (mkF m pc' Ls (.int z :: St))) : KEnds p e below s Cn Sn Q T (mkF m pc Ls (.int x :: St)) := by
  subst hpc; exact k_via (fun t h => XS.i2c X.here hx rfl hd rfl h) (k _ rfl)
theorem k_goto (X : Stand p l e R s m args below meth c T locs cells slots) (hx : p.tables.exec = Jvm.exec) {pc pc' : Nat} {Ls : Array Slot} {St : List Value} {o : Int} (hd : decode c.code pc = .ok (.goto o, 3)) (hp : (pc : Int) + o = (pc' : Int)) (k : KEnds p e below s Cn Sn Q T (mkF m pc' Ls St)) : KEnds p e below s Cn Sn Q T (mkF m pc Ls St) :=
  k_via (fun t h => XS.goto X.here hx rfl (pc0 := pc) rfl hd (by omega) (by omega) h) k
theorem k_icmp_lt (X : Stand p l e R s m args below meth c T locs cells slots) (hx : p.tables.exec = Jvm.exec) {pc pn py : Nat} {Ls : Array Slot} {St : List Value} {x y : Int32} {o : Int} (hd : decode c.code pc = .ok (.if_icmp .lt o, 3)) (hn : pc + 3 = pn) (hp : (pc : Int) + o = (py : Int)) (ky : x < y → KEnds p e below s Cn Sn Q T (mkF m py Ls St)) (kn : ¬ x < y → KEnds p e below s Cn Sn Q T (mkF m pn Ls St)) : KEnds p e below s Cn Sn Q T (mkF m pc Ls (.int y :: .int x :: St)) := by
  subst hn
  by_cases hc : x < y
  · exact k_via (fun t h => XS.icmpYes X.here hx rfl (pc0 := pc) rfl hd rfl (tlt hc).1 (by omega) (by omega) h) (ky hc)
  · exact k_via (fun t h => XS.icmpNo X.here hx rfl hd rfl (flt hc).1 h) (kn hc)
theorem k_if_lt (X : Stand p l e R s m args below meth c T locs cells slots) (hx : p.tables.exec = Jvm.exec) {pc pn py : Nat} {Ls : Array Slot} {St : List Value} {x : Int32} {o : Int} (hd : decode c.code pc = .ok (.ifCond .lt o, 3)) (hn : pc + 3 = pn) (hp : (pc : Int) + o = (py : Int)) (ky : x < (0 : Int32) → KEnds p e below s Cn Sn Q T (mkF m py Ls St)) (kn : ¬ x < (0 : Int32) → KEnds p e below s Cn Sn Q T (mkF m pn Ls St)) : KEnds p e below s Cn Sn Q T (mkF m pc Ls (.int x :: St)) := by
  subst hn
  by_cases hc : x < (0 : Int32)
  · exact k_via (fun t h => XS.ifYes X.here hx rfl (pc0 := pc) rfl hd rfl ((if0 _ _).trans (tlt hc).1) (by omega) (by omega) h) (ky hc)
  · exact k_via (fun t h => XS.ifNo X.here hx rfl hd rfl ((if0 _ _).trans (flt hc).1) h) (kn hc)
theorem k_icmp_ge (X : Stand p l e R s m args below meth c T locs cells slots) (hx : p.tables.exec = Jvm.exec) {pc pn py : Nat} {Ls : Array Slot} {St : List Value} {x y : Int32} {o : Int} (hd : decode c.code pc = .ok (.if_icmp .ge o, 3)) (hn : pc + 3 = pn) (hp : (pc : Int) + o = (py : Int)) (ky : ¬ x < y → KEnds p e below s Cn Sn Q T (mkF m py Ls St)) (kn : x < y → KEnds p e below s Cn Sn Q T (mkF m pn Ls St)) : KEnds p e below s Cn Sn Q T (mkF m pc Ls (.int y :: .int x :: St)) := by
  subst hn
  by_cases hc : x < y
  · exact k_via (fun t h => XS.icmpNo X.here hx rfl hd rfl (tlt hc).2.1 h) (kn hc)
  · exact k_via (fun t h => XS.icmpYes X.here hx rfl (pc0 := pc) rfl hd rfl (flt hc).2.1 (by omega) (by omega) h) (ky hc)
theorem k_icmp_le (X : Stand p l e R s m args below meth c T locs cells slots) (hx : p.tables.exec = Jvm.exec) {pc pn py : Nat} {Ls : Array Slot} {St : List Value} {x y : Int32} {o : Int} (hd : decode c.code pc = .ok (.if_icmp .le o, 3)) (hn : pc + 3 = pn) (hp : (pc : Int) + o = (py : Int)) (ky : ¬ y < x → KEnds p e below s Cn Sn Q T (mkF m py Ls St)) (kn : y < x → KEnds p e below s Cn Sn Q T (mkF m pn Ls St)) : KEnds p e below s Cn Sn Q T (mkF m pc Ls (.int y :: .int x :: St)) := by
  subst hn
  by_cases hc : y < x
  · exact k_via (fun t h => XS.icmpNo X.here hx rfl hd rfl (tlt hc).2.2.2 h) (kn hc)
  · exact k_via (fun t h => XS.icmpYes X.here hx rfl (pc0 := pc) rfl hd rfl (flt hc).2.2.2 (by omega) (by omega) h) (ky hc)
theorem k_icmp_eq (X : Stand p l e R s m args below meth c T locs cells slots) (hx : p.tables.exec = Jvm.exec) {pc pn py : Nat} {Ls : Array Slot} {St : List Value} {x y : Int32} {o : Int} (hd : decode c.code pc = .ok (.if_icmp .eq o, 3)) (hn : pc + 3 = pn) (hp : (pc : Int) + o = (py : Int)) (ky : x = y → KEnds p e below s Cn Sn Q T (mkF m py Ls St)) (kn : ¬ x = y → KEnds p e below s Cn Sn Q T (mkF m pn Ls St)) : KEnds p e below s Cn Sn Q T (mkF m pc Ls (.int y :: .int x :: St)) := by
  subst hn
  by_cases hc : x = y
  · exact k_via (fun t h => XS.icmpYes X.here hx rfl (pc0 := pc) rfl hd rfl (teq hc).1 (by omega) (by omega) h) (ky hc)
  · exact k_via (fun t h => XS.icmpNo X.here hx rfl hd rfl (feq hc).1 h) (kn hc)
theorem k_icmp_ne (X : Stand p l e R s m args below meth c T locs cells slots) (hx : p.tables.exec = Jvm.exec) {pc pn py : Nat} {Ls : Array Slot} {St : List Value} {x y : Int32} {o : Int} (hd : decode c.code pc = .ok (.if_icmp .ne o, 3)) (hn : pc + 3 = pn) (hp : (pc : Int) + o = (py : Int)) (ky : ¬ x = y → KEnds p e below s Cn Sn Q T (mkF m py Ls St)) (kn : x = y → KEnds p e below s Cn Sn Q T (mkF m pn Ls St)) : KEnds p e below s Cn Sn Q T (mkF m pc Ls (.int y :: .int x :: St)) := by
  subst hn
  by_cases hc : x = y
  · exact k_via (fun t h => XS.icmpNo X.here hx rfl hd rfl (teq hc).2 h) (kn hc)
  · exact k_via (fun t h => XS.icmpYes X.here hx rfl (pc0 := pc) rfl hd rfl (feq hc).2 (by omega) (by omega) h) (ky hc)
theorem k_if_ne (X : Stand p l e R s m args below meth c T locs cells slots) (hx : p.tables.exec = Jvm.exec) {pc pn py : Nat} {Ls : Array Slot} {St : List Value} {x : Int32} {o : Int} (hd : decode c.code pc = .ok (.ifCond .ne o, 3)) (hn : pc + 3 = pn) (hp : (pc : Int) + o = (py : Int)) (ky : ¬ x = (0 : Int32) → KEnds p e below s Cn Sn Q T (mkF m py Ls St)) (kn : x = (0 : Int32) → KEnds p e below s Cn Sn Q T (mkF m pn Ls St)) : KEnds p e below s Cn Sn Q T (mkF m pc Ls (.int x :: St)) := by
  subst hn
  by_cases hc : x = (0 : Int32)
  · exact k_via (fun t h => XS.ifNo X.here hx rfl hd rfl ((if0 _ _).trans (teq hc).2) h) (kn hc)
  · exact k_via (fun t h => XS.ifYes X.here hx rfl (pc0 := pc) rfl hd rfl ((if0 _ _).trans (feq hc).2) (by omega) (by omega) h) (ky hc)
theorem k_d_nxlt_nxlt {x a b : Int32} (h : ¬ x < a) (q : ¬ a < b) : ¬ x < b := by
  simp only [Int32.lt_iff_toInt_lt, ← Int32.toInt_inj] at *; omega
theorem k_d_alt_nxlt {x a b : Int32} (h : ¬ x < a) (q : b < a) : b < x := by
  simp only [Int32.lt_iff_toInt_lt, ← Int32.toInt_inj] at *; omega
theorem k_d_ne_xlt {x a b : Int32} (h : x < a) (q : ¬ b < a) : ¬ x = b := by
  simp only [Int32.lt_iff_toInt_lt, ← Int32.toInt_inj] at *; omega
theorem k_d_ne_nxlt {x a b : Int32} (h : ¬ x < a) (q : b < a) : ¬ x = b := by
  simp only [Int32.lt_iff_toInt_lt, ← Int32.toInt_inj] at *; omega
theorem k_retN (X : Stand p l e R s m args below meth c T locs cells slots) (hx : p.tables.exec = Jvm.exec) {pc : Nat} {Ls : Array Slot} {St : List Value} {t : FieldType} {z z' : Int32} (hret : meth.sig.returnType = some t) (ht : t = .boolean ∨ t = .byte ∨ t = .char ∨ t = .short) (hd : decode c.code pc = .ok (.ireturn, 1)) (hlk : meth.locks = false) (hC : cells ≤ Cn) (hS : slots ≤ Sn) (hz : nar t z = z') (q : Q (some (.int z')) T.heap locs) : KEnds p e below s Cn Sn Q T (mkF m pc Ls (.int z :: St)) := by
  subst hz
  obtain ⟨fs, hr, hrun, hended, hW, hsame⟩ := X.leave (v := some (.int (nar t z))) (fun h => by rw [hret] at h; cases h) hlk
  exact ⟨_, _, retN X hx hret ht hd hr, hrun, hended, _, _, rfl, q, ⟨_, rfl⟩, hW, hsame.mono hC hS⟩
variable {Z : State} {a0 : Array Value} {h : Heap} {own : String}
theorem k_ldc (X : Stand p l e R s m args below meth c T locs cells slots) (hx : p.tables.exec = Jvm.exec) (hZ : Z.Warmed39 s.vm) (hown : s.vm.findClass own = some m.cls) {pc pc' : Nat} {Ls : Array Slot} {St : List Value} {index : Nat} {v : Int32} (w : (Cond.constant own index v).before a0 Z = true) (hd : decode c.code pc = .ok (.ldc index, 2)) (hpc : pc + 2 = pc') (k : KEnds p e below s Cn Sn Q T (mkF m pc' Ls (.int v :: St))) : KEnds p e below s Cn Sn Q T (mkF m pc Ls St) := by
  subst hpc; exact k_via (X.ldcInt hx hown (mvT hZ w) (g := mkF m pc Ls St) rfl hd) k
theorem k_callS (X : Stand p l e R s m args below meth c T locs cells slots) (hx : p.tables.exec = Jvm.exec) (hZ : Z.Warmed39 s.vm) (hown : s.vm.findClass own = some m.cls) {pc pc' : Nat} {Ls : Array Slot} {St : List Value} {y : MethodName} {bytes : ByteArray} {maxL : Nat} {ret : Option FieldType} {rm : Room} {index W : Nat} {as' : Array Value} {Q' : Option Value → Heap → List Loc → Prop} (w1 : (Cond.methodLink own index y).before a0 Z = true) (w2 : (Cond.static y).before a0 Z = true) (w3 : (Cond.initialized y.cls).before a0 Z = true) (w4 : (Cond.code y bytes maxL ret).before a0 Z = true) (hy : y.cls ≠ "java/lang/invoke/MethodHandle" ∧ y.cls ≠ "java/lang/invoke/VarHandle") (hM : MetFree l y (head1 [Cond.code y bytes maxL ret] rm) (fun a U => a = as' ∧ Z.Warmed39 U.vm ∧ U.heap = h) (fun _ _ _ _ _ => True) (fun _ U o U' => ∃ v L, o = .returned v ∧ Q' v U'.heap L ∧ FrameEnd U o U' L rm.cells rm.slots)) (hf : rm.frames + 1 ≤ R.frames) (hl : W + (maxL + 11) + rm.locals ≤ R.locals) (eT : T.heap = h) (hsize : Ls.size = c.maxLocals) {argsL rest : List Value} (hlen : ∀ sig, parseMethodDescriptor y.desc = some sig → argsL.length = sig.parameters.length) (hst : St = argsL.reverse ++ rest) (hW : (rest.map fun v => v.category).sum ≤ W) (has : argsL.toArray = as') (hd : decode c.code pc = .ok (.invokestatic index, 3)) (hce : cells + rm.cells ≤ R.cells) (hsl : slots + rm.slots ≤ R.slots) (hpc : pc + 3 = pc') (k : ∀ T' L v, Stand p l e R s m args below meth c T' (locs ++ L) (cells + rm.cells) (slots + rm.slots) → Q' v T'.heap L → KEnds p e below s Cn Sn Q T' (mkF m pc' Ls (v.toList ++ rest))) : KEnds p e below s Cn Sn Q T (mkF m pc Ls St) := by
  subst hpc
  obtain ⟨v, _, ⟨T', L', k', n'⟩, -, X', ⟨Lc, hQ, l', y', z'⟩, st⟩ := Jvm.LawKit.callS X hx (y := y) hown (mvT hZ w1) (mvT hZ w2) (mvT hZ w3) (mvT hZ w4) hy (backOf (W := W) hM hZ w4 w3 hf hl) (g := mkF m pc Ls St) rfl hsize hlen hst (by show 2 * 0 + _ ≤ _; omega) hd (fun _ _ => ⟨has, eT, hce, hsl⟩)
  dsimp only [Pt.U, Pt.locs, Pt.cells, Pt.slots] at X' l' y' z' st hQ
  subst l' y' z'
  exact k_via st (k T' Lc v X' hQ)
end
end Jvm.OwnK
namespace Jvm.Pilot.@@N@@
open Jvm Jvm.ClassFile Sem Op Lib Jvm.Free Jvm.Stand Jvm.LawKit Jvm.RoadKit Jvm.OwnK Bundle Jvm.Pilot.@@N@@.Jvm.D
theorem own_nor : ∀ r : Fin 64, r.val ||| 32 = (if r.val / 32 % 2 = 1 then r.val else r.val + 32) := by decide +kernel
theorem own_nor32 (n : Nat) : n ||| 32 = (if n / 32 % 2 = 1 then n else n + 32) := by
  have h1 : n = 2 ^ 6 * (n / 64) + n % 64 := by omega
  have h2 : n % 64 < 2 ^ 6 := by omega
  have h3 := own_nor ⟨n % 64, by omega⟩
  simp only at h3
  have h4 : n ||| 32 = 2 ^ 6 * (n / 64) ||| (n % 64 ||| 32) := by
    rw [← Nat.or_assoc, ← Nat.two_pow_add_eq_or_of_lt h2, ← h1]
  have h5 : n % 64 ||| 32 < 2 ^ 6 := by rw [h3]; split <;> omega
  rw [h4, ← Nat.two_pow_add_eq_or_of_lt h5, h3]
  split <;> split <;> omega
theorem own_or32 (c : Int32) : 0 ≤ c.toInt → ((c.toInt / 32 % 2 = 1 → (c ||| 32).toInt = c.toInt) ∧ (c.toInt / 32 % 2 = 0 → (c ||| 32).toInt = c.toInt + 32)) := by
  intro h0
  have r := rng32 c
  have hn : c.toInt = (c.toBitVec.toNat : Int) := by
    have q := BitVec.toInt_eq_toNat_cond c.toBitVec
    have q2 : c.toInt = c.toBitVec.toInt := rfl
    have q3 := c.toBitVec.isLt
    rw [q2] at h0 ⊢
    rw [q] at h0 ⊢
    split at h0 <;> omega
  have ho : (c ||| 32).toBitVec.toNat = c.toBitVec.toNat ||| 32 := by
    rw [Int32.toBitVec_or, BitVec.toNat_or]; rfl
  have h32 := own_nor32 c.toBitVec.toNat
  have hs : (c ||| 32).toInt = ((c ||| 32).toBitVec.toNat : Int) := by
    have q := BitVec.toInt_eq_toNat_cond (c ||| 32).toBitVec
    have q2 : (c ||| 32).toInt = (c ||| 32).toBitVec.toInt := rfl
    rw [q2, q, ho, h32]
    split <;> split <;> omega
  rw [hs, ho, h32]
  constructor
  · intro q
    rw [if_pos (by omega)]; omega
  · intro q
    rw [if_neg (by omega)]; omega
theorem d1_0 : decode prog_17_method_3_code 0 = .ok (.iload_n 0, 1) := by decide +kernel
theorem d1_1 : decode prog_17_method_3_code 1 = .ok (.bipush 97, 2) := by decide +kernel
theorem d1_3 : decode prog_17_method_3_code 3 = .ok (.if_icmp .lt 9, 3) := by decide +kernel
theorem d1_12 : decode prog_17_method_3_code 12 = .ok (.iload_n 0, 1) := by decide +kernel
theorem d1_13 : decode prog_17_method_3_code 13 = .ok (.bipush 65, 2) := by decide +kernel
theorem d1_15 : decode prog_17_method_3_code 15 = .ok (.if_icmp .lt 9, 3) := by decide +kernel
theorem d1_24 : decode prog_17_method_3_code 24 = .ok (.iload_n 0, 1) := by decide +kernel
theorem d1_25 : decode prog_17_method_3_code 25 = .ok (.bipush 95, 2) := by decide +kernel
theorem d1_27 : decode prog_17_method_3_code 27 = .ok (.if_icmp .eq 9, 3) := by decide +kernel
theorem d1_30 : decode prog_17_method_3_code 30 = .ok (.iload_n 0, 1) := by decide +kernel
theorem d1_31 : decode prog_17_method_3_code 31 = .ok (.bipush 36, 2) := by decide +kernel
theorem d1_33 : decode prog_17_method_3_code 33 = .ok (.if_icmp .ne 7, 3) := by decide +kernel
theorem d1_40 : decode prog_17_method_3_code 40 = .ok (.iconst 0, 1) := by decide +kernel
theorem d1_41 : decode prog_17_method_3_code 41 = .ok (.ireturn, 1) := by decide +kernel
theorem d1_36 : decode prog_17_method_3_code 36 = .ok (.iconst 1, 1) := by decide +kernel
theorem d1_37 : decode prog_17_method_3_code 37 = .ok (.goto 4, 3) := by decide +kernel
theorem d1_18 : decode prog_17_method_3_code 18 = .ok (.iload_n 0, 1) := by decide +kernel
theorem d1_19 : decode prog_17_method_3_code 19 = .ok (.bipush 90, 2) := by decide +kernel
theorem d1_21 : decode prog_17_method_3_code 21 = .ok (.if_icmp .le 15, 3) := by decide +kernel
theorem d1_6 : decode prog_17_method_3_code 6 = .ok (.iload_n 0, 1) := by decide +kernel
theorem d1_7 : decode prog_17_method_3_code 7 = .ok (.bipush 122, 2) := by decide +kernel
theorem d1_9 : decode prog_17_method_3_code 9 = .ok (.if_icmp .le 27, 3) := by decide +kernel
abbrev R1_7 : Room := { frames := 0, cells := 0, slots := 0, locals := 0 }
def Q1_7 (Z : State) (p1 : Int32) (h0 : Heap) (n0 : Nat) (v : Option Value) (h : Heap) (L : List Loc) : Prop := Fr n0 L ∧ h = h0 ∧ ((p1 < (97 : Int32) ∧ p1 < (65 : Int32) ∧ ¬ p1 = (36 : Int32) ∧ v = some (.int (0 : Int32))) ∨ (p1 < (97 : Int32) ∧ p1 < (65 : Int32) ∧ p1 = (36 : Int32) ∧ v = some (.int (1 : Int32))) ∨ (p1 < (97 : Int32) ∧ ¬ p1 < (65 : Int32) ∧ ¬ (90 : Int32) < p1 ∧ v = some (.int (1 : Int32))) ∨ (p1 < (97 : Int32) ∧ ¬ p1 < (65 : Int32) ∧ (90 : Int32) < p1 ∧ p1 = (95 : Int32) ∧ v = some (.int (1 : Int32))) ∨ (p1 < (97 : Int32) ∧ ¬ p1 < (65 : Int32) ∧ (90 : Int32) < p1 ∧ ¬ p1 = (95 : Int32) ∧ v = some (.int (0 : Int32))) ∨ (¬ p1 < (97 : Int32) ∧ ¬ (122 : Int32) < p1 ∧ v = some (.int (1 : Int32))) ∨ (¬ p1 < (97 : Int32) ∧ (122 : Int32) < p1 ∧ v = some (.int (0 : Int32))))
theorem ef1_7 (m : MethodId) (x0 : Int32) : entryFrame m #[(.int x0)] 1 = mkF m 0 #[.val (.int x0)] [] := by first | (simp [entryFrame, mkF, argsToLocals, Value.category]; done) | rfl
theorem pn_0 : plainName "com/example/xylem/xylem/core/VarName" = true := by first | (simp [plainName, overriddenIn]; done) | decide +kernel
set_option maxRecDepth 65536 in
set_option maxHeartbeats 40000000 in
theorem rm1_7 (l : Launch) (Z : State) (a0 : Array Value) (hw : ∀ d ∈ tables_1, d.before a0 Z = true) (ws : List Jvm.Cond) (p1 : Int32) (h0 : Heap) (n0 : Nat) (Z0 : n0 ≤ h0.size)  :
    MetFree l (⟨"com/example/xylem/xylem/core/VarName", "isStart", "(C)Z"⟩ : MethodName) (head1 (Jvm.Cond.code (⟨"com/example/xylem/xylem/core/VarName", "isStart", "(C)Z"⟩ : MethodName) prog_17_method_3_code 1 (some .boolean) :: ws) R1_7) (fun a U => a = #[(.int p1)] ∧ Z.Warmed39 U.vm ∧ U.heap = h0) (fun _ _ _ _ _ => True) (fun _ U o U' => ∃ v L, o = .returned v ∧ Q1_7 Z p1 h0 n0 v U'.heap L ∧ FrameEnd U o U' L R1_7.cells R1_7.slots) := by
 refine MetFree.of_bodySF (plainFor_of_name pn_0) hisR ?_
 intro p e s m args below meth c s₁ Bd hml0 hP hK
 obtain ⟨rfl, hZ, hh⟩ := hP
 have hx := Bd.exec
 have hby := Bd.bytes
 have hml : c.maxLocals = 1 := hml0
 have hlk : meth.locks = false := Bd.notSynchronized
 have hown : s.vm.findClass "com/example/xylem/xylem/core/VarName" = some m.cls := findClass_of_methodNamed Bd.named
 have hnm := (name_of_methodNamed Bd.named Bd.method).1
 have X0 : Stand p l e R1_7 s m #[(.int p1)] below meth c s₁ [] 0 0 := Stand.of_body Bd
 have e0 : s₁.heap = h0 := by rw [← hh, Bd.state]; rfl
 have N0 := Fr.nil n0
 rw [ef1_7 m p1]
 show KEnds p e below s R1_7.cells R1_7.slots (Q1_7 Z p1 h0 n0) s₁ (mkF m 0 #[.val (.int p1)] [])
 refine k_iloadN X0 hx (hb hby d1_0) rfl (pc' := 1) rfl ?_
 refine k_bipush X0 hx (hb hby d1_1) (pc' := 3) rfl (z := (97 : Int32)) rfl ?_
 refine k_icmp_lt X0 hx (hb hby d1_3) (pn := 6) rfl (py := 12) (by decide) (fun hc8 => ?_) (fun hc8 => ?_)
 ·
  refine k_iloadN X0 hx (hb hby d1_12) rfl (pc' := 13) rfl ?_
  refine k_bipush X0 hx (hb hby d1_13) (pc' := 15) rfl (z := (65 : Int32)) rfl ?_
  refine k_icmp_lt X0 hx (hb hby d1_15) (pn := 18) rfl (py := 24) (by decide) (fun hc9 => ?_) (fun hc9 => ?_)
  ·
   refine k_iloadN X0 hx (hb hby d1_24) rfl (pc' := 25) rfl ?_
   refine k_bipush X0 hx (hb hby d1_25) (pc' := 27) rfl (z := (95 : Int32)) rfl ?_
   refine k_icmp_eq X0 hx (hb hby d1_27) (pn := 30) rfl (py := 36) (by decide) (fun hc => absurd hc (k_d_ne_xlt hc9 (by decide))) (fun _ => ?_)
   refine k_iloadN X0 hx (hb hby d1_30) rfl (pc' := 31) rfl ?_
   refine k_bipush X0 hx (hb hby d1_31) (pc' := 33) rfl (z := (36 : Int32)) rfl ?_
   refine k_icmp_ne X0 hx (hb hby d1_33) (pn := 36) rfl (py := 40) (by decide) (fun hc10 => ?_) (fun hc10 => ?_)
   ·
    refine k_iconst X0 hx (hb hby d1_40) (pc' := 41) rfl (z := (0 : Int32)) rfl ?_
    exact k_retN X0 hx (t := .boolean) Bd.returns (by simp) (hb hby d1_41) hlk (by decide) (by decide) (z' := (0 : Int32)) rfl ⟨N0, e0, (Or.inl ⟨hc8, hc9, hc10, rfl⟩)⟩
   ·
    refine k_iconst X0 hx (hb hby d1_36) (pc' := 37) rfl (z := (1 : Int32)) rfl ?_
    refine k_goto X0 hx (hb hby d1_37) (pc' := 41) (by decide) ?_
    exact k_retN X0 hx (t := .boolean) Bd.returns (by simp) (hb hby d1_41) hlk (by decide) (by decide) (z' := (1 : Int32)) rfl ⟨N0, e0, (Or.inr (Or.inl ⟨hc8, hc9, hc10, rfl⟩))⟩
  ·
   refine k_iloadN X0 hx (hb hby d1_18) rfl (pc' := 19) rfl ?_
   refine k_bipush X0 hx (hb hby d1_19) (pc' := 21) rfl (z := (90 : Int32)) rfl ?_
   refine k_icmp_le X0 hx (hb hby d1_21) (pn := 24) rfl (py := 36) (by decide) (fun hc11 => ?_) (fun hc11 => ?_)
   ·
    refine k_iconst X0 hx (hb hby d1_36) (pc' := 37) rfl (z := (1 : Int32)) rfl ?_
    refine k_goto X0 hx (hb hby d1_37) (pc' := 41) (by decide) ?_
    exact k_retN X0 hx (t := .boolean) Bd.returns (by simp) (hb hby d1_41) hlk (by decide) (by decide) (z' := (1 : Int32)) rfl ⟨N0, e0, (Or.inr (Or.inr (Or.inl ⟨hc8, hc9, hc11, rfl⟩)))⟩
   ·
    refine k_iloadN X0 hx (hb hby d1_24) rfl (pc' := 25) rfl ?_
    refine k_bipush X0 hx (hb hby d1_25) (pc' := 27) rfl (z := (95 : Int32)) rfl ?_
    refine k_icmp_eq X0 hx (hb hby d1_27) (pn := 30) rfl (py := 36) (by decide) (fun hc12 => ?_) (fun hc12 => ?_)
    ·
     refine k_iconst X0 hx (hb hby d1_36) (pc' := 37) rfl (z := (1 : Int32)) rfl ?_
     refine k_goto X0 hx (hb hby d1_37) (pc' := 41) (by decide) ?_
     exact k_retN X0 hx (t := .boolean) Bd.returns (by simp) (hb hby d1_41) hlk (by decide) (by decide) (z' := (1 : Int32)) rfl ⟨N0, e0, (Or.inr (Or.inr (Or.inr (Or.inl ⟨hc8, hc9, hc11, hc12, rfl⟩))))⟩
    ·
     refine k_iloadN X0 hx (hb hby d1_30) rfl (pc' := 31) rfl ?_
     refine k_bipush X0 hx (hb hby d1_31) (pc' := 33) rfl (z := (36 : Int32)) rfl ?_
     refine k_icmp_ne X0 hx (hb hby d1_33) (pn := 36) rfl (py := 40) (by decide) (fun _ => ?_) (fun hc => absurd hc (k_d_ne_nxlt hc9 (by decide)))
     refine k_iconst X0 hx (hb hby d1_40) (pc' := 41) rfl (z := (0 : Int32)) rfl ?_
     exact k_retN X0 hx (t := .boolean) Bd.returns (by simp) (hb hby d1_41) hlk (by decide) (by decide) (z' := (0 : Int32)) rfl ⟨N0, e0, (Or.inr (Or.inr (Or.inr (Or.inr (Or.inl ⟨hc8, hc9, hc11, hc12, rfl⟩)))))⟩
 ·
  refine k_iloadN X0 hx (hb hby d1_6) rfl (pc' := 7) rfl ?_
  refine k_bipush X0 hx (hb hby d1_7) (pc' := 9) rfl (z := (122 : Int32)) rfl ?_
  refine k_icmp_le X0 hx (hb hby d1_9) (pn := 12) rfl (py := 36) (by decide) (fun hc13 => ?_) (fun hc13 => ?_)
  ·
   refine k_iconst X0 hx (hb hby d1_36) (pc' := 37) rfl (z := (1 : Int32)) rfl ?_
   refine k_goto X0 hx (hb hby d1_37) (pc' := 41) (by decide) ?_
   exact k_retN X0 hx (t := .boolean) Bd.returns (by simp) (hb hby d1_41) hlk (by decide) (by decide) (z' := (1 : Int32)) rfl ⟨N0, e0, (Or.inr (Or.inr (Or.inr (Or.inr (Or.inr (Or.inl ⟨hc8, hc13, rfl⟩))))))⟩
  ·
   refine k_iloadN X0 hx (hb hby d1_12) rfl (pc' := 13) rfl ?_
   refine k_bipush X0 hx (hb hby d1_13) (pc' := 15) rfl (z := (65 : Int32)) rfl ?_
   refine k_icmp_lt X0 hx (hb hby d1_15) (pn := 18) rfl (py := 24) (by decide) (fun hc => absurd hc (k_d_nxlt_nxlt hc8 (by decide))) (fun _ => ?_)
   refine k_iloadN X0 hx (hb hby d1_18) rfl (pc' := 19) rfl ?_
   refine k_bipush X0 hx (hb hby d1_19) (pc' := 21) rfl (z := (90 : Int32)) rfl ?_
   refine k_icmp_le X0 hx (hb hby d1_21) (pn := 24) rfl (py := 36) (by decide) (fun hc => absurd (k_d_alt_nxlt hc8 (by decide)) hc) (fun _ => ?_)
   refine k_iloadN X0 hx (hb hby d1_24) rfl (pc' := 25) rfl ?_
   refine k_bipush X0 hx (hb hby d1_25) (pc' := 27) rfl (z := (95 : Int32)) rfl ?_
   refine k_icmp_eq X0 hx (hb hby d1_27) (pn := 30) rfl (py := 36) (by decide) (fun hc => absurd hc (k_d_ne_nxlt hc8 (by decide))) (fun _ => ?_)
   refine k_iloadN X0 hx (hb hby d1_30) rfl (pc' := 31) rfl ?_
   refine k_bipush X0 hx (hb hby d1_31) (pc' := 33) rfl (z := (36 : Int32)) rfl ?_
   refine k_icmp_ne X0 hx (hb hby d1_33) (pn := 36) rfl (py := 40) (by decide) (fun _ => ?_) (fun hc => absurd hc (k_d_ne_nxlt hc8 (by decide)))
   refine k_iconst X0 hx (hb hby d1_40) (pc' := 41) rfl (z := (0 : Int32)) rfl ?_
   exact k_retN X0 hx (t := .boolean) Bd.returns (by simp) (hb hby d1_41) hlk (by decide) (by decide) (z' := (0 : Int32)) rfl ⟨N0, e0, (Or.inr (Or.inr (Or.inr (Or.inr (Or.inr (Or.inr ⟨hc8, hc13, rfl⟩))))))⟩
theorem pd_0 : parseMethodDescriptor "(C)Z" = some ⟨[.char], some .boolean⟩ := by decide +kernel
theorem ef0 (m : MethodId) (x0 : Int32) : entryFrame m #[(.int x0)] maxLocals = mkF m 0 #[.val (.int x0), .unset, .unset, .unset, .unset, .unset] [] := by first | (simp [entryFrame, mkF, argsToLocals, Value.category, maxLocals]; done) | rfl
theorem pn_1 : plainName "com/example/xylem/xylem/core/VarNameIsStartPinLaw" = true := by first | (simp [plainName, overriddenIn]; done) | decide +kernel
def Q0 (n0 : Nat) (v : Option Value) (h : Heap) (L : List Loc) : Prop := v = some (.int 1) ∧ Fr n0 L
set_option maxRecDepth 65536 in
set_option maxHeartbeats 40000000 in
theorem rm0 (l : Launch) (Z : State) (a0 : Array Value) (hw : ∀ d ∈ tables_1, d.before a0 Z = true) (ws : List Jvm.Cond) (i0 : Int32) (h0 : Heap) (n0 : Nat) (Z0 : n0 ≤ h0.size) :
    MetFree l x (head1 (Jvm.Cond.code x code maxLocals ret :: ws) room_1) (fun a U => a = #[(.int i0)] ∧ Z.Warmed39 U.vm ∧ U.heap = h0) (fun _ _ _ _ _ => True) (fun _ U o U' => ∃ v L, o = .returned v ∧ Q0 n0 v U'.heap L ∧ FrameEnd U o U' L 0 0) := by
 refine MetFree.of_bodySF (plainFor_of_name pn_1) hisR ?_
 intro p e s m args below meth c s₁ Bd hml0 hP hK
 obtain ⟨rfl, hZ, hh⟩ := hP
 have hx := Bd.exec
 have hby := Bd.bytes
 have hml : c.maxLocals = 6 := hml0
 have hlk : meth.locks = false := Bd.notSynchronized
 have hown : s.vm.findClass "com/example/xylem/xylem/core/VarNameIsStartPinLaw" = some m.cls := findClass_of_methodNamed Bd.named
 have hnm := (name_of_methodNamed Bd.named Bd.method).1
 have X0 : Stand p l e room_1 s m #[(.int i0)] below meth c s₁ [] 0 0 := Stand.of_body Bd
 have e0 : s₁.heap = h0 := by rw [← hh, Bd.state]; rfl
 have N0 := Fr.nil n0
 rw [show entryFrame m #[(.int i0)] maxLocals = _ from ef0 m i0]
 show KEnds p e below s 0 0 (Q0 n0) s₁ (mkF m 0 #[.val (.int i0), .unset, .unset, .unset, .unset, .unset] [])
 refine k_iloadN X0 hx (hb hby at_0) rfl (pc' := 1) rfl ?_
 refine k_ldc X0 hx hZ hown (hw _ (List.mem_of_getElem? (i := 0) rfl)) (hb hby at_1) (pc' := 3) rfl ?_
 refine k_iand X0 hx (hb hby at_3) (pc' := 4) rfl (fun v1 hv1 => ?_)
 refine k_istoreN X0 hx (hb hby at_4) (Ls' := #[.val (.int i0), .val (.int v1), .unset, .unset, .unset, .unset]) rfl (pc' := 5) rfl ?_
 refine k_iloadN X0 hx (hb hby at_5) rfl (pc' := 6) rfl ?_
 refine k_i2c X0 hx (hb hby at_6) (pc' := 7) rfl (fun v2 hv2 => ?_)
 refine k_istoreN X0 hx (hb hby at_7) (Ls' := #[.val (.int i0), .val (.int v1), .val (.int v2), .unset, .unset, .unset]) rfl (pc' := 8) rfl ?_
 refine k_iloadN X0 hx (hb hby at_8) rfl (pc' := 9) rfl ?_
 refine k_bipush X0 hx (hb hby at_9) (pc' := 11) rfl (z := (32 : Int32)) rfl ?_
 refine k_ior X0 hx (hb hby at_11) (pc' := 12) rfl (fun v3 hv3 => ?_)
 refine k_bipush X0 hx (hb hby at_12) (pc' := 14) rfl (z := (97 : Int32)) rfl ?_
 refine k_isub X0 hx (hb hby at_14) (pc' := 15) rfl (fun v4 hv4 => ?_)
 refine k_istoreN X0 hx (hb hby at_15) (Ls' := #[.val (.int i0), .val (.int v1), .val (.int v2), .val (.int v4), .unset, .unset]) rfl (pc' := 16) rfl ?_
 refine k_iloadN X0 hx (hb hby at_16) rfl (pc' := 17) rfl ?_
 refine k_if_lt X0 hx (hb hby at_17) (pn := 20) rfl (py := 30) (by decide) (fun hc5 => ?_) (fun hc5 => ?_)
 ·
  refine k_iconst X0 hx (hb hby at_30) (pc' := 31) rfl (z := (0 : Int32)) rfl ?_
  refine k_istore X0 hx (hb hby at_31) (Ls' := #[.val (.int i0), .val (.int v1), .val (.int v2), .val (.int v4), .val (.int (0 : Int32)), .unset]) rfl (pc' := 33) rfl ?_
  refine k_iload X0 hx (hb hby at_33) rfl (pc' := 35) rfl ?_
  refine k_if_ne X0 hx (hb hby at_35) (pn := 38) rfl (py := 50) (by decide) (fun hc => absurd (by decide) hc) (fun _ => ?_)
  refine k_iloadN X0 hx (hb hby at_38) rfl (pc' := 39) rfl ?_
  refine k_bipush X0 hx (hb hby at_39) (pc' := 41) rfl (z := (95 : Int32)) rfl ?_
  refine k_icmp_eq X0 hx (hb hby at_41) (pn := 44) rfl (py := 50) (by decide) (fun hc6 => ?_) (fun hc6 => ?_)
  ·
   refine k_iconst X0 hx (hb hby at_50) (pc' := 51) rfl (z := (1 : Int32)) rfl ?_
   refine k_goto X0 hx (hb hby at_51) (pc' := 55) (by decide) ?_
   refine k_istore X0 hx (hb hby at_55) (Ls' := #[.val (.int i0), .val (.int v1), .val (.int v2), .val (.int v4), .val (.int (0 : Int32)), .val (.int (1 : Int32))]) rfl (pc' := 57) rfl ?_
   refine k_iloadN X0 hx (hb hby at_57) rfl (pc' := 58) rfl ?_
   refine k_callS X0 hx hZ hown (hw _ (List.mem_of_getElem? (i := 1) rfl)) (hw _ (List.mem_of_getElem? (i := 2) rfl)) (hw _ (List.mem_of_getElem? (i := 3) rfl)) (hw _ (List.mem_of_getElem? (i := 4) rfl)) (by decide) (rm1_7 l Z a0 hw [] v2 h0 n0 Z0 ) (by decide) (by decide) e0 (by rw [hml]; rfl) (argsL := [(.int v2)]) (rest := []) (lenOf pd_0 rfl) rfl (W := 0) (Nat.le_refl _) rfl (hb hby at_58) (by decide) (by decide) (pc' := 61) rfl (fun T14 L14 r14 X14 q14 => ?_)
   obtain ⟨N14, e14, q14⟩ := q14
   have N14' := Fr.app N0 N14
   rcases q14 with ⟨hc15, hc16, hc17, rfl⟩ | ⟨hc18, hc19, hc20, rfl⟩ | ⟨hc21, hc22, hc23, rfl⟩ | ⟨hc24, hc25, hc26, hc27, rfl⟩ | ⟨hc28, hc29, hc30, hc31, rfl⟩ | ⟨hc32, hc33, rfl⟩ | ⟨hc34, hc35, rfl⟩
   ·
    show KEnds p e below s _ _ _ T14 (mkF m 61 #[.val (.int i0), .val (.int v1), .val (.int v2), .val (.int v4), .val (.int (0 : Int32)), .val (.int (1 : Int32))] [(.int (0 : Int32))])
    refine k_iload X14 hx (hb hby at_61) rfl (pc' := 63) rfl ?_
    refine k_icmp_ne X14 hx (hb hby at_63) (pn := 66) rfl (py := 70) (by decide) (fun _ => ?_) (fun hc => absurd hc (by decide))
    refine k_iconst X14 hx (hb hby at_70) (pc' := 71) rfl (z := (0 : Int32)) rfl ?_
    exfalso
    have := rng32 v4
    have := rng32 v3
    have := rng32 v1
    have := rng32 i0
    have : (65535 : Int32).toInt = 65535 := by decide
    have q36 : v1.toInt = i0.toInt % 65536 := by rw [hv1]; exact c_mask _ _ 16 (by decide) (by decide)
    have : (32 : Int32).toInt = 32 := by decide
    have q37 := own_or32 v1; rw [← hv3] at q37
    have : (97 : Int32).toInt = 97 := by decide
    have q38 : (v4.toInt - (v3.toInt - (97 : Int32).toInt)) % 4294967296 = 0 := by rw [hv4]; exact c_isub _ _
    have : (0 : Int32).toInt = 0 := by decide
    have q39 := hc5; rw [Int32.lt_iff_toInt_lt] at q39
    have : (95 : Int32).toInt = 95 := by decide
    have q40 := congrArg Int32.toInt hc6
    have := rng32 v2
    have q41 : (v2.toInt - v1.toInt) % 65536 = 0 ∧ 0 ≤ v2.toInt ∧ v2.toInt < 65536 := by rw [hv2]; exact c_i2c _
    have q42 := hc15; rw [Int32.lt_iff_toInt_lt] at q42
    have : (65 : Int32).toInt = 65 := by decide
    have q43 := hc16; rw [Int32.lt_iff_toInt_lt] at q43
    have : (36 : Int32).toInt = 36 := by decide
    have q44 : ¬ v2.toInt = (36 : Int32).toInt := fun q => hc17 (Int32.toInt_inj.mp q)
    omega
   ·
    show KEnds p e below s _ _ _ T14 (mkF m 61 #[.val (.int i0), .val (.int v1), .val (.int v2), .val (.int v4), .val (.int (0 : Int32)), .val (.int (1 : Int32))] [(.int (1 : Int32))])
    refine k_iload X14 hx (hb hby at_61) rfl (pc' := 63) rfl ?_
    refine k_icmp_ne X14 hx (hb hby at_63) (pn := 66) rfl (py := 70) (by decide) (fun hc => absurd (by decide) hc) (fun _ => ?_)
    refine k_iconst X14 hx (hb hby at_66) (pc' := 67) rfl (z := (1 : Int32)) rfl ?_
    refine k_goto X14 hx (hb hby at_67) (pc' := 71) (by decide) ?_
    exact k_retN X14 hx (t := .boolean) Bd.returns (by simp) (hb hby at_71) hlk (by decide) (by decide) (z' := (1 : Int32)) rfl ⟨rfl, N14'⟩
   ·
    show KEnds p e below s _ _ _ T14 (mkF m 61 #[.val (.int i0), .val (.int v1), .val (.int v2), .val (.int v4), .val (.int (0 : Int32)), .val (.int (1 : Int32))] [(.int (1 : Int32))])
    refine k_iload X14 hx (hb hby at_61) rfl (pc' := 63) rfl ?_
    refine k_icmp_ne X14 hx (hb hby at_63) (pn := 66) rfl (py := 70) (by decide) (fun hc => absurd (by decide) hc) (fun _ => ?_)
    refine k_iconst X14 hx (hb hby at_66) (pc' := 67) rfl (z := (1 : Int32)) rfl ?_
    refine k_goto X14 hx (hb hby at_67) (pc' := 71) (by decide) ?_
    exact k_retN X14 hx (t := .boolean) Bd.returns (by simp) (hb hby at_71) hlk (by decide) (by decide) (z' := (1 : Int32)) rfl ⟨rfl, N14'⟩
   ·
    show KEnds p e below s _ _ _ T14 (mkF m 61 #[.val (.int i0), .val (.int v1), .val (.int v2), .val (.int v4), .val (.int (0 : Int32)), .val (.int (1 : Int32))] [(.int (1 : Int32))])
    refine k_iload X14 hx (hb hby at_61) rfl (pc' := 63) rfl ?_
    refine k_icmp_ne X14 hx (hb hby at_63) (pn := 66) rfl (py := 70) (by decide) (fun hc => absurd (by decide) hc) (fun _ => ?_)
    refine k_iconst X14 hx (hb hby at_66) (pc' := 67) rfl (z := (1 : Int32)) rfl ?_
    refine k_goto X14 hx (hb hby at_67) (pc' := 71) (by decide) ?_
    exact k_retN X14 hx (t := .boolean) Bd.returns (by simp) (hb hby at_71) hlk (by decide) (by decide) (z' := (1 : Int32)) rfl ⟨rfl, N14'⟩
   ·
    show KEnds p e below s _ _ _ T14 (mkF m 61 #[.val (.int i0), .val (.int v1), .val (.int v2), .val (.int v4), .val (.int (0 : Int32)), .val (.int (1 : Int32))] [(.int (0 : Int32))])
    refine k_iload X14 hx (hb hby at_61) rfl (pc' := 63) rfl ?_
    refine k_icmp_ne X14 hx (hb hby at_63) (pn := 66) rfl (py := 70) (by decide) (fun _ => ?_) (fun hc => absurd hc (by decide))
    refine k_iconst X14 hx (hb hby at_70) (pc' := 71) rfl (z := (0 : Int32)) rfl ?_
    exfalso
    have := rng32 v4
    have := rng32 v3
    have := rng32 v1
    have := rng32 i0
    have : (65535 : Int32).toInt = 65535 := by decide
    have q45 : v1.toInt = i0.toInt % 65536 := by rw [hv1]; exact c_mask _ _ 16 (by decide) (by decide)
    have : (32 : Int32).toInt = 32 := by decide
    have q46 := own_or32 v1; rw [← hv3] at q46
    have : (97 : Int32).toInt = 97 := by decide
    have q47 : (v4.toInt - (v3.toInt - (97 : Int32).toInt)) % 4294967296 = 0 := by rw [hv4]; exact c_isub _ _
    have : (0 : Int32).toInt = 0 := by decide
    have q48 := hc5; rw [Int32.lt_iff_toInt_lt] at q48
    have : (95 : Int32).toInt = 95 := by decide
    have q49 := congrArg Int32.toInt hc6
    have := rng32 v2
    have q50 : (v2.toInt - v1.toInt) % 65536 = 0 ∧ 0 ≤ v2.toInt ∧ v2.toInt < 65536 := by rw [hv2]; exact c_i2c _
    have q51 := hc28; rw [Int32.lt_iff_toInt_lt] at q51
    have : (65 : Int32).toInt = 65 := by decide
    have q52 := hc29; rw [Int32.lt_iff_toInt_lt] at q52
    have : (90 : Int32).toInt = 90 := by decide
    have q53 := hc30; rw [Int32.lt_iff_toInt_lt] at q53
    have q54 : ¬ v2.toInt = (95 : Int32).toInt := fun q => hc31 (Int32.toInt_inj.mp q)
    omega
   ·
    show KEnds p e below s _ _ _ T14 (mkF m 61 #[.val (.int i0), .val (.int v1), .val (.int v2), .val (.int v4), .val (.int (0 : Int32)), .val (.int (1 : Int32))] [(.int (1 : Int32))])
    refine k_iload X14 hx (hb hby at_61) rfl (pc' := 63) rfl ?_
    refine k_icmp_ne X14 hx (hb hby at_63) (pn := 66) rfl (py := 70) (by decide) (fun hc => absurd (by decide) hc) (fun _ => ?_)
    refine k_iconst X14 hx (hb hby at_66) (pc' := 67) rfl (z := (1 : Int32)) rfl ?_
    refine k_goto X14 hx (hb hby at_67) (pc' := 71) (by decide) ?_
    exact k_retN X14 hx (t := .boolean) Bd.returns (by simp) (hb hby at_71) hlk (by decide) (by decide) (z' := (1 : Int32)) rfl ⟨rfl, N14'⟩
   ·
    show KEnds p e below s _ _ _ T14 (mkF m 61 #[.val (.int i0), .val (.int v1), .val (.int v2), .val (.int v4), .val (.int (0 : Int32)), .val (.int (1 : Int32))] [(.int (0 : Int32))])
    refine k_iload X14 hx (hb hby at_61) rfl (pc' := 63) rfl ?_
    refine k_icmp_ne X14 hx (hb hby at_63) (pn := 66) rfl (py := 70) (by decide) (fun _ => ?_) (fun hc => absurd hc (by decide))
    refine k_iconst X14 hx (hb hby at_70) (pc' := 71) rfl (z := (0 : Int32)) rfl ?_
    exfalso
    have := rng32 v4
    have := rng32 v3
    have := rng32 v1
    have := rng32 i0
    have : (65535 : Int32).toInt = 65535 := by decide
    have q55 : v1.toInt = i0.toInt % 65536 := by rw [hv1]; exact c_mask _ _ 16 (by decide) (by decide)
    have : (32 : Int32).toInt = 32 := by decide
    have q56 := own_or32 v1; rw [← hv3] at q56
    have : (97 : Int32).toInt = 97 := by decide
    have q57 : (v4.toInt - (v3.toInt - (97 : Int32).toInt)) % 4294967296 = 0 := by rw [hv4]; exact c_isub _ _
    have : (0 : Int32).toInt = 0 := by decide
    have q58 := hc5; rw [Int32.lt_iff_toInt_lt] at q58
    have : (95 : Int32).toInt = 95 := by decide
    have q59 := congrArg Int32.toInt hc6
    have := rng32 v2
    have q60 : (v2.toInt - v1.toInt) % 65536 = 0 ∧ 0 ≤ v2.toInt ∧ v2.toInt < 65536 := by rw [hv2]; exact c_i2c _
    have q61 := hc34; rw [Int32.lt_iff_toInt_lt] at q61
    have : (122 : Int32).toInt = 122 := by decide
    have q62 := hc35; rw [Int32.lt_iff_toInt_lt] at q62
    omega
  ·
   refine k_iloadN X0 hx (hb hby at_44) rfl (pc' := 45) rfl ?_
   refine k_bipush X0 hx (hb hby at_45) (pc' := 47) rfl (z := (36 : Int32)) rfl ?_
   refine k_icmp_ne X0 hx (hb hby at_47) (pn := 50) rfl (py := 54) (by decide) (fun hc63 => ?_) (fun hc63 => ?_)
   ·
    refine k_iconst X0 hx (hb hby at_54) (pc' := 55) rfl (z := (0 : Int32)) rfl ?_
    refine k_istore X0 hx (hb hby at_55) (Ls' := #[.val (.int i0), .val (.int v1), .val (.int v2), .val (.int v4), .val (.int (0 : Int32)), .val (.int (0 : Int32))]) rfl (pc' := 57) rfl ?_
    refine k_iloadN X0 hx (hb hby at_57) rfl (pc' := 58) rfl ?_
    refine k_callS X0 hx hZ hown (hw _ (List.mem_of_getElem? (i := 1) rfl)) (hw _ (List.mem_of_getElem? (i := 2) rfl)) (hw _ (List.mem_of_getElem? (i := 3) rfl)) (hw _ (List.mem_of_getElem? (i := 4) rfl)) (by decide) (rm1_7 l Z a0 hw [] v2 h0 n0 Z0 ) (by decide) (by decide) e0 (by rw [hml]; rfl) (argsL := [(.int v2)]) (rest := []) (lenOf pd_0 rfl) rfl (W := 0) (Nat.le_refl _) rfl (hb hby at_58) (by decide) (by decide) (pc' := 61) rfl (fun T64 L64 r64 X64 q64 => ?_)
    obtain ⟨N64, e64, q64⟩ := q64
    have N64' := Fr.app N0 N64
    rcases q64 with ⟨hc65, hc66, hc67, rfl⟩ | ⟨hc68, hc69, hc70, rfl⟩ | ⟨hc71, hc72, hc73, rfl⟩ | ⟨hc74, hc75, hc76, hc77, rfl⟩ | ⟨hc78, hc79, hc80, hc81, rfl⟩ | ⟨hc82, hc83, rfl⟩ | ⟨hc84, hc85, rfl⟩
    ·
     show KEnds p e below s _ _ _ T64 (mkF m 61 #[.val (.int i0), .val (.int v1), .val (.int v2), .val (.int v4), .val (.int (0 : Int32)), .val (.int (0 : Int32))] [(.int (0 : Int32))])
     refine k_iload X64 hx (hb hby at_61) rfl (pc' := 63) rfl ?_
     refine k_icmp_ne X64 hx (hb hby at_63) (pn := 66) rfl (py := 70) (by decide) (fun hc => absurd (by decide) hc) (fun _ => ?_)
     refine k_iconst X64 hx (hb hby at_66) (pc' := 67) rfl (z := (1 : Int32)) rfl ?_
     refine k_goto X64 hx (hb hby at_67) (pc' := 71) (by decide) ?_
     exact k_retN X64 hx (t := .boolean) Bd.returns (by simp) (hb hby at_71) hlk (by decide) (by decide) (z' := (1 : Int32)) rfl ⟨rfl, N64'⟩
    ·
     show KEnds p e below s _ _ _ T64 (mkF m 61 #[.val (.int i0), .val (.int v1), .val (.int v2), .val (.int v4), .val (.int (0 : Int32)), .val (.int (0 : Int32))] [(.int (1 : Int32))])
     refine k_iload X64 hx (hb hby at_61) rfl (pc' := 63) rfl ?_
     refine k_icmp_ne X64 hx (hb hby at_63) (pn := 66) rfl (py := 70) (by decide) (fun _ => ?_) (fun hc => absurd hc (by decide))
     refine k_iconst X64 hx (hb hby at_70) (pc' := 71) rfl (z := (0 : Int32)) rfl ?_
     exfalso
     have := rng32 v4
     have := rng32 v3
     have := rng32 v1
     have := rng32 i0
     have : (65535 : Int32).toInt = 65535 := by decide
     have q86 : v1.toInt = i0.toInt % 65536 := by rw [hv1]; exact c_mask _ _ 16 (by decide) (by decide)
     have : (32 : Int32).toInt = 32 := by decide
     have q87 := own_or32 v1; rw [← hv3] at q87
     have : (97 : Int32).toInt = 97 := by decide
     have q88 : (v4.toInt - (v3.toInt - (97 : Int32).toInt)) % 4294967296 = 0 := by rw [hv4]; exact c_isub _ _
     have : (0 : Int32).toInt = 0 := by decide
     have q89 := hc5; rw [Int32.lt_iff_toInt_lt] at q89
     have : (95 : Int32).toInt = 95 := by decide
     have q90 : ¬ v1.toInt = (95 : Int32).toInt := fun q => hc6 (Int32.toInt_inj.mp q)
     have : (36 : Int32).toInt = 36 := by decide
     have q91 : ¬ v1.toInt = (36 : Int32).toInt := fun q => hc63 (Int32.toInt_inj.mp q)
     have := rng32 v2
     have q92 : (v2.toInt - v1.toInt) % 65536 = 0 ∧ 0 ≤ v2.toInt ∧ v2.toInt < 65536 := by rw [hv2]; exact c_i2c _
     have q93 := hc68; rw [Int32.lt_iff_toInt_lt] at q93
     have : (65 : Int32).toInt = 65 := by decide
     have q94 := hc69; rw [Int32.lt_iff_toInt_lt] at q94
     have q95 := congrArg Int32.toInt hc70
     omega
    ·
     show KEnds p e below s _ _ _ T64 (mkF m 61 #[.val (.int i0), .val (.int v1), .val (.int v2), .val (.int v4), .val (.int (0 : Int32)), .val (.int (0 : Int32))] [(.int (1 : Int32))])
     refine k_iload X64 hx (hb hby at_61) rfl (pc' := 63) rfl ?_
     refine k_icmp_ne X64 hx (hb hby at_63) (pn := 66) rfl (py := 70) (by decide) (fun _ => ?_) (fun hc => absurd hc (by decide))
     refine k_iconst X64 hx (hb hby at_70) (pc' := 71) rfl (z := (0 : Int32)) rfl ?_
     exfalso
     have := rng32 v4
     have := rng32 v3
     have := rng32 v1
     have := rng32 i0
     have : (65535 : Int32).toInt = 65535 := by decide
     have q96 : v1.toInt = i0.toInt % 65536 := by rw [hv1]; exact c_mask _ _ 16 (by decide) (by decide)
     have : (32 : Int32).toInt = 32 := by decide
     have q97 := own_or32 v1; rw [← hv3] at q97
     have : (97 : Int32).toInt = 97 := by decide
     have q98 : (v4.toInt - (v3.toInt - (97 : Int32).toInt)) % 4294967296 = 0 := by rw [hv4]; exact c_isub _ _
     have : (0 : Int32).toInt = 0 := by decide
     have q99 := hc5; rw [Int32.lt_iff_toInt_lt] at q99
     have : (95 : Int32).toInt = 95 := by decide
     have q100 : ¬ v1.toInt = (95 : Int32).toInt := fun q => hc6 (Int32.toInt_inj.mp q)
     have : (36 : Int32).toInt = 36 := by decide
     have q101 : ¬ v1.toInt = (36 : Int32).toInt := fun q => hc63 (Int32.toInt_inj.mp q)
     have := rng32 v2
     have q102 : (v2.toInt - v1.toInt) % 65536 = 0 ∧ 0 ≤ v2.toInt ∧ v2.toInt < 65536 := by rw [hv2]; exact c_i2c _
     have q103 := hc71; rw [Int32.lt_iff_toInt_lt] at q103
     have : (65 : Int32).toInt = 65 := by decide
     have q104 := hc72; rw [Int32.lt_iff_toInt_lt] at q104
     have : (90 : Int32).toInt = 90 := by decide
     have q105 := hc73; rw [Int32.lt_iff_toInt_lt] at q105
     omega
    ·
     show KEnds p e below s _ _ _ T64 (mkF m 61 #[.val (.int i0), .val (.int v1), .val (.int v2), .val (.int v4), .val (.int (0 : Int32)), .val (.int (0 : Int32))] [(.int (1 : Int32))])
     refine k_iload X64 hx (hb hby at_61) rfl (pc' := 63) rfl ?_
     refine k_icmp_ne X64 hx (hb hby at_63) (pn := 66) rfl (py := 70) (by decide) (fun _ => ?_) (fun hc => absurd hc (by decide))
     refine k_iconst X64 hx (hb hby at_70) (pc' := 71) rfl (z := (0 : Int32)) rfl ?_
     exfalso
     have := rng32 v4
     have := rng32 v3
     have := rng32 v1
     have := rng32 i0
     have : (65535 : Int32).toInt = 65535 := by decide
     have q106 : v1.toInt = i0.toInt % 65536 := by rw [hv1]; exact c_mask _ _ 16 (by decide) (by decide)
     have : (32 : Int32).toInt = 32 := by decide
     have q107 := own_or32 v1; rw [← hv3] at q107
     have : (97 : Int32).toInt = 97 := by decide
     have q108 : (v4.toInt - (v3.toInt - (97 : Int32).toInt)) % 4294967296 = 0 := by rw [hv4]; exact c_isub _ _
     have : (0 : Int32).toInt = 0 := by decide
     have q109 := hc5; rw [Int32.lt_iff_toInt_lt] at q109
     have : (95 : Int32).toInt = 95 := by decide
     have q110 : ¬ v1.toInt = (95 : Int32).toInt := fun q => hc6 (Int32.toInt_inj.mp q)
     have : (36 : Int32).toInt = 36 := by decide
     have q111 : ¬ v1.toInt = (36 : Int32).toInt := fun q => hc63 (Int32.toInt_inj.mp q)
     have := rng32 v2
     have q112 : (v2.toInt - v1.toInt) % 65536 = 0 ∧ 0 ≤ v2.toInt ∧ v2.toInt < 65536 := by rw [hv2]; exact c_i2c _
     have q113 := hc74; rw [Int32.lt_iff_toInt_lt] at q113
     have : (65 : Int32).toInt = 65 := by decide
     have q114 := hc75; rw [Int32.lt_iff_toInt_lt] at q114
     have : (90 : Int32).toInt = 90 := by decide
     have q115 := hc76; rw [Int32.lt_iff_toInt_lt] at q115
     have q116 := congrArg Int32.toInt hc77
     omega
    ·
     show KEnds p e below s _ _ _ T64 (mkF m 61 #[.val (.int i0), .val (.int v1), .val (.int v2), .val (.int v4), .val (.int (0 : Int32)), .val (.int (0 : Int32))] [(.int (0 : Int32))])
     refine k_iload X64 hx (hb hby at_61) rfl (pc' := 63) rfl ?_
     refine k_icmp_ne X64 hx (hb hby at_63) (pn := 66) rfl (py := 70) (by decide) (fun hc => absurd (by decide) hc) (fun _ => ?_)
     refine k_iconst X64 hx (hb hby at_66) (pc' := 67) rfl (z := (1 : Int32)) rfl ?_
     refine k_goto X64 hx (hb hby at_67) (pc' := 71) (by decide) ?_
     exact k_retN X64 hx (t := .boolean) Bd.returns (by simp) (hb hby at_71) hlk (by decide) (by decide) (z' := (1 : Int32)) rfl ⟨rfl, N64'⟩
    ·
     show KEnds p e below s _ _ _ T64 (mkF m 61 #[.val (.int i0), .val (.int v1), .val (.int v2), .val (.int v4), .val (.int (0 : Int32)), .val (.int (0 : Int32))] [(.int (1 : Int32))])
     refine k_iload X64 hx (hb hby at_61) rfl (pc' := 63) rfl ?_
     refine k_icmp_ne X64 hx (hb hby at_63) (pn := 66) rfl (py := 70) (by decide) (fun _ => ?_) (fun hc => absurd hc (by decide))
     refine k_iconst X64 hx (hb hby at_70) (pc' := 71) rfl (z := (0 : Int32)) rfl ?_
     exfalso
     have := rng32 v4
     have := rng32 v3
     have := rng32 v1
     have := rng32 i0
     have : (65535 : Int32).toInt = 65535 := by decide
     have q117 : v1.toInt = i0.toInt % 65536 := by rw [hv1]; exact c_mask _ _ 16 (by decide) (by decide)
     have : (32 : Int32).toInt = 32 := by decide
     have q118 := own_or32 v1; rw [← hv3] at q118
     have : (97 : Int32).toInt = 97 := by decide
     have q119 : (v4.toInt - (v3.toInt - (97 : Int32).toInt)) % 4294967296 = 0 := by rw [hv4]; exact c_isub _ _
     have : (0 : Int32).toInt = 0 := by decide
     have q120 := hc5; rw [Int32.lt_iff_toInt_lt] at q120
     have : (95 : Int32).toInt = 95 := by decide
     have q121 : ¬ v1.toInt = (95 : Int32).toInt := fun q => hc6 (Int32.toInt_inj.mp q)
     have : (36 : Int32).toInt = 36 := by decide
     have q122 : ¬ v1.toInt = (36 : Int32).toInt := fun q => hc63 (Int32.toInt_inj.mp q)
     have := rng32 v2
     have q123 : (v2.toInt - v1.toInt) % 65536 = 0 ∧ 0 ≤ v2.toInt ∧ v2.toInt < 65536 := by rw [hv2]; exact c_i2c _
     have q124 := hc82; rw [Int32.lt_iff_toInt_lt] at q124
     have : (122 : Int32).toInt = 122 := by decide
     have q125 := hc83; rw [Int32.lt_iff_toInt_lt] at q125
     omega
    ·
     show KEnds p e below s _ _ _ T64 (mkF m 61 #[.val (.int i0), .val (.int v1), .val (.int v2), .val (.int v4), .val (.int (0 : Int32)), .val (.int (0 : Int32))] [(.int (0 : Int32))])
     refine k_iload X64 hx (hb hby at_61) rfl (pc' := 63) rfl ?_
     refine k_icmp_ne X64 hx (hb hby at_63) (pn := 66) rfl (py := 70) (by decide) (fun hc => absurd (by decide) hc) (fun _ => ?_)
     refine k_iconst X64 hx (hb hby at_66) (pc' := 67) rfl (z := (1 : Int32)) rfl ?_
     refine k_goto X64 hx (hb hby at_67) (pc' := 71) (by decide) ?_
     exact k_retN X64 hx (t := .boolean) Bd.returns (by simp) (hb hby at_71) hlk (by decide) (by decide) (z' := (1 : Int32)) rfl ⟨rfl, N64'⟩
   ·
    refine k_iconst X0 hx (hb hby at_50) (pc' := 51) rfl (z := (1 : Int32)) rfl ?_
    refine k_goto X0 hx (hb hby at_51) (pc' := 55) (by decide) ?_
    refine k_istore X0 hx (hb hby at_55) (Ls' := #[.val (.int i0), .val (.int v1), .val (.int v2), .val (.int v4), .val (.int (0 : Int32)), .val (.int (1 : Int32))]) rfl (pc' := 57) rfl ?_
    refine k_iloadN X0 hx (hb hby at_57) rfl (pc' := 58) rfl ?_
    refine k_callS X0 hx hZ hown (hw _ (List.mem_of_getElem? (i := 1) rfl)) (hw _ (List.mem_of_getElem? (i := 2) rfl)) (hw _ (List.mem_of_getElem? (i := 3) rfl)) (hw _ (List.mem_of_getElem? (i := 4) rfl)) (by decide) (rm1_7 l Z a0 hw [] v2 h0 n0 Z0 ) (by decide) (by decide) e0 (by rw [hml]; rfl) (argsL := [(.int v2)]) (rest := []) (lenOf pd_0 rfl) rfl (W := 0) (Nat.le_refl _) rfl (hb hby at_58) (by decide) (by decide) (pc' := 61) rfl (fun T126 L126 r126 X126 q126 => ?_)
    obtain ⟨N126, e126, q126⟩ := q126
    have N126' := Fr.app N0 N126
    rcases q126 with ⟨hc127, hc128, hc129, rfl⟩ | ⟨hc130, hc131, hc132, rfl⟩ | ⟨hc133, hc134, hc135, rfl⟩ | ⟨hc136, hc137, hc138, hc139, rfl⟩ | ⟨hc140, hc141, hc142, hc143, rfl⟩ | ⟨hc144, hc145, rfl⟩ | ⟨hc146, hc147, rfl⟩
    ·
     show KEnds p e below s _ _ _ T126 (mkF m 61 #[.val (.int i0), .val (.int v1), .val (.int v2), .val (.int v4), .val (.int (0 : Int32)), .val (.int (1 : Int32))] [(.int (0 : Int32))])
     refine k_iload X126 hx (hb hby at_61) rfl (pc' := 63) rfl ?_
     refine k_icmp_ne X126 hx (hb hby at_63) (pn := 66) rfl (py := 70) (by decide) (fun _ => ?_) (fun hc => absurd hc (by decide))
     refine k_iconst X126 hx (hb hby at_70) (pc' := 71) rfl (z := (0 : Int32)) rfl ?_
     exfalso
     have := rng32 v4
     have := rng32 v3
     have := rng32 v1
     have := rng32 i0
     have : (65535 : Int32).toInt = 65535 := by decide
     have q148 : v1.toInt = i0.toInt % 65536 := by rw [hv1]; exact c_mask _ _ 16 (by decide) (by decide)
     have : (32 : Int32).toInt = 32 := by decide
     have q149 := own_or32 v1; rw [← hv3] at q149
     have : (97 : Int32).toInt = 97 := by decide
     have q150 : (v4.toInt - (v3.toInt - (97 : Int32).toInt)) % 4294967296 = 0 := by rw [hv4]; exact c_isub _ _
     have : (0 : Int32).toInt = 0 := by decide
     have q151 := hc5; rw [Int32.lt_iff_toInt_lt] at q151
     have : (95 : Int32).toInt = 95 := by decide
     have q152 : ¬ v1.toInt = (95 : Int32).toInt := fun q => hc6 (Int32.toInt_inj.mp q)
     have : (36 : Int32).toInt = 36 := by decide
     have q153 := congrArg Int32.toInt hc63
     have := rng32 v2
     have q154 : (v2.toInt - v1.toInt) % 65536 = 0 ∧ 0 ≤ v2.toInt ∧ v2.toInt < 65536 := by rw [hv2]; exact c_i2c _
     have q155 := hc127; rw [Int32.lt_iff_toInt_lt] at q155
     have : (65 : Int32).toInt = 65 := by decide
     have q156 := hc128; rw [Int32.lt_iff_toInt_lt] at q156
     have q157 : ¬ v2.toInt = (36 : Int32).toInt := fun q => hc129 (Int32.toInt_inj.mp q)
     omega
    ·
     show KEnds p e below s _ _ _ T126 (mkF m 61 #[.val (.int i0), .val (.int v1), .val (.int v2), .val (.int v4), .val (.int (0 : Int32)), .val (.int (1 : Int32))] [(.int (1 : Int32))])
     refine k_iload X126 hx (hb hby at_61) rfl (pc' := 63) rfl ?_
     refine k_icmp_ne X126 hx (hb hby at_63) (pn := 66) rfl (py := 70) (by decide) (fun hc => absurd (by decide) hc) (fun _ => ?_)
     refine k_iconst X126 hx (hb hby at_66) (pc' := 67) rfl (z := (1 : Int32)) rfl ?_
     refine k_goto X126 hx (hb hby at_67) (pc' := 71) (by decide) ?_
     exact k_retN X126 hx (t := .boolean) Bd.returns (by simp) (hb hby at_71) hlk (by decide) (by decide) (z' := (1 : Int32)) rfl ⟨rfl, N126'⟩
    ·
     show KEnds p e below s _ _ _ T126 (mkF m 61 #[.val (.int i0), .val (.int v1), .val (.int v2), .val (.int v4), .val (.int (0 : Int32)), .val (.int (1 : Int32))] [(.int (1 : Int32))])
     refine k_iload X126 hx (hb hby at_61) rfl (pc' := 63) rfl ?_
     refine k_icmp_ne X126 hx (hb hby at_63) (pn := 66) rfl (py := 70) (by decide) (fun hc => absurd (by decide) hc) (fun _ => ?_)
     refine k_iconst X126 hx (hb hby at_66) (pc' := 67) rfl (z := (1 : Int32)) rfl ?_
     refine k_goto X126 hx (hb hby at_67) (pc' := 71) (by decide) ?_
     exact k_retN X126 hx (t := .boolean) Bd.returns (by simp) (hb hby at_71) hlk (by decide) (by decide) (z' := (1 : Int32)) rfl ⟨rfl, N126'⟩
    ·
     show KEnds p e below s _ _ _ T126 (mkF m 61 #[.val (.int i0), .val (.int v1), .val (.int v2), .val (.int v4), .val (.int (0 : Int32)), .val (.int (1 : Int32))] [(.int (1 : Int32))])
     refine k_iload X126 hx (hb hby at_61) rfl (pc' := 63) rfl ?_
     refine k_icmp_ne X126 hx (hb hby at_63) (pn := 66) rfl (py := 70) (by decide) (fun hc => absurd (by decide) hc) (fun _ => ?_)
     refine k_iconst X126 hx (hb hby at_66) (pc' := 67) rfl (z := (1 : Int32)) rfl ?_
     refine k_goto X126 hx (hb hby at_67) (pc' := 71) (by decide) ?_
     exact k_retN X126 hx (t := .boolean) Bd.returns (by simp) (hb hby at_71) hlk (by decide) (by decide) (z' := (1 : Int32)) rfl ⟨rfl, N126'⟩
    ·
     show KEnds p e below s _ _ _ T126 (mkF m 61 #[.val (.int i0), .val (.int v1), .val (.int v2), .val (.int v4), .val (.int (0 : Int32)), .val (.int (1 : Int32))] [(.int (0 : Int32))])
     refine k_iload X126 hx (hb hby at_61) rfl (pc' := 63) rfl ?_
     refine k_icmp_ne X126 hx (hb hby at_63) (pn := 66) rfl (py := 70) (by decide) (fun _ => ?_) (fun hc => absurd hc (by decide))
     refine k_iconst X126 hx (hb hby at_70) (pc' := 71) rfl (z := (0 : Int32)) rfl ?_
     exfalso
     have := rng32 v4
     have := rng32 v3
     have := rng32 v1
     have := rng32 i0
     have : (65535 : Int32).toInt = 65535 := by decide
     have q158 : v1.toInt = i0.toInt % 65536 := by rw [hv1]; exact c_mask _ _ 16 (by decide) (by decide)
     have : (32 : Int32).toInt = 32 := by decide
     have q159 := own_or32 v1; rw [← hv3] at q159
     have : (97 : Int32).toInt = 97 := by decide
     have q160 : (v4.toInt - (v3.toInt - (97 : Int32).toInt)) % 4294967296 = 0 := by rw [hv4]; exact c_isub _ _
     have : (0 : Int32).toInt = 0 := by decide
     have q161 := hc5; rw [Int32.lt_iff_toInt_lt] at q161
     have : (95 : Int32).toInt = 95 := by decide
     have q162 : ¬ v1.toInt = (95 : Int32).toInt := fun q => hc6 (Int32.toInt_inj.mp q)
     have : (36 : Int32).toInt = 36 := by decide
     have q163 := congrArg Int32.toInt hc63
     have := rng32 v2
     have q164 : (v2.toInt - v1.toInt) % 65536 = 0 ∧ 0 ≤ v2.toInt ∧ v2.toInt < 65536 := by rw [hv2]; exact c_i2c _
     have q165 := hc140; rw [Int32.lt_iff_toInt_lt] at q165
     have : (65 : Int32).toInt = 65 := by decide
     have q166 := hc141; rw [Int32.lt_iff_toInt_lt] at q166
     have : (90 : Int32).toInt = 90 := by decide
     have q167 := hc142; rw [Int32.lt_iff_toInt_lt] at q167
     have q168 : ¬ v2.toInt = (95 : Int32).toInt := fun q => hc143 (Int32.toInt_inj.mp q)
     omega
    ·
     show KEnds p e below s _ _ _ T126 (mkF m 61 #[.val (.int i0), .val (.int v1), .val (.int v2), .val (.int v4), .val (.int (0 : Int32)), .val (.int (1 : Int32))] [(.int (1 : Int32))])
     refine k_iload X126 hx (hb hby at_61) rfl (pc' := 63) rfl ?_
     refine k_icmp_ne X126 hx (hb hby at_63) (pn := 66) rfl (py := 70) (by decide) (fun hc => absurd (by decide) hc) (fun _ => ?_)
     refine k_iconst X126 hx (hb hby at_66) (pc' := 67) rfl (z := (1 : Int32)) rfl ?_
     refine k_goto X126 hx (hb hby at_67) (pc' := 71) (by decide) ?_
     exact k_retN X126 hx (t := .boolean) Bd.returns (by simp) (hb hby at_71) hlk (by decide) (by decide) (z' := (1 : Int32)) rfl ⟨rfl, N126'⟩
    ·
     show KEnds p e below s _ _ _ T126 (mkF m 61 #[.val (.int i0), .val (.int v1), .val (.int v2), .val (.int v4), .val (.int (0 : Int32)), .val (.int (1 : Int32))] [(.int (0 : Int32))])
     refine k_iload X126 hx (hb hby at_61) rfl (pc' := 63) rfl ?_
     refine k_icmp_ne X126 hx (hb hby at_63) (pn := 66) rfl (py := 70) (by decide) (fun _ => ?_) (fun hc => absurd hc (by decide))
     refine k_iconst X126 hx (hb hby at_70) (pc' := 71) rfl (z := (0 : Int32)) rfl ?_
     exfalso
     have := rng32 v4
     have := rng32 v3
     have := rng32 v1
     have := rng32 i0
     have : (65535 : Int32).toInt = 65535 := by decide
     have q169 : v1.toInt = i0.toInt % 65536 := by rw [hv1]; exact c_mask _ _ 16 (by decide) (by decide)
     have : (32 : Int32).toInt = 32 := by decide
     have q170 := own_or32 v1; rw [← hv3] at q170
     have : (97 : Int32).toInt = 97 := by decide
     have q171 : (v4.toInt - (v3.toInt - (97 : Int32).toInt)) % 4294967296 = 0 := by rw [hv4]; exact c_isub _ _
     have : (0 : Int32).toInt = 0 := by decide
     have q172 := hc5; rw [Int32.lt_iff_toInt_lt] at q172
     have : (95 : Int32).toInt = 95 := by decide
     have q173 : ¬ v1.toInt = (95 : Int32).toInt := fun q => hc6 (Int32.toInt_inj.mp q)
     have : (36 : Int32).toInt = 36 := by decide
     have q174 := congrArg Int32.toInt hc63
     have := rng32 v2
     have q175 : (v2.toInt - v1.toInt) % 65536 = 0 ∧ 0 ≤ v2.toInt ∧ v2.toInt < 65536 := by rw [hv2]; exact c_i2c _
     have q176 := hc146; rw [Int32.lt_iff_toInt_lt] at q176
     have : (122 : Int32).toInt = 122 := by decide
     have q177 := hc147; rw [Int32.lt_iff_toInt_lt] at q177
     omega
 ·
  refine k_iloadN X0 hx (hb hby at_20) rfl (pc' := 21) rfl ?_
  refine k_bipush X0 hx (hb hby at_21) (pc' := 23) rfl (z := (26 : Int32)) rfl ?_
  refine k_icmp_ge X0 hx (hb hby at_23) (pn := 26) rfl (py := 30) (by decide) (fun hc178 => ?_) (fun hc178 => ?_)
  ·
   refine k_iconst X0 hx (hb hby at_30) (pc' := 31) rfl (z := (0 : Int32)) rfl ?_
   refine k_istore X0 hx (hb hby at_31) (Ls' := #[.val (.int i0), .val (.int v1), .val (.int v2), .val (.int v4), .val (.int (0 : Int32)), .unset]) rfl (pc' := 33) rfl ?_
   refine k_iload X0 hx (hb hby at_33) rfl (pc' := 35) rfl ?_
   refine k_if_ne X0 hx (hb hby at_35) (pn := 38) rfl (py := 50) (by decide) (fun hc => absurd (by decide) hc) (fun _ => ?_)
   refine k_iloadN X0 hx (hb hby at_38) rfl (pc' := 39) rfl ?_
   refine k_bipush X0 hx (hb hby at_39) (pc' := 41) rfl (z := (95 : Int32)) rfl ?_
   refine k_icmp_eq X0 hx (hb hby at_41) (pn := 44) rfl (py := 50) (by decide) (fun hc179 => ?_) (fun hc179 => ?_)
   ·
    refine k_iconst X0 hx (hb hby at_50) (pc' := 51) rfl (z := (1 : Int32)) rfl ?_
    refine k_goto X0 hx (hb hby at_51) (pc' := 55) (by decide) ?_
    refine k_istore X0 hx (hb hby at_55) (Ls' := #[.val (.int i0), .val (.int v1), .val (.int v2), .val (.int v4), .val (.int (0 : Int32)), .val (.int (1 : Int32))]) rfl (pc' := 57) rfl ?_
    refine k_iloadN X0 hx (hb hby at_57) rfl (pc' := 58) rfl ?_
    refine k_callS X0 hx hZ hown (hw _ (List.mem_of_getElem? (i := 1) rfl)) (hw _ (List.mem_of_getElem? (i := 2) rfl)) (hw _ (List.mem_of_getElem? (i := 3) rfl)) (hw _ (List.mem_of_getElem? (i := 4) rfl)) (by decide) (rm1_7 l Z a0 hw [] v2 h0 n0 Z0 ) (by decide) (by decide) e0 (by rw [hml]; rfl) (argsL := [(.int v2)]) (rest := []) (lenOf pd_0 rfl) rfl (W := 0) (Nat.le_refl _) rfl (hb hby at_58) (by decide) (by decide) (pc' := 61) rfl (fun T180 L180 r180 X180 q180 => ?_)
    obtain ⟨N180, e180, q180⟩ := q180
    have N180' := Fr.app N0 N180
    rcases q180 with ⟨hc181, hc182, hc183, rfl⟩ | ⟨hc184, hc185, hc186, rfl⟩ | ⟨hc187, hc188, hc189, rfl⟩ | ⟨hc190, hc191, hc192, hc193, rfl⟩ | ⟨hc194, hc195, hc196, hc197, rfl⟩ | ⟨hc198, hc199, rfl⟩ | ⟨hc200, hc201, rfl⟩
    ·
     show KEnds p e below s _ _ _ T180 (mkF m 61 #[.val (.int i0), .val (.int v1), .val (.int v2), .val (.int v4), .val (.int (0 : Int32)), .val (.int (1 : Int32))] [(.int (0 : Int32))])
     refine k_iload X180 hx (hb hby at_61) rfl (pc' := 63) rfl ?_
     refine k_icmp_ne X180 hx (hb hby at_63) (pn := 66) rfl (py := 70) (by decide) (fun _ => ?_) (fun hc => absurd hc (by decide))
     refine k_iconst X180 hx (hb hby at_70) (pc' := 71) rfl (z := (0 : Int32)) rfl ?_
     exfalso
     have := rng32 v4
     have := rng32 v3
     have := rng32 v1
     have := rng32 i0
     have : (65535 : Int32).toInt = 65535 := by decide
     have q202 : v1.toInt = i0.toInt % 65536 := by rw [hv1]; exact c_mask _ _ 16 (by decide) (by decide)
     have : (32 : Int32).toInt = 32 := by decide
     have q203 := own_or32 v1; rw [← hv3] at q203
     have : (97 : Int32).toInt = 97 := by decide
     have q204 : (v4.toInt - (v3.toInt - (97 : Int32).toInt)) % 4294967296 = 0 := by rw [hv4]; exact c_isub _ _
     have : (0 : Int32).toInt = 0 := by decide
     have q205 := hc5; rw [Int32.lt_iff_toInt_lt] at q205
     have : (26 : Int32).toInt = 26 := by decide
     have q206 := hc178; rw [Int32.lt_iff_toInt_lt] at q206
     have : (95 : Int32).toInt = 95 := by decide
     have q207 := congrArg Int32.toInt hc179
     have := rng32 v2
     have q208 : (v2.toInt - v1.toInt) % 65536 = 0 ∧ 0 ≤ v2.toInt ∧ v2.toInt < 65536 := by rw [hv2]; exact c_i2c _
     have q209 := hc181; rw [Int32.lt_iff_toInt_lt] at q209
     have : (65 : Int32).toInt = 65 := by decide
     have q210 := hc182; rw [Int32.lt_iff_toInt_lt] at q210
     have : (36 : Int32).toInt = 36 := by decide
     have q211 : ¬ v2.toInt = (36 : Int32).toInt := fun q => hc183 (Int32.toInt_inj.mp q)
     omega
    ·
     show KEnds p e below s _ _ _ T180 (mkF m 61 #[.val (.int i0), .val (.int v1), .val (.int v2), .val (.int v4), .val (.int (0 : Int32)), .val (.int (1 : Int32))] [(.int (1 : Int32))])
     refine k_iload X180 hx (hb hby at_61) rfl (pc' := 63) rfl ?_
     refine k_icmp_ne X180 hx (hb hby at_63) (pn := 66) rfl (py := 70) (by decide) (fun hc => absurd (by decide) hc) (fun _ => ?_)
     refine k_iconst X180 hx (hb hby at_66) (pc' := 67) rfl (z := (1 : Int32)) rfl ?_
     refine k_goto X180 hx (hb hby at_67) (pc' := 71) (by decide) ?_
     exact k_retN X180 hx (t := .boolean) Bd.returns (by simp) (hb hby at_71) hlk (by decide) (by decide) (z' := (1 : Int32)) rfl ⟨rfl, N180'⟩
    ·
     show KEnds p e below s _ _ _ T180 (mkF m 61 #[.val (.int i0), .val (.int v1), .val (.int v2), .val (.int v4), .val (.int (0 : Int32)), .val (.int (1 : Int32))] [(.int (1 : Int32))])
     refine k_iload X180 hx (hb hby at_61) rfl (pc' := 63) rfl ?_
     refine k_icmp_ne X180 hx (hb hby at_63) (pn := 66) rfl (py := 70) (by decide) (fun hc => absurd (by decide) hc) (fun _ => ?_)
     refine k_iconst X180 hx (hb hby at_66) (pc' := 67) rfl (z := (1 : Int32)) rfl ?_
     refine k_goto X180 hx (hb hby at_67) (pc' := 71) (by decide) ?_
     exact k_retN X180 hx (t := .boolean) Bd.returns (by simp) (hb hby at_71) hlk (by decide) (by decide) (z' := (1 : Int32)) rfl ⟨rfl, N180'⟩
    ·
     show KEnds p e below s _ _ _ T180 (mkF m 61 #[.val (.int i0), .val (.int v1), .val (.int v2), .val (.int v4), .val (.int (0 : Int32)), .val (.int (1 : Int32))] [(.int (1 : Int32))])
     refine k_iload X180 hx (hb hby at_61) rfl (pc' := 63) rfl ?_
     refine k_icmp_ne X180 hx (hb hby at_63) (pn := 66) rfl (py := 70) (by decide) (fun hc => absurd (by decide) hc) (fun _ => ?_)
     refine k_iconst X180 hx (hb hby at_66) (pc' := 67) rfl (z := (1 : Int32)) rfl ?_
     refine k_goto X180 hx (hb hby at_67) (pc' := 71) (by decide) ?_
     exact k_retN X180 hx (t := .boolean) Bd.returns (by simp) (hb hby at_71) hlk (by decide) (by decide) (z' := (1 : Int32)) rfl ⟨rfl, N180'⟩
    ·
     show KEnds p e below s _ _ _ T180 (mkF m 61 #[.val (.int i0), .val (.int v1), .val (.int v2), .val (.int v4), .val (.int (0 : Int32)), .val (.int (1 : Int32))] [(.int (0 : Int32))])
     refine k_iload X180 hx (hb hby at_61) rfl (pc' := 63) rfl ?_
     refine k_icmp_ne X180 hx (hb hby at_63) (pn := 66) rfl (py := 70) (by decide) (fun _ => ?_) (fun hc => absurd hc (by decide))
     refine k_iconst X180 hx (hb hby at_70) (pc' := 71) rfl (z := (0 : Int32)) rfl ?_
     exfalso
     have := rng32 v4
     have := rng32 v3
     have := rng32 v1
     have := rng32 i0
     have : (65535 : Int32).toInt = 65535 := by decide
     have q212 : v1.toInt = i0.toInt % 65536 := by rw [hv1]; exact c_mask _ _ 16 (by decide) (by decide)
     have : (32 : Int32).toInt = 32 := by decide
     have q213 := own_or32 v1; rw [← hv3] at q213
     have : (97 : Int32).toInt = 97 := by decide
     have q214 : (v4.toInt - (v3.toInt - (97 : Int32).toInt)) % 4294967296 = 0 := by rw [hv4]; exact c_isub _ _
     have : (0 : Int32).toInt = 0 := by decide
     have q215 := hc5; rw [Int32.lt_iff_toInt_lt] at q215
     have : (26 : Int32).toInt = 26 := by decide
     have q216 := hc178; rw [Int32.lt_iff_toInt_lt] at q216
     have : (95 : Int32).toInt = 95 := by decide
     have q217 := congrArg Int32.toInt hc179
     have := rng32 v2
     have q218 : (v2.toInt - v1.toInt) % 65536 = 0 ∧ 0 ≤ v2.toInt ∧ v2.toInt < 65536 := by rw [hv2]; exact c_i2c _
     have q219 := hc194; rw [Int32.lt_iff_toInt_lt] at q219
     have : (65 : Int32).toInt = 65 := by decide
     have q220 := hc195; rw [Int32.lt_iff_toInt_lt] at q220
     have : (90 : Int32).toInt = 90 := by decide
     have q221 := hc196; rw [Int32.lt_iff_toInt_lt] at q221
     have q222 : ¬ v2.toInt = (95 : Int32).toInt := fun q => hc197 (Int32.toInt_inj.mp q)
     omega
    ·
     show KEnds p e below s _ _ _ T180 (mkF m 61 #[.val (.int i0), .val (.int v1), .val (.int v2), .val (.int v4), .val (.int (0 : Int32)), .val (.int (1 : Int32))] [(.int (1 : Int32))])
     refine k_iload X180 hx (hb hby at_61) rfl (pc' := 63) rfl ?_
     refine k_icmp_ne X180 hx (hb hby at_63) (pn := 66) rfl (py := 70) (by decide) (fun hc => absurd (by decide) hc) (fun _ => ?_)
     refine k_iconst X180 hx (hb hby at_66) (pc' := 67) rfl (z := (1 : Int32)) rfl ?_
     refine k_goto X180 hx (hb hby at_67) (pc' := 71) (by decide) ?_
     exact k_retN X180 hx (t := .boolean) Bd.returns (by simp) (hb hby at_71) hlk (by decide) (by decide) (z' := (1 : Int32)) rfl ⟨rfl, N180'⟩
    ·
     show KEnds p e below s _ _ _ T180 (mkF m 61 #[.val (.int i0), .val (.int v1), .val (.int v2), .val (.int v4), .val (.int (0 : Int32)), .val (.int (1 : Int32))] [(.int (0 : Int32))])
     refine k_iload X180 hx (hb hby at_61) rfl (pc' := 63) rfl ?_
     refine k_icmp_ne X180 hx (hb hby at_63) (pn := 66) rfl (py := 70) (by decide) (fun _ => ?_) (fun hc => absurd hc (by decide))
     refine k_iconst X180 hx (hb hby at_70) (pc' := 71) rfl (z := (0 : Int32)) rfl ?_
     exfalso
     have := rng32 v4
     have := rng32 v3
     have := rng32 v1
     have := rng32 i0
     have : (65535 : Int32).toInt = 65535 := by decide
     have q223 : v1.toInt = i0.toInt % 65536 := by rw [hv1]; exact c_mask _ _ 16 (by decide) (by decide)
     have : (32 : Int32).toInt = 32 := by decide
     have q224 := own_or32 v1; rw [← hv3] at q224
     have : (97 : Int32).toInt = 97 := by decide
     have q225 : (v4.toInt - (v3.toInt - (97 : Int32).toInt)) % 4294967296 = 0 := by rw [hv4]; exact c_isub _ _
     have : (0 : Int32).toInt = 0 := by decide
     have q226 := hc5; rw [Int32.lt_iff_toInt_lt] at q226
     have : (26 : Int32).toInt = 26 := by decide
     have q227 := hc178; rw [Int32.lt_iff_toInt_lt] at q227
     have : (95 : Int32).toInt = 95 := by decide
     have q228 := congrArg Int32.toInt hc179
     have := rng32 v2
     have q229 : (v2.toInt - v1.toInt) % 65536 = 0 ∧ 0 ≤ v2.toInt ∧ v2.toInt < 65536 := by rw [hv2]; exact c_i2c _
     have q230 := hc200; rw [Int32.lt_iff_toInt_lt] at q230
     have : (122 : Int32).toInt = 122 := by decide
     have q231 := hc201; rw [Int32.lt_iff_toInt_lt] at q231
     omega
   ·
    refine k_iloadN X0 hx (hb hby at_44) rfl (pc' := 45) rfl ?_
    refine k_bipush X0 hx (hb hby at_45) (pc' := 47) rfl (z := (36 : Int32)) rfl ?_
    refine k_icmp_ne X0 hx (hb hby at_47) (pn := 50) rfl (py := 54) (by decide) (fun hc232 => ?_) (fun hc232 => ?_)
    ·
     refine k_iconst X0 hx (hb hby at_54) (pc' := 55) rfl (z := (0 : Int32)) rfl ?_
     refine k_istore X0 hx (hb hby at_55) (Ls' := #[.val (.int i0), .val (.int v1), .val (.int v2), .val (.int v4), .val (.int (0 : Int32)), .val (.int (0 : Int32))]) rfl (pc' := 57) rfl ?_
     refine k_iloadN X0 hx (hb hby at_57) rfl (pc' := 58) rfl ?_
     refine k_callS X0 hx hZ hown (hw _ (List.mem_of_getElem? (i := 1) rfl)) (hw _ (List.mem_of_getElem? (i := 2) rfl)) (hw _ (List.mem_of_getElem? (i := 3) rfl)) (hw _ (List.mem_of_getElem? (i := 4) rfl)) (by decide) (rm1_7 l Z a0 hw [] v2 h0 n0 Z0 ) (by decide) (by decide) e0 (by rw [hml]; rfl) (argsL := [(.int v2)]) (rest := []) (lenOf pd_0 rfl) rfl (W := 0) (Nat.le_refl _) rfl (hb hby at_58) (by decide) (by decide) (pc' := 61) rfl (fun T233 L233 r233 X233 q233 => ?_)
     obtain ⟨N233, e233, q233⟩ := q233
     have N233' := Fr.app N0 N233
     rcases q233 with ⟨hc234, hc235, hc236, rfl⟩ | ⟨hc237, hc238, hc239, rfl⟩ | ⟨hc240, hc241, hc242, rfl⟩ | ⟨hc243, hc244, hc245, hc246, rfl⟩ | ⟨hc247, hc248, hc249, hc250, rfl⟩ | ⟨hc251, hc252, rfl⟩ | ⟨hc253, hc254, rfl⟩
     ·
      show KEnds p e below s _ _ _ T233 (mkF m 61 #[.val (.int i0), .val (.int v1), .val (.int v2), .val (.int v4), .val (.int (0 : Int32)), .val (.int (0 : Int32))] [(.int (0 : Int32))])
      refine k_iload X233 hx (hb hby at_61) rfl (pc' := 63) rfl ?_
      refine k_icmp_ne X233 hx (hb hby at_63) (pn := 66) rfl (py := 70) (by decide) (fun hc => absurd (by decide) hc) (fun _ => ?_)
      refine k_iconst X233 hx (hb hby at_66) (pc' := 67) rfl (z := (1 : Int32)) rfl ?_
      refine k_goto X233 hx (hb hby at_67) (pc' := 71) (by decide) ?_
      exact k_retN X233 hx (t := .boolean) Bd.returns (by simp) (hb hby at_71) hlk (by decide) (by decide) (z' := (1 : Int32)) rfl ⟨rfl, N233'⟩
     ·
      show KEnds p e below s _ _ _ T233 (mkF m 61 #[.val (.int i0), .val (.int v1), .val (.int v2), .val (.int v4), .val (.int (0 : Int32)), .val (.int (0 : Int32))] [(.int (1 : Int32))])
      refine k_iload X233 hx (hb hby at_61) rfl (pc' := 63) rfl ?_
      refine k_icmp_ne X233 hx (hb hby at_63) (pn := 66) rfl (py := 70) (by decide) (fun _ => ?_) (fun hc => absurd hc (by decide))
      refine k_iconst X233 hx (hb hby at_70) (pc' := 71) rfl (z := (0 : Int32)) rfl ?_
      exfalso
      have := rng32 v4
      have := rng32 v3
      have := rng32 v1
      have := rng32 i0
      have : (65535 : Int32).toInt = 65535 := by decide
      have q255 : v1.toInt = i0.toInt % 65536 := by rw [hv1]; exact c_mask _ _ 16 (by decide) (by decide)
      have : (32 : Int32).toInt = 32 := by decide
      have q256 := own_or32 v1; rw [← hv3] at q256
      have : (97 : Int32).toInt = 97 := by decide
      have q257 : (v4.toInt - (v3.toInt - (97 : Int32).toInt)) % 4294967296 = 0 := by rw [hv4]; exact c_isub _ _
      have : (0 : Int32).toInt = 0 := by decide
      have q258 := hc5; rw [Int32.lt_iff_toInt_lt] at q258
      have : (26 : Int32).toInt = 26 := by decide
      have q259 := hc178; rw [Int32.lt_iff_toInt_lt] at q259
      have : (95 : Int32).toInt = 95 := by decide
      have q260 : ¬ v1.toInt = (95 : Int32).toInt := fun q => hc179 (Int32.toInt_inj.mp q)
      have : (36 : Int32).toInt = 36 := by decide
      have q261 : ¬ v1.toInt = (36 : Int32).toInt := fun q => hc232 (Int32.toInt_inj.mp q)
      have := rng32 v2
      have q262 : (v2.toInt - v1.toInt) % 65536 = 0 ∧ 0 ≤ v2.toInt ∧ v2.toInt < 65536 := by rw [hv2]; exact c_i2c _
      have q263 := hc237; rw [Int32.lt_iff_toInt_lt] at q263
      have : (65 : Int32).toInt = 65 := by decide
      have q264 := hc238; rw [Int32.lt_iff_toInt_lt] at q264
      have q265 := congrArg Int32.toInt hc239
      omega
     ·
      show KEnds p e below s _ _ _ T233 (mkF m 61 #[.val (.int i0), .val (.int v1), .val (.int v2), .val (.int v4), .val (.int (0 : Int32)), .val (.int (0 : Int32))] [(.int (1 : Int32))])
      refine k_iload X233 hx (hb hby at_61) rfl (pc' := 63) rfl ?_
      refine k_icmp_ne X233 hx (hb hby at_63) (pn := 66) rfl (py := 70) (by decide) (fun _ => ?_) (fun hc => absurd hc (by decide))
      refine k_iconst X233 hx (hb hby at_70) (pc' := 71) rfl (z := (0 : Int32)) rfl ?_
      exfalso
      have := rng32 v4
      have := rng32 v3
      have := rng32 v1
      have := rng32 i0
      have : (65535 : Int32).toInt = 65535 := by decide
      have q266 : v1.toInt = i0.toInt % 65536 := by rw [hv1]; exact c_mask _ _ 16 (by decide) (by decide)
      have : (32 : Int32).toInt = 32 := by decide
      have q267 := own_or32 v1; rw [← hv3] at q267
      have : (97 : Int32).toInt = 97 := by decide
      have q268 : (v4.toInt - (v3.toInt - (97 : Int32).toInt)) % 4294967296 = 0 := by rw [hv4]; exact c_isub _ _
      have : (0 : Int32).toInt = 0 := by decide
      have q269 := hc5; rw [Int32.lt_iff_toInt_lt] at q269
      have : (26 : Int32).toInt = 26 := by decide
      have q270 := hc178; rw [Int32.lt_iff_toInt_lt] at q270
      have : (95 : Int32).toInt = 95 := by decide
      have q271 : ¬ v1.toInt = (95 : Int32).toInt := fun q => hc179 (Int32.toInt_inj.mp q)
      have : (36 : Int32).toInt = 36 := by decide
      have q272 : ¬ v1.toInt = (36 : Int32).toInt := fun q => hc232 (Int32.toInt_inj.mp q)
      have := rng32 v2
      have q273 : (v2.toInt - v1.toInt) % 65536 = 0 ∧ 0 ≤ v2.toInt ∧ v2.toInt < 65536 := by rw [hv2]; exact c_i2c _
      have q274 := hc240; rw [Int32.lt_iff_toInt_lt] at q274
      have : (65 : Int32).toInt = 65 := by decide
      have q275 := hc241; rw [Int32.lt_iff_toInt_lt] at q275
      have : (90 : Int32).toInt = 90 := by decide
      have q276 := hc242; rw [Int32.lt_iff_toInt_lt] at q276
      omega
     ·
      show KEnds p e below s _ _ _ T233 (mkF m 61 #[.val (.int i0), .val (.int v1), .val (.int v2), .val (.int v4), .val (.int (0 : Int32)), .val (.int (0 : Int32))] [(.int (1 : Int32))])
      refine k_iload X233 hx (hb hby at_61) rfl (pc' := 63) rfl ?_
      refine k_icmp_ne X233 hx (hb hby at_63) (pn := 66) rfl (py := 70) (by decide) (fun _ => ?_) (fun hc => absurd hc (by decide))
      refine k_iconst X233 hx (hb hby at_70) (pc' := 71) rfl (z := (0 : Int32)) rfl ?_
      exfalso
      have := rng32 v4
      have := rng32 v3
      have := rng32 v1
      have := rng32 i0
      have : (65535 : Int32).toInt = 65535 := by decide
      have q277 : v1.toInt = i0.toInt % 65536 := by rw [hv1]; exact c_mask _ _ 16 (by decide) (by decide)
      have : (32 : Int32).toInt = 32 := by decide
      have q278 := own_or32 v1; rw [← hv3] at q278
      have : (97 : Int32).toInt = 97 := by decide
      have q279 : (v4.toInt - (v3.toInt - (97 : Int32).toInt)) % 4294967296 = 0 := by rw [hv4]; exact c_isub _ _
      have : (0 : Int32).toInt = 0 := by decide
      have q280 := hc5; rw [Int32.lt_iff_toInt_lt] at q280
      have : (26 : Int32).toInt = 26 := by decide
      have q281 := hc178; rw [Int32.lt_iff_toInt_lt] at q281
      have : (95 : Int32).toInt = 95 := by decide
      have q282 : ¬ v1.toInt = (95 : Int32).toInt := fun q => hc179 (Int32.toInt_inj.mp q)
      have : (36 : Int32).toInt = 36 := by decide
      have q283 : ¬ v1.toInt = (36 : Int32).toInt := fun q => hc232 (Int32.toInt_inj.mp q)
      have := rng32 v2
      have q284 : (v2.toInt - v1.toInt) % 65536 = 0 ∧ 0 ≤ v2.toInt ∧ v2.toInt < 65536 := by rw [hv2]; exact c_i2c _
      have q285 := hc243; rw [Int32.lt_iff_toInt_lt] at q285
      have : (65 : Int32).toInt = 65 := by decide
      have q286 := hc244; rw [Int32.lt_iff_toInt_lt] at q286
      have : (90 : Int32).toInt = 90 := by decide
      have q287 := hc245; rw [Int32.lt_iff_toInt_lt] at q287
      have q288 := congrArg Int32.toInt hc246
      omega
     ·
      show KEnds p e below s _ _ _ T233 (mkF m 61 #[.val (.int i0), .val (.int v1), .val (.int v2), .val (.int v4), .val (.int (0 : Int32)), .val (.int (0 : Int32))] [(.int (0 : Int32))])
      refine k_iload X233 hx (hb hby at_61) rfl (pc' := 63) rfl ?_
      refine k_icmp_ne X233 hx (hb hby at_63) (pn := 66) rfl (py := 70) (by decide) (fun hc => absurd (by decide) hc) (fun _ => ?_)
      refine k_iconst X233 hx (hb hby at_66) (pc' := 67) rfl (z := (1 : Int32)) rfl ?_
      refine k_goto X233 hx (hb hby at_67) (pc' := 71) (by decide) ?_
      exact k_retN X233 hx (t := .boolean) Bd.returns (by simp) (hb hby at_71) hlk (by decide) (by decide) (z' := (1 : Int32)) rfl ⟨rfl, N233'⟩
     ·
      show KEnds p e below s _ _ _ T233 (mkF m 61 #[.val (.int i0), .val (.int v1), .val (.int v2), .val (.int v4), .val (.int (0 : Int32)), .val (.int (0 : Int32))] [(.int (1 : Int32))])
      refine k_iload X233 hx (hb hby at_61) rfl (pc' := 63) rfl ?_
      refine k_icmp_ne X233 hx (hb hby at_63) (pn := 66) rfl (py := 70) (by decide) (fun _ => ?_) (fun hc => absurd hc (by decide))
      refine k_iconst X233 hx (hb hby at_70) (pc' := 71) rfl (z := (0 : Int32)) rfl ?_
      exfalso
      have := rng32 v4
      have := rng32 v3
      have := rng32 v1
      have := rng32 i0
      have : (65535 : Int32).toInt = 65535 := by decide
      have q289 : v1.toInt = i0.toInt % 65536 := by rw [hv1]; exact c_mask _ _ 16 (by decide) (by decide)
      have : (32 : Int32).toInt = 32 := by decide
      have q290 := own_or32 v1; rw [← hv3] at q290
      have : (97 : Int32).toInt = 97 := by decide
      have q291 : (v4.toInt - (v3.toInt - (97 : Int32).toInt)) % 4294967296 = 0 := by rw [hv4]; exact c_isub _ _
      have : (0 : Int32).toInt = 0 := by decide
      have q292 := hc5; rw [Int32.lt_iff_toInt_lt] at q292
      have : (26 : Int32).toInt = 26 := by decide
      have q293 := hc178; rw [Int32.lt_iff_toInt_lt] at q293
      have : (95 : Int32).toInt = 95 := by decide
      have q294 : ¬ v1.toInt = (95 : Int32).toInt := fun q => hc179 (Int32.toInt_inj.mp q)
      have : (36 : Int32).toInt = 36 := by decide
      have q295 : ¬ v1.toInt = (36 : Int32).toInt := fun q => hc232 (Int32.toInt_inj.mp q)
      have := rng32 v2
      have q296 : (v2.toInt - v1.toInt) % 65536 = 0 ∧ 0 ≤ v2.toInt ∧ v2.toInt < 65536 := by rw [hv2]; exact c_i2c _
      have q297 := hc251; rw [Int32.lt_iff_toInt_lt] at q297
      have : (122 : Int32).toInt = 122 := by decide
      have q298 := hc252; rw [Int32.lt_iff_toInt_lt] at q298
      omega
     ·
      show KEnds p e below s _ _ _ T233 (mkF m 61 #[.val (.int i0), .val (.int v1), .val (.int v2), .val (.int v4), .val (.int (0 : Int32)), .val (.int (0 : Int32))] [(.int (0 : Int32))])
      refine k_iload X233 hx (hb hby at_61) rfl (pc' := 63) rfl ?_
      refine k_icmp_ne X233 hx (hb hby at_63) (pn := 66) rfl (py := 70) (by decide) (fun hc => absurd (by decide) hc) (fun _ => ?_)
      refine k_iconst X233 hx (hb hby at_66) (pc' := 67) rfl (z := (1 : Int32)) rfl ?_
      refine k_goto X233 hx (hb hby at_67) (pc' := 71) (by decide) ?_
      exact k_retN X233 hx (t := .boolean) Bd.returns (by simp) (hb hby at_71) hlk (by decide) (by decide) (z' := (1 : Int32)) rfl ⟨rfl, N233'⟩
    ·
     refine k_iconst X0 hx (hb hby at_50) (pc' := 51) rfl (z := (1 : Int32)) rfl ?_
     refine k_goto X0 hx (hb hby at_51) (pc' := 55) (by decide) ?_
     refine k_istore X0 hx (hb hby at_55) (Ls' := #[.val (.int i0), .val (.int v1), .val (.int v2), .val (.int v4), .val (.int (0 : Int32)), .val (.int (1 : Int32))]) rfl (pc' := 57) rfl ?_
     refine k_iloadN X0 hx (hb hby at_57) rfl (pc' := 58) rfl ?_
     refine k_callS X0 hx hZ hown (hw _ (List.mem_of_getElem? (i := 1) rfl)) (hw _ (List.mem_of_getElem? (i := 2) rfl)) (hw _ (List.mem_of_getElem? (i := 3) rfl)) (hw _ (List.mem_of_getElem? (i := 4) rfl)) (by decide) (rm1_7 l Z a0 hw [] v2 h0 n0 Z0 ) (by decide) (by decide) e0 (by rw [hml]; rfl) (argsL := [(.int v2)]) (rest := []) (lenOf pd_0 rfl) rfl (W := 0) (Nat.le_refl _) rfl (hb hby at_58) (by decide) (by decide) (pc' := 61) rfl (fun T299 L299 r299 X299 q299 => ?_)
     obtain ⟨N299, e299, q299⟩ := q299
     have N299' := Fr.app N0 N299
     rcases q299 with ⟨hc300, hc301, hc302, rfl⟩ | ⟨hc303, hc304, hc305, rfl⟩ | ⟨hc306, hc307, hc308, rfl⟩ | ⟨hc309, hc310, hc311, hc312, rfl⟩ | ⟨hc313, hc314, hc315, hc316, rfl⟩ | ⟨hc317, hc318, rfl⟩ | ⟨hc319, hc320, rfl⟩
     ·
      show KEnds p e below s _ _ _ T299 (mkF m 61 #[.val (.int i0), .val (.int v1), .val (.int v2), .val (.int v4), .val (.int (0 : Int32)), .val (.int (1 : Int32))] [(.int (0 : Int32))])
      refine k_iload X299 hx (hb hby at_61) rfl (pc' := 63) rfl ?_
      refine k_icmp_ne X299 hx (hb hby at_63) (pn := 66) rfl (py := 70) (by decide) (fun _ => ?_) (fun hc => absurd hc (by decide))
      refine k_iconst X299 hx (hb hby at_70) (pc' := 71) rfl (z := (0 : Int32)) rfl ?_
      exfalso
      have := rng32 v4
      have := rng32 v3
      have := rng32 v1
      have := rng32 i0
      have : (65535 : Int32).toInt = 65535 := by decide
      have q321 : v1.toInt = i0.toInt % 65536 := by rw [hv1]; exact c_mask _ _ 16 (by decide) (by decide)
      have : (32 : Int32).toInt = 32 := by decide
      have q322 := own_or32 v1; rw [← hv3] at q322
      have : (97 : Int32).toInt = 97 := by decide
      have q323 : (v4.toInt - (v3.toInt - (97 : Int32).toInt)) % 4294967296 = 0 := by rw [hv4]; exact c_isub _ _
      have : (0 : Int32).toInt = 0 := by decide
      have q324 := hc5; rw [Int32.lt_iff_toInt_lt] at q324
      have : (26 : Int32).toInt = 26 := by decide
      have q325 := hc178; rw [Int32.lt_iff_toInt_lt] at q325
      have : (95 : Int32).toInt = 95 := by decide
      have q326 : ¬ v1.toInt = (95 : Int32).toInt := fun q => hc179 (Int32.toInt_inj.mp q)
      have : (36 : Int32).toInt = 36 := by decide
      have q327 := congrArg Int32.toInt hc232
      have := rng32 v2
      have q328 : (v2.toInt - v1.toInt) % 65536 = 0 ∧ 0 ≤ v2.toInt ∧ v2.toInt < 65536 := by rw [hv2]; exact c_i2c _
      have q329 := hc300; rw [Int32.lt_iff_toInt_lt] at q329
      have : (65 : Int32).toInt = 65 := by decide
      have q330 := hc301; rw [Int32.lt_iff_toInt_lt] at q330
      have q331 : ¬ v2.toInt = (36 : Int32).toInt := fun q => hc302 (Int32.toInt_inj.mp q)
      omega
     ·
      show KEnds p e below s _ _ _ T299 (mkF m 61 #[.val (.int i0), .val (.int v1), .val (.int v2), .val (.int v4), .val (.int (0 : Int32)), .val (.int (1 : Int32))] [(.int (1 : Int32))])
      refine k_iload X299 hx (hb hby at_61) rfl (pc' := 63) rfl ?_
      refine k_icmp_ne X299 hx (hb hby at_63) (pn := 66) rfl (py := 70) (by decide) (fun hc => absurd (by decide) hc) (fun _ => ?_)
      refine k_iconst X299 hx (hb hby at_66) (pc' := 67) rfl (z := (1 : Int32)) rfl ?_
      refine k_goto X299 hx (hb hby at_67) (pc' := 71) (by decide) ?_
      exact k_retN X299 hx (t := .boolean) Bd.returns (by simp) (hb hby at_71) hlk (by decide) (by decide) (z' := (1 : Int32)) rfl ⟨rfl, N299'⟩
     ·
      show KEnds p e below s _ _ _ T299 (mkF m 61 #[.val (.int i0), .val (.int v1), .val (.int v2), .val (.int v4), .val (.int (0 : Int32)), .val (.int (1 : Int32))] [(.int (1 : Int32))])
      refine k_iload X299 hx (hb hby at_61) rfl (pc' := 63) rfl ?_
      refine k_icmp_ne X299 hx (hb hby at_63) (pn := 66) rfl (py := 70) (by decide) (fun hc => absurd (by decide) hc) (fun _ => ?_)
      refine k_iconst X299 hx (hb hby at_66) (pc' := 67) rfl (z := (1 : Int32)) rfl ?_
      refine k_goto X299 hx (hb hby at_67) (pc' := 71) (by decide) ?_
      exact k_retN X299 hx (t := .boolean) Bd.returns (by simp) (hb hby at_71) hlk (by decide) (by decide) (z' := (1 : Int32)) rfl ⟨rfl, N299'⟩
     ·
      show KEnds p e below s _ _ _ T299 (mkF m 61 #[.val (.int i0), .val (.int v1), .val (.int v2), .val (.int v4), .val (.int (0 : Int32)), .val (.int (1 : Int32))] [(.int (1 : Int32))])
      refine k_iload X299 hx (hb hby at_61) rfl (pc' := 63) rfl ?_
      refine k_icmp_ne X299 hx (hb hby at_63) (pn := 66) rfl (py := 70) (by decide) (fun hc => absurd (by decide) hc) (fun _ => ?_)
      refine k_iconst X299 hx (hb hby at_66) (pc' := 67) rfl (z := (1 : Int32)) rfl ?_
      refine k_goto X299 hx (hb hby at_67) (pc' := 71) (by decide) ?_
      exact k_retN X299 hx (t := .boolean) Bd.returns (by simp) (hb hby at_71) hlk (by decide) (by decide) (z' := (1 : Int32)) rfl ⟨rfl, N299'⟩
     ·
      show KEnds p e below s _ _ _ T299 (mkF m 61 #[.val (.int i0), .val (.int v1), .val (.int v2), .val (.int v4), .val (.int (0 : Int32)), .val (.int (1 : Int32))] [(.int (0 : Int32))])
      refine k_iload X299 hx (hb hby at_61) rfl (pc' := 63) rfl ?_
      refine k_icmp_ne X299 hx (hb hby at_63) (pn := 66) rfl (py := 70) (by decide) (fun _ => ?_) (fun hc => absurd hc (by decide))
      refine k_iconst X299 hx (hb hby at_70) (pc' := 71) rfl (z := (0 : Int32)) rfl ?_
      exfalso
      have := rng32 v4
      have := rng32 v3
      have := rng32 v1
      have := rng32 i0
      have : (65535 : Int32).toInt = 65535 := by decide
      have q332 : v1.toInt = i0.toInt % 65536 := by rw [hv1]; exact c_mask _ _ 16 (by decide) (by decide)
      have : (32 : Int32).toInt = 32 := by decide
      have q333 := own_or32 v1; rw [← hv3] at q333
      have : (97 : Int32).toInt = 97 := by decide
      have q334 : (v4.toInt - (v3.toInt - (97 : Int32).toInt)) % 4294967296 = 0 := by rw [hv4]; exact c_isub _ _
      have : (0 : Int32).toInt = 0 := by decide
      have q335 := hc5; rw [Int32.lt_iff_toInt_lt] at q335
      have : (26 : Int32).toInt = 26 := by decide
      have q336 := hc178; rw [Int32.lt_iff_toInt_lt] at q336
      have : (95 : Int32).toInt = 95 := by decide
      have q337 : ¬ v1.toInt = (95 : Int32).toInt := fun q => hc179 (Int32.toInt_inj.mp q)
      have : (36 : Int32).toInt = 36 := by decide
      have q338 := congrArg Int32.toInt hc232
      have := rng32 v2
      have q339 : (v2.toInt - v1.toInt) % 65536 = 0 ∧ 0 ≤ v2.toInt ∧ v2.toInt < 65536 := by rw [hv2]; exact c_i2c _
      have q340 := hc313; rw [Int32.lt_iff_toInt_lt] at q340
      have : (65 : Int32).toInt = 65 := by decide
      have q341 := hc314; rw [Int32.lt_iff_toInt_lt] at q341
      have : (90 : Int32).toInt = 90 := by decide
      have q342 := hc315; rw [Int32.lt_iff_toInt_lt] at q342
      have q343 : ¬ v2.toInt = (95 : Int32).toInt := fun q => hc316 (Int32.toInt_inj.mp q)
      omega
     ·
      show KEnds p e below s _ _ _ T299 (mkF m 61 #[.val (.int i0), .val (.int v1), .val (.int v2), .val (.int v4), .val (.int (0 : Int32)), .val (.int (1 : Int32))] [(.int (1 : Int32))])
      refine k_iload X299 hx (hb hby at_61) rfl (pc' := 63) rfl ?_
      refine k_icmp_ne X299 hx (hb hby at_63) (pn := 66) rfl (py := 70) (by decide) (fun hc => absurd (by decide) hc) (fun _ => ?_)
      refine k_iconst X299 hx (hb hby at_66) (pc' := 67) rfl (z := (1 : Int32)) rfl ?_
      refine k_goto X299 hx (hb hby at_67) (pc' := 71) (by decide) ?_
      exact k_retN X299 hx (t := .boolean) Bd.returns (by simp) (hb hby at_71) hlk (by decide) (by decide) (z' := (1 : Int32)) rfl ⟨rfl, N299'⟩
     ·
      show KEnds p e below s _ _ _ T299 (mkF m 61 #[.val (.int i0), .val (.int v1), .val (.int v2), .val (.int v4), .val (.int (0 : Int32)), .val (.int (1 : Int32))] [(.int (0 : Int32))])
      refine k_iload X299 hx (hb hby at_61) rfl (pc' := 63) rfl ?_
      refine k_icmp_ne X299 hx (hb hby at_63) (pn := 66) rfl (py := 70) (by decide) (fun _ => ?_) (fun hc => absurd hc (by decide))
      refine k_iconst X299 hx (hb hby at_70) (pc' := 71) rfl (z := (0 : Int32)) rfl ?_
      exfalso
      have := rng32 v4
      have := rng32 v3
      have := rng32 v1
      have := rng32 i0
      have : (65535 : Int32).toInt = 65535 := by decide
      have q344 : v1.toInt = i0.toInt % 65536 := by rw [hv1]; exact c_mask _ _ 16 (by decide) (by decide)
      have : (32 : Int32).toInt = 32 := by decide
      have q345 := own_or32 v1; rw [← hv3] at q345
      have : (97 : Int32).toInt = 97 := by decide
      have q346 : (v4.toInt - (v3.toInt - (97 : Int32).toInt)) % 4294967296 = 0 := by rw [hv4]; exact c_isub _ _
      have : (0 : Int32).toInt = 0 := by decide
      have q347 := hc5; rw [Int32.lt_iff_toInt_lt] at q347
      have : (26 : Int32).toInt = 26 := by decide
      have q348 := hc178; rw [Int32.lt_iff_toInt_lt] at q348
      have : (95 : Int32).toInt = 95 := by decide
      have q349 : ¬ v1.toInt = (95 : Int32).toInt := fun q => hc179 (Int32.toInt_inj.mp q)
      have : (36 : Int32).toInt = 36 := by decide
      have q350 := congrArg Int32.toInt hc232
      have := rng32 v2
      have q351 : (v2.toInt - v1.toInt) % 65536 = 0 ∧ 0 ≤ v2.toInt ∧ v2.toInt < 65536 := by rw [hv2]; exact c_i2c _
      have q352 := hc319; rw [Int32.lt_iff_toInt_lt] at q352
      have : (122 : Int32).toInt = 122 := by decide
      have q353 := hc320; rw [Int32.lt_iff_toInt_lt] at q353
      omega
  ·
   refine k_iconst X0 hx (hb hby at_26) (pc' := 27) rfl (z := (1 : Int32)) rfl ?_
   refine k_goto X0 hx (hb hby at_27) (pc' := 31) (by decide) ?_
   refine k_istore X0 hx (hb hby at_31) (Ls' := #[.val (.int i0), .val (.int v1), .val (.int v2), .val (.int v4), .val (.int (1 : Int32)), .unset]) rfl (pc' := 33) rfl ?_
   refine k_iload X0 hx (hb hby at_33) rfl (pc' := 35) rfl ?_
   refine k_if_ne X0 hx (hb hby at_35) (pn := 38) rfl (py := 50) (by decide) (fun _ => ?_) (fun hc => absurd hc (by decide))
   refine k_iconst X0 hx (hb hby at_50) (pc' := 51) rfl (z := (1 : Int32)) rfl ?_
   refine k_goto X0 hx (hb hby at_51) (pc' := 55) (by decide) ?_
   refine k_istore X0 hx (hb hby at_55) (Ls' := #[.val (.int i0), .val (.int v1), .val (.int v2), .val (.int v4), .val (.int (1 : Int32)), .val (.int (1 : Int32))]) rfl (pc' := 57) rfl ?_
   refine k_iloadN X0 hx (hb hby at_57) rfl (pc' := 58) rfl ?_
   refine k_callS X0 hx hZ hown (hw _ (List.mem_of_getElem? (i := 1) rfl)) (hw _ (List.mem_of_getElem? (i := 2) rfl)) (hw _ (List.mem_of_getElem? (i := 3) rfl)) (hw _ (List.mem_of_getElem? (i := 4) rfl)) (by decide) (rm1_7 l Z a0 hw [] v2 h0 n0 Z0 ) (by decide) (by decide) e0 (by rw [hml]; rfl) (argsL := [(.int v2)]) (rest := []) (lenOf pd_0 rfl) rfl (W := 0) (Nat.le_refl _) rfl (hb hby at_58) (by decide) (by decide) (pc' := 61) rfl (fun T354 L354 r354 X354 q354 => ?_)
   obtain ⟨N354, e354, q354⟩ := q354
   have N354' := Fr.app N0 N354
   rcases q354 with ⟨hc355, hc356, hc357, rfl⟩ | ⟨hc358, hc359, hc360, rfl⟩ | ⟨hc361, hc362, hc363, rfl⟩ | ⟨hc364, hc365, hc366, hc367, rfl⟩ | ⟨hc368, hc369, hc370, hc371, rfl⟩ | ⟨hc372, hc373, rfl⟩ | ⟨hc374, hc375, rfl⟩
   ·
    show KEnds p e below s _ _ _ T354 (mkF m 61 #[.val (.int i0), .val (.int v1), .val (.int v2), .val (.int v4), .val (.int (1 : Int32)), .val (.int (1 : Int32))] [(.int (0 : Int32))])
    refine k_iload X354 hx (hb hby at_61) rfl (pc' := 63) rfl ?_
    refine k_icmp_ne X354 hx (hb hby at_63) (pn := 66) rfl (py := 70) (by decide) (fun _ => ?_) (fun hc => absurd hc (by decide))
    refine k_iconst X354 hx (hb hby at_70) (pc' := 71) rfl (z := (0 : Int32)) rfl ?_
    exfalso
    have := rng32 v4
    have := rng32 v3
    have := rng32 v1
    have := rng32 i0
    have : (65535 : Int32).toInt = 65535 := by decide
    have q376 : v1.toInt = i0.toInt % 65536 := by rw [hv1]; exact c_mask _ _ 16 (by decide) (by decide)
    have : (32 : Int32).toInt = 32 := by decide
    have q377 := own_or32 v1; rw [← hv3] at q377
    have : (97 : Int32).toInt = 97 := by decide
    have q378 : (v4.toInt - (v3.toInt - (97 : Int32).toInt)) % 4294967296 = 0 := by rw [hv4]; exact c_isub _ _
    have : (0 : Int32).toInt = 0 := by decide
    have q379 := hc5; rw [Int32.lt_iff_toInt_lt] at q379
    have : (26 : Int32).toInt = 26 := by decide
    have q380 := hc178; rw [Int32.lt_iff_toInt_lt] at q380
    have := rng32 v2
    have q381 : (v2.toInt - v1.toInt) % 65536 = 0 ∧ 0 ≤ v2.toInt ∧ v2.toInt < 65536 := by rw [hv2]; exact c_i2c _
    have q382 := hc355; rw [Int32.lt_iff_toInt_lt] at q382
    have : (65 : Int32).toInt = 65 := by decide
    have q383 := hc356; rw [Int32.lt_iff_toInt_lt] at q383
    have : (36 : Int32).toInt = 36 := by decide
    have q384 : ¬ v2.toInt = (36 : Int32).toInt := fun q => hc357 (Int32.toInt_inj.mp q)
    omega
   ·
    show KEnds p e below s _ _ _ T354 (mkF m 61 #[.val (.int i0), .val (.int v1), .val (.int v2), .val (.int v4), .val (.int (1 : Int32)), .val (.int (1 : Int32))] [(.int (1 : Int32))])
    refine k_iload X354 hx (hb hby at_61) rfl (pc' := 63) rfl ?_
    refine k_icmp_ne X354 hx (hb hby at_63) (pn := 66) rfl (py := 70) (by decide) (fun hc => absurd (by decide) hc) (fun _ => ?_)
    refine k_iconst X354 hx (hb hby at_66) (pc' := 67) rfl (z := (1 : Int32)) rfl ?_
    refine k_goto X354 hx (hb hby at_67) (pc' := 71) (by decide) ?_
    exact k_retN X354 hx (t := .boolean) Bd.returns (by simp) (hb hby at_71) hlk (by decide) (by decide) (z' := (1 : Int32)) rfl ⟨rfl, N354'⟩
   ·
    show KEnds p e below s _ _ _ T354 (mkF m 61 #[.val (.int i0), .val (.int v1), .val (.int v2), .val (.int v4), .val (.int (1 : Int32)), .val (.int (1 : Int32))] [(.int (1 : Int32))])
    refine k_iload X354 hx (hb hby at_61) rfl (pc' := 63) rfl ?_
    refine k_icmp_ne X354 hx (hb hby at_63) (pn := 66) rfl (py := 70) (by decide) (fun hc => absurd (by decide) hc) (fun _ => ?_)
    refine k_iconst X354 hx (hb hby at_66) (pc' := 67) rfl (z := (1 : Int32)) rfl ?_
    refine k_goto X354 hx (hb hby at_67) (pc' := 71) (by decide) ?_
    exact k_retN X354 hx (t := .boolean) Bd.returns (by simp) (hb hby at_71) hlk (by decide) (by decide) (z' := (1 : Int32)) rfl ⟨rfl, N354'⟩
   ·
    show KEnds p e below s _ _ _ T354 (mkF m 61 #[.val (.int i0), .val (.int v1), .val (.int v2), .val (.int v4), .val (.int (1 : Int32)), .val (.int (1 : Int32))] [(.int (1 : Int32))])
    refine k_iload X354 hx (hb hby at_61) rfl (pc' := 63) rfl ?_
    refine k_icmp_ne X354 hx (hb hby at_63) (pn := 66) rfl (py := 70) (by decide) (fun hc => absurd (by decide) hc) (fun _ => ?_)
    refine k_iconst X354 hx (hb hby at_66) (pc' := 67) rfl (z := (1 : Int32)) rfl ?_
    refine k_goto X354 hx (hb hby at_67) (pc' := 71) (by decide) ?_
    exact k_retN X354 hx (t := .boolean) Bd.returns (by simp) (hb hby at_71) hlk (by decide) (by decide) (z' := (1 : Int32)) rfl ⟨rfl, N354'⟩
   ·
    show KEnds p e below s _ _ _ T354 (mkF m 61 #[.val (.int i0), .val (.int v1), .val (.int v2), .val (.int v4), .val (.int (1 : Int32)), .val (.int (1 : Int32))] [(.int (0 : Int32))])
    refine k_iload X354 hx (hb hby at_61) rfl (pc' := 63) rfl ?_
    refine k_icmp_ne X354 hx (hb hby at_63) (pn := 66) rfl (py := 70) (by decide) (fun _ => ?_) (fun hc => absurd hc (by decide))
    refine k_iconst X354 hx (hb hby at_70) (pc' := 71) rfl (z := (0 : Int32)) rfl ?_
    exfalso
    have := rng32 v4
    have := rng32 v3
    have := rng32 v1
    have := rng32 i0
    have : (65535 : Int32).toInt = 65535 := by decide
    have q385 : v1.toInt = i0.toInt % 65536 := by rw [hv1]; exact c_mask _ _ 16 (by decide) (by decide)
    have : (32 : Int32).toInt = 32 := by decide
    have q386 := own_or32 v1; rw [← hv3] at q386
    have : (97 : Int32).toInt = 97 := by decide
    have q387 : (v4.toInt - (v3.toInt - (97 : Int32).toInt)) % 4294967296 = 0 := by rw [hv4]; exact c_isub _ _
    have : (0 : Int32).toInt = 0 := by decide
    have q388 := hc5; rw [Int32.lt_iff_toInt_lt] at q388
    have : (26 : Int32).toInt = 26 := by decide
    have q389 := hc178; rw [Int32.lt_iff_toInt_lt] at q389
    have := rng32 v2
    have q390 : (v2.toInt - v1.toInt) % 65536 = 0 ∧ 0 ≤ v2.toInt ∧ v2.toInt < 65536 := by rw [hv2]; exact c_i2c _
    have q391 := hc368; rw [Int32.lt_iff_toInt_lt] at q391
    have : (65 : Int32).toInt = 65 := by decide
    have q392 := hc369; rw [Int32.lt_iff_toInt_lt] at q392
    have : (90 : Int32).toInt = 90 := by decide
    have q393 := hc370; rw [Int32.lt_iff_toInt_lt] at q393
    have : (95 : Int32).toInt = 95 := by decide
    have q394 : ¬ v2.toInt = (95 : Int32).toInt := fun q => hc371 (Int32.toInt_inj.mp q)
    omega
   ·
    show KEnds p e below s _ _ _ T354 (mkF m 61 #[.val (.int i0), .val (.int v1), .val (.int v2), .val (.int v4), .val (.int (1 : Int32)), .val (.int (1 : Int32))] [(.int (1 : Int32))])
    refine k_iload X354 hx (hb hby at_61) rfl (pc' := 63) rfl ?_
    refine k_icmp_ne X354 hx (hb hby at_63) (pn := 66) rfl (py := 70) (by decide) (fun hc => absurd (by decide) hc) (fun _ => ?_)
    refine k_iconst X354 hx (hb hby at_66) (pc' := 67) rfl (z := (1 : Int32)) rfl ?_
    refine k_goto X354 hx (hb hby at_67) (pc' := 71) (by decide) ?_
    exact k_retN X354 hx (t := .boolean) Bd.returns (by simp) (hb hby at_71) hlk (by decide) (by decide) (z' := (1 : Int32)) rfl ⟨rfl, N354'⟩
   ·
    show KEnds p e below s _ _ _ T354 (mkF m 61 #[.val (.int i0), .val (.int v1), .val (.int v2), .val (.int v4), .val (.int (1 : Int32)), .val (.int (1 : Int32))] [(.int (0 : Int32))])
    refine k_iload X354 hx (hb hby at_61) rfl (pc' := 63) rfl ?_
    refine k_icmp_ne X354 hx (hb hby at_63) (pn := 66) rfl (py := 70) (by decide) (fun _ => ?_) (fun hc => absurd hc (by decide))
    refine k_iconst X354 hx (hb hby at_70) (pc' := 71) rfl (z := (0 : Int32)) rfl ?_
    exfalso
    have := rng32 v4
    have := rng32 v3
    have := rng32 v1
    have := rng32 i0
    have : (65535 : Int32).toInt = 65535 := by decide
    have q395 : v1.toInt = i0.toInt % 65536 := by rw [hv1]; exact c_mask _ _ 16 (by decide) (by decide)
    have : (32 : Int32).toInt = 32 := by decide
    have q396 := own_or32 v1; rw [← hv3] at q396
    have : (97 : Int32).toInt = 97 := by decide
    have q397 : (v4.toInt - (v3.toInt - (97 : Int32).toInt)) % 4294967296 = 0 := by rw [hv4]; exact c_isub _ _
    have : (0 : Int32).toInt = 0 := by decide
    have q398 := hc5; rw [Int32.lt_iff_toInt_lt] at q398
    have : (26 : Int32).toInt = 26 := by decide
    have q399 := hc178; rw [Int32.lt_iff_toInt_lt] at q399
    have := rng32 v2
    have q400 : (v2.toInt - v1.toInt) % 65536 = 0 ∧ 0 ≤ v2.toInt ∧ v2.toInt < 65536 := by rw [hv2]; exact c_i2c _
    have q401 := hc374; rw [Int32.lt_iff_toInt_lt] at q401
    have : (122 : Int32).toInt = 122 := by decide
    have q402 := hc375; rw [Int32.lt_iff_toInt_lt] at q402
    omega
set_option maxRecDepth 65536 in
set_option maxHeartbeats 40000000 in
theorem comes_1 {Post : Tables → Env → Array Value → State → Outcome → State → Prop} (hpost : ∀ tb e args s v u, (limb_1_1.after args s (.returned v) u = true ∧ limb_1_2.after args s (.returned v) u = true ∧ True) → FrameEnd s (.returned v) u (Jvm.fieldLocs frame_1_writes args s ++ Jvm.arrayLocs frame_1_arrays args s ++ Jvm.staticLocs frame_1_statics s) 0 0 → Post tb e args s (.returned v) u) :
    ArmFor flags0 classFile x code maxLocals ret World_1 tables_1 room_1 Calls_1 rest_1 Pre_1 Post := by
  intro l hfl _ _ p e ha hc hk s m args below hf hA hF happ hP
  obtain ⟨hcalls, hrest, hpre⟩ := hP
  obtain ⟨-, -, -, hnamed, -, -, -, hat⟩ := (Spec.applies_iff hf).mp happ
  obtain ⟨hg, hn⟩ := and_e (Cond.before_iff.mp (show (Jvm.Cond.and given_1 narrow_1).before args s = true from hpre))
  obtain ⟨g403, g404⟩ := and_e hg
  obtain ⟨w0, rfl⟩ : ∃ w0 : Value, args = #[w0] := by
    have hs : args.size = 1 := by simpa [Cond.value, given_1] using g403
    obtain ⟨L⟩ := args
    match L, hs with
    | [w0], _ => exact ⟨w0, rfl⟩
  have hw := fun d (hd : d ∈ tables_1) => atoms_spec (ws := Jvm.Cond.code x code maxLocals ret :: tables_1) hat d (List.mem_cons_of_mem _ hd)
  obtain ⟨i0, ei0⟩ := is_v g404
  obtain rfl : w0 = (.int i0) := Option.some.inj ei0
  obtain ⟨n, o, h1, h2, h3, _, L, rfl, ⟨rfl, N⟩, hq⟩ := rm0 l s _ hw tables_1 i0 s.heap s.heap.size (Nat.le_refl _) p e ha hc hk s m _ below hf ((Spec.applies_iff_loose hf).mp happ).1 ⟨rfl, State.Warmed39.refl s, rfl⟩ trivial
  refine ⟨n, _, h1, h2, h3, hpost _ _ _ _ _ _ ⟨Cond.after_iff.mpr rfl, Cond.after_iff.mpr (eq_i res_at (Term.int_eval (1)) rfl), trivial⟩ ⟨hq.1, hq.2.1, (hq.2.2.sift fun y hy => Or.inr (N y hy)).mono (by decide) (by decide)⟩⟩
theorem main_1_1 : Claimed_1_1 := comes_1 fun _ _ _ _ _ _ h hF => ⟨h.1, hF⟩
theorem main_1_2 : Claimed_1_2 := comes_1 fun _ _ _ _ _ _ h hF => ⟨h.2.1, hF⟩
end Jvm.Pilot.@@N@@
namespace Jvm.Pilot.@@N@@
open Jvm Jvm.ClassFile Sem Op Lib Jvm.Free Jvm.Stand Jvm.Pilot.@@N@@.Jvm.D
/-! MADE BY PROGRAM (witnessworld.py) out of the Statement's table words and the real class files: 9 classes; the members and pool entries that the words name. The judged class is class 1, her method 1. -/
namespace start1
open Jvm.ClassFile
def u (s : String) : CpInfo := .utf8 (stringToUtf16 s)
/-- a pool by its gaps: so many unusable entries, then the entry; so many at the end -/
def gap : Nat → List CpInfo → List CpInfo
  | 0, r => r
  | n + 1, r => .unusable :: gap n r
def poolList (es : List (Nat × CpInfo)) (last : Nat) : List CpInfo := es.foldr (fun e r => gap e.1 (e.2 :: r)) (gap last [])
def pool (es : List (Nat × CpInfo)) (last : Nat) : Array CpInfo := ⟨poolList es last⟩
def fileOf (pool : Array CpInfo) (this : Nat) (attrs : Array Attribute := #[]) (ms : Array MethodInfo := #[]) (fl : Nat := 33) (sup : Nat := 0) (ifs : Array Nat := #[]) (fds : Array FieldInfo := #[]) : ClassFile where
  minorVersion := 0
  majorVersion := 65
  constantPool := pool
  accessFlags := fl
  thisClass := this
  superClass := sup
  interfaces := ifs
  fields := fds
  methods := ms
  attributes := attrs
def plain (name : String) (sup : Option ClassId) : Class where
  name := name
  kind := .ordinary
  loader := none
  accessFlags := 33
  super := sup
  interfaces := #[]
  cf := none
  fields := #[]
  methods := #[]
  instanceTypes := #[]
  staticTypes := #[]
  resolved := #[]
  callSites := []
  init := .initialized
  statics := none
  mirror := none

def pool0 : Array CpInfo := pool [(5, u "<init>"), (0, u "()V"), (1, .class_ 10), (1, u "java/lang/Object")] 113

def k0m0 : Method := { name := "<init>", desc := "()V", sig := { parameters := [], returnType := none }, accessFlags := 1, code := none }
/-- java/lang/Object -/
def k0 : Class := { plain "java/lang/Object" none with
  accessFlags := 33
  interfaces := #[]
  cf := some (fileOf pool0 8 #[] #[{ accessFlags := 1, nameIndex := 5, descriptorIndex := 6, attributes := #[] }] 33 0 #[] #[])
  fields := #[]
  methods := #[k0m0]
  instanceTypes := #[]
  staticTypes := #[]
  resolved := Array.replicate 124 none
  statics := none }

def pool1 : Array CpInfo := pool [(2, .class_ 4), (1, u "java/lang/Object"), (0, u "<init>"), (0, u "()V"), (0, .integer 65535), (0, .methodref 9 10), (0, .class_ 11), (0, .nameAndType 12 13), (0, u "com/example/xylem/xylem/core/VarName"), (0, u "isStart"), (0, u "(C)Z"), (0, .class_ 15), (0, u "com/example/xylem/xylem/core/VarNameIsStartPinLaw"), (2, u "law"), (0, u "(I)Z")] 3

def k1m0 : Method := { name := "<init>", desc := "()V", sig := { parameters := [], returnType := none }, accessFlags := 2, code := none }
def k1c1 : Code := { maxStack := 2, maxLocals := 6, code := code, exceptionTable := #[], attributes := #[] }
def k1m1 : Method := { name := "law", desc := "(I)Z", sig := { parameters := [.int], returnType := some .boolean }, accessFlags := 9, code := some k1c1 }
/-- com/example/xylem/xylem/core/VarNameIsStartPinLaw -/
def k1 : Class := { plain "com/example/xylem/xylem/core/VarNameIsStartPinLaw" (some 0) with
  accessFlags := 49
  interfaces := #[]
  cf := some (fileOf pool1 14 #[] #[{ accessFlags := 2, nameIndex := 5, descriptorIndex := 6, attributes := #[] }, { accessFlags := 9, nameIndex := 18, descriptorIndex := 19, attributes := #[] }] 49 2 #[] #[])
  fields := #[]
  methods := #[k1m0, k1m1]
  instanceTypes := #[]
  staticTypes := #[]
  resolved := Array.replicate 23 none
  statics := none }

def pool2 : Array CpInfo := pool [(2, .class_ 4), (1, u "java/lang/Object"), (0, u "<init>"), (0, u "()V"), (11, .class_ 20), (1, u "com/example/xylem/xylem/core/VarName"), (0, u "isStart"), (0, u "(C)Z")] 14

def k2m0 : Method := { name := "<init>", desc := "()V", sig := { parameters := [], returnType := none }, accessFlags := 2, code := none }
def k2c1 : Code := { maxStack := 2, maxLocals := 1, code := prog_17_method_3_code, exceptionTable := #[], attributes := #[] }
def k2m1 : Method := { name := "isStart", desc := "(C)Z", sig := { parameters := [.char], returnType := some .boolean }, accessFlags := 9, code := some k2c1 }
/-- com/example/xylem/xylem/core/VarName -/
def k2 : Class := { plain "com/example/xylem/xylem/core/VarName" (some 0) with
  accessFlags := 49
  interfaces := #[]
  cf := some (fileOf pool2 18 #[] #[{ accessFlags := 2, nameIndex := 5, descriptorIndex := 6, attributes := #[] }, { accessFlags := 9, nameIndex := 21, descriptorIndex := 22, attributes := #[] }] 49 2 #[] #[])
  fields := #[]
  methods := #[k2m0, k2m1]
  instanceTypes := #[]
  staticTypes := #[]
  resolved := Array.replicate 37 none
  statics := none }

def pool3 : Array CpInfo := pool [(1, u "java/lang/Cloneable"), (0, .class_ 1), (0, u "java/lang/Object"), (0, .class_ 3)] 3

/-- java/lang/Cloneable -/
def k3 : Class := { plain "java/lang/Cloneable" (some 0) with
  accessFlags := 1537
  interfaces := #[]
  cf := some (fileOf pool3 2 #[] #[] 1537 4 #[] #[])
  fields := #[]
  methods := #[]
  instanceTypes := #[]
  staticTypes := #[]
  resolved := Array.replicate 8 none
  statics := none }

def pool4 : Array CpInfo := pool [(1, u "java/io/Serializable"), (0, .class_ 1), (0, u "java/lang/Object"), (0, .class_ 3)] 3

/-- java/io/Serializable -/
def k4 : Class := { plain "java/io/Serializable" (some 0) with
  accessFlags := 1537
  interfaces := #[]
  cf := some (fileOf pool4 2 #[] #[] 1537 4 #[] #[])
  fields := #[]
  methods := #[]
  instanceTypes := #[]
  staticTypes := #[]
  resolved := Array.replicate 8 none
  statics := none }

/-- the primitive byte -/
def k5 : Class := { plain "byte" none with kind := .primitive 'B', accessFlags := 0x411 }
/-- [B -/
def k6 : Class := { plain "[B" (some 0) with kind := .array 5 .byte, interfaces := #[3, 4], accessFlags := 1041 }

/-- the primitive int -/
def k7 : Class := { plain "int" none with kind := .primitive 'I', accessFlags := 0x411 }
/-- [I -/
def k8 : Class := { plain "[I" (some 0) with kind := .array 7 .int, interfaces := #[3, 4], accessFlags := 1041 }

def heap : Heap := #[]
def classes : Array Class := #[k0, k1, k2, k3, k4, k5, k6, k7, k8]
def interned : List (Array UInt16 × Addr) := []
def slotsUsed : Nat := 0
def theMethod : MethodId := ⟨1, 1⟩
def args0 : Array Value := #[.int 5]
def aboutOver (below : List Frame) : State where
  vm := { classes := classes, interned := interned.toArray }
  heap := heap
  slotsUsed := slotsUsed
  threads := #[{ frames := .invoking theMethod args0 :: below }]
def below0 : List Frame := [.native { method := ⟨0, 0⟩, args := #[] }]
def about1 : State := aboutOver below0
def p0 : Program := .bare "" "" ""
def e0 : Env := launch0.env 0 0 0
theorem w_frames : about1.frames = Frame.invoking theMethod args0 :: below0 := rfl
set_option maxRecDepth 65536 in
theorem w_args : argsFit about1.vm theMethod args0 = true := by decide +kernel
set_option maxRecDepth 65536 in
theorem w_heap : heapFits about1 = true := by decide +kernel
set_option maxRecDepth 65536 in
theorem w_runnable : about1.curStatus? = some .runnable := by decide +kernel
set_option maxRecDepth 65536 in
theorem w_alone : about1.alone = true := by decide +kernel
set_option maxRecDepth 65536 in
theorem w_named : about1.methodNamed? x = some theMethod := by decide +kernel
set_option maxRecDepth 65536 in
theorem w_hears : about1.hears theMethod below0 = true := by decide +kernel
set_option maxRecDepth 65536 in
theorem w_ripe : about1.ripe theMethod args0 below0 = true := by decide +kernel
theorem w_running : about1.status = .running := rfl
set_option maxRecDepth 65536 in
theorem w_room : about1.hasRoom e0.platform room_1 = true :=
  launch0.hasRoom_least _ room_1 (by decide +kernel) (by decide +kernel) (by decide +kernel) (by decide +kernel) (by decide +kernel) (by decide +kernel)
theorem allAtoms_all (ts : List Jvm.Cond) (a : Array Jvm.Value) (st : Jvm.State) : (allAtoms ts).before a st = ts.all (fun c => c.before a st) := by
  induction ts with
  | nil => rfl
  | cons c t ih =>
    show (Jvm.Cond.and c (allAtoms t)).before a st = _
    rw [Jvm.Cond.before_and, ih, List.all_cons]
def words1 : List Jvm.Cond := Jvm.Cond.code x code maxLocals ret :: tables_1
/-- a 'code' word, met by the world's own term for the bytes: nothing is compared byte by byte -/
theorem code_word {y : MethodName} {bytes : ByteArray} {mx : Nat} {rt : Option FieldType} {a : Array Value} {s : State} {m : MethodId} {meth : Method} {c : Code} (h1 : s.methodNamed? y = some m) (h2 : s.vm.method? m = some meth) (h3 : meth.code = some c) (h4 : c.code = bytes)
    (h5 : (c.maxLocals == mx && c.exceptionTable.isEmpty && decide (c.maxStack ≤ mostOperands) && decide (meth.sig.returnType = rt) && !meth.locks && decide (parseMethodDescriptor y.desc = some meth.sig)) = true) : (Jvm.Cond.code y bytes mx rt).before a s = true := by
  simp only [Bool.and_eq_true, beq_iff_eq, Bool.not_eq_true', decide_eq_true_eq] at h5
  obtain ⟨⟨⟨⟨⟨g1, g2⟩, g3⟩, g4⟩, g5⟩, g6⟩ := h5
  simp [Cond.before, Cond.holds, Cond.value, h1, h2, h3, h4, g1, g2, g3, g4, g5, g6]
def isCode : Jvm.Cond → Bool
  | .code _ _ _ _ => true
  | _ => false
theorem all_split {L : List Jvm.Cond} {P : Jvm.Cond → Bool} (h1 : L.all (fun c => isCode c || P c) = true) (h2 : ∀ c ∈ L.filter isCode, P c = true) : L.all P = true := by
  refine List.all_eq_true.mpr fun c hc => ?_
  have h := List.all_eq_true.mp h1 c hc
  rcases Bool.eq_false_or_eq_true (isCode c) with hi | hi
  · exact h2 c (List.mem_filter.mpr ⟨hc, hi⟩)
  · simpa [hi] using h
set_option maxRecDepth 65536 in
theorem w_c0 : (Jvm.Cond.code x code maxLocals ret).before args0 about1 = true := code_word (m := ⟨1, 1⟩) (meth := k1m1) (c := k1c1) (by decide +kernel) rfl rfl rfl (by decide +kernel)
set_option maxRecDepth 65536 in
theorem w_c1 : (Jvm.Cond.code ({ cls := "com/example/xylem/xylem/core/VarName", name := "isStart", desc := "(C)Z" } : Jvm.MethodName) prog_17_method_3_code (1 : Nat) (Option.some Jvm.ClassFile.FieldType.boolean)).before args0 about1 = true := code_word (m := ⟨2, 1⟩) (meth := k2m1) (c := k2c1) (by decide +kernel) rfl rfl rfl (by decide +kernel)
def codes1 : List Jvm.Cond := [Jvm.Cond.code x code maxLocals ret, Jvm.Cond.code ({ cls := "com/example/xylem/xylem/core/VarName", name := "isStart", desc := "(C)Z" } : Jvm.MethodName) prog_17_method_3_code (1 : Nat) (Option.some Jvm.ClassFile.FieldType.boolean)]
set_option maxRecDepth 65536 in
theorem codes_eq : words1.filter isCode = codes1 := rfl
theorem w_codes : ∀ c ∈ words1.filter isCode, c.before args0 about1 = true := by
  rw [codes_eq]
  intro c hc
  simp only [codes1, List.mem_cons, List.not_mem_nil, or_false] at hc
  rcases hc with rfl | rfl
  · exact w_c0
  · exact w_c1
set_option maxRecDepth 65536 in
theorem w_t1 : words1.all (fun c => isCode c || c.before args0 about1) = true := by decide +kernel
theorem w_tables : (allAtoms (Jvm.Cond.code x code maxLocals ret :: tables_1)).before args0 about1 = true := by
  rw [allAtoms_all]
  show words1.all (fun c => c.before args0 about1) = true
  refine all_split ?_ w_codes
  rw [w_t1]
set_option maxRecDepth 65536 in
theorem w_case : (Jvm.Cond.and given_1 narrow_1).before args0 about1 = true := by decide +kernel
theorem w_applies : (headSpec (Jvm.Cond.code x code maxLocals ret :: tables_1) room_1).applies x e0.platform about1 = true :=
  (Spec.applies_iff w_frames).mpr ⟨w_running, w_runnable, w_alone, w_named, w_hears, w_ripe, w_room, w_tables⟩
theorem atStart : AtStart classFile x code maxLocals ret World_1 tables_1 room_1 Calls_1 rest_1 Pre_1 launch0 p0 e0 about1 theMethod args0 below0 :=
  ⟨lists_1, trivial, launch0.admits_env _ _ _, launch0.least_env, fairChoices_fair.cas, fairChoices_fair.clock, w_frames, w_args, w_heap, w_applies, trivial, trivial, w_case⟩
end start1
theorem witness_1 : WitnessClaimed_1 := ⟨start1.p0, start1.e0, start1.about1, start1.theMethod, start1.args0, start1.below0, start1.atStart⟩
end Jvm.Pilot.@@N@@
