import JvmDerived
import JvmDerived.Pilot.@@N@@Statement
import JvmDerived.Pilot.@@N@@Code
set_option linter.unusedVariables false
set_option linter.unusedSimpArgs false
namespace Jvm.Pilot.@@N@@
open Jvm Jvm.ClassFile Sem Op Lib Jvm.Free Jvm.Stand Jvm.LawKit Jvm.RoadKit Bundle Jvm.Pilot.@@N@@.Jvm.D
section Own
variable {p : Program} {l : Launch} {e : Env} {R : Room} {s : State} {m : MethodId} {args : Array Value} {below : List Frame} {meth : Method} {c : Code} {T : State} {locs : List Loc} {cells slots : Nat} {Q : Outcome → State → Prop} {Z : State} {a0 : Array Value} {h : Heap}
/-- from T, with g on top, the run ends as Q says -/
def Ends (p : Program) (e : Env) (below : List Frame) (Q : Outcome → State → Prop) (T : State) (g : JFrame) : Prop :=
  ∃ s₂ o, Steps p.tables e below (T.setTop g) s₂ ∧ s₂.status = .running ∧ Ended s₂ below o ∧ Q o s₂
theorem Ends.go {T' : State} {g g' : JFrame} (st : ∀ t, Steps p.tables e below (T'.setTop g') t → Steps p.tables e below (T.setTop g) t) (k : Ends p e below Q T' g') : Ends p e below Q T g := by
  obtain ⟨s₂, o, h1, r⟩ := k
  exact ⟨s₂, o, st _ h1, r⟩
theorem Ends.cast {g g' : JFrame} (q : g = g') (k : Ends p e below Q T g') : Ends p e below Q T g := q ▸ k
/-- what a body that returns leaves -/
def Out (s : State) (ce sl : Nat) (Qv : Option Value → Heap → List Loc → Prop) (o : Outcome) (U : State) : Prop := ∃ v L, o = .returned v ∧ Qv v U.heap L ∧ FrameEnd s o U L ce sl
theorem ow_body {y : MethodName} {bytes : ByteArray} {ml : Nat} {ret : Option FieldType} {ws : List Jvm.Cond} {rm : Room} {as : Array Value} {ce sl : Nat} {Qv : Option Value → Heap → List Loc → Prop} (hp : plainFor y = true)
    (body : ∀ (p : Program) (e : Env) (s : State) (m : MethodId) (below : List Frame) (meth : Method) (c : Code) (T : State), Stand p l e rm s m as below meth c T [] 0 0 → p.tables.exec = Jvm.exec → Z.Warmed39 s.vm → c.code = bytes → c.maxLocals = ml → s.vm.findClass y.cls = some m.cls → meth.name = y.name → meth.sig.returnType = ret → meth.locks = false → T.heap = h → Ends p e below (Out s ce sl Qv) T (entryFrame m as ml)) :
    MetFree l y (head1 (Jvm.Cond.code y bytes ml ret :: ws) rm) (fun a U => a = as ∧ Z.Warmed39 U.vm ∧ U.heap = h) (fun _ _ _ _ _ => True) (fun _ U o U' => ∃ v L, o = .returned v ∧ Qv v U'.heap L ∧ FrameEnd U o U' L ce sl) := by
  refine MetFree.of_bodySF hp hisR ?_
  intro p e s m args below meth c s₁ Bd hml0 hP hK
  obtain ⟨rfl, hZ, hh⟩ := hP
  exact body p e s m below meth c s₁ (Stand.of_body Bd) Bd.exec hZ Bd.bytes hml0 (findClass_of_methodNamed Bd.named) (name_of_methodNamed Bd.named Bd.method).1 Bd.returns Bd.notSynchronized (by rw [← hh, Bd.state]; rfl)
theorem ow_iload (X : Stand p l e R s m args below meth c T locs cells slots) (hx : p.tables.exec = Jvm.exec) {pc pc' : Nat} {Ls : Array Slot} {St : List Value} {k : Nat} {v : Int32} (hd : decode c.code pc = .ok (.iload k, 2)) (hl : Ls[k]? = some (.val (.int v))) (hp : pc + 2 = pc') (kk : Ends p e below Q T (mkF m pc' Ls (.int v :: St))) : Ends p e below Q T (mkF m pc Ls St) := by subst hp; exact Ends.go (fun _ q => XS.iload X.here hx rfl hd hl q) kk
theorem ow_iloadN (X : Stand p l e R s m args below meth c T locs cells slots) (hx : p.tables.exec = Jvm.exec) {pc pc' : Nat} {Ls : Array Slot} {St : List Value} {k : Fin 4} {v : Int32} (hd : decode c.code pc = .ok (.iload_n k, 1)) (hl : Ls[k.val]? = some (.val (.int v))) (hp : pc + 1 = pc') (kk : Ends p e below Q T (mkF m pc' Ls (.int v :: St))) : Ends p e below Q T (mkF m pc Ls St) := by subst hp; exact Ends.go (fun _ q => XS.iloadN X.here hx rfl hd hl q) kk
theorem ow_lload (X : Stand p l e R s m args below meth c T locs cells slots) (hx : p.tables.exec = Jvm.exec) {pc pc' : Nat} {Ls : Array Slot} {St : List Value} {k : Nat} {v : Int64} (hd : decode c.code pc = .ok (.lload k, 2)) (hl : Ls[k]? = some (.val (.long v))) (hp : pc + 2 = pc') (kk : Ends p e below Q T (mkF m pc' Ls (.long v :: St))) : Ends p e below Q T (mkF m pc Ls St) := by subst hp; exact Ends.go (fun _ q => XS.lload X.here hx rfl hd hl q) kk
theorem ow_lloadN (X : Stand p l e R s m args below meth c T locs cells slots) (hx : p.tables.exec = Jvm.exec) {pc pc' : Nat} {Ls : Array Slot} {St : List Value} {k : Fin 4} {v : Int64} (hd : decode c.code pc = .ok (.lload_n k, 1)) (hl : Ls[k.val]? = some (.val (.long v))) (hp : pc + 1 = pc') (kk : Ends p e below Q T (mkF m pc' Ls (.long v :: St))) : Ends p e below Q T (mkF m pc Ls St) := by subst hp; exact Ends.go (fun _ q => XS.lloadN X.here hx rfl hd hl q) kk
theorem ow_istore (X : Stand p l e R s m args below meth c T locs cells slots) (hx : p.tables.exec = Jvm.exec) {pc pc' : Nat} {Ls : Array Slot} {Ls' : Array Slot} {St : List Value} {k : Nat} {v : Int32} (hd : decode c.code pc = .ok (.istore k, 2)) (hl : storeLocals Ls k (.int v) = some Ls') (hp : pc + 2 = pc') (kk : Ends p e below Q T (mkF m pc' Ls' St)) : Ends p e below Q T (mkF m pc Ls (.int v :: St)) := by subst hp; exact Ends.go (fun _ q => XS.istore X.here hx rfl hd rfl hl q) kk
theorem ow_istoreN (X : Stand p l e R s m args below meth c T locs cells slots) (hx : p.tables.exec = Jvm.exec) {pc pc' : Nat} {Ls : Array Slot} {Ls' : Array Slot} {St : List Value} {k : Fin 4} {v : Int32} (hd : decode c.code pc = .ok (.istore_n k, 1)) (hl : storeLocals Ls k.val (.int v) = some Ls') (hp : pc + 1 = pc') (kk : Ends p e below Q T (mkF m pc' Ls' St)) : Ends p e below Q T (mkF m pc Ls (.int v :: St)) := by subst hp; exact Ends.go (fun _ q => XS.istoreN X.here hx rfl hd rfl hl q) kk
theorem ow_lstore (X : Stand p l e R s m args below meth c T locs cells slots) (hx : p.tables.exec = Jvm.exec) {pc pc' : Nat} {Ls : Array Slot} {Ls' : Array Slot} {St : List Value} {k : Nat} {v : Int64} (hd : decode c.code pc = .ok (.lstore k, 2)) (hl : storeLocals Ls k (.long v) = some Ls') (hp : pc + 2 = pc') (kk : Ends p e below Q T (mkF m pc' Ls' St)) : Ends p e below Q T (mkF m pc Ls (.long v :: St)) := by subst hp; exact Ends.go (fun _ q => XS.lstore X.here hx rfl hd rfl hl q) kk
theorem ow_lstoreN (X : Stand p l e R s m args below meth c T locs cells slots) (hx : p.tables.exec = Jvm.exec) {pc pc' : Nat} {Ls : Array Slot} {Ls' : Array Slot} {St : List Value} {k : Fin 4} {v : Int64} (hd : decode c.code pc = .ok (.lstore_n k, 1)) (hl : storeLocals Ls k.val (.long v) = some Ls') (hp : pc + 1 = pc') (kk : Ends p e below Q T (mkF m pc' Ls' St)) : Ends p e below Q T (mkF m pc Ls (.long v :: St)) := by subst hp; exact Ends.go (fun _ q => XS.lstoreN X.here hx rfl hd rfl hl q) kk
theorem ow_iconst (X : Stand p l e R s m args below meth c T locs cells slots) (hx : p.tables.exec = Jvm.exec) {pc pc' : Nat} {Ls : Array Slot} {St : List Value} {i : Int} {z : Int32} (hd : decode c.code pc = .ok (.iconst i, 1)) (hz : Int32.ofInt i = z) (hp : pc + 1 = pc') (kk : Ends p e below Q T (mkF m pc' Ls (.int z :: St))) : Ends p e below Q T (mkF m pc Ls St) := by subst hp hz; exact Ends.go (fun _ q => XS.iconst X.here hx rfl hd q) kk
theorem ow_bipush (X : Stand p l e R s m args below meth c T locs cells slots) (hx : p.tables.exec = Jvm.exec) {pc pc' : Nat} {Ls : Array Slot} {St : List Value} {i : Int} {z : Int32} (hd : decode c.code pc = .ok (.bipush i, 2)) (hz : (Int8.ofInt i).toInt32 = z) (hp : pc + 2 = pc') (kk : Ends p e below Q T (mkF m pc' Ls (.int z :: St))) : Ends p e below Q T (mkF m pc Ls St) := by subst hp hz; exact Ends.go (fun _ q => XS.bipush X.here hx rfl hd q) kk
theorem ow_lconst (X : Stand p l e R s m args below meth c T locs cells slots) (hx : p.tables.exec = Jvm.exec) {pc pc' : Nat} {Ls : Array Slot} {St : List Value} {k : Fin 2} {z : Int64} (hd : decode c.code pc = .ok (.lconst k, 1)) (hz : Int64.ofNat k = z) (hp : pc + 1 = pc') (kk : Ends p e below Q T (mkF m pc' Ls (.long z :: St))) : Ends p e below Q T (mkF m pc Ls St) := by subst hp hz; exact Ends.go (fun _ q => XS.lconst X.here hx rfl hd q) kk
theorem ow_ldc2Long (X : Stand p l e R s m args below meth c T locs cells slots) (hx : p.tables.exec = Jvm.exec) (hZ : Z.Warmed39 s.vm) {own : String} {i : Nat} {z : Int64} (hown : s.vm.findClass own = some m.cls) (w : (Jvm.Cond.constantLong own i z).before a0 Z = true) {pc pc' : Nat} {Ls : Array Slot} {St : List Value} (hd : decode c.code pc = .ok (.ldc2_w i, 3)) (hp : pc + 3 = pc') (kk : Ends p e below Q T (mkF m pc' Ls (.long z :: St))) : Ends p e below Q T (mkF m pc Ls St) := by subst hp; exact Ends.go (X.ldc2Long hx hown (mvT hZ w) (g := mkF m pc Ls St) rfl hd) kk
theorem ow_iand (X : Stand p l e R s m args below meth c T locs cells slots) (hx : p.tables.exec = Jvm.exec) {pc pc' : Nat} {Ls : Array Slot} {St : List Value} {x : Int32} {y : Int32} (hd : decode c.code pc = .ok (.iand, 1)) (hp : pc + 1 = pc') (kk : ∀ z : Int32, z = x &&& y → Ends p e below Q T (mkF m pc' Ls (.int z :: St))) : Ends p e below Q T (mkF m pc Ls (.int y :: .int x :: St)) := by subst hp; exact Ends.go (fun _ q => XS.iand X.here hx rfl hd rfl q) (kk _ rfl)
theorem ow_lmul (X : Stand p l e R s m args below meth c T locs cells slots) (hx : p.tables.exec = Jvm.exec) {pc pc' : Nat} {Ls : Array Slot} {St : List Value} {x : Int64} {y : Int64} (hd : decode c.code pc = .ok (.lmul, 1)) (hp : pc + 1 = pc') (kk : ∀ z : Int64, z = x * y → Ends p e below Q T (mkF m pc' Ls (.long z :: St))) : Ends p e below Q T (mkF m pc Ls (.long y :: .long x :: St)) := by subst hp; exact Ends.go (fun _ q => XS.lmul X.here hx rfl hd rfl q) (kk _ rfl)
theorem ow_lor (X : Stand p l e R s m args below meth c T locs cells slots) (hx : p.tables.exec = Jvm.exec) {pc pc' : Nat} {Ls : Array Slot} {St : List Value} {x : Int64} {y : Int64} (hd : decode c.code pc = .ok (.lor, 1)) (hp : pc + 1 = pc') (kk : ∀ z : Int64, z = x ||| y → Ends p e below Q T (mkF m pc' Ls (.long z :: St))) : Ends p e below Q T (mkF m pc Ls (.long y :: .long x :: St)) := by subst hp; exact Ends.go (fun _ q => XS.lor X.here hx rfl hd rfl q) (kk _ rfl)
theorem ow_irem (X : Stand p l e R s m args below meth c T locs cells slots) (hx : p.tables.exec = Jvm.exec) {pc pc' : Nat} {Ls : Array Slot} {St : List Value} {x : Int32} {y : Int32} (hd : decode c.code pc = .ok (.irem, 1)) (hy : y ≠ 0) (hp : pc + 1 = pc') (kk : ∀ z : Int32, z = x % y → Ends p e below Q T (mkF m pc' Ls (.int z :: St))) : Ends p e below Q T (mkF m pc Ls (.int y :: .int x :: St)) := by subst hp; exact Ends.go (fun _ q => iremM (g := mkF m pc Ls (.int y :: .int x :: St)) X hx rfl hd rfl hy q) (kk _ rfl)
theorem ow_ldiv (X : Stand p l e R s m args below meth c T locs cells slots) (hx : p.tables.exec = Jvm.exec) {pc pc' : Nat} {Ls : Array Slot} {St : List Value} {x : Int64} {y : Int64} (hd : decode c.code pc = .ok (.ldiv, 1)) (hy : y ≠ 0) (hp : pc + 1 = pc') (kk : ∀ z : Int64, z = x / y → Ends p e below Q T (mkF m pc' Ls (.long z :: St))) : Ends p e below Q T (mkF m pc Ls (.long y :: .long x :: St)) := by subst hp; exact Ends.go (fun _ q => XS.ldiv X.here hx rfl hd rfl hy q) (kk _ rfl)
theorem ow_lrem (X : Stand p l e R s m args below meth c T locs cells slots) (hx : p.tables.exec = Jvm.exec) {pc pc' : Nat} {Ls : Array Slot} {St : List Value} {x : Int64} {y : Int64} (hd : decode c.code pc = .ok (.lrem, 1)) (hy : y ≠ 0) (hp : pc + 1 = pc') (kk : ∀ z : Int64, z = x - (x / y) * y → Ends p e below Q T (mkF m pc' Ls (.long z :: St))) : Ends p e below Q T (mkF m pc Ls (.long y :: .long x :: St)) := by subst hp; exact Ends.go (fun _ q => XS.lrem X.here hx rfl hd rfl hy q) (kk _ rfl)
theorem ow_iushr (X : Stand p l e R s m args below meth c T locs cells slots) (hx : p.tables.exec = Jvm.exec) {pc pc' : Nat} {Ls : Array Slot} {St : List Value} {x : Int32} {y : Int32} (hd : decode c.code pc = .ok (.iushr, 1)) (hp : pc + 1 = pc') (kk : ∀ z : Int32, z = (x.toUInt32 >>> (y &&& 31).toUInt32).toInt32 → Ends p e below Q T (mkF m pc' Ls (.int z :: St))) : Ends p e below Q T (mkF m pc Ls (.int y :: .int x :: St)) := by subst hp; exact Ends.go (fun _ q => XS.iushr X.here hx rfl hd rfl q) (kk _ rfl)
theorem ow_lshl (X : Stand p l e R s m args below meth c T locs cells slots) (hx : p.tables.exec = Jvm.exec) {pc pc' : Nat} {Ls : Array Slot} {St : List Value} {x : Int64} {y : Int32} (hd : decode c.code pc = .ok (.lshl, 1)) (hp : pc + 1 = pc') (kk : ∀ z : Int64, z = x <<< (y &&& 0x3f).toInt64 → Ends p e below Q T (mkF m pc' Ls (.long z :: St))) : Ends p e below Q T (mkF m pc Ls (.int y :: .long x :: St)) := by subst hp; exact Ends.go (fun _ q => XS.lshl X.here hx rfl hd rfl q) (kk _ rfl)
theorem ow_lushr (X : Stand p l e R s m args below meth c T locs cells slots) (hx : p.tables.exec = Jvm.exec) {pc pc' : Nat} {Ls : Array Slot} {St : List Value} {x : Int64} {y : Int32} (hd : decode c.code pc = .ok (.lushr, 1)) (hp : pc + 1 = pc') (kk : ∀ z : Int64, z = (x.toUInt64 >>> (y &&& 0x3f).toInt64.toUInt64).toInt64 → Ends p e below Q T (mkF m pc' Ls (.long z :: St))) : Ends p e below Q T (mkF m pc Ls (.int y :: .long x :: St)) := by subst hp; exact Ends.go (fun _ q => XS.lushr X.here hx rfl hd rfl q) (kk _ rfl)
theorem ow_lcmp (X : Stand p l e R s m args below meth c T locs cells slots) (hx : p.tables.exec = Jvm.exec) {pc pc' : Nat} {Ls : Array Slot} {St : List Value} {x : Int64} {y : Int64} (hd : decode c.code pc = .ok (.lcmp, 1)) (hp : pc + 1 = pc') (kk : ∀ z : Int32, z = lcmpW x y → Ends p e below Q T (mkF m pc' Ls (.int z :: St))) : Ends p e below Q T (mkF m pc Ls (.long y :: .long x :: St)) := by subst hp; exact Ends.go (fun _ q => XS.lcmp X.here hx rfl hd rfl q) (kk _ rfl)
theorem ow_lneg (X : Stand p l e R s m args below meth c T locs cells slots) (hx : p.tables.exec = Jvm.exec) {pc pc' : Nat} {Ls : Array Slot} {St : List Value} {x : Int64} (hd : decode c.code pc = .ok (.lneg, 1)) (hp : pc + 1 = pc') (kk : ∀ z : Int64, z = -x → Ends p e below Q T (mkF m pc' Ls (.long z :: St))) : Ends p e below Q T (mkF m pc Ls (.long x :: St)) := by subst hp; exact Ends.go (fun _ q => XS.lneg X.here hx rfl hd rfl q) (kk _ rfl)
theorem ow_iinc (X : Stand p l e R s m args below meth c T locs cells slots) (hx : p.tables.exec = Jvm.exec) {pc pc' : Nat} {Ls : Array Slot} {Ls' : Array Slot} {St : List Value} {k : Nat} {i : Int} {x : Int32} (hd : decode c.code pc = .ok (.iinc k i, 3)) (hl : Ls[k]? = some (.val (.int x))) (hl' : ∀ z, storeLocals Ls k (.int z) = some (Ls'.setIfInBounds k (.val (.int z)))) (hp : pc + 3 = pc') (kk : ∀ z : Int32, z = x + Int32.ofInt i → Ends p e below Q T (mkF m pc' (Ls'.setIfInBounds k (.val (.int z))) St)) : Ends p e below Q T (mkF m pc Ls St) := by subst hp; exact Ends.go (fun _ q => XS.iinc X.here hx rfl hd hl (hl' _) q) (kk _ rfl)
theorem ow_goto (X : Stand p l e R s m args below meth c T locs cells slots) (hx : p.tables.exec = Jvm.exec) {pc pc' : Nat} {Ls : Array Slot} {St : List Value} {o : Int} (hd : decode c.code pc = .ok (.goto o, 3)) (ho : 0 ≤ (pc : Int) + o) (hp : ((pc : Int) + o).toNat = pc') (kk : Ends p e below Q T (mkF m pc' Ls St)) : Ends p e below Q T (mkF m pc Ls St) := Ends.go (fun _ q => XS.goto X.here hx rfl (pc0 := pc) (pc' := pc') rfl hd ho hp q) kk
theorem ow_icmpY (X : Stand p l e R s m args below meth c T locs cells slots) (hx : p.tables.exec = Jvm.exec) {pc pc' : Nat} {Ls : Array Slot} {St : List Value} {cd : ClassFile.Cond} {x y : Int32} {o : Int} (hd : decode c.code pc = .ok (.if_icmp cd o, 3)) (hc : if_icmp.holds cd x y = true) (ho : 0 ≤ (pc : Int) + o) (hp : ((pc : Int) + o).toNat = pc') (kk : Ends p e below Q T (mkF m pc' Ls St)) : Ends p e below Q T (mkF m pc Ls (.int y :: .int x :: St)) := Ends.go (fun _ q => XS.icmpYes X.here hx rfl (pc0 := pc) (pc' := pc') rfl hd rfl hc ho hp q) kk
theorem ow_icmpN (X : Stand p l e R s m args below meth c T locs cells slots) (hx : p.tables.exec = Jvm.exec) {pc pc' : Nat} {Ls : Array Slot} {St : List Value} {cd : ClassFile.Cond} {x y : Int32} {o : Int} (hd : decode c.code pc = .ok (.if_icmp cd o, 3)) (hc : if_icmp.holds cd x y = false) (hp : pc + 3 = pc') (kk : Ends p e below Q T (mkF m pc' Ls St)) : Ends p e below Q T (mkF m pc Ls (.int y :: .int x :: St)) := by subst hp; exact Ends.go (fun _ q => XS.icmpNo X.here hx rfl hd rfl hc q) kk
theorem ow_ifY (X : Stand p l e R s m args below meth c T locs cells slots) (hx : p.tables.exec = Jvm.exec) {pc pc' : Nat} {Ls : Array Slot} {St : List Value} {cd : ClassFile.Cond} {x : Int32} {o : Int} (hd : decode c.code pc = .ok (.ifCond cd o, 3)) (hc : if_icmp.holds cd x 0 = true) (ho : 0 ≤ (pc : Int) + o) (hp : ((pc : Int) + o).toNat = pc') (kk : Ends p e below Q T (mkF m pc' Ls St)) : Ends p e below Q T (mkF m pc Ls (.int x :: St)) := Ends.go (fun _ q => XS.ifYes X.here hx rfl (pc0 := pc) (pc' := pc') rfl hd rfl ((if0 _ _).trans hc) ho hp q) kk
theorem ow_ifN (X : Stand p l e R s m args below meth c T locs cells slots) (hx : p.tables.exec = Jvm.exec) {pc pc' : Nat} {Ls : Array Slot} {St : List Value} {cd : ClassFile.Cond} {x : Int32} {o : Int} (hd : decode c.code pc = .ok (.ifCond cd o, 3)) (hc : if_icmp.holds cd x 0 = false) (hp : pc + 3 = pc') (kk : Ends p e below Q T (mkF m pc' Ls St)) : Ends p e below Q T (mkF m pc Ls (.int x :: St)) := by subst hp; exact Ends.go (fun _ q => XS.ifNo X.here hx rfl hd rfl ((if0 _ _).trans hc) q) kk
/-- the six comparisons, said of the signed worth -/
def cmpI : ClassFile.Cond → Int → Int → Prop
  | .eq, a, b => a = b
  | .ne, a, b => ¬ a = b
  | .lt, a, b => a < b
  | .ge, a, b => ¬ a < b
  | .gt, a, b => b < a
  | .le, a, b => ¬ b < a
theorem cmpI_y {cd : ClassFile.Cond} {x y : Int32} (q : cmpI cd x.toInt y.toInt) : if_icmp.holds cd x y = true := by
  cases cd <;> simp only [cmpI] at q <;> simp [if_icmp.holds, ← Int32.toInt_inj, Int32.lt_iff_toInt_lt, Int32.le_iff_toInt_le] <;> omega
theorem cmpI_n {cd : ClassFile.Cond} {x y : Int32} (q : ¬ cmpI cd x.toInt y.toInt) : if_icmp.holds cd x y = false := by
  cases cd <;> simp only [cmpI] at q <;> simp [if_icmp.holds, ← Int32.toInt_inj, Int32.lt_iff_toInt_lt, Int32.le_iff_toInt_le] <;> omega
theorem ow_if_eq (X : Stand p l e R s m args below meth c T locs cells slots) (hx : p.tables.exec = Jvm.exec) {pc pt pf : Nat} {Ls : Array Slot} {St : List Value} {x : Int32} {o : Int} (xi : Int) (hd : decode c.code pc = .ok (.ifCond .eq o, 3)) (hxi : x.toInt = xi) (ho : 0 ≤ (pc : Int) + o) (hp : ((pc : Int) + o).toNat = pt) (hq : pc + 3 = pf) (kt : xi = 0 → Ends p e below Q T (mkF m pt Ls St)) (kf : ¬ xi = 0 → Ends p e below Q T (mkF m pf Ls St)) : Ends p e below Q T (mkF m pc Ls (.int x :: St)) := by
  subst hxi
  have z0 : (0 : Int32).toInt = 0 := rfl
  rcases Classical.em (cmpI .eq x.toInt (0 : Int32).toInt) with w | w
  · exact ow_ifY X hx hd (cmpI_y w) ho hp (kt (by simp only [cmpI, z0] at w; omega))
  · exact ow_ifN X hx hd (cmpI_n w) hq (kf (by simp only [cmpI, z0] at w; omega))
theorem ow_icmp_ne (X : Stand p l e R s m args below meth c T locs cells slots) (hx : p.tables.exec = Jvm.exec) {pc pt pf : Nat} {Ls : Array Slot} {St : List Value} {x y : Int32} {o : Int} (xi yi : Int) (hd : decode c.code pc = .ok (.if_icmp .ne o, 3)) (hxi : x.toInt = xi) (hyi : y.toInt = yi) (ho : 0 ≤ (pc : Int) + o) (hp : ((pc : Int) + o).toNat = pt) (hq : pc + 3 = pf) (kt : ¬ xi = yi → Ends p e below Q T (mkF m pt Ls St)) (kf : xi = yi → Ends p e below Q T (mkF m pf Ls St)) : Ends p e below Q T (mkF m pc Ls (.int y :: .int x :: St)) := by
  subst hxi hyi
  rcases Classical.em (cmpI .ne x.toInt y.toInt) with w | w
  · exact ow_icmpY X hx hd (cmpI_y w) ho hp (kt w)
  · exact ow_icmpN X hx hd (cmpI_n w) hq (kf (by simp only [cmpI] at w; omega))
theorem ow_if_ne (X : Stand p l e R s m args below meth c T locs cells slots) (hx : p.tables.exec = Jvm.exec) {pc pt pf : Nat} {Ls : Array Slot} {St : List Value} {x : Int32} {o : Int} (xi : Int) (hd : decode c.code pc = .ok (.ifCond .ne o, 3)) (hxi : x.toInt = xi) (ho : 0 ≤ (pc : Int) + o) (hp : ((pc : Int) + o).toNat = pt) (hq : pc + 3 = pf) (kt : ¬ xi = 0 → Ends p e below Q T (mkF m pt Ls St)) (kf : xi = 0 → Ends p e below Q T (mkF m pf Ls St)) : Ends p e below Q T (mkF m pc Ls (.int x :: St)) := by
  subst hxi
  have z0 : (0 : Int32).toInt = 0 := rfl
  rcases Classical.em (cmpI .ne x.toInt (0 : Int32).toInt) with w | w
  · exact ow_ifY X hx hd (cmpI_y w) ho hp (kt (by simp only [cmpI, z0] at w; omega))
  · exact ow_ifN X hx hd (cmpI_n w) hq (kf (by simp only [cmpI, z0] at w; omega))
theorem ow_icmp_ge (X : Stand p l e R s m args below meth c T locs cells slots) (hx : p.tables.exec = Jvm.exec) {pc pt pf : Nat} {Ls : Array Slot} {St : List Value} {x y : Int32} {o : Int} (xi yi : Int) (hd : decode c.code pc = .ok (.if_icmp .ge o, 3)) (hxi : x.toInt = xi) (hyi : y.toInt = yi) (ho : 0 ≤ (pc : Int) + o) (hp : ((pc : Int) + o).toNat = pt) (hq : pc + 3 = pf) (kt : ¬ xi < yi → Ends p e below Q T (mkF m pt Ls St)) (kf : xi < yi → Ends p e below Q T (mkF m pf Ls St)) : Ends p e below Q T (mkF m pc Ls (.int y :: .int x :: St)) := by
  subst hxi hyi
  rcases Classical.em (cmpI .ge x.toInt y.toInt) with w | w
  · exact ow_icmpY X hx hd (cmpI_y w) ho hp (kt w)
  · exact ow_icmpN X hx hd (cmpI_n w) hq (kf (by simp only [cmpI] at w; omega))
theorem ow_if_ge (X : Stand p l e R s m args below meth c T locs cells slots) (hx : p.tables.exec = Jvm.exec) {pc pt pf : Nat} {Ls : Array Slot} {St : List Value} {x : Int32} {o : Int} (xi : Int) (hd : decode c.code pc = .ok (.ifCond .ge o, 3)) (hxi : x.toInt = xi) (ho : 0 ≤ (pc : Int) + o) (hp : ((pc : Int) + o).toNat = pt) (hq : pc + 3 = pf) (kt : ¬ xi < 0 → Ends p e below Q T (mkF m pt Ls St)) (kf : xi < 0 → Ends p e below Q T (mkF m pf Ls St)) : Ends p e below Q T (mkF m pc Ls (.int x :: St)) := by
  subst hxi
  have z0 : (0 : Int32).toInt = 0 := rfl
  rcases Classical.em (cmpI .ge x.toInt (0 : Int32).toInt) with w | w
  · exact ow_ifY X hx hd (cmpI_y w) ho hp (kt (by simp only [cmpI, z0] at w; omega))
  · exact ow_ifN X hx hd (cmpI_n w) hq (kf (by simp only [cmpI, z0] at w; omega))
theorem ow_icmp_gt (X : Stand p l e R s m args below meth c T locs cells slots) (hx : p.tables.exec = Jvm.exec) {pc pt pf : Nat} {Ls : Array Slot} {St : List Value} {x y : Int32} {o : Int} (xi yi : Int) (hd : decode c.code pc = .ok (.if_icmp .gt o, 3)) (hxi : x.toInt = xi) (hyi : y.toInt = yi) (ho : 0 ≤ (pc : Int) + o) (hp : ((pc : Int) + o).toNat = pt) (hq : pc + 3 = pf) (kt : yi < xi → Ends p e below Q T (mkF m pt Ls St)) (kf : ¬ yi < xi → Ends p e below Q T (mkF m pf Ls St)) : Ends p e below Q T (mkF m pc Ls (.int y :: .int x :: St)) := by
  subst hxi hyi
  rcases Classical.em (cmpI .gt x.toInt y.toInt) with w | w
  · exact ow_icmpY X hx hd (cmpI_y w) ho hp (kt w)
  · exact ow_icmpN X hx hd (cmpI_n w) hq (kf (by simp only [cmpI] at w; omega))
theorem ow_retB (X : Stand p l e R s m args below meth c T locs cells slots) (hx : p.tables.exec = Jvm.exec) {pc : Nat} {Ls : Array Slot} {rest : List Value} {z z' : Int32} (hret : meth.sig.returnType = some .boolean) (hlk : meth.locks = false) (hd : decode c.code pc = .ok (.ireturn, 1)) {ce sl : Nat} (hc : cells ≤ ce) (hs : slots ≤ sl) {Qv : Option Value → Heap → List Loc → Prop} (hz : nar .boolean z = z') (q : Qv (some (.int z')) T.heap locs) : Ends p e below (Out s ce sl Qv) T (mkF m pc Ls (.int z :: rest)) := by
  subst hz
  obtain ⟨fs, hr, hrun, hended, hW, hsame⟩ := X.leave (v := some (.int (nar .boolean z))) (fun h => by rw [hret] at h; cases h) hlk
  exact ⟨_, _, retN X hx (t := .boolean) hret (by simp) hd hr, hrun, hended, _, _, rfl, q, ⟨_, rfl⟩, hW, hsame.mono hc hs⟩
theorem ow_retL (X : Stand p l e R s m args below meth c T locs cells slots) (hx : p.tables.exec = Jvm.exec) {pc : Nat} {Ls : Array Slot} {z : Int64} (hret : meth.sig.returnType = some .long) (hlk : meth.locks = false) (hd : decode c.code pc = .ok (.lreturn, 1)) {ce sl : Nat} (hc : cells ≤ ce) (hs : slots ≤ sl) {Qv : Option Value → Heap → List Loc → Prop} (q : Qv (some (.long z)) T.heap locs) : Ends p e below (Out s ce sl Qv) T (mkF m pc Ls [.long z]) := by
  obtain ⟨fs, hr, hrun, hended, hW, hsame⟩ := X.leave (v := some (.long z)) (fun h => by rw [hret] at h; cases h) hlk
  exact ⟨_, _, X.lreturnOut hx hret hd hr, hrun, hended, _, _, rfl, q, ⟨_, rfl⟩, hW, hsame.mono hc hs⟩
theorem ow_callS (X : Stand p l e R s m args below meth c T locs cells slots) (hx : p.tables.exec = Jvm.exec) (hZ : Z.Warmed39 s.vm) {own : String} {index : Nat} {y : MethodName} {bytes : ByteArray} {maxL : Nat} {ret : Option FieldType} (hown : s.vm.findClass own = some m.cls)
    (wl : (Jvm.Cond.methodLink own index y).before a0 Z = true) (wst : (Jvm.Cond.static y).before a0 Z = true) (wi : (Jvm.Cond.initialized y.cls).before a0 Z = true) (wc : (Jvm.Cond.code y bytes maxL ret).before a0 Z = true) (hy : y.cls ≠ "java/lang/invoke/MethodHandle" ∧ y.cls ≠ "java/lang/invoke/VarHandle")
    {rm : Room} {as' : Array Value} {Qc : Option Value → Heap → List Loc → Prop} (hM : MetFree l y (head1 [Jvm.Cond.code y bytes maxL ret] rm) (fun a U => a = as' ∧ Z.Warmed39 U.vm ∧ U.heap = h) (fun _ _ _ _ _ => True) (fun _ U o U' => ∃ v L, o = .returned v ∧ Qc v U'.heap L ∧ FrameEnd U o U' L rm.cells rm.slots))
    (eT : T.heap = h) (W : Nat) (hf : rm.frames + 1 ≤ R.frames) (hl : W + (maxL + 11) + rm.locals ≤ R.locals) (hce : cells + rm.cells ≤ R.cells) (hsl : slots + rm.slots ≤ R.slots) {pc pc' : Nat} {Ls : Array Slot} {St rest : List Value} (argsL : List Value) {ps : List FieldType} {rt : Option FieldType} (hsize : Ls.size = c.maxLocals) (hdesc : parseMethodDescriptor y.desc = some ⟨ps, rt⟩) (hlen : argsL.length = ps.length) (hst : St = argsL.reverse ++ rest) (has : argsL.toArray = as') (hW : (rest.map fun v => v.category).sum ≤ W)
    (hd : decode c.code pc = .ok (.invokestatic index, 3)) (hp : pc + 3 = pc')
    (kk : ∀ (v : Option Value) (T' : State) (L' : List Loc), Qc v T'.heap L' → Stand p l e R s m args below meth c T' (locs ++ L') (cells + rm.cells) (slots + rm.slots) → Ends p e below Q T' (mkF m pc' Ls (v.toList ++ rest))) : Ends p e below Q T (mkF m pc Ls St) := by
  subst hst has hp
  obtain ⟨v, vm₁, ⟨T', L, k2, n2⟩, -, X', ⟨Lc, hQ, l1, y1, z1⟩, st⟩ := Jvm.LawKit.callS X hx hown (mvT hZ wl) (mvT hZ wst) (mvT hZ wi) (mvT hZ wc) hy (backOf (W := W) hM hZ wc wi hf hl) (g := mkF m pc Ls (argsL.reverse ++ rest)) rfl hsize (argsL := argsL) (rest := rest) (lenOf hdesc hlen) rfl (by show 2 * 0 + _ ≤ _; omega) hd (fun _ _ => ⟨rfl, eT, hce, hsl⟩)
  dsimp only [Pt.U, Pt.locs, Pt.cells, Pt.slots] at X' l1 y1 z1 st hQ
  subst l1 y1 z1
  exact Ends.go st (kk v T' Lc hQ X')
def QL (P : Int64 → Prop) (h0 : Heap) (v : Option Value) (h : Heap) (L : List Loc) : Prop := ∃ z, v = some (.long z) ∧ P z ∧ L = [] ∧ h = h0
theorem ow_callPL (X : Stand p l e R s m args below meth c T locs cells slots) (hx : p.tables.exec = Jvm.exec) (hZ : Z.Warmed39 s.vm) {own : String} {index : Nat} {y : MethodName} {bytes : ByteArray} {maxL : Nat} {ret : Option FieldType} (hown : s.vm.findClass own = some m.cls)
    (wl : (Jvm.Cond.methodLink own index y).before a0 Z = true) (wst : (Jvm.Cond.static y).before a0 Z = true) (wi : (Jvm.Cond.initialized y.cls).before a0 Z = true) (wc : (Jvm.Cond.code y bytes maxL ret).before a0 Z = true) (hy : y.cls ≠ "java/lang/invoke/MethodHandle" ∧ y.cls ≠ "java/lang/invoke/VarHandle")
    {fr lo : Nat} {as' : Array Value} {P : Int64 → Prop} (hM : MetFree l y (head1 [Jvm.Cond.code y bytes maxL ret] ({ frames := fr, cells := 0, slots := 0, locals := lo } : Room)) (fun a U => a = as' ∧ Z.Warmed39 U.vm ∧ U.heap = h) (fun _ _ _ _ _ => True) (fun _ U o U' => ∃ v L, o = .returned v ∧ QL P h v U'.heap L ∧ FrameEnd U o U' L 0 0))
    (eT : T.heap = h) (W : Nat) (hf : fr + 1 ≤ R.frames) (hl : W + (maxL + 11) + lo ≤ R.locals) (hce : cells ≤ R.cells) (hsl : slots ≤ R.slots) {pc pc' : Nat} {Ls : Array Slot} {St rest : List Value} (argsL : List Value) {ps : List FieldType} {rt : Option FieldType} (hsize : Ls.size = c.maxLocals) (hdesc : parseMethodDescriptor y.desc = some ⟨ps, rt⟩) (hlen : argsL.length = ps.length) (hst : St = argsL.reverse ++ rest) (has : argsL.toArray = as') (hW : (rest.map fun v => v.category).sum ≤ W)
    (hd : decode c.code pc = .ok (.invokestatic index, 3)) (hp : pc + 3 = pc')
    (kk : ∀ (z : Int64) (T' : State), P z → Stand p l e R s m args below meth c T' locs cells slots → T'.heap = h → Ends p e below Q T' (mkF m pc' Ls (.long z :: rest))) : Ends p e below Q T (mkF m pc Ls St) := by
  refine ow_callS X hx hZ hown wl wst wi wc hy hM eT W hf hl hce hsl argsL hsize hdesc hlen hst has hW hd hp ?_
  rintro v T' L' ⟨z, rfl, hP, rfl, hh⟩ X'
  rw [List.append_nil] at X'
  exact kk z T' hP X' hh
end Own

/-! the plain laws on powers -/
theorem pw_abs (b : Int) (B i : Nat) (h : b.natAbs ≤ B) : (b ^ i).natAbs ≤ B ^ i := by rw [Int.natAbs_pow]; exact Nat.pow_le_pow_left h i
def Fits (b : Int) (e : Nat) : Prop := ∀ i, i ≤ e → -9223372036854775808 ≤ b ^ i ∧ b ^ i < 9223372036854775808 ∧ (i < e → -9223372036854775808 < b ^ i)
theorem fits_of (b : Int) (B e : Nat) (h : b.natAbs ≤ B) (hB : 1 ≤ B) (hE : B ^ e < 9223372036854775808) : Fits b e := fun i hi => by
  have h1 := pw_abs b B i h
  have h2 : B ^ i ≤ B ^ e := Nat.pow_le_pow_right hB hi
  omega
theorem fits_le1 (b : Int) (e : Nat) (h1 : -9223372036854775808 ≤ b) (h2 : b < 9223372036854775808) (he : e ≤ 1) : Fits b e := fun i hi => by
  have hi' : i = 0 ∨ i = 1 := by omega
  rcases hi' with rfl | rfl
  · rw [Int.pow_zero]; omega
  · rw [show b ^ 1 = b from by rw [Int.pow_succ, Int.pow_zero, Int.one_mul]]; omega
theorem mulx_div (x y z : Int64) (hz : z.toInt = x.toInt * y.toInt) (hy : ¬ y.toInt = 0) : (z / y).toInt = x.toInt := by
  by_cases h : y = -1
  · have q := c_ldivM z y h
    subst h
    rw [show (-1 : Int64).toInt = -1 from rfl] at hz
    have r1 := rng64 (z / -1)
    have r2 := rng64 x
    omega
  · rw [Int64.toInt_div_of_ne_right z y h, hz]
    exact Int.mul_tdiv_cancel _ hy
theorem negp (a : Int) (n : Nat) : (n % 2 = 0 → (-a) ^ n = a ^ n) ∧ (n % 2 = 1 → (-a) ^ n = -(a ^ n)) := by
  induction n with
  | zero => exact ⟨fun _ => by rw [Int.pow_zero, Int.pow_zero], fun h => by omega⟩
  | succ n ih =>
    refine ⟨fun h => ?_, fun h => ?_⟩
    · rw [Int.pow_succ, Int.pow_succ, ih.2 (by omega), Int.neg_mul_neg]
    · rw [Int.pow_succ, Int.pow_succ, ih.1 (by omega), Int.mul_neg]
theorem shl_pow : ∀ k : Fin 63, ((1 : Int64) <<< ((Int32.ofNat k.val) &&& 0x3f).toInt64).toInt = 2 ^ k.val := by decide +kernel
theorem shl_is {pe : Int32} {z : Int64} (h0 : 0 ≤ pe.toInt) (h1 : pe.toInt ≤ 62) (hz : z = (1 : Int64) <<< (pe &&& 0x3f).toInt64) : z.toInt = 2 ^ pe.toInt.toNat := by
  have q : pe = Int32.ofNat pe.toInt.toNat := by
    apply Int32.toInt_inj.mp
    have w : (Int32.ofNat pe.toInt.toNat).toInt = (pe.toInt.toNat : Int) := len_toInt (by omega)
    omega
  rw [hz]
  have w := shl_pow ⟨pe.toInt.toNat, by omega⟩
  rw [← q] at w
  exact w
theorem two_pow_lt (e : Nat) (h : e ≤ 62) : (2 : Nat) ^ e < 9223372036854775808 := Nat.lt_of_le_of_lt (Nat.pow_le_pow_right (by decide) h) (by decide)

theorem d_labs_0 : decode jdk_29_method_61_code 0 = .ok (.lload_n 0, 1) := by decide +kernel
theorem d_labs_1 : decode jdk_29_method_61_code 1 = .ok (.lconst 0, 1) := by decide +kernel
theorem d_labs_2 : decode jdk_29_method_61_code 2 = .ok (.lcmp, 1) := by decide +kernel
theorem d_labs_3 : decode jdk_29_method_61_code 3 = .ok (.ifCond .ge 8, 3) := by decide +kernel
theorem d_labs_6 : decode jdk_29_method_61_code 6 = .ok (.lload_n 0, 1) := by decide +kernel
theorem d_labs_7 : decode jdk_29_method_61_code 7 = .ok (.lneg, 1) := by decide +kernel
theorem d_labs_8 : decode jdk_29_method_61_code 8 = .ok (.goto 4, 3) := by decide +kernel
theorem d_labs_11 : decode jdk_29_method_61_code 11 = .ok (.lload_n 0, 1) := by decide +kernel
theorem d_labs_12 : decode jdk_29_method_61_code 12 = .ok (.lreturn, 1) := by decide +kernel
theorem ef_labs (m : MethodId) (x0 : Int64) : entryFrame m #[(.long x0)] 2 = mkF m 0 #[.val (.long x0), .second] [] := by first | (simp [entryFrame, mkF, argsToLocals, Value.category]; done) | rfl
set_option maxRecDepth 65536 in
set_option maxHeartbeats 40000000 in
theorem rm_labs (l : Launch) (Z : State) (a0 : Array Value) (hw : ∀ d ∈ tables_1, d.before a0 Z = true) (ws : List Jvm.Cond) (qa : Int64) (h0 : Heap) :
    MetFree l (⟨"java/lang/Math", "abs", "(J)J"⟩ : MethodName) (head1 (Jvm.Cond.code (⟨"java/lang/Math", "abs", "(J)J"⟩ : MethodName) jdk_29_method_61_code 2 (some .long) :: ws) ({ frames := 0, cells := 0, slots := 0, locals := 0 } : Room)) (fun a_ U_ => a_ = #[(.long qa)] ∧ Z.Warmed39 U_.vm ∧ U_.heap = h0) (fun _ _ _ _ _ => True) (fun _ U_ o_ U_' => ∃ v_ L_, o_ = .returned v_ ∧ (QL (fun z => True) h0) v_ U_'.heap L_ ∧ FrameEnd U_ o_ U_' L_ 0 0) := by
  refine ow_body (Jvm.Free.JP.mathPlain rfl (by decide +kernel)) ?_
  intro p e s m below meth c T0 X0 hx hZ hby hml hown hnm hret hlk e0
  refine Ends.cast (ef_labs m qa) ?_
  have r_qa := rng64 qa
  refine ow_lloadN X0 hx (hb hby d_labs_0) rfl (pc' := 1) rfl ?_
  refine ow_lconst X0 hx (z := (0 : Int64)) (hb hby d_labs_1) rfl (pc' := 2) rfl ?_
  refine ow_lcmp X0 hx (hb hby d_labs_2) (pc' := 3) rfl (fun z1 hz1 => ?_)
  have az1 : (qa.toInt < (0 : Int) → z1.toInt = -1) ∧ (qa.toInt = (0 : Int) → z1.toInt = 0) ∧ ((0 : Int) < qa.toInt → z1.toInt = 1) := by rw [hz1]; exact c_lcmp qa (0 : Int64)
  have rz1 := rng32 z1
  refine ow_if_ge X0 hx (z1.toInt) (hb hby d_labs_3) rfl (by decide) (pt := 11) (by decide) (pf := 6) rfl (fun c3 => ?_) (fun c3 => ?_)
  · refine ow_lloadN X0 hx (hb hby d_labs_11) rfl (pc' := 12) rfl ?_
    exact ow_retL X0 hx hret hlk (hb hby d_labs_12) (by decide) (by decide) ⟨qa, rfl, (show True from by trivial), rfl, e0⟩
  · refine ow_lloadN X0 hx (hb hby d_labs_6) rfl (pc' := 7) rfl ?_
    refine ow_lneg X0 hx (hb hby d_labs_7) (pc' := 8) rfl (fun z2 hz2 => ?_)
    have az2 : (z2.toInt - (-qa.toInt)) % 18446744073709551616 = 0 := by rw [hz2]; exact c_lneg qa
    have rz2 := rng64 z2
    refine ow_goto X0 hx (hb hby d_labs_8) (by decide) (pc' := 12) (by decide) ?_
    exact ow_retL X0 hx hret hlk (hb hby d_labs_12) (by decide) (by decide) ⟨z2, rfl, (show True from by trivial), rfl, e0⟩
theorem pd_0 : parseMethodDescriptor "(J)J" = some ⟨[.long], some .long⟩ := by decide +kernel
theorem d_mulx_0 : decode jdk_29_method_30_code 0 = .ok (.lload_n 0, 1) := by decide +kernel
theorem d_mulx_1 : decode jdk_29_method_30_code 1 = .ok (.lload_n 2, 1) := by decide +kernel
theorem d_mulx_2 : decode jdk_29_method_30_code 2 = .ok (.lmul, 1) := by decide +kernel
theorem d_mulx_3 : decode jdk_29_method_30_code 3 = .ok (.lstore 4, 2) := by decide +kernel
theorem d_mulx_5 : decode jdk_29_method_30_code 5 = .ok (.lload_n 0, 1) := by decide +kernel
theorem d_mulx_6 : decode jdk_29_method_30_code 6 = .ok (.invokestatic 122, 3) := by decide +kernel
theorem d_mulx_9 : decode jdk_29_method_30_code 9 = .ok (.lstore 6, 2) := by decide +kernel
theorem d_mulx_11 : decode jdk_29_method_30_code 11 = .ok (.lload_n 2, 1) := by decide +kernel
theorem d_mulx_12 : decode jdk_29_method_30_code 12 = .ok (.invokestatic 122, 3) := by decide +kernel
theorem d_mulx_15 : decode jdk_29_method_30_code 15 = .ok (.lstore 8, 2) := by decide +kernel
theorem d_mulx_17 : decode jdk_29_method_30_code 17 = .ok (.lload 6, 2) := by decide +kernel
theorem d_mulx_19 : decode jdk_29_method_30_code 19 = .ok (.lload 8, 2) := by decide +kernel
theorem d_mulx_21 : decode jdk_29_method_30_code 21 = .ok (.lor, 1) := by decide +kernel
theorem d_mulx_22 : decode jdk_29_method_30_code 22 = .ok (.bipush 31, 2) := by decide +kernel
theorem d_mulx_24 : decode jdk_29_method_30_code 24 = .ok (.lushr, 1) := by decide +kernel
theorem d_mulx_25 : decode jdk_29_method_30_code 25 = .ok (.lconst 0, 1) := by decide +kernel
theorem d_mulx_26 : decode jdk_29_method_30_code 26 = .ok (.lcmp, 1) := by decide +kernel
theorem d_mulx_27 : decode jdk_29_method_30_code 27 = .ok (.ifCond .eq 44, 3) := by decide +kernel
theorem d_mulx_30 : decode jdk_29_method_30_code 30 = .ok (.lload_n 2, 1) := by decide +kernel
theorem d_mulx_31 : decode jdk_29_method_30_code 31 = .ok (.lconst 0, 1) := by decide +kernel
theorem d_mulx_32 : decode jdk_29_method_30_code 32 = .ok (.lcmp, 1) := by decide +kernel
theorem d_mulx_33 : decode jdk_29_method_30_code 33 = .ok (.ifCond .eq 12, 3) := by decide +kernel
theorem d_mulx_36 : decode jdk_29_method_30_code 36 = .ok (.lload 4, 2) := by decide +kernel
theorem d_mulx_38 : decode jdk_29_method_30_code 38 = .ok (.lload_n 2, 1) := by decide +kernel
theorem d_mulx_39 : decode jdk_29_method_30_code 39 = .ok (.ldiv, 1) := by decide +kernel
theorem d_mulx_40 : decode jdk_29_method_30_code 40 = .ok (.lload_n 0, 1) := by decide +kernel
theorem d_mulx_41 : decode jdk_29_method_30_code 41 = .ok (.lcmp, 1) := by decide +kernel
theorem d_mulx_42 : decode jdk_29_method_30_code 42 = .ok (.ifCond .ne 19, 3) := by decide +kernel
theorem d_mulx_45 : decode jdk_29_method_30_code 45 = .ok (.lload_n 0, 1) := by decide +kernel
theorem d_mulx_46 : decode jdk_29_method_30_code 46 = .ok (.ldc2_w 128, 3) := by decide +kernel
theorem d_mulx_49 : decode jdk_29_method_30_code 49 = .ok (.lcmp, 1) := by decide +kernel
theorem d_mulx_50 : decode jdk_29_method_30_code 50 = .ok (.ifCond .ne 21, 3) := by decide +kernel
theorem d_mulx_71 : decode jdk_29_method_30_code 71 = .ok (.lload 4, 2) := by decide +kernel
theorem d_mulx_73 : decode jdk_29_method_30_code 73 = .ok (.lreturn, 1) := by decide +kernel
theorem ef_mulx (m : MethodId) (x0 : Int64) (x1 : Int64) : entryFrame m #[(.long x0), (.long x1)] 10 = mkF m 0 #[.val (.long x0), .second, .val (.long x1), .second, .unset, .unset, .unset, .unset, .unset, .unset] [] := by first | (simp [entryFrame, mkF, argsToLocals, Value.category]; done) | rfl
set_option maxRecDepth 65536 in
set_option maxHeartbeats 40000000 in
theorem rm_mulx (l : Launch) (Z : State) (a0 : Array Value) (hw : ∀ d ∈ tables_1, d.before a0 Z = true) (ws : List Jvm.Cond) (qx : Int64) (qy : Int64) (h0 : Heap) (hx0 : -9223372036854775808 < qx.toInt) (hp0 : -9223372036854775808 ≤ qx.toInt * qy.toInt) (hp1 : qx.toInt * qy.toInt < 9223372036854775808) :
    MetFree l (⟨"java/lang/Math", "multiplyExact", "(JJ)J"⟩ : MethodName) (head1 (Jvm.Cond.code (⟨"java/lang/Math", "multiplyExact", "(JJ)J"⟩ : MethodName) jdk_29_method_30_code 10 (some .long) :: ws) ({ frames := 1, cells := 0, slots := 0, locals := 13 } : Room)) (fun a_ U_ => a_ = #[(.long qx), (.long qy)] ∧ Z.Warmed39 U_.vm ∧ U_.heap = h0) (fun _ _ _ _ _ => True) (fun _ U_ o_ U_' => ∃ v_ L_, o_ = .returned v_ ∧ (QL (fun z => z.toInt = qx.toInt * qy.toInt) h0) v_ U_'.heap L_ ∧ FrameEnd U_ o_ U_' L_ 0 0) := by
  refine ow_body (Jvm.Free.JP.mathPlain rfl (by decide +kernel)) ?_
  intro p e s m below meth c T0 X0 hx hZ hby hml hown hnm hret hlk e0
  refine Ends.cast (ef_mulx m qx qy) ?_
  have r_qx := rng64 qx
  have r_qy := rng64 qy
  refine ow_lloadN X0 hx (hb hby d_mulx_0) rfl (pc' := 1) rfl ?_
  refine ow_lloadN X0 hx (hb hby d_mulx_1) rfl (pc' := 2) rfl ?_
  refine ow_lmul X0 hx (hb hby d_mulx_2) (pc' := 3) rfl (fun z1 hz1 => ?_)
  have az1 : (z1.toInt - (qx.toInt * qy.toInt)) % 18446744073709551616 = 0 := by rw [hz1]; exact c_lmul qx qy
  have rz1 := rng64 z1
  have pm : z1.toInt = qx.toInt * qy.toInt := by omega
  refine ow_lstore X0 hx (Ls' := #[.val (.long qx), .second, .val (.long qy), .second, .val (.long z1), .second, .unset, .unset, .unset, .unset]) (hb hby d_mulx_3) rfl (pc' := 5) rfl ?_
  refine ow_lloadN X0 hx (hb hby d_mulx_5) rfl (pc' := 6) rfl ?_
  refine ow_callPL X0 hx hZ hown (hw _ (List.mem_of_getElem? (i := 12) rfl)) (hw _ (List.mem_of_getElem? (i := 13) rfl)) (hw _ (List.mem_of_getElem? (i := 10) rfl)) (hw _ (List.mem_of_getElem? (i := 14) rfl)) (by decide) (rm_labs l Z a0 hw [] qx h0 ) e0 0 (by decide) (by decide) (by decide) (by decide) [(.long qx)] (by rw [hml]; rfl) pd_0 rfl rfl rfl (Nat.le_of_eq rfl) (hb hby d_mulx_6) (pc' := 9) rfl (fun z2 T2 hz2 X2 e2 => ?_)
  have az2 : True := hz2
  have rz2 := rng64 z2
  refine ow_lstore X2 hx (Ls' := #[.val (.long qx), .second, .val (.long qy), .second, .val (.long z1), .second, .val (.long z2), .second, .unset, .unset]) (hb hby d_mulx_9) rfl (pc' := 11) rfl ?_
  refine ow_lloadN X2 hx (hb hby d_mulx_11) rfl (pc' := 12) rfl ?_
  refine ow_callPL X2 hx hZ hown (hw _ (List.mem_of_getElem? (i := 12) rfl)) (hw _ (List.mem_of_getElem? (i := 13) rfl)) (hw _ (List.mem_of_getElem? (i := 10) rfl)) (hw _ (List.mem_of_getElem? (i := 14) rfl)) (by decide) (rm_labs l Z a0 hw [] qy h0 ) e2 0 (by decide) (by decide) (by decide) (by decide) [(.long qy)] (by rw [hml]; rfl) pd_0 rfl rfl rfl (Nat.le_of_eq rfl) (hb hby d_mulx_12) (pc' := 15) rfl (fun z3 T3 hz3 X3 e3 => ?_)
  have az3 : True := hz3
  have rz3 := rng64 z3
  refine ow_lstore X3 hx (Ls' := #[.val (.long qx), .second, .val (.long qy), .second, .val (.long z1), .second, .val (.long z2), .second, .val (.long z3), .second]) (hb hby d_mulx_15) rfl (pc' := 17) rfl ?_
  refine ow_lload X3 hx (hb hby d_mulx_17) rfl (pc' := 19) rfl ?_
  refine ow_lload X3 hx (hb hby d_mulx_19) rfl (pc' := 21) rfl ?_
  refine ow_lor X3 hx (hb hby d_mulx_21) (pc' := 22) rfl (fun z4 hz4 => ?_)
  have rz4 := rng64 z4
  refine ow_bipush X3 hx (z := (31 : Int32)) (hb hby d_mulx_22) rfl (pc' := 24) rfl ?_
  refine ow_lushr X3 hx (hb hby d_mulx_24) (pc' := 25) rfl (fun z5 hz5 => ?_)
  have rz5 := rng64 z5
  refine ow_lconst X3 hx (z := (0 : Int64)) (hb hby d_mulx_25) rfl (pc' := 26) rfl ?_
  refine ow_lcmp X3 hx (hb hby d_mulx_26) (pc' := 27) rfl (fun z6 hz6 => ?_)
  have az6 : (z5.toInt < (0 : Int) → z6.toInt = -1) ∧ (z5.toInt = (0 : Int) → z6.toInt = 0) ∧ ((0 : Int) < z5.toInt → z6.toInt = 1) := by rw [hz6]; exact c_lcmp z5 (0 : Int64)
  have rz6 := rng32 z6
  refine ow_if_eq X3 hx (z6.toInt) (hb hby d_mulx_27) rfl (by decide) (pt := 71) (by decide) (pf := 30) rfl (fun c27 => ?_) (fun c27 => ?_)
  · refine ow_lload X3 hx (hb hby d_mulx_71) rfl (pc' := 73) rfl ?_
    exact ow_retL X3 hx hret hlk (hb hby d_mulx_73) (by decide) (by decide) ⟨z1, rfl, (show z1.toInt = qx.toInt * qy.toInt from by exact pm), rfl, e3⟩
  · refine ow_lloadN X3 hx (hb hby d_mulx_30) rfl (pc' := 31) rfl ?_
    refine ow_lconst X3 hx (z := (0 : Int64)) (hb hby d_mulx_31) rfl (pc' := 32) rfl ?_
    refine ow_lcmp X3 hx (hb hby d_mulx_32) (pc' := 33) rfl (fun z7 hz7 => ?_)
    have az7 : (qy.toInt < (0 : Int) → z7.toInt = -1) ∧ (qy.toInt = (0 : Int) → z7.toInt = 0) ∧ ((0 : Int) < qy.toInt → z7.toInt = 1) := by rw [hz7]; exact c_lcmp qy (0 : Int64)
    have rz7 := rng32 z7
    refine ow_if_eq X3 hx (z7.toInt) (hb hby d_mulx_33) rfl (by decide) (pt := 45) (by decide) (pf := 36) rfl (fun c33 => ?_) (fun c33 => ?_)
    · refine ow_lloadN X3 hx (hb hby d_mulx_45) rfl (pc' := 46) rfl ?_
      refine ow_ldc2Long X3 hx hZ hown (hw _ (List.mem_of_getElem? (i := 19) rfl)) (hb hby d_mulx_46) (pc' := 49) rfl ?_
      refine ow_lcmp X3 hx (hb hby d_mulx_49) (pc' := 50) rfl (fun z8 hz8 => ?_)
      have az8 : (qx.toInt < (-9223372036854775808 : Int) → z8.toInt = -1) ∧ (qx.toInt = (-9223372036854775808 : Int) → z8.toInt = 0) ∧ ((-9223372036854775808 : Int) < qx.toInt → z8.toInt = 1) := by rw [hz8]; exact c_lcmp qx (-9223372036854775808 : Int64)
      have rz8 := rng32 z8
      refine ow_if_ne X3 hx (z8.toInt) (hb hby d_mulx_50) rfl (by decide) (pt := 71) (by decide) (pf := 53) rfl (fun c50 => ?_) (fun c50 => absurd c50 (by omega))
      refine ow_lload X3 hx (hb hby d_mulx_71) rfl (pc' := 73) rfl ?_
      exact ow_retL X3 hx hret hlk (hb hby d_mulx_73) (by decide) (by decide) ⟨z1, rfl, (show z1.toInt = qx.toInt * qy.toInt from by exact pm), rfl, e3⟩
    · refine ow_lload X3 hx (hb hby d_mulx_36) rfl (pc' := 38) rfl ?_
      refine ow_lloadN X3 hx (hb hby d_mulx_38) rfl (pc' := 39) rfl ?_
      refine ow_ldiv X3 hx (hb hby d_mulx_39) (fun q => absurd (show qy.toInt = 0 from congrArg Int64.toInt q) (by omega)) (pc' := 40) rfl (fun z9 hz9 => ?_)
      have rz9 := rng64 z9
      have dv : z9.toInt = qx.toInt := by rw [hz9]; exact mulx_div qx qy _ pm (by omega)
      refine ow_lloadN X3 hx (hb hby d_mulx_40) rfl (pc' := 41) rfl ?_
      refine ow_lcmp X3 hx (hb hby d_mulx_41) (pc' := 42) rfl (fun z10 hz10 => ?_)
      have az10 : (z9.toInt < qx.toInt → z10.toInt = -1) ∧ (z9.toInt = qx.toInt → z10.toInt = 0) ∧ (qx.toInt < z9.toInt → z10.toInt = 1) := by rw [hz10]; exact c_lcmp z9 qx
      have rz10 := rng32 z10
      refine ow_if_ne X3 hx (z10.toInt) (hb hby d_mulx_42) rfl (by decide) (pt := 61) (by decide) (pf := 45) rfl (fun c42 => absurd c42 (by omega)) (fun c42 => ?_)
      refine ow_lloadN X3 hx (hb hby d_mulx_45) rfl (pc' := 46) rfl ?_
      refine ow_ldc2Long X3 hx hZ hown (hw _ (List.mem_of_getElem? (i := 19) rfl)) (hb hby d_mulx_46) (pc' := 49) rfl ?_
      refine ow_lcmp X3 hx (hb hby d_mulx_49) (pc' := 50) rfl (fun z11 hz11 => ?_)
      have az11 : (qx.toInt < (-9223372036854775808 : Int) → z11.toInt = -1) ∧ (qx.toInt = (-9223372036854775808 : Int) → z11.toInt = 0) ∧ ((-9223372036854775808 : Int) < qx.toInt → z11.toInt = 1) := by rw [hz11]; exact c_lcmp qx (-9223372036854775808 : Int64)
      have rz11 := rng32 z11
      refine ow_if_ne X3 hx (z11.toInt) (hb hby d_mulx_50) rfl (by decide) (pt := 71) (by decide) (pf := 53) rfl (fun c50 => ?_) (fun c50 => absurd c50 (by omega))
      refine ow_lload X3 hx (hb hby d_mulx_71) rfl (pc' := 73) rfl ?_
      exact ow_retL X3 hx hret hlk (hb hby d_mulx_73) (by decide) (by decide) ⟨z1, rfl, (show z1.toInt = qx.toInt * qy.toInt from by exact pm), rfl, e3⟩
theorem pd_1 : parseMethodDescriptor "(JJ)J" = some ⟨[.long, .long], some .long⟩ := by decide +kernel
theorem d_power_0 : decode prog_4_method_15_code 0 = .ok (.lconst 1, 1) := by decide +kernel
theorem d_power_1 : decode prog_4_method_15_code 1 = .ok (.lstore_n 3, 1) := by decide +kernel
theorem d_power_2 : decode prog_4_method_15_code 2 = .ok (.iconst 0, 1) := by decide +kernel
theorem d_power_3 : decode prog_4_method_15_code 3 = .ok (.istore 5, 2) := by decide +kernel
theorem d_power_5 : decode prog_4_method_15_code 5 = .ok (.iload 5, 2) := by decide +kernel
theorem d_power_7 : decode prog_4_method_15_code 7 = .ok (.iload_n 2, 1) := by decide +kernel
theorem d_power_8 : decode prog_4_method_15_code 8 = .ok (.if_icmp .ge 15, 3) := by decide +kernel
theorem d_power_11 : decode prog_4_method_15_code 11 = .ok (.lload_n 3, 1) := by decide +kernel
theorem d_power_12 : decode prog_4_method_15_code 12 = .ok (.lload_n 0, 1) := by decide +kernel
theorem d_power_13 : decode prog_4_method_15_code 13 = .ok (.invokestatic 155, 3) := by decide +kernel
theorem d_power_16 : decode prog_4_method_15_code 16 = .ok (.lstore_n 3, 1) := by decide +kernel
theorem d_power_17 : decode prog_4_method_15_code 17 = .ok (.iinc 5 1, 3) := by decide +kernel
theorem d_power_20 : decode prog_4_method_15_code 20 = .ok (.goto (-15), 3) := by decide +kernel
theorem d_power_23 : decode prog_4_method_15_code 23 = .ok (.lload_n 3, 1) := by decide +kernel
theorem d_power_24 : decode prog_4_method_15_code 24 = .ok (.lreturn, 1) := by decide +kernel
theorem ef_power (m : MethodId) (x0 : Int64) (x1 : Int32) : entryFrame m #[(.long x0), (.int x1)] 6 = mkF m 0 #[.val (.long x0), .second, .val (.int x1), .unset, .unset, .unset] [] := by first | (simp [entryFrame, mkF, argsToLocals, Value.category]; done) | rfl
theorem pn_0 : plainName "com/example/cubilete/cubilete/advice/Keeps" = true := by first | (simp [plainName, overriddenIn]; done) | decide +kernel
set_option maxRecDepth 65536 in
set_option maxHeartbeats 40000000 in
theorem rm_power (l : Launch) (Z : State) (a0 : Array Value) (hw : ∀ d ∈ tables_1, d.before a0 Z = true) (ws : List Jvm.Cond) (qb : Int64) (pe : Int32) (h0 : Heap) (hfit : Fits qb.toInt pe.toInt.toNat) (h0e : 0 ≤ pe.toInt) :
    MetFree l (⟨"com/example/cubilete/cubilete/advice/Keeps", "power", "(JI)J"⟩ : MethodName) (head1 (Jvm.Cond.code (⟨"com/example/cubilete/cubilete/advice/Keeps", "power", "(JI)J"⟩ : MethodName) prog_4_method_15_code 6 (some .long) :: ws) ({ frames := 2, cells := 0, slots := 0, locals := 34 } : Room)) (fun a_ U_ => a_ = #[(.long qb), (.int pe)] ∧ Z.Warmed39 U_.vm ∧ U_.heap = h0) (fun _ _ _ _ _ => True) (fun _ U_ o_ U_' => ∃ v_ L_, o_ = .returned v_ ∧ (QL (fun z => z.toInt = qb.toInt ^ pe.toInt.toNat) h0) v_ U_'.heap L_ ∧ FrameEnd U_ o_ U_' L_ 0 0) := by
  refine ow_body (plainFor_of_name pn_0) ?_
  intro p e s m below meth c T0 X0 hx hZ hby hml hown hnm hret hlk e0
  refine Ends.cast (ef_power m qb pe) ?_
  have r_qb := rng64 qb
  have r_pe := rng32 pe
  refine ow_lconst X0 hx (z := (1 : Int64)) (hb hby d_power_0) rfl (pc' := 1) rfl ?_
  refine ow_lstoreN X0 hx (Ls' := #[.val (.long qb), .second, .val (.int pe), .val (.long (1 : Int64)), .second, .unset]) (hb hby d_power_1) rfl (pc' := 2) rfl ?_
  refine ow_iconst X0 hx (z := (0 : Int32)) (hb hby d_power_2) rfl (pc' := 3) rfl ?_
  refine ow_istore X0 hx (Ls' := #[.val (.long qb), .second, .val (.int pe), .val (.long (1 : Int64)), .second, .val (.int (0 : Int32))]) (hb hby d_power_3) rfl (pc' := 5) rfl ?_
  have J5 : ∀ (n : Nat) (jr : Int64) (ii : Int32) (T1 : State), Stand p l e ({ frames := 2, cells := 0, slots := 0, locals := 34 } : Room) s m #[(.long qb), (.int pe)] below meth c T1 [] 0 0 → T1.heap = h0 → (0 ≤ ii.toInt ∧ ii.toInt ≤ pe.toInt ∧ jr.toInt = qb.toInt ^ ii.toInt.toNat) → (pe.toInt - ii.toInt) = (n : Int) → Ends p e below (Out s 0 0 (QL (fun z => z.toInt = qb.toInt ^ pe.toInt.toNat) h0)) T1 (mkF m 5 #[.val (.long qb), .second, .val (.int pe), .val (.long jr), .second, .val (.int ii)] []) := by
    intro n
    induction n using Nat.strongRecOn with
    | _ n ih =>
      intro jr ii T1 X1 e1 hi5 hm5
      have r_jr := rng64 jr
      have r_ii := rng32 ii
      refine ow_iload X1 hx (hb hby d_power_5) rfl (pc' := 7) rfl ?_
      refine ow_iloadN X1 hx (hb hby d_power_7) rfl (pc' := 8) rfl ?_
      refine ow_icmp_ge X1 hx (ii.toInt) (pe.toInt) (hb hby d_power_8) rfl rfl (by decide) (pt := 23) (by decide) (pf := 11) rfl (fun c8 => ?_) (fun c8 => ?_)
      · refine ow_lloadN X1 hx (hb hby d_power_23) rfl (pc' := 24) rfl ?_
        exact ow_retL X1 hx hret hlk (hb hby d_power_24) (by decide) (by decide) ⟨jr, rfl, (show jr.toInt = qb.toInt ^ pe.toInt.toNat from by (have w : ii.toInt = pe.toInt := (by omega); rw [hi5.2.2, w])), rfl, e1⟩
      · have f1 := hfit ii.toInt.toNat (by omega)
        have f2 := hfit (ii.toInt.toNat + 1) (by omega)
        rw [Int.pow_succ, ← hi5.2.2] at f2
        rw [← hi5.2.2] at f1
        refine ow_lloadN X1 hx (hb hby d_power_11) rfl (pc' := 12) rfl ?_
        refine ow_lloadN X1 hx (hb hby d_power_12) rfl (pc' := 13) rfl ?_
        refine ow_callPL X1 hx hZ hown (hw _ (List.mem_of_getElem? (i := 8) rfl)) (hw _ (List.mem_of_getElem? (i := 9) rfl)) (hw _ (List.mem_of_getElem? (i := 10) rfl)) (hw _ (List.mem_of_getElem? (i := 11) rfl)) (by decide) (rm_mulx l Z a0 hw [] jr qb h0 (by first | omega | decide) (by first | omega | decide) (by first | omega | decide)) e1 0 (by decide) (by decide) (by decide) (by decide) [(.long jr), (.long qb)] (by rw [hml]; rfl) pd_1 rfl rfl rfl (Nat.le_of_eq rfl) (hb hby d_power_13) (pc' := 16) rfl (fun z2 T2 hz2 X2 e2 => ?_)
        have az2 : z2.toInt = jr.toInt * qb.toInt := hz2
        have rz2 := rng64 z2
        refine ow_lstoreN X2 hx (Ls' := #[.val (.long qb), .second, .val (.int pe), .val (.long z2), .second, .val (.int ii)]) (hb hby d_power_16) rfl (pc' := 17) rfl ?_
        refine ow_iinc X2 hx (Ls' := #[.val (.long qb), .second, .val (.int pe), .val (.long z2), .second, .val (.int ii)]) (hb hby d_power_17) rfl (fun z => rfl) (pc' := 20) rfl (fun z3 hz3 => ?_)
        show Ends _ _ _ _ T2 (mkF m 20 #[.val (.long qb), .second, .val (.int pe), .val (.long z2), .second, .val (.int z3)] [])
        have az3 : (z3.toInt - (ii.toInt + 1)) % 4294967296 = 0 := by rw [hz3]; exact c_iadd ii (1 : Int32)
        have rz3 := rng32 z3
        refine ow_goto X2 hx (hb hby d_power_20) (by decide) (pc' := 5) (by decide) ?_
        exact ih (pe.toInt - z3.toInt).toNat (by omega) z2 z3 T2 X2 e2 (show 0 ≤ z3.toInt ∧ z3.toInt ≤ pe.toInt ∧ z2.toInt = qb.toInt ^ z3.toInt.toNat from by exact ⟨by omega, by omega, by rw [az2, hi5.2.2, show z3.toInt.toNat = ii.toInt.toNat + 1 from by omega, Int.pow_succ]⟩) (show (pe.toInt - z3.toInt) = (((pe.toInt - z3.toInt).toNat : Nat) : Int) from by omega)
  exact J5 (pe.toInt - (0 : Int)).toNat (1 : Int64) (0 : Int32) T0 X0 e0 (show 0 ≤ (0 : Int) ∧ (0 : Int) ≤ pe.toInt ∧ (1 : Int) = qb.toInt ^ (0 : Int).toNat from by exact ⟨by omega, by omega, (Int.pow_zero _).symm⟩) (show (pe.toInt - (0 : Int)) = (((pe.toInt - (0 : Int)).toNat : Nat) : Int) from by omega)
theorem d_reduce_0 : decode method_3_code 0 = .ok (.iload_n 2, 1) := by decide +kernel
theorem d_reduce_1 : decode method_3_code 1 = .ok (.iconst 1, 1) := by decide +kernel
theorem d_reduce_2 : decode method_3_code 2 = .ok (.if_icmp .gt 5, 3) := by decide +kernel
theorem d_reduce_5 : decode method_3_code 5 = .ok (.lload_n 0, 1) := by decide +kernel
theorem d_reduce_6 : decode method_3_code 6 = .ok (.lreturn, 1) := by decide +kernel
theorem d_reduce_7 : decode method_3_code 7 = .ok (.iload_n 2, 1) := by decide +kernel
theorem d_reduce_8 : decode method_3_code 8 = .ok (.iconst 2, 1) := by decide +kernel
theorem d_reduce_9 : decode method_3_code 9 = .ok (.if_icmp .ne 9, 3) := by decide +kernel
theorem d_reduce_12 : decode method_3_code 12 = .ok (.lload_n 0, 1) := by decide +kernel
theorem d_reduce_13 : decode method_3_code 13 = .ok (.ldc2_w 26, 3) := by decide +kernel
theorem d_reduce_16 : decode method_3_code 16 = .ok (.lrem, 1) := by decide +kernel
theorem d_reduce_17 : decode method_3_code 17 = .ok (.lreturn, 1) := by decide +kernel
theorem d_reduce_18 : decode method_3_code 18 = .ok (.iload_n 2, 1) := by decide +kernel
theorem d_reduce_19 : decode method_3_code 19 = .ok (.iconst 3, 1) := by decide +kernel
theorem d_reduce_20 : decode method_3_code 20 = .ok (.if_icmp .ne 9, 3) := by decide +kernel
theorem d_reduce_23 : decode method_3_code 23 = .ok (.lload_n 0, 1) := by decide +kernel
theorem d_reduce_24 : decode method_3_code 24 = .ok (.ldc2_w 28, 3) := by decide +kernel
theorem d_reduce_27 : decode method_3_code 27 = .ok (.lrem, 1) := by decide +kernel
theorem d_reduce_28 : decode method_3_code 28 = .ok (.lreturn, 1) := by decide +kernel
theorem d_reduce_29 : decode method_3_code 29 = .ok (.iload_n 2, 1) := by decide +kernel
theorem d_reduce_30 : decode method_3_code 30 = .ok (.iconst 4, 1) := by decide +kernel
theorem d_reduce_31 : decode method_3_code 31 = .ok (.if_icmp .ne 9, 3) := by decide +kernel
theorem d_reduce_34 : decode method_3_code 34 = .ok (.lload_n 0, 1) := by decide +kernel
theorem d_reduce_35 : decode method_3_code 35 = .ok (.ldc2_w 30, 3) := by decide +kernel
theorem d_reduce_38 : decode method_3_code 38 = .ok (.lrem, 1) := by decide +kernel
theorem d_reduce_39 : decode method_3_code 39 = .ok (.lreturn, 1) := by decide +kernel
theorem d_reduce_40 : decode method_3_code 40 = .ok (.iload_n 2, 1) := by decide +kernel
theorem d_reduce_41 : decode method_3_code 41 = .ok (.iconst 5, 1) := by decide +kernel
theorem d_reduce_42 : decode method_3_code 42 = .ok (.if_icmp .ne 9, 3) := by decide +kernel
theorem d_reduce_45 : decode method_3_code 45 = .ok (.lload_n 0, 1) := by decide +kernel
theorem d_reduce_46 : decode method_3_code 46 = .ok (.ldc2_w 32, 3) := by decide +kernel
theorem d_reduce_49 : decode method_3_code 49 = .ok (.lrem, 1) := by decide +kernel
theorem d_reduce_50 : decode method_3_code 50 = .ok (.lreturn, 1) := by decide +kernel
theorem d_reduce_51 : decode method_3_code 51 = .ok (.iload_n 2, 1) := by decide +kernel
theorem d_reduce_52 : decode method_3_code 52 = .ok (.bipush 6, 2) := by decide +kernel
theorem d_reduce_54 : decode method_3_code 54 = .ok (.if_icmp .ne 9, 3) := by decide +kernel
theorem d_reduce_57 : decode method_3_code 57 = .ok (.lload_n 0, 1) := by decide +kernel
theorem d_reduce_58 : decode method_3_code 58 = .ok (.ldc2_w 34, 3) := by decide +kernel
theorem d_reduce_61 : decode method_3_code 61 = .ok (.lrem, 1) := by decide +kernel
theorem d_reduce_62 : decode method_3_code 62 = .ok (.lreturn, 1) := by decide +kernel
theorem d_reduce_63 : decode method_3_code 63 = .ok (.lload_n 0, 1) := by decide +kernel
theorem d_reduce_64 : decode method_3_code 64 = .ok (.ldc2_w 36, 3) := by decide +kernel
theorem d_reduce_67 : decode method_3_code 67 = .ok (.lrem, 1) := by decide +kernel
theorem d_reduce_68 : decode method_3_code 68 = .ok (.lreturn, 1) := by decide +kernel
theorem ef_reduce (m : MethodId) (x0 : Int64) (x1 : Int32) : entryFrame m #[(.long x0), (.int x1)] 3 = mkF m 0 #[.val (.long x0), .second, .val (.int x1)] [] := by first | (simp [entryFrame, mkF, argsToLocals, Value.category]; done) | rfl
theorem pn_1 : plainName "com/example/cubilete/cubilete/advice/KeepsPowerPinLaw" = true := by first | (simp [plainName, overriddenIn]; done) | decide +kernel
set_option maxRecDepth 65536 in
set_option maxHeartbeats 40000000 in
theorem rm_reduce (l : Launch) (Z : State) (a0 : Array Value) (hw : ∀ d ∈ tables_1, d.before a0 Z = true) (ws : List Jvm.Cond) (qb : Int64) (pe : Int32) (h0 : Heap) (h0e : 0 ≤ pe.toInt) (h7e : pe.toInt ≤ 7) :
    MetFree l (⟨"com/example/cubilete/cubilete/advice/KeepsPowerPinLaw", "reduce", "(JI)J"⟩ : MethodName) (head1 (Jvm.Cond.code (⟨"com/example/cubilete/cubilete/advice/KeepsPowerPinLaw", "reduce", "(JI)J"⟩ : MethodName) method_3_code 3 (some .long) :: ws) ({ frames := 0, cells := 0, slots := 0, locals := 0 } : Room)) (fun a_ U_ => a_ = #[(.long qb), (.int pe)] ∧ Z.Warmed39 U_.vm ∧ U_.heap = h0) (fun _ _ _ _ _ => True) (fun _ U_ o_ U_' => ∃ v_ L_, o_ = .returned v_ ∧ (QL (fun z => Fits z.toInt pe.toInt.toNat) h0) v_ U_'.heap L_ ∧ FrameEnd U_ o_ U_' L_ 0 0) := by
  refine ow_body (plainFor_of_name pn_1) ?_
  intro p e s m below meth c T0 X0 hx hZ hby hml hown hnm hret hlk e0
  refine Ends.cast (ef_reduce m qb pe) ?_
  have r_qb := rng64 qb
  have r_pe := rng32 pe
  refine ow_iloadN X0 hx (hb hby d_reduce_0) rfl (pc' := 1) rfl ?_
  refine ow_iconst X0 hx (z := (1 : Int32)) (hb hby d_reduce_1) rfl (pc' := 2) rfl ?_
  refine ow_icmp_gt X0 hx (pe.toInt) ((1 : Int)) (hb hby d_reduce_2) rfl rfl (by decide) (pt := 7) (by decide) (pf := 5) rfl (fun c2 => ?_) (fun c2 => ?_)
  · refine ow_iloadN X0 hx (hb hby d_reduce_7) rfl (pc' := 8) rfl ?_
    refine ow_iconst X0 hx (z := (2 : Int32)) (hb hby d_reduce_8) rfl (pc' := 9) rfl ?_
    refine ow_icmp_ne X0 hx (pe.toInt) ((2 : Int)) (hb hby d_reduce_9) rfl rfl (by decide) (pt := 18) (by decide) (pf := 12) rfl (fun c9 => ?_) (fun c9 => ?_)
    · refine ow_iloadN X0 hx (hb hby d_reduce_18) rfl (pc' := 19) rfl ?_
      refine ow_iconst X0 hx (z := (3 : Int32)) (hb hby d_reduce_19) rfl (pc' := 20) rfl ?_
      refine ow_icmp_ne X0 hx (pe.toInt) ((3 : Int)) (hb hby d_reduce_20) rfl rfl (by decide) (pt := 29) (by decide) (pf := 23) rfl (fun c20 => ?_) (fun c20 => ?_)
      · refine ow_iloadN X0 hx (hb hby d_reduce_29) rfl (pc' := 30) rfl ?_
        refine ow_iconst X0 hx (z := (4 : Int32)) (hb hby d_reduce_30) rfl (pc' := 31) rfl ?_
        refine ow_icmp_ne X0 hx (pe.toInt) ((4 : Int)) (hb hby d_reduce_31) rfl rfl (by decide) (pt := 40) (by decide) (pf := 34) rfl (fun c31 => ?_) (fun c31 => ?_)
        · refine ow_iloadN X0 hx (hb hby d_reduce_40) rfl (pc' := 41) rfl ?_
          refine ow_iconst X0 hx (z := (5 : Int32)) (hb hby d_reduce_41) rfl (pc' := 42) rfl ?_
          refine ow_icmp_ne X0 hx (pe.toInt) ((5 : Int)) (hb hby d_reduce_42) rfl rfl (by decide) (pt := 51) (by decide) (pf := 45) rfl (fun c42 => ?_) (fun c42 => ?_)
          · refine ow_iloadN X0 hx (hb hby d_reduce_51) rfl (pc' := 52) rfl ?_
            refine ow_bipush X0 hx (z := (6 : Int32)) (hb hby d_reduce_52) rfl (pc' := 54) rfl ?_
            refine ow_icmp_ne X0 hx (pe.toInt) ((6 : Int)) (hb hby d_reduce_54) rfl rfl (by decide) (pt := 63) (by decide) (pf := 57) rfl (fun c54 => ?_) (fun c54 => ?_)
            · refine ow_lloadN X0 hx (hb hby d_reduce_63) rfl (pc' := 64) rfl ?_
              refine ow_ldc2Long X0 hx hZ hown (hw _ (List.mem_of_getElem? (i := 29) rfl)) (hb hby d_reduce_64) (pc' := 67) rfl ?_
              refine ow_lrem X0 hx (hb hby d_reduce_67) (by decide) (pc' := 68) rfl (fun z1 hz1 => ?_)
              have az1 : (0 ≤ qb.toInt → z1.toInt = qb.toInt % 512) ∧ (qb.toInt < 0 → z1.toInt = -((-qb.toInt) % 512)) := by rw [hz1]; exact c_lrem qb (512 : Int64) 512 rfl
              have rz1 := rng64 z1
              exact ow_retL X0 hx hret hlk (hb hby d_reduce_68) (by decide) (by decide) ⟨z1, rfl, (show Fits z1.toInt pe.toInt.toNat from by (have w : pe.toInt.toNat = 7 := (by omega); rw [w]; exact fits_of _ 511 7 (by omega) (by decide) (by decide))), rfl, e0⟩
            · refine ow_lloadN X0 hx (hb hby d_reduce_57) rfl (pc' := 58) rfl ?_
              refine ow_ldc2Long X0 hx hZ hown (hw _ (List.mem_of_getElem? (i := 26) rfl)) (hb hby d_reduce_58) (pc' := 61) rfl ?_
              refine ow_lrem X0 hx (hb hby d_reduce_61) (by decide) (pc' := 62) rfl (fun z2 hz2 => ?_)
              have az2 : (0 ≤ qb.toInt → z2.toInt = qb.toInt % 1449) ∧ (qb.toInt < 0 → z2.toInt = -((-qb.toInt) % 1449)) := by rw [hz2]; exact c_lrem qb (1449 : Int64) 1449 rfl
              have rz2 := rng64 z2
              exact ow_retL X0 hx hret hlk (hb hby d_reduce_62) (by decide) (by decide) ⟨z2, rfl, (show Fits z2.toInt pe.toInt.toNat from by (have w : pe.toInt.toNat = 6 := (by omega); rw [w]; exact fits_of _ 1448 6 (by omega) (by decide) (by decide))), rfl, e0⟩
          · refine ow_lloadN X0 hx (hb hby d_reduce_45) rfl (pc' := 46) rfl ?_
            refine ow_ldc2Long X0 hx hZ hown (hw _ (List.mem_of_getElem? (i := 28) rfl)) (hb hby d_reduce_46) (pc' := 49) rfl ?_
            refine ow_lrem X0 hx (hb hby d_reduce_49) (by decide) (pc' := 50) rfl (fun z3 hz3 => ?_)
            have az3 : (0 ≤ qb.toInt → z3.toInt = qb.toInt % 6209) ∧ (qb.toInt < 0 → z3.toInt = -((-qb.toInt) % 6209)) := by rw [hz3]; exact c_lrem qb (6209 : Int64) 6209 rfl
            have rz3 := rng64 z3
            exact ow_retL X0 hx hret hlk (hb hby d_reduce_50) (by decide) (by decide) ⟨z3, rfl, (show Fits z3.toInt pe.toInt.toNat from by (have w : pe.toInt.toNat = 5 := (by omega); rw [w]; exact fits_of _ 6208 5 (by omega) (by decide) (by decide))), rfl, e0⟩
        · refine ow_lloadN X0 hx (hb hby d_reduce_34) rfl (pc' := 35) rfl ?_
          refine ow_ldc2Long X0 hx hZ hown (hw _ (List.mem_of_getElem? (i := 25) rfl)) (hb hby d_reduce_35) (pc' := 38) rfl ?_
          refine ow_lrem X0 hx (hb hby d_reduce_38) (by decide) (pc' := 39) rfl (fun z4 hz4 => ?_)
          have az4 : (0 ≤ qb.toInt → z4.toInt = qb.toInt % 55109) ∧ (qb.toInt < 0 → z4.toInt = -((-qb.toInt) % 55109)) := by rw [hz4]; exact c_lrem qb (55109 : Int64) 55109 rfl
          have rz4 := rng64 z4
          exact ow_retL X0 hx hret hlk (hb hby d_reduce_39) (by decide) (by decide) ⟨z4, rfl, (show Fits z4.toInt pe.toInt.toNat from by (have w : pe.toInt.toNat = 4 := (by omega); rw [w]; exact fits_of _ 55108 4 (by omega) (by decide) (by decide))), rfl, e0⟩
      · refine ow_lloadN X0 hx (hb hby d_reduce_23) rfl (pc' := 24) rfl ?_
        refine ow_ldc2Long X0 hx hZ hown (hw _ (List.mem_of_getElem? (i := 24) rfl)) (hb hby d_reduce_24) (pc' := 27) rfl ?_
        refine ow_lrem X0 hx (hb hby d_reduce_27) (by decide) (pc' := 28) rfl (fun z5 hz5 => ?_)
        have az5 : (0 ≤ qb.toInt → z5.toInt = qb.toInt % 2097152) ∧ (qb.toInt < 0 → z5.toInt = -((-qb.toInt) % 2097152)) := by rw [hz5]; exact c_lrem qb (2097152 : Int64) 2097152 rfl
        have rz5 := rng64 z5
        exact ow_retL X0 hx hret hlk (hb hby d_reduce_28) (by decide) (by decide) ⟨z5, rfl, (show Fits z5.toInt pe.toInt.toNat from by (have w : pe.toInt.toNat = 3 := (by omega); rw [w]; exact fits_of _ 2097151 3 (by omega) (by decide) (by decide))), rfl, e0⟩
    · refine ow_lloadN X0 hx (hb hby d_reduce_12) rfl (pc' := 13) rfl ?_
      refine ow_ldc2Long X0 hx hZ hown (hw _ (List.mem_of_getElem? (i := 18) rfl)) (hb hby d_reduce_13) (pc' := 16) rfl ?_
      refine ow_lrem X0 hx (hb hby d_reduce_16) (by decide) (pc' := 17) rfl (fun z6 hz6 => ?_)
      have az6 : (0 ≤ qb.toInt → z6.toInt = qb.toInt % 3037000500) ∧ (qb.toInt < 0 → z6.toInt = -((-qb.toInt) % 3037000500)) := by rw [hz6]; exact c_lrem qb (3037000500 : Int64) 3037000500 rfl
      have rz6 := rng64 z6
      exact ow_retL X0 hx hret hlk (hb hby d_reduce_17) (by decide) (by decide) ⟨z6, rfl, (show Fits z6.toInt pe.toInt.toNat from by (have w : pe.toInt.toNat = 2 := (by omega); rw [w]; exact fits_of _ 3037000499 2 (by omega) (by decide) (by decide))), rfl, e0⟩
  · refine ow_lloadN X0 hx (hb hby d_reduce_5) rfl (pc' := 6) rfl ?_
    exact ow_retL X0 hx hret hlk (hb hby d_reduce_6) (by decide) (by decide) ⟨qb, rfl, (show Fits qb.toInt pe.toInt.toNat from by exact fits_le1 _ _ (by omega) (by omega) (by omega)), rfl, e0⟩
theorem d_smallRef_0 : decode method_4_code 0 = .ok (.iload_n 2, 1) := by decide +kernel
theorem d_smallRef_1 : decode method_4_code 1 = .ok (.ifCond .ne 5, 3) := by decide +kernel
theorem d_smallRef_4 : decode method_4_code 4 = .ok (.lconst 1, 1) := by decide +kernel
theorem d_smallRef_5 : decode method_4_code 5 = .ok (.lreturn, 1) := by decide +kernel
theorem d_smallRef_6 : decode method_4_code 6 = .ok (.iload_n 2, 1) := by decide +kernel
theorem d_smallRef_7 : decode method_4_code 7 = .ok (.iconst 1, 1) := by decide +kernel
theorem d_smallRef_8 : decode method_4_code 8 = .ok (.if_icmp .ne 5, 3) := by decide +kernel
theorem d_smallRef_11 : decode method_4_code 11 = .ok (.lload_n 0, 1) := by decide +kernel
theorem d_smallRef_12 : decode method_4_code 12 = .ok (.lreturn, 1) := by decide +kernel
theorem d_smallRef_13 : decode method_4_code 13 = .ok (.lload_n 0, 1) := by decide +kernel
theorem d_smallRef_14 : decode method_4_code 14 = .ok (.lload_n 0, 1) := by decide +kernel
theorem d_smallRef_15 : decode method_4_code 15 = .ok (.lmul, 1) := by decide +kernel
theorem d_smallRef_16 : decode method_4_code 16 = .ok (.lstore_n 3, 1) := by decide +kernel
theorem d_smallRef_17 : decode method_4_code 17 = .ok (.iload_n 2, 1) := by decide +kernel
theorem d_smallRef_18 : decode method_4_code 18 = .ok (.iconst 2, 1) := by decide +kernel
theorem d_smallRef_19 : decode method_4_code 19 = .ok (.if_icmp .ne 5, 3) := by decide +kernel
theorem d_smallRef_22 : decode method_4_code 22 = .ok (.lload_n 3, 1) := by decide +kernel
theorem d_smallRef_23 : decode method_4_code 23 = .ok (.lreturn, 1) := by decide +kernel
theorem d_smallRef_24 : decode method_4_code 24 = .ok (.iload_n 2, 1) := by decide +kernel
theorem d_smallRef_25 : decode method_4_code 25 = .ok (.iconst 3, 1) := by decide +kernel
theorem d_smallRef_26 : decode method_4_code 26 = .ok (.if_icmp .ne 7, 3) := by decide +kernel
theorem d_smallRef_29 : decode method_4_code 29 = .ok (.lload_n 3, 1) := by decide +kernel
theorem d_smallRef_30 : decode method_4_code 30 = .ok (.lload_n 0, 1) := by decide +kernel
theorem d_smallRef_31 : decode method_4_code 31 = .ok (.lmul, 1) := by decide +kernel
theorem d_smallRef_32 : decode method_4_code 32 = .ok (.lreturn, 1) := by decide +kernel
theorem d_smallRef_33 : decode method_4_code 33 = .ok (.iload_n 2, 1) := by decide +kernel
theorem d_smallRef_34 : decode method_4_code 34 = .ok (.iconst 4, 1) := by decide +kernel
theorem d_smallRef_35 : decode method_4_code 35 = .ok (.if_icmp .ne 7, 3) := by decide +kernel
theorem d_smallRef_38 : decode method_4_code 38 = .ok (.lload_n 3, 1) := by decide +kernel
theorem d_smallRef_39 : decode method_4_code 39 = .ok (.lload_n 3, 1) := by decide +kernel
theorem d_smallRef_40 : decode method_4_code 40 = .ok (.lmul, 1) := by decide +kernel
theorem d_smallRef_41 : decode method_4_code 41 = .ok (.lreturn, 1) := by decide +kernel
theorem d_smallRef_42 : decode method_4_code 42 = .ok (.iload_n 2, 1) := by decide +kernel
theorem d_smallRef_43 : decode method_4_code 43 = .ok (.iconst 5, 1) := by decide +kernel
theorem d_smallRef_44 : decode method_4_code 44 = .ok (.if_icmp .ne 9, 3) := by decide +kernel
theorem d_smallRef_47 : decode method_4_code 47 = .ok (.lload_n 3, 1) := by decide +kernel
theorem d_smallRef_48 : decode method_4_code 48 = .ok (.lload_n 3, 1) := by decide +kernel
theorem d_smallRef_49 : decode method_4_code 49 = .ok (.lmul, 1) := by decide +kernel
theorem d_smallRef_50 : decode method_4_code 50 = .ok (.lload_n 0, 1) := by decide +kernel
theorem d_smallRef_51 : decode method_4_code 51 = .ok (.lmul, 1) := by decide +kernel
theorem d_smallRef_52 : decode method_4_code 52 = .ok (.lreturn, 1) := by decide +kernel
theorem d_smallRef_53 : decode method_4_code 53 = .ok (.iload_n 2, 1) := by decide +kernel
theorem d_smallRef_54 : decode method_4_code 54 = .ok (.bipush 6, 2) := by decide +kernel
theorem d_smallRef_56 : decode method_4_code 56 = .ok (.if_icmp .ne 9, 3) := by decide +kernel
theorem d_smallRef_59 : decode method_4_code 59 = .ok (.lload_n 3, 1) := by decide +kernel
theorem d_smallRef_60 : decode method_4_code 60 = .ok (.lload_n 3, 1) := by decide +kernel
theorem d_smallRef_61 : decode method_4_code 61 = .ok (.lmul, 1) := by decide +kernel
theorem d_smallRef_62 : decode method_4_code 62 = .ok (.lload_n 3, 1) := by decide +kernel
theorem d_smallRef_63 : decode method_4_code 63 = .ok (.lmul, 1) := by decide +kernel
theorem d_smallRef_64 : decode method_4_code 64 = .ok (.lreturn, 1) := by decide +kernel
theorem d_smallRef_65 : decode method_4_code 65 = .ok (.lload_n 3, 1) := by decide +kernel
theorem d_smallRef_66 : decode method_4_code 66 = .ok (.lload_n 3, 1) := by decide +kernel
theorem d_smallRef_67 : decode method_4_code 67 = .ok (.lmul, 1) := by decide +kernel
theorem d_smallRef_68 : decode method_4_code 68 = .ok (.lload_n 3, 1) := by decide +kernel
theorem d_smallRef_69 : decode method_4_code 69 = .ok (.lmul, 1) := by decide +kernel
theorem d_smallRef_70 : decode method_4_code 70 = .ok (.lload_n 0, 1) := by decide +kernel
theorem d_smallRef_71 : decode method_4_code 71 = .ok (.lmul, 1) := by decide +kernel
theorem d_smallRef_72 : decode method_4_code 72 = .ok (.lreturn, 1) := by decide +kernel
theorem ef_smallRef (m : MethodId) (x0 : Int64) (x1 : Int32) : entryFrame m #[(.long x0), (.int x1)] 5 = mkF m 0 #[.val (.long x0), .second, .val (.int x1), .unset, .unset] [] := by first | (simp [entryFrame, mkF, argsToLocals, Value.category]; done) | rfl
set_option maxRecDepth 65536 in
set_option maxHeartbeats 40000000 in
theorem rm_smallRef (l : Launch) (Z : State) (a0 : Array Value) (hw : ∀ d ∈ tables_1, d.before a0 Z = true) (ws : List Jvm.Cond) (qb : Int64) (pe : Int32) (h0 : Heap) (hfit : Fits qb.toInt pe.toInt.toNat) (h0e : 0 ≤ pe.toInt) (h7e : pe.toInt ≤ 7) :
    MetFree l (⟨"com/example/cubilete/cubilete/advice/KeepsPowerPinLaw", "smallRef", "(JI)J"⟩ : MethodName) (head1 (Jvm.Cond.code (⟨"com/example/cubilete/cubilete/advice/KeepsPowerPinLaw", "smallRef", "(JI)J"⟩ : MethodName) method_4_code 5 (some .long) :: ws) ({ frames := 0, cells := 0, slots := 0, locals := 0 } : Room)) (fun a_ U_ => a_ = #[(.long qb), (.int pe)] ∧ Z.Warmed39 U_.vm ∧ U_.heap = h0) (fun _ _ _ _ _ => True) (fun _ U_ o_ U_' => ∃ v_ L_, o_ = .returned v_ ∧ (QL (fun z => z.toInt = qb.toInt ^ pe.toInt.toNat) h0) v_ U_'.heap L_ ∧ FrameEnd U_ o_ U_' L_ 0 0) := by
  refine ow_body (plainFor_of_name pn_1) ?_
  intro p e s m below meth c T0 X0 hx hZ hby hml hown hnm hret hlk e0
  refine Ends.cast (ef_smallRef m qb pe) ?_
  have r_qb := rng64 qb
  have r_pe := rng32 pe
  have q1 : qb.toInt = qb.toInt ^ 1 := by rw [Int.pow_succ, Int.pow_zero, Int.one_mul]
  refine ow_iloadN X0 hx (hb hby d_smallRef_0) rfl (pc' := 1) rfl ?_
  refine ow_if_ne X0 hx (pe.toInt) (hb hby d_smallRef_1) rfl (by decide) (pt := 6) (by decide) (pf := 4) rfl (fun c1 => ?_) (fun c1 => ?_)
  · refine ow_iloadN X0 hx (hb hby d_smallRef_6) rfl (pc' := 7) rfl ?_
    refine ow_iconst X0 hx (z := (1 : Int32)) (hb hby d_smallRef_7) rfl (pc' := 8) rfl ?_
    refine ow_icmp_ne X0 hx (pe.toInt) ((1 : Int)) (hb hby d_smallRef_8) rfl rfl (by decide) (pt := 13) (by decide) (pf := 11) rfl (fun c8 => ?_) (fun c8 => ?_)
    · refine ow_lloadN X0 hx (hb hby d_smallRef_13) rfl (pc' := 14) rfl ?_
      refine ow_lloadN X0 hx (hb hby d_smallRef_14) rfl (pc' := 15) rfl ?_
      refine ow_lmul X0 hx (hb hby d_smallRef_15) (pc' := 16) rfl (fun z1 hz1 => ?_)
      have az1 : (z1.toInt - (qb.toInt * qb.toInt)) % 18446744073709551616 = 0 := by rw [hz1]; exact c_lmul qb qb
      have rz1 := rng64 z1
      have pz1 : z1.toInt = qb.toInt ^ 2 := by
        have f := hfit 2 (by omega)
        have e : qb.toInt * qb.toInt = qb.toInt ^ 2 := by rw [Int.pow_succ, Int.pow_succ, Int.pow_zero, Int.one_mul]
        rw [e] at az1
        omega
      refine ow_lstoreN X0 hx (Ls' := #[.val (.long qb), .second, .val (.int pe), .val (.long z1), .second]) (hb hby d_smallRef_16) rfl (pc' := 17) rfl ?_
      refine ow_iloadN X0 hx (hb hby d_smallRef_17) rfl (pc' := 18) rfl ?_
      refine ow_iconst X0 hx (z := (2 : Int32)) (hb hby d_smallRef_18) rfl (pc' := 19) rfl ?_
      refine ow_icmp_ne X0 hx (pe.toInt) ((2 : Int)) (hb hby d_smallRef_19) rfl rfl (by decide) (pt := 24) (by decide) (pf := 22) rfl (fun c19 => ?_) (fun c19 => ?_)
      · refine ow_iloadN X0 hx (hb hby d_smallRef_24) rfl (pc' := 25) rfl ?_
        refine ow_iconst X0 hx (z := (3 : Int32)) (hb hby d_smallRef_25) rfl (pc' := 26) rfl ?_
        refine ow_icmp_ne X0 hx (pe.toInt) ((3 : Int)) (hb hby d_smallRef_26) rfl rfl (by decide) (pt := 33) (by decide) (pf := 29) rfl (fun c26 => ?_) (fun c26 => ?_)
        · refine ow_iloadN X0 hx (hb hby d_smallRef_33) rfl (pc' := 34) rfl ?_
          refine ow_iconst X0 hx (z := (4 : Int32)) (hb hby d_smallRef_34) rfl (pc' := 35) rfl ?_
          refine ow_icmp_ne X0 hx (pe.toInt) ((4 : Int)) (hb hby d_smallRef_35) rfl rfl (by decide) (pt := 42) (by decide) (pf := 38) rfl (fun c35 => ?_) (fun c35 => ?_)
          · refine ow_iloadN X0 hx (hb hby d_smallRef_42) rfl (pc' := 43) rfl ?_
            refine ow_iconst X0 hx (z := (5 : Int32)) (hb hby d_smallRef_43) rfl (pc' := 44) rfl ?_
            refine ow_icmp_ne X0 hx (pe.toInt) ((5 : Int)) (hb hby d_smallRef_44) rfl rfl (by decide) (pt := 53) (by decide) (pf := 47) rfl (fun c44 => ?_) (fun c44 => ?_)
            · refine ow_iloadN X0 hx (hb hby d_smallRef_53) rfl (pc' := 54) rfl ?_
              refine ow_bipush X0 hx (z := (6 : Int32)) (hb hby d_smallRef_54) rfl (pc' := 56) rfl ?_
              refine ow_icmp_ne X0 hx (pe.toInt) ((6 : Int)) (hb hby d_smallRef_56) rfl rfl (by decide) (pt := 65) (by decide) (pf := 59) rfl (fun c56 => ?_) (fun c56 => ?_)
              · refine ow_lloadN X0 hx (hb hby d_smallRef_65) rfl (pc' := 66) rfl ?_
                refine ow_lloadN X0 hx (hb hby d_smallRef_66) rfl (pc' := 67) rfl ?_
                refine ow_lmul X0 hx (hb hby d_smallRef_67) (pc' := 68) rfl (fun z2 hz2 => ?_)
                have az2 : (z2.toInt - (z1.toInt * z1.toInt)) % 18446744073709551616 = 0 := by rw [hz2]; exact c_lmul z1 z1
                have rz2 := rng64 z2
                have pz2 : z2.toInt = qb.toInt ^ 4 := by
                  have f := hfit 4 (by omega)
                  have e : z1.toInt * z1.toInt = qb.toInt ^ 4 := by rw [pz1, ← Int.pow_add]
                  rw [e] at az2
                  omega
                refine ow_lloadN X0 hx (hb hby d_smallRef_68) rfl (pc' := 69) rfl ?_
                refine ow_lmul X0 hx (hb hby d_smallRef_69) (pc' := 70) rfl (fun z3 hz3 => ?_)
                have az3 : (z3.toInt - (z2.toInt * z1.toInt)) % 18446744073709551616 = 0 := by rw [hz3]; exact c_lmul z2 z1
                have rz3 := rng64 z3
                have pz3 : z3.toInt = qb.toInt ^ 6 := by
                  have f := hfit 6 (by omega)
                  have e : z2.toInt * z1.toInt = qb.toInt ^ 6 := by rw [pz2, pz1, ← Int.pow_add]
                  rw [e] at az3
                  omega
                refine ow_lloadN X0 hx (hb hby d_smallRef_70) rfl (pc' := 71) rfl ?_
                refine ow_lmul X0 hx (hb hby d_smallRef_71) (pc' := 72) rfl (fun z4 hz4 => ?_)
                have az4 : (z4.toInt - (z3.toInt * qb.toInt)) % 18446744073709551616 = 0 := by rw [hz4]; exact c_lmul z3 qb
                have rz4 := rng64 z4
                have pz4 : z4.toInt = qb.toInt ^ 7 := by
                  have f := hfit 7 (by omega)
                  have e : z3.toInt * qb.toInt = qb.toInt ^ 7 := by rw [pz3]; exact (Int.pow_succ _ _).symm
                  rw [e] at az4
                  omega
                exact ow_retL X0 hx hret hlk (hb hby d_smallRef_72) (by decide) (by decide) ⟨z4, rfl, (show z4.toInt = qb.toInt ^ pe.toInt.toNat from by (have w : pe.toInt.toNat = 7 := (by omega); rw [w]; exact pz4)), rfl, e0⟩
              · refine ow_lloadN X0 hx (hb hby d_smallRef_59) rfl (pc' := 60) rfl ?_
                refine ow_lloadN X0 hx (hb hby d_smallRef_60) rfl (pc' := 61) rfl ?_
                refine ow_lmul X0 hx (hb hby d_smallRef_61) (pc' := 62) rfl (fun z5 hz5 => ?_)
                have az5 : (z5.toInt - (z1.toInt * z1.toInt)) % 18446744073709551616 = 0 := by rw [hz5]; exact c_lmul z1 z1
                have rz5 := rng64 z5
                have pz5 : z5.toInt = qb.toInt ^ 4 := by
                  have f := hfit 4 (by omega)
                  have e : z1.toInt * z1.toInt = qb.toInt ^ 4 := by rw [pz1, ← Int.pow_add]
                  rw [e] at az5
                  omega
                refine ow_lloadN X0 hx (hb hby d_smallRef_62) rfl (pc' := 63) rfl ?_
                refine ow_lmul X0 hx (hb hby d_smallRef_63) (pc' := 64) rfl (fun z6 hz6 => ?_)
                have az6 : (z6.toInt - (z5.toInt * z1.toInt)) % 18446744073709551616 = 0 := by rw [hz6]; exact c_lmul z5 z1
                have rz6 := rng64 z6
                have pz6 : z6.toInt = qb.toInt ^ 6 := by
                  have f := hfit 6 (by omega)
                  have e : z5.toInt * z1.toInt = qb.toInt ^ 6 := by rw [pz5, pz1, ← Int.pow_add]
                  rw [e] at az6
                  omega
                exact ow_retL X0 hx hret hlk (hb hby d_smallRef_64) (by decide) (by decide) ⟨z6, rfl, (show z6.toInt = qb.toInt ^ pe.toInt.toNat from by (have w : pe.toInt.toNat = 6 := (by omega); rw [w]; exact pz6)), rfl, e0⟩
            · refine ow_lloadN X0 hx (hb hby d_smallRef_47) rfl (pc' := 48) rfl ?_
              refine ow_lloadN X0 hx (hb hby d_smallRef_48) rfl (pc' := 49) rfl ?_
              refine ow_lmul X0 hx (hb hby d_smallRef_49) (pc' := 50) rfl (fun z7 hz7 => ?_)
              have az7 : (z7.toInt - (z1.toInt * z1.toInt)) % 18446744073709551616 = 0 := by rw [hz7]; exact c_lmul z1 z1
              have rz7 := rng64 z7
              have pz7 : z7.toInt = qb.toInt ^ 4 := by
                have f := hfit 4 (by omega)
                have e : z1.toInt * z1.toInt = qb.toInt ^ 4 := by rw [pz1, ← Int.pow_add]
                rw [e] at az7
                omega
              refine ow_lloadN X0 hx (hb hby d_smallRef_50) rfl (pc' := 51) rfl ?_
              refine ow_lmul X0 hx (hb hby d_smallRef_51) (pc' := 52) rfl (fun z8 hz8 => ?_)
              have az8 : (z8.toInt - (z7.toInt * qb.toInt)) % 18446744073709551616 = 0 := by rw [hz8]; exact c_lmul z7 qb
              have rz8 := rng64 z8
              have pz8 : z8.toInt = qb.toInt ^ 5 := by
                have f := hfit 5 (by omega)
                have e : z7.toInt * qb.toInt = qb.toInt ^ 5 := by rw [pz7]; exact (Int.pow_succ _ _).symm
                rw [e] at az8
                omega
              exact ow_retL X0 hx hret hlk (hb hby d_smallRef_52) (by decide) (by decide) ⟨z8, rfl, (show z8.toInt = qb.toInt ^ pe.toInt.toNat from by (have w : pe.toInt.toNat = 5 := (by omega); rw [w]; exact pz8)), rfl, e0⟩
          · refine ow_lloadN X0 hx (hb hby d_smallRef_38) rfl (pc' := 39) rfl ?_
            refine ow_lloadN X0 hx (hb hby d_smallRef_39) rfl (pc' := 40) rfl ?_
            refine ow_lmul X0 hx (hb hby d_smallRef_40) (pc' := 41) rfl (fun z9 hz9 => ?_)
            have az9 : (z9.toInt - (z1.toInt * z1.toInt)) % 18446744073709551616 = 0 := by rw [hz9]; exact c_lmul z1 z1
            have rz9 := rng64 z9
            have pz9 : z9.toInt = qb.toInt ^ 4 := by
              have f := hfit 4 (by omega)
              have e : z1.toInt * z1.toInt = qb.toInt ^ 4 := by rw [pz1, ← Int.pow_add]
              rw [e] at az9
              omega
            exact ow_retL X0 hx hret hlk (hb hby d_smallRef_41) (by decide) (by decide) ⟨z9, rfl, (show z9.toInt = qb.toInt ^ pe.toInt.toNat from by (have w : pe.toInt.toNat = 4 := (by omega); rw [w]; exact pz9)), rfl, e0⟩
        · refine ow_lloadN X0 hx (hb hby d_smallRef_29) rfl (pc' := 30) rfl ?_
          refine ow_lloadN X0 hx (hb hby d_smallRef_30) rfl (pc' := 31) rfl ?_
          refine ow_lmul X0 hx (hb hby d_smallRef_31) (pc' := 32) rfl (fun z10 hz10 => ?_)
          have az10 : (z10.toInt - (z1.toInt * qb.toInt)) % 18446744073709551616 = 0 := by rw [hz10]; exact c_lmul z1 qb
          have rz10 := rng64 z10
          have pz10 : z10.toInt = qb.toInt ^ 3 := by
            have f := hfit 3 (by omega)
            have e : z1.toInt * qb.toInt = qb.toInt ^ 3 := by rw [pz1]; exact (Int.pow_succ _ _).symm
            rw [e] at az10
            omega
          exact ow_retL X0 hx hret hlk (hb hby d_smallRef_32) (by decide) (by decide) ⟨z10, rfl, (show z10.toInt = qb.toInt ^ pe.toInt.toNat from by (have w : pe.toInt.toNat = 3 := (by omega); rw [w]; exact pz10)), rfl, e0⟩
      · refine ow_lloadN X0 hx (hb hby d_smallRef_22) rfl (pc' := 23) rfl ?_
        exact ow_retL X0 hx hret hlk (hb hby d_smallRef_23) (by decide) (by decide) ⟨z1, rfl, (show z1.toInt = qb.toInt ^ pe.toInt.toNat from by (have w : pe.toInt.toNat = 2 := (by omega); rw [w]; exact pz1)), rfl, e0⟩
    · refine ow_lloadN X0 hx (hb hby d_smallRef_11) rfl (pc' := 12) rfl ?_
      exact ow_retL X0 hx hret hlk (hb hby d_smallRef_12) (by decide) (by decide) ⟨qb, rfl, (show qb.toInt = qb.toInt ^ pe.toInt.toNat from by (have w : pe.toInt.toNat = 1 := (by omega); rw [w]; exact q1)), rfl, e0⟩
  · refine ow_lconst X0 hx (z := (1 : Int64)) (hb hby d_smallRef_4) rfl (pc' := 5) rfl ?_
    exact ow_retL X0 hx hret hlk (hb hby d_smallRef_5) (by decide) (by decide) ⟨(1 : Int64), rfl, (show (1 : Int) = qb.toInt ^ pe.toInt.toNat from by (have w : pe.toInt.toNat = 0 := (by omega); rw [w, Int.pow_zero])), rfl, e0⟩
theorem d_tinyRef_0 : decode method_5_code 0 = .ok (.iload_n 2, 1) := by decide +kernel
theorem d_tinyRef_1 : decode method_5_code 1 = .ok (.ifCond .ne 5, 3) := by decide +kernel
theorem d_tinyRef_4 : decode method_5_code 4 = .ok (.lconst 1, 1) := by decide +kernel
theorem d_tinyRef_5 : decode method_5_code 5 = .ok (.lreturn, 1) := by decide +kernel
theorem d_tinyRef_6 : decode method_5_code 6 = .ok (.lload_n 0, 1) := by decide +kernel
theorem d_tinyRef_7 : decode method_5_code 7 = .ok (.lconst 0, 1) := by decide +kernel
theorem d_tinyRef_8 : decode method_5_code 8 = .ok (.lcmp, 1) := by decide +kernel
theorem d_tinyRef_9 : decode method_5_code 9 = .ok (.ifCond .ne 5, 3) := by decide +kernel
theorem d_tinyRef_12 : decode method_5_code 12 = .ok (.lconst 0, 1) := by decide +kernel
theorem d_tinyRef_13 : decode method_5_code 13 = .ok (.lreturn, 1) := by decide +kernel
theorem d_tinyRef_14 : decode method_5_code 14 = .ok (.lload_n 0, 1) := by decide +kernel
theorem d_tinyRef_15 : decode method_5_code 15 = .ok (.lconst 1, 1) := by decide +kernel
theorem d_tinyRef_16 : decode method_5_code 16 = .ok (.lcmp, 1) := by decide +kernel
theorem d_tinyRef_17 : decode method_5_code 17 = .ok (.ifCond .eq 11, 3) := by decide +kernel
theorem d_tinyRef_20 : decode method_5_code 20 = .ok (.lload_n 0, 1) := by decide +kernel
theorem d_tinyRef_21 : decode method_5_code 21 = .ok (.ldc2_w 38, 3) := by decide +kernel
theorem d_tinyRef_24 : decode method_5_code 24 = .ok (.lcmp, 1) := by decide +kernel
theorem d_tinyRef_25 : decode method_5_code 25 = .ok (.ifCond .ne 7, 3) := by decide +kernel
theorem d_tinyRef_28 : decode method_5_code 28 = .ok (.lconst 1, 1) := by decide +kernel
theorem d_tinyRef_29 : decode method_5_code 29 = .ok (.goto 6, 3) := by decide +kernel
theorem d_tinyRef_32 : decode method_5_code 32 = .ok (.lconst 1, 1) := by decide +kernel
theorem d_tinyRef_33 : decode method_5_code 33 = .ok (.iload_n 2, 1) := by decide +kernel
theorem d_tinyRef_34 : decode method_5_code 34 = .ok (.lshl, 1) := by decide +kernel
theorem d_tinyRef_35 : decode method_5_code 35 = .ok (.lstore_n 3, 1) := by decide +kernel
theorem d_tinyRef_36 : decode method_5_code 36 = .ok (.lload_n 0, 1) := by decide +kernel
theorem d_tinyRef_37 : decode method_5_code 37 = .ok (.lconst 0, 1) := by decide +kernel
theorem d_tinyRef_38 : decode method_5_code 38 = .ok (.lcmp, 1) := by decide +kernel
theorem d_tinyRef_39 : decode method_5_code 39 = .ok (.ifCond .ge 13, 3) := by decide +kernel
theorem d_tinyRef_42 : decode method_5_code 42 = .ok (.iload_n 2, 1) := by decide +kernel
theorem d_tinyRef_43 : decode method_5_code 43 = .ok (.iconst 1, 1) := by decide +kernel
theorem d_tinyRef_44 : decode method_5_code 44 = .ok (.iand, 1) := by decide +kernel
theorem d_tinyRef_45 : decode method_5_code 45 = .ok (.iconst 1, 1) := by decide +kernel
theorem d_tinyRef_46 : decode method_5_code 46 = .ok (.if_icmp .ne 6, 3) := by decide +kernel
theorem d_tinyRef_49 : decode method_5_code 49 = .ok (.lload_n 3, 1) := by decide +kernel
theorem d_tinyRef_50 : decode method_5_code 50 = .ok (.lneg, 1) := by decide +kernel
theorem d_tinyRef_51 : decode method_5_code 51 = .ok (.lreturn, 1) := by decide +kernel
theorem d_tinyRef_52 : decode method_5_code 52 = .ok (.lload_n 3, 1) := by decide +kernel
theorem d_tinyRef_53 : decode method_5_code 53 = .ok (.lreturn, 1) := by decide +kernel
theorem ef_tinyRef (m : MethodId) (x0 : Int64) (x1 : Int32) : entryFrame m #[(.long x0), (.int x1)] 5 = mkF m 0 #[.val (.long x0), .second, .val (.int x1), .unset, .unset] [] := by first | (simp [entryFrame, mkF, argsToLocals, Value.category]; done) | rfl
set_option maxRecDepth 65536 in
set_option maxHeartbeats 40000000 in
theorem rm_tinyRef (l : Launch) (Z : State) (a0 : Array Value) (hw : ∀ d ∈ tables_1, d.before a0 Z = true) (ws : List Jvm.Cond) (qb : Int64) (pe : Int32) (h0 : Heap) (hb0 : -2 ≤ qb.toInt) (hb1 : qb.toInt ≤ 2) (h0e : 0 ≤ pe.toInt) (h62 : pe.toInt ≤ 62) :
    MetFree l (⟨"com/example/cubilete/cubilete/advice/KeepsPowerPinLaw", "tinyRef", "(JI)J"⟩ : MethodName) (head1 (Jvm.Cond.code (⟨"com/example/cubilete/cubilete/advice/KeepsPowerPinLaw", "tinyRef", "(JI)J"⟩ : MethodName) method_5_code 5 (some .long) :: ws) ({ frames := 0, cells := 0, slots := 0, locals := 0 } : Room)) (fun a_ U_ => a_ = #[(.long qb), (.int pe)] ∧ Z.Warmed39 U_.vm ∧ U_.heap = h0) (fun _ _ _ _ _ => True) (fun _ U_ o_ U_' => ∃ v_ L_, o_ = .returned v_ ∧ (QL (fun z => z.toInt = qb.toInt ^ pe.toInt.toNat) h0) v_ U_'.heap L_ ∧ FrameEnd U_ o_ U_' L_ 0 0) := by
  refine ow_body (plainFor_of_name pn_1) ?_
  intro p e s m below meth c T0 X0 hx hZ hby hml hown hnm hret hlk e0
  refine Ends.cast (ef_tinyRef m qb pe) ?_
  have r_qb := rng64 qb
  have r_pe := rng32 pe
  refine ow_iloadN X0 hx (hb hby d_tinyRef_0) rfl (pc' := 1) rfl ?_
  refine ow_if_ne X0 hx (pe.toInt) (hb hby d_tinyRef_1) rfl (by decide) (pt := 6) (by decide) (pf := 4) rfl (fun c1 => ?_) (fun c1 => ?_)
  · refine ow_lloadN X0 hx (hb hby d_tinyRef_6) rfl (pc' := 7) rfl ?_
    refine ow_lconst X0 hx (z := (0 : Int64)) (hb hby d_tinyRef_7) rfl (pc' := 8) rfl ?_
    refine ow_lcmp X0 hx (hb hby d_tinyRef_8) (pc' := 9) rfl (fun z1 hz1 => ?_)
    have az1 : (qb.toInt < (0 : Int) → z1.toInt = -1) ∧ (qb.toInt = (0 : Int) → z1.toInt = 0) ∧ ((0 : Int) < qb.toInt → z1.toInt = 1) := by rw [hz1]; exact c_lcmp qb (0 : Int64)
    have rz1 := rng32 z1
    refine ow_if_ne X0 hx (z1.toInt) (hb hby d_tinyRef_9) rfl (by decide) (pt := 14) (by decide) (pf := 12) rfl (fun c9 => ?_) (fun c9 => ?_)
    · have J35 : ∀ (jm : Int64), (((qb.toInt = 1 ∨ qb.toInt = -1) ∧ jm.toInt = 1) ∨ ((¬ qb.toInt = 1 ∧ ¬ qb.toInt = -1) ∧ jm.toInt = 2 ^ pe.toInt.toNat)) → Ends p e below (Out s 0 0 (QL (fun z => z.toInt = qb.toInt ^ pe.toInt.toNat) h0)) T0 (mkF m 35 #[.val (.long qb), .second, .val (.int pe), .unset, .unset] [(.long jm)]) := by
        intro jm hi35
        have r_jm := rng64 jm
        refine ow_lstoreN X0 hx (Ls' := #[.val (.long qb), .second, .val (.int pe), .val (.long jm), .second]) (hb hby d_tinyRef_35) rfl (pc' := 36) rfl ?_
        refine ow_lloadN X0 hx (hb hby d_tinyRef_36) rfl (pc' := 37) rfl ?_
        refine ow_lconst X0 hx (z := (0 : Int64)) (hb hby d_tinyRef_37) rfl (pc' := 38) rfl ?_
        refine ow_lcmp X0 hx (hb hby d_tinyRef_38) (pc' := 39) rfl (fun z2 hz2 => ?_)
        have az2 : (qb.toInt < (0 : Int) → z2.toInt = -1) ∧ (qb.toInt = (0 : Int) → z2.toInt = 0) ∧ ((0 : Int) < qb.toInt → z2.toInt = 1) := by rw [hz2]; exact c_lcmp qb (0 : Int64)
        have rz2 := rng32 z2
        refine ow_if_ge X0 hx (z2.toInt) (hb hby d_tinyRef_39) rfl (by decide) (pt := 52) (by decide) (pf := 42) rfl (fun c39 => ?_) (fun c39 => ?_)
        · refine ow_lloadN X0 hx (hb hby d_tinyRef_52) rfl (pc' := 53) rfl ?_
          exact ow_retL X0 hx hret hlk (hb hby d_tinyRef_53) (by decide) (by decide) ⟨jm, rfl, (show jm.toInt = qb.toInt ^ pe.toInt.toNat from by (have ng1 := negp 1 pe.toInt.toNat; have ng2 := negp 2 pe.toInt.toNat; have hb : qb.toInt = 1 ∨ qb.toInt = -1 ∨ qb.toInt = 2 ∨ qb.toInt = -2 := (by omega); have o1 : (1 : Int) ^ pe.toInt.toNat = 1 := Int.one_pow; have hpos : (0 : Int) < 2 ^ pe.toInt.toNat := Int.pow_pos (by decide); rw [o1] at ng1; rcases hb with hb | hb | hb | hb <;> rw [hb] at hi35 ⊢ <;> omega)), rfl, e0⟩
        · refine ow_iloadN X0 hx (hb hby d_tinyRef_42) rfl (pc' := 43) rfl ?_
          refine ow_iconst X0 hx (z := (1 : Int32)) (hb hby d_tinyRef_43) rfl (pc' := 44) rfl ?_
          refine ow_iand X0 hx (hb hby d_tinyRef_44) (pc' := 45) rfl (fun z3 hz3 => ?_)
          have az3 : z3.toInt = pe.toInt % 2 := by rw [hz3]; exact c_mask pe (1 : Int32) 1 (by decide) (by decide)
          have rz3 := rng32 z3
          refine ow_iconst X0 hx (z := (1 : Int32)) (hb hby d_tinyRef_45) rfl (pc' := 46) rfl ?_
          refine ow_icmp_ne X0 hx (z3.toInt) ((1 : Int)) (hb hby d_tinyRef_46) rfl rfl (by decide) (pt := 52) (by decide) (pf := 49) rfl (fun c46 => ?_) (fun c46 => ?_)
          · refine ow_lloadN X0 hx (hb hby d_tinyRef_52) rfl (pc' := 53) rfl ?_
            exact ow_retL X0 hx hret hlk (hb hby d_tinyRef_53) (by decide) (by decide) ⟨jm, rfl, (show jm.toInt = qb.toInt ^ pe.toInt.toNat from by (have ng1 := negp 1 pe.toInt.toNat; have ng2 := negp 2 pe.toInt.toNat; have hb : qb.toInt = 1 ∨ qb.toInt = -1 ∨ qb.toInt = 2 ∨ qb.toInt = -2 := (by omega); have o1 : (1 : Int) ^ pe.toInt.toNat = 1 := Int.one_pow; have hpos : (0 : Int) < 2 ^ pe.toInt.toNat := Int.pow_pos (by decide); rw [o1] at ng1; rcases hb with hb | hb | hb | hb <;> rw [hb] at hi35 ⊢ <;> omega)), rfl, e0⟩
          · refine ow_lloadN X0 hx (hb hby d_tinyRef_49) rfl (pc' := 50) rfl ?_
            refine ow_lneg X0 hx (hb hby d_tinyRef_50) (pc' := 51) rfl (fun z4 hz4 => ?_)
            have az4 : (z4.toInt - (-jm.toInt)) % 18446744073709551616 = 0 := by rw [hz4]; exact c_lneg jm
            have rz4 := rng64 z4
            exact ow_retL X0 hx hret hlk (hb hby d_tinyRef_51) (by decide) (by decide) ⟨z4, rfl, (show z4.toInt = qb.toInt ^ pe.toInt.toNat from by (have ng1 := negp 1 pe.toInt.toNat; have ng2 := negp 2 pe.toInt.toNat; have hb : qb.toInt = 1 ∨ qb.toInt = -1 ∨ qb.toInt = 2 ∨ qb.toInt = -2 := (by omega); have o1 : (1 : Int) ^ pe.toInt.toNat = 1 := Int.one_pow; have hpos : (0 : Int) < 2 ^ pe.toInt.toNat := Int.pow_pos (by decide); rw [o1] at ng1; rcases hb with hb | hb | hb | hb <;> rw [hb] at hi35 ⊢ <;> omega)), rfl, e0⟩
      refine ow_lloadN X0 hx (hb hby d_tinyRef_14) rfl (pc' := 15) rfl ?_
      refine ow_lconst X0 hx (z := (1 : Int64)) (hb hby d_tinyRef_15) rfl (pc' := 16) rfl ?_
      refine ow_lcmp X0 hx (hb hby d_tinyRef_16) (pc' := 17) rfl (fun z5 hz5 => ?_)
      have az5 : (qb.toInt < (1 : Int) → z5.toInt = -1) ∧ (qb.toInt = (1 : Int) → z5.toInt = 0) ∧ ((1 : Int) < qb.toInt → z5.toInt = 1) := by rw [hz5]; exact c_lcmp qb (1 : Int64)
      have rz5 := rng32 z5
      refine ow_if_eq X0 hx (z5.toInt) (hb hby d_tinyRef_17) rfl (by decide) (pt := 28) (by decide) (pf := 20) rfl (fun c17 => ?_) (fun c17 => ?_)
      · refine ow_lconst X0 hx (z := (1 : Int64)) (hb hby d_tinyRef_28) rfl (pc' := 29) rfl ?_
        refine ow_goto X0 hx (hb hby d_tinyRef_29) (by decide) (pc' := 35) (by decide) ?_
        exact J35 (1 : Int64) (show ((qb.toInt = 1 ∨ qb.toInt = -1) ∧ (1 : Int) = 1) ∨ ((¬ qb.toInt = 1 ∧ ¬ qb.toInt = -1) ∧ (1 : Int) = 2 ^ pe.toInt.toNat) from by omega)
      · refine ow_lloadN X0 hx (hb hby d_tinyRef_20) rfl (pc' := 21) rfl ?_
        refine ow_ldc2Long X0 hx hZ hown (hw _ (List.mem_of_getElem? (i := 27) rfl)) (hb hby d_tinyRef_21) (pc' := 24) rfl ?_
        refine ow_lcmp X0 hx (hb hby d_tinyRef_24) (pc' := 25) rfl (fun z6 hz6 => ?_)
        have az6 : (qb.toInt < (-1 : Int) → z6.toInt = -1) ∧ (qb.toInt = (-1 : Int) → z6.toInt = 0) ∧ ((-1 : Int) < qb.toInt → z6.toInt = 1) := by rw [hz6]; exact c_lcmp qb (-1 : Int64)
        have rz6 := rng32 z6
        refine ow_if_ne X0 hx (z6.toInt) (hb hby d_tinyRef_25) rfl (by decide) (pt := 32) (by decide) (pf := 28) rfl (fun c25 => ?_) (fun c25 => ?_)
        · refine ow_lconst X0 hx (z := (1 : Int64)) (hb hby d_tinyRef_32) rfl (pc' := 33) rfl ?_
          refine ow_iloadN X0 hx (hb hby d_tinyRef_33) rfl (pc' := 34) rfl ?_
          refine ow_lshl X0 hx (hb hby d_tinyRef_34) (pc' := 35) rfl (fun z7 hz7 => ?_)
          have rz7 := rng64 z7
          have hshl : z7.toInt = 2 ^ pe.toInt.toNat := shl_is h0e h62 hz7
          exact J35 z7 (show ((qb.toInt = 1 ∨ qb.toInt = -1) ∧ z7.toInt = 1) ∨ ((¬ qb.toInt = 1 ∧ ¬ qb.toInt = -1) ∧ z7.toInt = 2 ^ pe.toInt.toNat) from by omega)
        · refine ow_lconst X0 hx (z := (1 : Int64)) (hb hby d_tinyRef_28) rfl (pc' := 29) rfl ?_
          refine ow_goto X0 hx (hb hby d_tinyRef_29) (by decide) (pc' := 35) (by decide) ?_
          exact J35 (1 : Int64) (show ((qb.toInt = 1 ∨ qb.toInt = -1) ∧ (1 : Int) = 1) ∨ ((¬ qb.toInt = 1 ∧ ¬ qb.toInt = -1) ∧ (1 : Int) = 2 ^ pe.toInt.toNat) from by omega)
    · refine ow_lconst X0 hx (z := (0 : Int64)) (hb hby d_tinyRef_12) rfl (pc' := 13) rfl ?_
      exact ow_retL X0 hx hret hlk (hb hby d_tinyRef_13) (by decide) (by decide) ⟨(0 : Int64), rfl, (show (0 : Int) = qb.toInt ^ pe.toInt.toNat from by (have w : qb.toInt = 0 := (by omega); rw [w, Int.zero_pow (by omega)])), rfl, e0⟩
  · refine ow_lconst X0 hx (z := (1 : Int64)) (hb hby d_tinyRef_4) rfl (pc' := 5) rfl ?_
    exact ow_retL X0 hx hret hlk (hb hby d_tinyRef_5) (by decide) (by decide) ⟨(1 : Int64), rfl, (show (1 : Int) = qb.toInt ^ pe.toInt.toNat from by (have w : pe.toInt.toNat = 0 := (by omega); rw [w, Int.pow_zero])), rfl, e0⟩
theorem pd_2 : parseMethodDescriptor "(JI)J" = some ⟨[.long, .int], some .long⟩ := by decide +kernel
theorem ef_law (m : MethodId) (x0 : Int64) (x1 : Int32) : entryFrame m #[(.long x0), (.int x1)] maxLocals = mkF m 0 #[.val (.long x0), .second, .val (.int x1), .unset, .unset, .unset] [] := by first | (simp [entryFrame, mkF, argsToLocals, Value.category, maxLocals]; done) | rfl
def Q_law (qm : Int64) (px : Int32) (h0 : Heap) (n0 : Nat) (v : Option Value) (h : Heap) (L : List Loc) : Prop := v = some (.int 1) ∧ Fr n0 L
set_option maxRecDepth 65536 in
set_option maxHeartbeats 40000000 in
theorem rm_law (l : Launch) (Z : State) (a0 : Array Value) (hw : ∀ d ∈ tables_1, d.before a0 Z = true) (ws : List Jvm.Cond) (qm : Int64) (px : Int32) (h0 : Heap) (n0 : Nat) (Z0 : n0 ≤ h0.size) :
    MetFree l x (head1 (Jvm.Cond.code x code maxLocals ret :: ws) room_1) (fun a_ U_ => a_ = #[(.long qm), (.int px)] ∧ Z.Warmed39 U_.vm ∧ U_.heap = h0) (fun _ _ _ _ _ => True) (fun _ U_ o_ U_' => ∃ v_ L_, o_ = .returned v_ ∧ (Q_law qm px h0 n0) v_ U_'.heap L_ ∧ FrameEnd U_ o_ U_' L_ 0 0) := by
  refine ow_body (plainFor_of_name pn_1) ?_
  intro p e s m below meth c T0 X0 hx hZ hby hml hown hnm hret hlk e0
  have N0 := Fr.nil n0
  have hret : meth.sig.returnType = (some .boolean) := hret
  refine Ends.cast (ef_law m qm px) ?_
  have r_qm := rng64 qm
  have r_px := rng32 px
  refine ow_iloadN X0 hx (hb hby at_0) rfl (pc' := 1) rfl ?_
  refine ow_iconst X0 hx (z := (1 : Int32)) (hb hby at_1) rfl (pc' := 2) rfl ?_
  refine ow_iand X0 hx (hb hby at_2) (pc' := 3) rfl (fun z1 hz1 => ?_)
  have az1 : z1.toInt = px.toInt % 2 := by rw [hz1]; exact c_mask px (1 : Int32) 1 (by decide) (by decide)
  have rz1 := rng32 z1
  refine ow_if_ne X0 hx (z1.toInt) (hb hby at_3) rfl (by decide) (pt := 42) (by decide) (pf := 6) rfl (fun c3 => ?_) (fun c3 => ?_)
  · refine ow_iloadN X0 hx (hb hby at_42) rfl (pc' := 43) rfl ?_
    refine ow_iconst X0 hx (z := (1 : Int32)) (hb hby at_43) rfl (pc' := 44) rfl ?_
    refine ow_iushr X0 hx (hb hby at_44) (pc' := 45) rfl (fun z2 hz2 => ?_)
    have az2 : z2.toInt = (px.toInt % 4294967296) / 2 := by rw [hz2]; exact c_iushr px (1 : Int32) 1 (by decide) (by decide)
    have rz2 := rng32 z2
    refine ow_bipush X0 hx (z := (63 : Int32)) (hb hby at_45) rfl (pc' := 47) rfl ?_
    refine ow_irem X0 hx (hb hby at_47) (by decide) (pc' := 48) rfl (fun z3 hz3 => ?_)
    have az3 : (0 ≤ z2.toInt → z3.toInt = z2.toInt % 63) ∧ (z2.toInt < 0 → z3.toInt = -((-z2.toInt) % 63)) := by rw [hz3]; exact c_irem z2 (63 : Int32) 63 rfl
    have rz3 := rng32 z3
    refine ow_istoreN X0 hx (Ls' := #[.val (.long qm), .second, .val (.int px), .val (.int z3), .unset, .unset]) (hb hby at_48) rfl (pc' := 49) rfl ?_
    refine ow_lloadN X0 hx (hb hby at_49) rfl (pc' := 50) rfl ?_
    refine ow_ldc2Long X0 hx hZ hown (hw _ (List.mem_of_getElem? (i := 20) rfl)) (hb hby at_50) (pc' := 53) rfl ?_
    refine ow_lrem X0 hx (hb hby at_53) (by decide) (pc' := 54) rfl (fun z4 hz4 => ?_)
    have az4 : (0 ≤ qm.toInt → z4.toInt = qm.toInt % 3) ∧ (qm.toInt < 0 → z4.toInt = -((-qm.toInt) % 3)) := by rw [hz4]; exact c_lrem qm (3 : Int64) 3 rfl
    have rz4 := rng64 z4
    refine ow_lstore X0 hx (Ls' := #[.val (.long qm), .second, .val (.int px), .val (.int z3), .val (.long z4), .second]) (hb hby at_54) rfl (pc' := 56) rfl ?_
    have hf2 : Fits z4.toInt z3.toInt.toNat := fits_of _ 2 _ (by omega) (by decide) (two_pow_lt _ (by omega))
    refine ow_lload X0 hx (hb hby at_56) rfl (pc' := 58) rfl ?_
    refine ow_iloadN X0 hx (hb hby at_58) rfl (pc' := 59) rfl ?_
    refine ow_callPL X0 hx hZ hown (hw _ (List.mem_of_getElem? (i := 4) rfl)) (hw _ (List.mem_of_getElem? (i := 5) rfl)) (hw _ (List.mem_of_getElem? (i := 6) rfl)) (hw _ (List.mem_of_getElem? (i := 7) rfl)) (by decide) (rm_power l Z a0 hw [] z4 z3 h0 hf2 (by first | omega | decide)) e0 0 (by decide) (by decide) (by decide) (by decide) [(.long z4), (.int z3)] (by rw [hml]; rfl) pd_2 rfl rfl rfl (Nat.le_of_eq rfl) (hb hby at_59) (pc' := 62) rfl (fun z5 T5 hz5 X5 e5 => ?_)
    have az5 : z5.toInt = z4.toInt ^ z3.toInt.toNat := hz5
    have rz5 := rng64 z5
    refine ow_lload X5 hx (hb hby at_62) rfl (pc' := 64) rfl ?_
    refine ow_iloadN X5 hx (hb hby at_64) rfl (pc' := 65) rfl ?_
    refine ow_callPL X5 hx hZ hown (hw _ (List.mem_of_getElem? (i := 21) rfl)) (hw _ (List.mem_of_getElem? (i := 22) rfl)) (hw _ (List.mem_of_getElem? (i := 2) rfl)) (hw _ (List.mem_of_getElem? (i := 23) rfl)) (by decide) (rm_tinyRef l Z a0 hw [] z4 z3 h0 (by first | omega | decide) (by first | omega | decide) (by first | omega | decide) (by first | omega | decide)) e5 2 (by decide) (by decide) (by decide) (by decide) [(.long z4), (.int z3)] (by rw [hml]; rfl) pd_2 rfl rfl rfl (Nat.le_of_eq rfl) (hb hby at_65) (pc' := 68) rfl (fun z6 T6 hz6 X6 e6 => ?_)
    have az6 : z6.toInt = z4.toInt ^ z3.toInt.toNat := hz6
    have rz6 := rng64 z6
    refine ow_lcmp X6 hx (hb hby at_68) (pc' := 69) rfl (fun z7 hz7 => ?_)
    have az7 : (z5.toInt < z6.toInt → z7.toInt = -1) ∧ (z5.toInt = z6.toInt → z7.toInt = 0) ∧ (z6.toInt < z5.toInt → z7.toInt = 1) := by rw [hz7]; exact c_lcmp z5 z6
    have rz7 := rng32 z7
    refine ow_if_ne X6 hx (z7.toInt) (hb hby at_69) rfl (by decide) (pt := 76) (by decide) (pf := 72) rfl (fun c69 => absurd c69 (by omega)) (fun c69 => ?_)
    refine ow_iconst X6 hx (z := (1 : Int32)) (hb hby at_72) rfl (pc' := 73) rfl ?_
    refine ow_goto X6 hx (hb hby at_73) (by decide) (pc' := 77) (by decide) ?_
    exact ow_retB X6 hx hret hlk (hb hby at_77) (by decide) (by decide) (z' := (1 : Int32)) rfl ⟨rfl, N0⟩
  · refine ow_iloadN X0 hx (hb hby at_6) rfl (pc' := 7) rfl ?_
    refine ow_iconst X0 hx (z := (1 : Int32)) (hb hby at_7) rfl (pc' := 8) rfl ?_
    refine ow_iushr X0 hx (hb hby at_8) (pc' := 9) rfl (fun z8 hz8 => ?_)
    have az8 : z8.toInt = (px.toInt % 4294967296) / 2 := by rw [hz8]; exact c_iushr px (1 : Int32) 1 (by decide) (by decide)
    have rz8 := rng32 z8
    refine ow_bipush X0 hx (z := (7 : Int32)) (hb hby at_9) rfl (pc' := 11) rfl ?_
    refine ow_iand X0 hx (hb hby at_11) (pc' := 12) rfl (fun z9 hz9 => ?_)
    have az9 : z9.toInt = z8.toInt % 8 := by rw [hz9]; exact c_mask z8 (7 : Int32) 3 (by decide) (by decide)
    have rz9 := rng32 z9
    refine ow_istoreN X0 hx (Ls' := #[.val (.long qm), .second, .val (.int px), .val (.int z9), .unset, .unset]) (hb hby at_12) rfl (pc' := 13) rfl ?_
    refine ow_lloadN X0 hx (hb hby at_13) rfl (pc' := 14) rfl ?_
    refine ow_iloadN X0 hx (hb hby at_14) rfl (pc' := 15) rfl ?_
    refine ow_callPL X0 hx hZ hown (hw _ (List.mem_of_getElem? (i := 0) rfl)) (hw _ (List.mem_of_getElem? (i := 1) rfl)) (hw _ (List.mem_of_getElem? (i := 2) rfl)) (hw _ (List.mem_of_getElem? (i := 3) rfl)) (by decide) (rm_reduce l Z a0 hw [] qm z9 h0 (by first | omega | decide) (by first | omega | decide)) e0 0 (by decide) (by decide) (by decide) (by decide) [(.long qm), (.int z9)] (by rw [hml]; rfl) pd_2 rfl rfl rfl (Nat.le_of_eq rfl) (hb hby at_15) (pc' := 18) rfl (fun z10 T10 hz10 X10 e10 => ?_)
    have az10 : Fits z10.toInt z9.toInt.toNat := hz10
    have rz10 := rng64 z10
    refine ow_lstore X10 hx (Ls' := #[.val (.long qm), .second, .val (.int px), .val (.int z9), .val (.long z10), .second]) (hb hby at_18) rfl (pc' := 20) rfl ?_
    refine ow_lload X10 hx (hb hby at_20) rfl (pc' := 22) rfl ?_
    refine ow_iloadN X10 hx (hb hby at_22) rfl (pc' := 23) rfl ?_
    refine ow_callPL X10 hx hZ hown (hw _ (List.mem_of_getElem? (i := 4) rfl)) (hw _ (List.mem_of_getElem? (i := 5) rfl)) (hw _ (List.mem_of_getElem? (i := 6) rfl)) (hw _ (List.mem_of_getElem? (i := 7) rfl)) (by decide) (rm_power l Z a0 hw [] z10 z9 h0 az10 (by first | omega | decide)) e10 0 (by decide) (by decide) (by decide) (by decide) [(.long z10), (.int z9)] (by rw [hml]; rfl) pd_2 rfl rfl rfl (Nat.le_of_eq rfl) (hb hby at_23) (pc' := 26) rfl (fun z11 T11 hz11 X11 e11 => ?_)
    have az11 : z11.toInt = z10.toInt ^ z9.toInt.toNat := hz11
    have rz11 := rng64 z11
    refine ow_lload X11 hx (hb hby at_26) rfl (pc' := 28) rfl ?_
    refine ow_iloadN X11 hx (hb hby at_28) rfl (pc' := 29) rfl ?_
    refine ow_callPL X11 hx hZ hown (hw _ (List.mem_of_getElem? (i := 15) rfl)) (hw _ (List.mem_of_getElem? (i := 16) rfl)) (hw _ (List.mem_of_getElem? (i := 2) rfl)) (hw _ (List.mem_of_getElem? (i := 17) rfl)) (by decide) (rm_smallRef l Z a0 hw [] z10 z9 h0 az10 (by first | omega | decide) (by first | omega | decide)) e11 2 (by decide) (by decide) (by decide) (by decide) [(.long z10), (.int z9)] (by rw [hml]; rfl) pd_2 rfl rfl rfl (Nat.le_of_eq rfl) (hb hby at_29) (pc' := 32) rfl (fun z12 T12 hz12 X12 e12 => ?_)
    have az12 : z12.toInt = z10.toInt ^ z9.toInt.toNat := hz12
    have rz12 := rng64 z12
    refine ow_lcmp X12 hx (hb hby at_32) (pc' := 33) rfl (fun z13 hz13 => ?_)
    have az13 : (z11.toInt < z12.toInt → z13.toInt = -1) ∧ (z11.toInt = z12.toInt → z13.toInt = 0) ∧ (z12.toInt < z11.toInt → z13.toInt = 1) := by rw [hz13]; exact c_lcmp z11 z12
    have rz13 := rng32 z13
    refine ow_if_ne X12 hx (z13.toInt) (hb hby at_33) rfl (by decide) (pt := 40) (by decide) (pf := 36) rfl (fun c33 => absurd c33 (by omega)) (fun c33 => ?_)
    refine ow_iconst X12 hx (z := (1 : Int32)) (hb hby at_36) rfl (pc' := 37) rfl ?_
    refine ow_goto X12 hx (hb hby at_37) (by decide) (pc' := 41) (by decide) ?_
    exact ow_retB X12 hx hret hlk (hb hby at_41) (by decide) (by decide) (z' := (1 : Int32)) rfl ⟨rfl, N0⟩
set_option maxRecDepth 65536 in
set_option maxHeartbeats 40000000 in
theorem comes_1 {Post : Tables → Env → Array Value → State → Outcome → State → Prop} (hpost : ∀ tb e args s v u, (limb_1_1.after args s (.returned v) u = true ∧ limb_1_2.after args s (.returned v) u = true ∧ True) → FrameEnd s (.returned v) u (Jvm.fieldLocs frame_1_writes args s ++ Jvm.arrayLocs frame_1_arrays args s ++ Jvm.staticLocs frame_1_statics s) 0 0 → Post tb e args s (.returned v) u) :
    ArmFor flags0 classFile x code maxLocals ret World_1 tables_1 room_1 Calls_1 rest_1 Pre_1 Post := by
  intro l hfl _ _ p e ha hc hk s m args below hf hA hF happ hP
  obtain ⟨hcalls, hrest, hpre⟩ := hP
  obtain ⟨-, -, -, hnamed, -, -, -, hat⟩ := (Spec.applies_iff hf).mp happ
  obtain ⟨hg, hn⟩ := and_e (Cond.before_iff.mp (show (Jvm.Cond.and given_1 narrow_1).before args s = true from hpre))
  obtain ⟨gc, gr0⟩ := and_e hg
  obtain ⟨ga0, ga1⟩ := and_e gr0
  obtain ⟨w0, w1, rfl⟩ : ∃ w0 w1 : Value, args = #[w0, w1] := by
    have hs : args.size = 2 := by simpa [Cond.value, given_1] using gc
    obtain ⟨L⟩ := args
    match L, hs with
    | [w0, w1], _ => exact ⟨w0, w1, rfl⟩
  have hw := fun d (hd : d ∈ tables_1) => atoms_spec (ws := Jvm.Cond.code x code maxLocals ret :: tables_1) hat d (List.mem_cons_of_mem _ hd)
  have hfit : Fit s := fun {y c} hc i hi => by
    obtain ⟨ha, rfl⟩ := Array.getElem?_eq_some_iff.mp hc
    have q := List.all_eq_true.mp ((Array.all_eq_true_iff_forall_mem.mp hF) _ (Array.getElem_mem ha)) i (List.mem_range.mpr hi)
    simpa [Array.getElem?_eq_getElem hi] using q
  obtain ⟨i0, ei0⟩ := isL_v ga0
  obtain rfl : w0 = (.long i0) := Option.some.inj ei0
  obtain ⟨i1, ei1⟩ := is_v ga1
  obtain rfl : w1 = (.int i1) := Option.some.inj ei1
  obtain ⟨n, o, h1, h2, h3, _, L, rfl, ⟨rfl, N⟩, hq⟩ := rm_law l s _ hw tables_1 i0 i1  s.heap s.heap.size (Nat.le_refl _)  p e ha hc hk s m _ below hf ((Spec.applies_iff_loose hf).mp happ).1 ⟨rfl, State.Warmed39.refl s, rfl⟩ trivial
  refine ⟨n, _, h1, h2, h3, hpost _ _ _ _ _ _ ⟨Cond.after_iff.mpr rfl, Cond.after_iff.mpr (eq_i res_at (Term.int_eval (1)) rfl), trivial⟩ ⟨hq.1, hq.2.1, (hq.2.2.sift fun y hy => Or.inr (N y hy)).mono (by decide) (by decide)⟩⟩
theorem main_1_1 : Claimed_1_1 := comes_1 fun _ _ _ _ _ _ h hF => ⟨h.1, hF⟩
theorem main_1_2 : Claimed_1_2 := comes_1 fun _ _ _ _ _ _ h hF => ⟨h.2.1, hF⟩
end Jvm.Pilot.@@N@@
namespace Jvm.Pilot.@@N@@
open Jvm Jvm.ClassFile Sem Op Lib Jvm.Free Jvm.Stand Jvm.Pilot.@@N@@.Jvm.D
/-! MADE BY PROGRAM (witnessworld.py) out of the Statement's table words and the real class files: 10 classes; the members and pool entries that the words name. The judged class is class 1, her method 1. -/
namespace start1
open Jvm.ClassFile
def u (s : String) : CpInfo := .utf8 (stringToUtf16 s)
/-- a pool by its gaps: so many unusable entries, then the entry; so many at the end -/
def gap : Nat → List CpInfo → List CpInfo
  | 0, r => r
  | n + 1, r => .unusable :: gap n r
def poolList (es : List (Nat × CpInfo)) (last : Nat) : List CpInfo := es.foldr (fun e r => gap e.1 (e.2 :: r)) (gap last [])
def pool (es : List (Nat × CpInfo)) (last : Nat) : Array CpInfo := ⟨poolList es last⟩
def fileOf (pool : Array CpInfo) (this : Nat) (attrs : Array Attribute := #[]) (ms : Array MethodInfo := #[]) (fl : Nat := 33) (sup : Nat := 0) (ifs : Array Nat := #[]) (fds : Array FieldInfo := #[]) : ClassFile where
  minorVersion := 0
  majorVersion := 65
  constantPool := pool
  accessFlags := fl
  thisClass := this
  superClass := sup
  interfaces := ifs
  fields := fds
  methods := ms
  attributes := attrs
def plain (name : String) (sup : Option ClassId) : Class where
  name := name
  kind := .ordinary
  loader := none
  accessFlags := 33
  super := sup
  interfaces := #[]
  cf := none
  fields := #[]
  methods := #[]
  instanceTypes := #[]
  staticTypes := #[]
  resolved := #[]
  callSites := []
  init := .initialized
  statics := none
  mirror := none

def pool0 : Array CpInfo := pool [(5, u "<init>"), (0, u "()V"), (1, .class_ 10), (1, u "java/lang/Object")] 113

def k0m0 : Method := { name := "<init>", desc := "()V", sig := { parameters := [], returnType := none }, accessFlags := 1, code := none }
/-- java/lang/Object -/
def k0 : Class := { plain "java/lang/Object" none with
  accessFlags := 33
  interfaces := #[]
  cf := some (fileOf pool0 8 #[] #[{ accessFlags := 1, nameIndex := 5, descriptorIndex := 6, attributes := #[] }] 33 0 #[] #[])
  fields := #[]
  methods := #[k0m0]
  instanceTypes := #[]
  staticTypes := #[]
  resolved := Array.replicate 124 none
  statics := none }

def pool1 : Array CpInfo := pool [(2, .class_ 4), (1, u "java/lang/Object"), (0, u "<init>"), (0, u "()V"), (0, .methodref 8 9), (0, .class_ 10), (0, .nameAndType 11 12), (0, u "com/example/cubilete/cubilete/advice/KeepsPowerPinLaw"), (0, u "reduce"), (0, u "(JI)J"), (0, .methodref 14 15), (0, .class_ 16), (0, .nameAndType 17 12), (0, u "com/example/cubilete/cubilete/advice/Keeps"), (0, u "power"), (0, .methodref 8 19), (0, .nameAndType 20 12), (0, u "smallRef"), (0, .long 3), (1, .methodref 8 24), (0, .nameAndType 25 12), (0, u "tinyRef"), (0, .long 3037000500), (1, .long 2097152), (1, .long 55109), (1, .long 6209), (1, .long 1449), (1, .long 512), (1, .long 18446744073709551615), (3, u "law"), (0, u "(JI)Z")] 3

def k1m0 : Method := { name := "<init>", desc := "()V", sig := { parameters := [], returnType := none }, accessFlags := 1, code := none }
def k1c1 : Code := { maxStack := 5, maxLocals := 6, code := code, exceptionTable := #[], attributes := #[] }
def k1m1 : Method := { name := "law", desc := "(JI)Z", sig := { parameters := [.long, .int], returnType := some .boolean }, accessFlags := 9, code := some k1c1 }
def k1c2 : Code := { maxStack := 4, maxLocals := 3, code := method_3_code, exceptionTable := #[], attributes := #[] }
def k1m2 : Method := { name := "reduce", desc := "(JI)J", sig := { parameters := [.long, .int], returnType := some .long }, accessFlags := 10, code := some k1c2 }
def k1c3 : Code := { maxStack := 4, maxLocals := 5, code := method_4_code, exceptionTable := #[], attributes := #[] }
def k1m3 : Method := { name := "smallRef", desc := "(JI)J", sig := { parameters := [.long, .int], returnType := some .long }, accessFlags := 10, code := some k1c3 }
def k1c4 : Code := { maxStack := 4, maxLocals := 5, code := method_5_code, exceptionTable := #[], attributes := #[] }
def k1m4 : Method := { name := "tinyRef", desc := "(JI)J", sig := { parameters := [.long, .int], returnType := some .long }, accessFlags := 10, code := some k1c4 }
/-- com/example/cubilete/cubilete/advice/KeepsPowerPinLaw -/
def k1 : Class := { plain "com/example/cubilete/cubilete/advice/KeepsPowerPinLaw" (some 0) with
  accessFlags := 49
  interfaces := #[]
  cf := some (fileOf pool1 8 #[] #[{ accessFlags := 1, nameIndex := 5, descriptorIndex := 6, attributes := #[] }, { accessFlags := 9, nameIndex := 42, descriptorIndex := 43, attributes := #[] }, { accessFlags := 10, nameIndex := 11, descriptorIndex := 12, attributes := #[] }, { accessFlags := 10, nameIndex := 20, descriptorIndex := 12, attributes := #[] }, { accessFlags := 10, nameIndex := 25, descriptorIndex := 12, attributes := #[] }] 49 2 #[] #[])
  fields := #[]
  methods := #[k1m0, k1m1, k1m2, k1m3, k1m4]
  instanceTypes := #[]
  staticTypes := #[]
  resolved := Array.replicate 47 none
  statics := none }

def pool2 : Array CpInfo := pool [(2, .class_ 4), (1, u "java/lang/Object"), (6, .class_ 13), (1, u "com/example/cubilete/cubilete/advice/Keeps"), (0, u "positionNumbers"), (0, u "Ljava/util/Map;"), (2, u "diceCount"), (0, u "I"), (4, u "power"), (0, u "(JI)J"), (2, u "throwsOfAll"), (0, u "J"), (6, u "positions"), (0, u "Ljava/util/List;"), (29, u "keeps"), (8, u "outcomes"), (0, u "[[I"), (4, u "weights"), (0, u "[[J"), (19, u "keepsFrom"), (51, .methodref 156 157), (0, .class_ 158), (0, .nameAndType 159 160), (0, u "java/lang/Math"), (0, u "multiplyExact"), (0, u "(JJ)J"), (0, u "NONE_KEPT")] 50

def k2c0 : Code := { maxStack := 4, maxLocals := 6, code := prog_4_method_15_code, exceptionTable := #[], attributes := #[] }
def k2m0 : Method := { name := "power", desc := "(JI)J", sig := { parameters := [.long, .int], returnType := some .long }, accessFlags := 8, code := some k2c0 }
/-- com/example/cubilete/cubilete/advice/Keeps -/
def k2 : Class := { plain "com/example/cubilete/cubilete/advice/Keeps" (some 0) with
  accessFlags := 48
  interfaces := #[]
  cf := some (fileOf pool2 11 #[] #[{ accessFlags := 8, nameIndex := 24, descriptorIndex := 25, attributes := #[] }] 48 2 #[] #[{ accessFlags := 24, nameIndex := 161, descriptorIndex := 19, attributes := #[] }, { accessFlags := 18, nameIndex := 18, descriptorIndex := 19, attributes := #[] }, { accessFlags := 18, nameIndex := 28, descriptorIndex := 29, attributes := #[] }, { accessFlags := 18, nameIndex := 36, descriptorIndex := 37, attributes := #[] }, { accessFlags := 18, nameIndex := 14, descriptorIndex := 15, attributes := #[] }, { accessFlags := 18, nameIndex := 67, descriptorIndex := 37, attributes := #[] }, { accessFlags := 18, nameIndex := 103, descriptorIndex := 77, attributes := #[] }, { accessFlags := 18, nameIndex := 76, descriptorIndex := 77, attributes := #[] }, { accessFlags := 18, nameIndex := 82, descriptorIndex := 83, attributes := #[] }])
  fields := #[{ name := "NONE_KEPT", type := .int, accessFlags := 24, slot := 0, constantValue := 0 }, { name := "diceCount", type := .int, accessFlags := 18, slot := 0, constantValue := 0 }, { name := "throwsOfAll", type := .long, accessFlags := 18, slot := 1, constantValue := 0 }, { name := "positions", type := (.object "java/util/List"), accessFlags := 18, slot := 2, constantValue := 0 }, { name := "positionNumbers", type := (.object "java/util/Map"), accessFlags := 18, slot := 3, constantValue := 0 }, { name := "keeps", type := (.object "java/util/List"), accessFlags := 18, slot := 4, constantValue := 0 }, { name := "keepsFrom", type := (.array (.array .int)), accessFlags := 18, slot := 5, constantValue := 0 }, { name := "outcomes", type := (.array (.array .int)), accessFlags := 18, slot := 6, constantValue := 0 }, { name := "weights", type := (.array (.array .long)), accessFlags := 18, slot := 7, constantValue := 0 }]
  methods := #[k2m0]
  instanceTypes := #[.int, .long, (.object "java/util/List"), (.object "java/util/Map"), (.object "java/util/List"), (.array (.array .int)), (.array (.array .int)), (.array (.array .long))]
  staticTypes := #[.int]
  resolved := Array.replicate 212 none
  statics := none }

def pool3 : Array CpInfo := pool [(1, .class_ 2), (0, u "java/lang/Math"), (1, .class_ 6), (1, u "java/lang/Object"), (0, u "<init>"), (0, u "()V"), (89, .class_ 100), (1, u "java/lang/Math$RandomNumberGeneratorHolder"), (19, u "multiplyExact"), (0, u "(JJ)J"), (0, .methodref 1 123), (0, .nameAndType 124 125), (0, u "abs"), (0, u "(J)J"), (2, .long 9223372036854775808), (43, u "negativeZeroFloatBits"), (0, u "J"), (2, u "negativeZeroDoubleBits"), (68, u "$assertionsDisabled"), (0, u "Z"), (91, u "twoToTheDoubleScaleDown"), (0, u "D"), (4, u "twoToTheDoubleScaleUp"), (9, u "E"), (3, u "PI"), (2, u "TAU"), (2, u "DEGREES_TO_RADIANS"), (0, u "RADIANS_TO_DEGREES")] 94

def k3m0 : Method := { name := "<init>", desc := "()V", sig := { parameters := [], returnType := none }, accessFlags := 2, code := none }
def k3c1 : Code := { maxStack := 4, maxLocals := 10, code := jdk_29_method_30_code, exceptionTable := #[], attributes := #[] }
def k3m1 : Method := { name := "multiplyExact", desc := "(JJ)J", sig := { parameters := [.long, .long], returnType := some .long }, accessFlags := 9, code := some k3c1 }
def k3c2 : Code := { maxStack := 4, maxLocals := 2, code := jdk_29_method_61_code, exceptionTable := #[], attributes := #[] }
def k3m2 : Method := { name := "abs", desc := "(J)J", sig := { parameters := [.long], returnType := some .long }, accessFlags := 9, code := some k3c2 }
/-- java/lang/Math -/
def k3 : Class := { plain "java/lang/Math" (some 0) with
  accessFlags := 49
  interfaces := #[]
  cf := some (fileOf pool3 1 #[.nestMembers #[98]] #[{ accessFlags := 2, nameIndex := 7, descriptorIndex := 8, attributes := #[] }, { accessFlags := 9, nameIndex := 120, descriptorIndex := 121, attributes := #[] }, { accessFlags := 9, nameIndex := 124, descriptorIndex := 125, attributes := #[] }] 49 4 #[] #[{ accessFlags := 25, nameIndex := 354, descriptorIndex := 339, attributes := #[] }, { accessFlags := 25, nameIndex := 358, descriptorIndex := 339, attributes := #[] }, { accessFlags := 25, nameIndex := 361, descriptorIndex := 339, attributes := #[] }, { accessFlags := 26, nameIndex := 364, descriptorIndex := 339, attributes := #[] }, { accessFlags := 26, nameIndex := 365, descriptorIndex := 339, attributes := #[] }, { accessFlags := 26, nameIndex := 172, descriptorIndex := 173, attributes := #[] }, { accessFlags := 26, nameIndex := 176, descriptorIndex := 173, attributes := #[] }, { accessFlags := 8, nameIndex := 344, descriptorIndex := 339, attributes := #[] }, { accessFlags := 8, nameIndex := 338, descriptorIndex := 339, attributes := #[] }, { accessFlags := 4120, nameIndex := 245, descriptorIndex := 246, attributes := #[] }])
  fields := #[{ name := "E", type := .double, accessFlags := 25, slot := 0, constantValue := 0 }, { name := "PI", type := .double, accessFlags := 25, slot := 1, constantValue := 0 }, { name := "TAU", type := .double, accessFlags := 25, slot := 2, constantValue := 0 }, { name := "DEGREES_TO_RADIANS", type := .double, accessFlags := 26, slot := 3, constantValue := 0 }, { name := "RADIANS_TO_DEGREES", type := .double, accessFlags := 26, slot := 4, constantValue := 0 }, { name := "negativeZeroFloatBits", type := .long, accessFlags := 26, slot := 5, constantValue := 0 }, { name := "negativeZeroDoubleBits", type := .long, accessFlags := 26, slot := 6, constantValue := 0 }, { name := "twoToTheDoubleScaleUp", type := .double, accessFlags := 8, slot := 7, constantValue := 0 }, { name := "twoToTheDoubleScaleDown", type := .double, accessFlags := 8, slot := 8, constantValue := 0 }, { name := "$assertionsDisabled", type := .boolean, accessFlags := 4120, slot := 9, constantValue := 0 }]
  methods := #[k3m0, k3m1, k3m2]
  instanceTypes := #[]
  staticTypes := #[.double, .double, .double, .double, .double, .long, .long, .double, .double, .boolean]
  resolved := Array.replicate 460 none
  statics := none }

def pool4 : Array CpInfo := pool [(1, u "java/lang/Cloneable"), (0, .class_ 1), (0, u "java/lang/Object"), (0, .class_ 3)] 3

/-- java/lang/Cloneable -/
def k4 : Class := { plain "java/lang/Cloneable" (some 0) with
  accessFlags := 1537
  interfaces := #[]
  cf := some (fileOf pool4 2 #[] #[] 1537 4 #[] #[])
  fields := #[]
  methods := #[]
  instanceTypes := #[]
  staticTypes := #[]
  resolved := Array.replicate 8 none
  statics := none }

def pool5 : Array CpInfo := pool [(1, u "java/io/Serializable"), (0, .class_ 1), (0, u "java/lang/Object"), (0, .class_ 3)] 3

/-- java/io/Serializable -/
def k5 : Class := { plain "java/io/Serializable" (some 0) with
  accessFlags := 1537
  interfaces := #[]
  cf := some (fileOf pool5 2 #[] #[] 1537 4 #[] #[])
  fields := #[]
  methods := #[]
  instanceTypes := #[]
  staticTypes := #[]
  resolved := Array.replicate 8 none
  statics := none }

/-- the primitive byte -/
def k6 : Class := { plain "byte" none with kind := .primitive 'B', accessFlags := 0x411 }
/-- [B -/
def k7 : Class := { plain "[B" (some 0) with kind := .array 6 .byte, interfaces := #[4, 5], accessFlags := 1041 }

/-- the primitive int -/
def k8 : Class := { plain "int" none with kind := .primitive 'I', accessFlags := 0x411 }
/-- [I -/
def k9 : Class := { plain "[I" (some 0) with kind := .array 8 .int, interfaces := #[4, 5], accessFlags := 1041 }

def heap : Heap := #[]
def classes : Array Class := #[k0, k1, k2, k3, k4, k5, k6, k7, k8, k9]
def interned : List (Array UInt16 × Addr) := []
def slotsUsed : Nat := 0
def theMethod : MethodId := ⟨1, 1⟩
def args0 : Array Value := #[.long 5, .int 7]
def aboutOver (below : List Frame) : State where
  vm := { classes := classes, interned := interned.toArray }
  heap := heap
  slotsUsed := slotsUsed
  threads := #[{ frames := .invoking theMethod args0 :: below }]
def below0 : List Frame := [.native { method := ⟨0, 0⟩, args := #[] }]
def about1 : State := aboutOver below0
def p0 : Program := .bare "" "" ""
def e0 : Env := launch0.env 0 0 0
theorem w_frames : about1.frames = Frame.invoking theMethod args0 :: below0 := rfl
set_option maxRecDepth 65536 in
theorem w_args : argsFit about1.vm theMethod args0 = true := by decide +kernel
set_option maxRecDepth 65536 in
theorem w_heap : heapFits about1 = true := by decide +kernel
set_option maxRecDepth 65536 in
theorem w_runnable : about1.curStatus? = some .runnable := by decide +kernel
set_option maxRecDepth 65536 in
theorem w_alone : about1.alone = true := by decide +kernel
set_option maxRecDepth 65536 in
theorem w_named : about1.methodNamed? x = some theMethod := by decide +kernel
set_option maxRecDepth 65536 in
theorem w_hears : about1.hears theMethod below0 = true := by decide +kernel
set_option maxRecDepth 65536 in
theorem w_ripe : about1.ripe theMethod args0 below0 = true := by decide +kernel
theorem w_running : about1.status = .running := rfl
set_option maxRecDepth 65536 in
theorem w_room : about1.hasRoom e0.platform room_1 = true :=
  launch0.hasRoom_least _ room_1 (by decide +kernel) (by decide +kernel) (by decide +kernel) (by decide +kernel) (by decide +kernel) (by decide +kernel)
theorem allAtoms_all (ts : List Jvm.Cond) (a : Array Jvm.Value) (st : Jvm.State) : (allAtoms ts).before a st = ts.all (fun c => c.before a st) := by
  induction ts with
  | nil => rfl
  | cons c t ih =>
    show (Jvm.Cond.and c (allAtoms t)).before a st = _
    rw [Jvm.Cond.before_and, ih, List.all_cons]
def words1 : List Jvm.Cond := Jvm.Cond.code x code maxLocals ret :: tables_1
/-- a 'code' word, met by the world's own term for the bytes: nothing is compared byte by byte -/
theorem code_word {y : MethodName} {bytes : ByteArray} {mx : Nat} {rt : Option FieldType} {a : Array Value} {s : State} {m : MethodId} {meth : Method} {c : Code} (h1 : s.methodNamed? y = some m) (h2 : s.vm.method? m = some meth) (h3 : meth.code = some c) (h4 : c.code = bytes)
    (h5 : (c.maxLocals == mx && c.exceptionTable.isEmpty && decide (c.maxStack ≤ mostOperands) && decide (meth.sig.returnType = rt) && !meth.locks && decide (parseMethodDescriptor y.desc = some meth.sig)) = true) : (Jvm.Cond.code y bytes mx rt).before a s = true := by
  simp only [Bool.and_eq_true, beq_iff_eq, Bool.not_eq_true', decide_eq_true_eq] at h5
  obtain ⟨⟨⟨⟨⟨g1, g2⟩, g3⟩, g4⟩, g5⟩, g6⟩ := h5
  simp [Cond.before, Cond.holds, Cond.value, h1, h2, h3, h4, g1, g2, g3, g4, g5, g6]
def isCode : Jvm.Cond → Bool
  | .code _ _ _ _ => true
  | _ => false
theorem all_split {L : List Jvm.Cond} {P : Jvm.Cond → Bool} (h1 : L.all (fun c => isCode c || P c) = true) (h2 : ∀ c ∈ L.filter isCode, P c = true) : L.all P = true := by
  refine List.all_eq_true.mpr fun c hc => ?_
  have h := List.all_eq_true.mp h1 c hc
  rcases Bool.eq_false_or_eq_true (isCode c) with hi | hi
  · exact h2 c (List.mem_filter.mpr ⟨hc, hi⟩)
  · simpa [hi] using h
set_option maxRecDepth 65536 in
theorem w_c0 : (Jvm.Cond.code x code maxLocals ret).before args0 about1 = true := code_word (m := ⟨1, 1⟩) (meth := k1m1) (c := k1c1) (by decide +kernel) rfl rfl rfl (by decide +kernel)
set_option maxRecDepth 65536 in
theorem w_c1 : (Jvm.Cond.code ({ cls := "com/example/cubilete/cubilete/advice/KeepsPowerPinLaw", name := "reduce", desc := "(JI)J" } : Jvm.MethodName) method_3_code (3 : Nat) (Option.some Jvm.ClassFile.FieldType.long)).before args0 about1 = true := code_word (m := ⟨1, 2⟩) (meth := k1m2) (c := k1c2) (by decide +kernel) rfl rfl rfl (by decide +kernel)
set_option maxRecDepth 65536 in
theorem w_c2 : (Jvm.Cond.code ({ cls := "com/example/cubilete/cubilete/advice/Keeps", name := "power", desc := "(JI)J" } : Jvm.MethodName) prog_4_method_15_code (6 : Nat) (Option.some Jvm.ClassFile.FieldType.long)).before args0 about1 = true := code_word (m := ⟨2, 0⟩) (meth := k2m0) (c := k2c0) (by decide +kernel) rfl rfl rfl (by decide +kernel)
set_option maxRecDepth 65536 in
theorem w_c3 : (Jvm.Cond.code ({ cls := "java/lang/Math", name := "multiplyExact", desc := "(JJ)J" } : Jvm.MethodName) jdk_29_method_30_code (10 : Nat) (Option.some Jvm.ClassFile.FieldType.long)).before args0 about1 = true := code_word (m := ⟨3, 1⟩) (meth := k3m1) (c := k3c1) (by decide +kernel) rfl rfl rfl (by decide +kernel)
set_option maxRecDepth 65536 in
theorem w_c4 : (Jvm.Cond.code ({ cls := "java/lang/Math", name := "abs", desc := "(J)J" } : Jvm.MethodName) jdk_29_method_61_code (2 : Nat) (Option.some Jvm.ClassFile.FieldType.long)).before args0 about1 = true := code_word (m := ⟨3, 2⟩) (meth := k3m2) (c := k3c2) (by decide +kernel) rfl rfl rfl (by decide +kernel)
set_option maxRecDepth 65536 in
theorem w_c5 : (Jvm.Cond.code ({ cls := "com/example/cubilete/cubilete/advice/KeepsPowerPinLaw", name := "smallRef", desc := "(JI)J" } : Jvm.MethodName) method_4_code (5 : Nat) (Option.some Jvm.ClassFile.FieldType.long)).before args0 about1 = true := code_word (m := ⟨1, 3⟩) (meth := k1m3) (c := k1c3) (by decide +kernel) rfl rfl rfl (by decide +kernel)
set_option maxRecDepth 65536 in
theorem w_c6 : (Jvm.Cond.code ({ cls := "com/example/cubilete/cubilete/advice/KeepsPowerPinLaw", name := "tinyRef", desc := "(JI)J" } : Jvm.MethodName) method_5_code (5 : Nat) (Option.some Jvm.ClassFile.FieldType.long)).before args0 about1 = true := code_word (m := ⟨1, 4⟩) (meth := k1m4) (c := k1c4) (by decide +kernel) rfl rfl rfl (by decide +kernel)
def codes1 : List Jvm.Cond := [Jvm.Cond.code x code maxLocals ret, Jvm.Cond.code ({ cls := "com/example/cubilete/cubilete/advice/KeepsPowerPinLaw", name := "reduce", desc := "(JI)J" } : Jvm.MethodName) method_3_code (3 : Nat) (Option.some Jvm.ClassFile.FieldType.long), Jvm.Cond.code ({ cls := "com/example/cubilete/cubilete/advice/Keeps", name := "power", desc := "(JI)J" } : Jvm.MethodName) prog_4_method_15_code (6 : Nat) (Option.some Jvm.ClassFile.FieldType.long), Jvm.Cond.code ({ cls := "java/lang/Math", name := "multiplyExact", desc := "(JJ)J" } : Jvm.MethodName) jdk_29_method_30_code (10 : Nat) (Option.some Jvm.ClassFile.FieldType.long), Jvm.Cond.code ({ cls := "java/lang/Math", name := "abs", desc := "(J)J" } : Jvm.MethodName) jdk_29_method_61_code (2 : Nat) (Option.some Jvm.ClassFile.FieldType.long), Jvm.Cond.code ({ cls := "com/example/cubilete/cubilete/advice/KeepsPowerPinLaw", name := "smallRef", desc := "(JI)J" } : Jvm.MethodName) method_4_code (5 : Nat) (Option.some Jvm.ClassFile.FieldType.long), Jvm.Cond.code ({ cls := "com/example/cubilete/cubilete/advice/KeepsPowerPinLaw", name := "tinyRef", desc := "(JI)J" } : Jvm.MethodName) method_5_code (5 : Nat) (Option.some Jvm.ClassFile.FieldType.long)]
set_option maxRecDepth 65536 in
theorem codes_eq : words1.filter isCode = codes1 := rfl
theorem w_codes : ∀ c ∈ words1.filter isCode, c.before args0 about1 = true := by
  rw [codes_eq]
  intro c hc
  simp only [codes1, List.mem_cons, List.not_mem_nil, or_false] at hc
  rcases hc with rfl | rfl | rfl | rfl | rfl | rfl | rfl
  · exact w_c0
  · exact w_c1
  · exact w_c2
  · exact w_c3
  · exact w_c4
  · exact w_c5
  · exact w_c6
set_option maxRecDepth 65536 in
theorem w_t1 : (words1.take 24).all (fun c => isCode c || c.before args0 about1) = true := by decide +kernel
set_option maxRecDepth 65536 in
theorem w_t2 : (words1.drop 24).all (fun c => isCode c || c.before args0 about1) = true := by decide +kernel
theorem w_tables : (allAtoms (Jvm.Cond.code x code maxLocals ret :: tables_1)).before args0 about1 = true := by
  rw [allAtoms_all]
  show words1.all (fun c => c.before args0 about1) = true
  refine all_split ?_ w_codes
  rw [← List.take_append_drop 24 words1, List.all_append, w_t1, w_t2]
  rfl
set_option maxRecDepth 65536 in
theorem w_case : (Jvm.Cond.and given_1 narrow_1).before args0 about1 = true := by decide +kernel
theorem w_applies : (headSpec (Jvm.Cond.code x code maxLocals ret :: tables_1) room_1).applies x e0.platform about1 = true :=
  (Spec.applies_iff w_frames).mpr ⟨w_running, w_runnable, w_alone, w_named, w_hears, w_ripe, w_room, w_tables⟩
theorem atStart : AtStart classFile x code maxLocals ret World_1 tables_1 room_1 Calls_1 rest_1 Pre_1 launch0 p0 e0 about1 theMethod args0 below0 :=
  ⟨lists_1, trivial, launch0.admits_env _ _ _, launch0.least_env, fairChoices_fair.cas, fairChoices_fair.clock, w_frames, w_args, w_heap, w_applies, trivial, trivial, w_case⟩
end start1
theorem witness_1 : WitnessClaimed_1 := ⟨start1.p0, start1.e0, start1.about1, start1.theMethod, start1.args0, start1.below0, start1.atStart⟩
end Jvm.Pilot.@@N@@
