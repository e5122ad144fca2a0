import JvmDerived
import JvmDerived.Pilot.@@N@@Statement
import JvmDerived.Pilot.@@N@@Code
set_option linter.unusedVariables false
set_option linter.unusedSimpArgs false
@@BLOCK:LamKit.lean.txt@@
namespace Jvm.Pilot.@@N@@
open Jvm Jvm.ClassFile Sem Op Lib Jvm.Free Jvm.Stand Jvm.LawKit Jvm.RoadKit Bundle Jvm.Pilot.@@N@@.Jvm.D
section Own
variable {p : Program} {l : Launch} {e : Env} {R : Room} {s : State} {m : MethodId} {args : Array Value} {below : List Frame} {meth : Method} {c : Code} {T : State} {locs : List Loc} {cells slots : Nat} {Q : Outcome → State → Prop} {Z : State} {a0 : Array Value} {h : Heap}
/-- from T, with g on top, the run ends as Q says -/
def Ends (p : Program) (e : Env) (below : List Frame) (Q : Outcome → State → Prop) (T : State) (g : JFrame) : Prop :=
  ∃ s₂ o, Steps p.tables e below (T.setTop g) s₂ ∧ s₂.status = .running ∧ Ended s₂ below o ∧ Q o s₂
theorem Ends.go {T' : State} {g g' : JFrame} (st : ∀ t, Steps p.tables e below (T'.setTop g') t → Steps p.tables e below (T.setTop g) t) (k : Ends p e below Q T' g') : Ends p e below Q T g := by
  obtain ⟨s₂, o, h1, r⟩ := k
  exact ⟨s₂, o, st _ h1, r⟩
theorem Ends.thru {T' : State} {g g' : JFrame} (st : Steps p.tables e below (T.setTop g) (T'.setTop g')) (k : Ends p e below Q T' g') : Ends p e below Q T g := by
  obtain ⟨s₂, o, h1, r⟩ := k
  exact ⟨s₂, o, st.trans h1, r⟩
theorem Ends.cast {g g' : JFrame} (q : g = g') (k : Ends p e below Q T g') : Ends p e below Q T g := q ▸ k
/-- what a body that returns leaves -/
def Out (s : State) (ce sl : Nat) (Qv : Option Value → Heap → List Loc → Prop) (o : Outcome) (U : State) : Prop := ∃ v L, o = .returned v ∧ Qv v U.heap L ∧ FrameEnd s o U L ce sl
theorem ow_body {y : MethodName} {bytes : ByteArray} {ml : Nat} {ret : Option FieldType} {ws : List Jvm.Cond} {rm : Room} {as : Array Value} {ce sl : Nat} {Qv : Option Value → Heap → List Loc → Prop} (hp : plainFor y = true)
    (body : ∀ (p : Program) (e : Env) (s : State) (m : MethodId) (below : List Frame) (meth : Method) (c : Code) (T : State), Stand p l e rm s m as below meth c T [] 0 0 → p.tables.exec = Jvm.exec → Z.Warmed39 s.vm → c.code = bytes → c.maxLocals = ml → s.vm.findClass y.cls = some m.cls → meth.name = y.name → meth.sig.returnType = ret → meth.locks = false → T.heap = h → Ends p e below (Out s ce sl Qv) T (entryFrame m as ml)) :
    MetFree l y (head1 (Jvm.Cond.code y bytes ml ret :: ws) rm) (fun a U => a = as ∧ Z.Warmed39 U.vm ∧ U.heap = h) (fun _ _ _ _ _ => True) (fun _ U o U' => ∃ v L, o = .returned v ∧ Qv v U'.heap L ∧ FrameEnd U o U' L ce sl) := by
  refine MetFree.of_bodySF hp hisR ?_
  intro p e s m args below meth c s₁ Bd hml0 hP hK
  obtain ⟨rfl, hZ, hh⟩ := hP
  exact body p e s m below meth c s₁ (Stand.of_body Bd) Bd.exec hZ Bd.bytes hml0 (findClass_of_methodNamed Bd.named) (name_of_methodNamed Bd.named Bd.method).1 Bd.returns Bd.notSynchronized (by rw [← hh, Bd.state]; rfl)
theorem ow_iload (X : Stand p l e R s m args below meth c T locs cells slots) (hx : p.tables.exec = Jvm.exec) {pc pc' : Nat} {Ls : Array Slot} {St : List Value} {k : Nat} {v : Int32} (hd : decode c.code pc = .ok (.iload k, 2)) (hl : Ls[k]? = some (.val (.int v))) (hp : pc + 2 = pc') (kk : Ends p e below Q T (mkF m pc' Ls (.int v :: St))) : Ends p e below Q T (mkF m pc Ls St) := by subst hp; exact Ends.go (fun _ q => XS.iload X.here hx rfl hd hl q) kk
theorem ow_iloadN (X : Stand p l e R s m args below meth c T locs cells slots) (hx : p.tables.exec = Jvm.exec) {pc pc' : Nat} {Ls : Array Slot} {St : List Value} {k : Fin 4} {v : Int32} (hd : decode c.code pc = .ok (.iload_n k, 1)) (hl : Ls[k.val]? = some (.val (.int v))) (hp : pc + 1 = pc') (kk : Ends p e below Q T (mkF m pc' Ls (.int v :: St))) : Ends p e below Q T (mkF m pc Ls St) := by subst hp; exact Ends.go (fun _ q => XS.iloadN X.here hx rfl hd hl q) kk
theorem ow_aload (X : Stand p l e R s m args below meth c T locs cells slots) (hx : p.tables.exec = Jvm.exec) {pc pc' : Nat} {Ls : Array Slot} {St : List Value} {k : Nat} {v : Value} (hd : decode c.code pc = .ok (.aload k, 2)) (hl : Ls[k]? = some (.val v)) (hv : v.isRef = true) (hp : pc + 2 = pc') (kk : Ends p e below Q T (mkF m pc' Ls (v :: St))) : Ends p e below Q T (mkF m pc Ls St) := by subst hp; exact Ends.go (fun _ q => XS.aload X.here hx rfl hd hl hv q) kk
theorem ow_aloadN (X : Stand p l e R s m args below meth c T locs cells slots) (hx : p.tables.exec = Jvm.exec) {pc pc' : Nat} {Ls : Array Slot} {St : List Value} {k : Fin 4} {v : Value} (hd : decode c.code pc = .ok (.aload_n k, 1)) (hl : Ls[k.val]? = some (.val v)) (hv : v.isRef = true) (hp : pc + 1 = pc') (kk : Ends p e below Q T (mkF m pc' Ls (v :: St))) : Ends p e below Q T (mkF m pc Ls St) := by subst hp; exact Ends.go (fun _ q => XS.aloadN X.here hx rfl hd hl hv q) kk
theorem ow_istore (X : Stand p l e R s m args below meth c T locs cells slots) (hx : p.tables.exec = Jvm.exec) {pc pc' : Nat} {Ls : Array Slot} {Ls' : Array Slot} {St : List Value} {k : Nat} {v : Int32} (hd : decode c.code pc = .ok (.istore k, 2)) (hl : storeLocals Ls k (.int v) = some Ls') (hp : pc + 2 = pc') (kk : Ends p e below Q T (mkF m pc' Ls' St)) : Ends p e below Q T (mkF m pc Ls (.int v :: St)) := by subst hp; exact Ends.go (fun _ q => XS.istore X.here hx rfl hd rfl hl q) kk
theorem ow_istoreN (X : Stand p l e R s m args below meth c T locs cells slots) (hx : p.tables.exec = Jvm.exec) {pc pc' : Nat} {Ls : Array Slot} {Ls' : Array Slot} {St : List Value} {k : Fin 4} {v : Int32} (hd : decode c.code pc = .ok (.istore_n k, 1)) (hl : storeLocals Ls k.val (.int v) = some Ls') (hp : pc + 1 = pc') (kk : Ends p e below Q T (mkF m pc' Ls' St)) : Ends p e below Q T (mkF m pc Ls (.int v :: St)) := by subst hp; exact Ends.go (fun _ q => XS.istoreN X.here hx rfl hd rfl hl q) kk
theorem ow_astore (X : Stand p l e R s m args below meth c T locs cells slots) (hx : p.tables.exec = Jvm.exec) {pc pc' : Nat} {Ls : Array Slot} {Ls' : Array Slot} {St : List Value} {k : Nat} {v : Value} (hd : decode c.code pc = .ok (.astore k, 2)) (hv : v.isRef = true) (hl : storeLocals Ls k v = some Ls') (hp : pc + 2 = pc') (kk : Ends p e below Q T (mkF m pc' Ls' St)) : Ends p e below Q T (mkF m pc Ls (v :: St)) := by subst hp; exact Ends.go (fun _ q => XS.astore X.here hx rfl hd rfl hv hl q) kk
theorem ow_astoreN (X : Stand p l e R s m args below meth c T locs cells slots) (hx : p.tables.exec = Jvm.exec) {pc pc' : Nat} {Ls : Array Slot} {Ls' : Array Slot} {St : List Value} {k : Fin 4} {v : Value} (hd : decode c.code pc = .ok (.astore_n k, 1)) (hv : v.isRef = true) (hl : storeLocals Ls k.val v = some Ls') (hp : pc + 1 = pc') (kk : Ends p e below Q T (mkF m pc' Ls' St)) : Ends p e below Q T (mkF m pc Ls (v :: St)) := by subst hp; exact Ends.go (fun _ q => XS.astoreN X.here hx rfl hd rfl hv hl q) kk
theorem ow_iconst (X : Stand p l e R s m args below meth c T locs cells slots) (hx : p.tables.exec = Jvm.exec) {pc pc' : Nat} {Ls : Array Slot} {St : List Value} {i : Int} {z : Int32} (hd : decode c.code pc = .ok (.iconst i, 1)) (hz : Int32.ofInt i = z) (hp : pc + 1 = pc') (kk : Ends p e below Q T (mkF m pc' Ls (.int z :: St))) : Ends p e below Q T (mkF m pc Ls St) := by subst hp hz; exact Ends.go (fun _ q => XS.iconst X.here hx rfl hd q) kk
theorem ow_bipush (X : Stand p l e R s m args below meth c T locs cells slots) (hx : p.tables.exec = Jvm.exec) {pc pc' : Nat} {Ls : Array Slot} {St : List Value} {i : Int} {z : Int32} (hd : decode c.code pc = .ok (.bipush i, 2)) (hz : (Int8.ofInt i).toInt32 = z) (hp : pc + 2 = pc') (kk : Ends p e below Q T (mkF m pc' Ls (.int z :: St))) : Ends p e below Q T (mkF m pc Ls St) := by subst hp hz; exact Ends.go (fun _ q => XS.bipush X.here hx rfl hd q) kk
theorem ow_sipush (X : Stand p l e R s m args below meth c T locs cells slots) (hx : p.tables.exec = Jvm.exec) {pc pc' : Nat} {Ls : Array Slot} {St : List Value} {i : Int} {z : Int32} (hd : decode c.code pc = .ok (.sipush i, 3)) (hz : (Int16.ofInt i).toInt32 = z) (hp : pc + 3 = pc') (kk : Ends p e below Q T (mkF m pc' Ls (.int z :: St))) : Ends p e below Q T (mkF m pc Ls St) := by subst hp hz; exact Ends.go (fun _ q => XS.sipush X.here hx rfl hd q) kk
theorem ow_aconstNull (X : Stand p l e R s m args below meth c T locs cells slots) (hx : p.tables.exec = Jvm.exec) {pc pc' : Nat} {Ls : Array Slot} {St : List Value} (hd : decode c.code pc = .ok (.aconst_null, 1)) (hp : pc + 1 = pc') (kk : Ends p e below Q T (mkF m pc' Ls (.null :: St))) : Ends p e below Q T (mkF m pc Ls St) := by subst hp; exact Ends.go (fun _ q => XS.aconstNull X.here hx rfl hd q) kk
theorem ow_ldcInt (X : Stand p l e R s m args below meth c T locs cells slots) (hx : p.tables.exec = Jvm.exec) (hZ : Z.Warmed39 s.vm) {own : String} {i : Nat} {z : Int32} (hown : s.vm.findClass own = some m.cls) (w : (Jvm.Cond.constant own i z).before a0 Z = true) {pc pc' : Nat} {Ls : Array Slot} {St : List Value} (hd : decode c.code pc = .ok (.ldc i, 2)) (hp : pc + 2 = pc') (kk : Ends p e below Q T (mkF m pc' Ls (.int z :: St))) : Ends p e below Q T (mkF m pc Ls St) := by subst hp; exact Ends.go (X.ldcInt hx hown (mvT hZ w) (g := mkF m pc Ls St) rfl hd) kk
theorem ow_isub (X : Stand p l e R s m args below meth c T locs cells slots) (hx : p.tables.exec = Jvm.exec) {pc pc' : Nat} {Ls : Array Slot} {St : List Value} {x : Int32} {y : Int32} (hd : decode c.code pc = .ok (.isub, 1)) (hp : pc + 1 = pc') (kk : ∀ z : Int32, z = x - y → Ends p e below Q T (mkF m pc' Ls (.int z :: St))) : Ends p e below Q T (mkF m pc Ls (.int y :: .int x :: St)) := by subst hp; exact Ends.go (fun _ q => XS.isub X.here hx rfl hd rfl q) (kk _ rfl)
theorem ow_iand (X : Stand p l e R s m args below meth c T locs cells slots) (hx : p.tables.exec = Jvm.exec) {pc pc' : Nat} {Ls : Array Slot} {St : List Value} {x : Int32} {y : Int32} (hd : decode c.code pc = .ok (.iand, 1)) (hp : pc + 1 = pc') (kk : ∀ z : Int32, z = x &&& y → Ends p e below Q T (mkF m pc' Ls (.int z :: St))) : Ends p e below Q T (mkF m pc Ls (.int y :: .int x :: St)) := by subst hp; exact Ends.go (fun _ q => XS.iand X.here hx rfl hd rfl q) (kk _ rfl)
theorem ow_ior (X : Stand p l e R s m args below meth c T locs cells slots) (hx : p.tables.exec = Jvm.exec) {pc pc' : Nat} {Ls : Array Slot} {St : List Value} {x : Int32} {y : Int32} (hd : decode c.code pc = .ok (.ior, 1)) (hp : pc + 1 = pc') (kk : ∀ z : Int32, z = x ||| y → Ends p e below Q T (mkF m pc' Ls (.int z :: St))) : Ends p e below Q T (mkF m pc Ls (.int y :: .int x :: St)) := by subst hp; exact Ends.go (fun _ q => XS.ior X.here hx rfl hd rfl q) (kk _ rfl)
theorem ow_ishl (X : Stand p l e R s m args below meth c T locs cells slots) (hx : p.tables.exec = Jvm.exec) {pc pc' : Nat} {Ls : Array Slot} {St : List Value} {x : Int32} {y : Int32} (hd : decode c.code pc = .ok (.ishl, 1)) (hp : pc + 1 = pc') (kk : ∀ z : Int32, z = x <<< (y &&& 31) → Ends p e below Q T (mkF m pc' Ls (.int z :: St))) : Ends p e below Q T (mkF m pc Ls (.int y :: .int x :: St)) := by subst hp; exact Ends.go (fun _ q => XS.ishl X.here hx rfl hd rfl q) (kk _ rfl)
theorem ow_ishr (X : Stand p l e R s m args below meth c T locs cells slots) (hx : p.tables.exec = Jvm.exec) {pc pc' : Nat} {Ls : Array Slot} {St : List Value} {x : Int32} {y : Int32} (hd : decode c.code pc = .ok (.ishr, 1)) (hp : pc + 1 = pc') (kk : ∀ z : Int32, z = x >>> (y &&& 31) → Ends p e below Q T (mkF m pc' Ls (.int z :: St))) : Ends p e below Q T (mkF m pc Ls (.int y :: .int x :: St)) := by subst hp; exact Ends.go (fun _ q => XS.ishr X.here hx rfl hd rfl q) (kk _ rfl)
theorem ow_iushr (X : Stand p l e R s m args below meth c T locs cells slots) (hx : p.tables.exec = Jvm.exec) {pc pc' : Nat} {Ls : Array Slot} {St : List Value} {x : Int32} {y : Int32} (hd : decode c.code pc = .ok (.iushr, 1)) (hp : pc + 1 = pc') (kk : ∀ z : Int32, z = (x.toUInt32 >>> (y &&& 31).toUInt32).toInt32 → Ends p e below Q T (mkF m pc' Ls (.int z :: St))) : Ends p e below Q T (mkF m pc Ls (.int y :: .int x :: St)) := by subst hp; exact Ends.go (fun _ q => XS.iushr X.here hx rfl hd rfl q) (kk _ rfl)
theorem ow_i2b (X : Stand p l e R s m args below meth c T locs cells slots) (hx : p.tables.exec = Jvm.exec) {pc pc' : Nat} {Ls : Array Slot} {St : List Value} {x : Int32} (hd : decode c.code pc = .ok (.i2b, 1)) (hp : pc + 1 = pc') (kk : ∀ z : Int32, z = x.toInt8.toInt32 → Ends p e below Q T (mkF m pc' Ls (.int z :: St))) : Ends p e below Q T (mkF m pc Ls (.int x :: St)) := by subst hp; exact Ends.go (fun _ q => XS.i2b X.here hx rfl hd rfl q) (kk _ rfl)
theorem ow_i2c (X : Stand p l e R s m args below meth c T locs cells slots) (hx : p.tables.exec = Jvm.exec) {pc pc' : Nat} {Ls : Array Slot} {St : List Value} {x : Int32} (hd : decode c.code pc = .ok (.i2c, 1)) (hp : pc + 1 = pc') (kk : ∀ z : Int32, z = x.toUInt32.toUInt16.toUInt32.toInt32 → Ends p e below Q T (mkF m pc' Ls (.int z :: St))) : Ends p e below Q T (mkF m pc Ls (.int x :: St)) := by subst hp; exact Ends.go (fun _ q => XS.i2c X.here hx rfl hd rfl q) (kk _ rfl)
theorem ow_iinc (X : Stand p l e R s m args below meth c T locs cells slots) (hx : p.tables.exec = Jvm.exec) {pc pc' : Nat} {Ls : Array Slot} {Ls' : Array Slot} {St : List Value} {k : Nat} {i : Int} {x : Int32} (hd : decode c.code pc = .ok (.iinc k i, 3)) (hl : Ls[k]? = some (.val (.int x))) (hl' : ∀ z, storeLocals Ls k (.int z) = some (Ls'.setIfInBounds k (.val (.int z)))) (hp : pc + 3 = pc') (kk : ∀ z : Int32, z = x + Int32.ofInt i → Ends p e below Q T (mkF m pc' (Ls'.setIfInBounds k (.val (.int z))) St)) : Ends p e below Q T (mkF m pc Ls St) := by subst hp; exact Ends.go (fun _ q => XS.iinc X.here hx rfl hd hl (hl' _) q) (kk _ rfl)
theorem ow_dup (X : Stand p l e R s m args below meth c T locs cells slots) (hx : p.tables.exec = Jvm.exec) {pc pc' : Nat} {Ls : Array Slot} {St : List Value} {v : Value} (hd : decode c.code pc = .ok (.dup, 1)) (hc : v.category = 1) (hp : pc + 1 = pc') (kk : Ends p e below Q T (mkF m pc' Ls (v :: v :: St))) : Ends p e below Q T (mkF m pc Ls (v :: St)) := by subst hp; exact Ends.go (fun _ q => XS.dup X.here hx rfl hd rfl hc q) kk
theorem ow_pop (X : Stand p l e R s m args below meth c T locs cells slots) (hx : p.tables.exec = Jvm.exec) {pc pc' : Nat} {Ls : Array Slot} {St : List Value} {v : Value} (hd : decode c.code pc = .ok (.pop, 1)) (hc : v.category = 1) (hp : pc + 1 = pc') (kk : Ends p e below Q T (mkF m pc' Ls St)) : Ends p e below Q T (mkF m pc Ls (v :: St)) := by subst hp; exact Ends.go (fun _ q => XS.pop X.here hx rfl hd rfl hc q) kk
theorem ow_goto (X : Stand p l e R s m args below meth c T locs cells slots) (hx : p.tables.exec = Jvm.exec) {pc pc' : Nat} {Ls : Array Slot} {St : List Value} {o : Int} (hd : decode c.code pc = .ok (.goto o, 3)) (ho : 0 ≤ (pc : Int) + o) (hp : ((pc : Int) + o).toNat = pc') (kk : Ends p e below Q T (mkF m pc' Ls St)) : Ends p e below Q T (mkF m pc Ls St) := Ends.go (fun _ q => XS.goto X.here hx rfl (pc0 := pc) (pc' := pc') rfl hd ho hp q) kk
theorem ow_icmpY (X : Stand p l e R s m args below meth c T locs cells slots) (hx : p.tables.exec = Jvm.exec) {pc pc' : Nat} {Ls : Array Slot} {St : List Value} {cd : ClassFile.Cond} {x y : Int32} {o : Int} (hd : decode c.code pc = .ok (.if_icmp cd o, 3)) (hc : if_icmp.holds cd x y = true) (ho : 0 ≤ (pc : Int) + o) (hp : ((pc : Int) + o).toNat = pc') (kk : Ends p e below Q T (mkF m pc' Ls St)) : Ends p e below Q T (mkF m pc Ls (.int y :: .int x :: St)) := Ends.go (fun _ q => XS.icmpYes X.here hx rfl (pc0 := pc) (pc' := pc') rfl hd rfl hc ho hp q) kk
theorem ow_icmpN (X : Stand p l e R s m args below meth c T locs cells slots) (hx : p.tables.exec = Jvm.exec) {pc pc' : Nat} {Ls : Array Slot} {St : List Value} {cd : ClassFile.Cond} {x y : Int32} {o : Int} (hd : decode c.code pc = .ok (.if_icmp cd o, 3)) (hc : if_icmp.holds cd x y = false) (hp : pc + 3 = pc') (kk : Ends p e below Q T (mkF m pc' Ls St)) : Ends p e below Q T (mkF m pc Ls (.int y :: .int x :: St)) := by subst hp; exact Ends.go (fun _ q => XS.icmpNo X.here hx rfl hd rfl hc q) kk
theorem ow_ifY (X : Stand p l e R s m args below meth c T locs cells slots) (hx : p.tables.exec = Jvm.exec) {pc pc' : Nat} {Ls : Array Slot} {St : List Value} {cd : ClassFile.Cond} {x : Int32} {o : Int} (hd : decode c.code pc = .ok (.ifCond cd o, 3)) (hc : if_icmp.holds cd x 0 = true) (ho : 0 ≤ (pc : Int) + o) (hp : ((pc : Int) + o).toNat = pc') (kk : Ends p e below Q T (mkF m pc' Ls St)) : Ends p e below Q T (mkF m pc Ls (.int x :: St)) := Ends.go (fun _ q => XS.ifYes X.here hx rfl (pc0 := pc) (pc' := pc') rfl hd rfl ((if0 _ _).trans hc) ho hp q) kk
theorem ow_ifN (X : Stand p l e R s m args below meth c T locs cells slots) (hx : p.tables.exec = Jvm.exec) {pc pc' : Nat} {Ls : Array Slot} {St : List Value} {cd : ClassFile.Cond} {x : Int32} {o : Int} (hd : decode c.code pc = .ok (.ifCond cd o, 3)) (hc : if_icmp.holds cd x 0 = false) (hp : pc + 3 = pc') (kk : Ends p e below Q T (mkF m pc' Ls St)) : Ends p e below Q T (mkF m pc Ls (.int x :: St)) := by subst hp; exact Ends.go (fun _ q => XS.ifNo X.here hx rfl hd rfl ((if0 _ _).trans hc) q) kk
/-- the six comparisons, said of the signed worth -/
def cmpI : ClassFile.Cond → Int → Int → Prop
  | .eq, a, b => a = b
  | .ne, a, b => ¬ a = b
  | .lt, a, b => a < b
  | .ge, a, b => ¬ a < b
  | .gt, a, b => b < a
  | .le, a, b => ¬ b < a
theorem cmpI_y {cd : ClassFile.Cond} {x y : Int32} (q : cmpI cd x.toInt y.toInt) : if_icmp.holds cd x y = true := by
  cases cd <;> simp only [cmpI] at q <;> simp [if_icmp.holds, ← Int32.toInt_inj, Int32.lt_iff_toInt_lt, Int32.le_iff_toInt_le] <;> omega
theorem cmpI_n {cd : ClassFile.Cond} {x y : Int32} (q : ¬ cmpI cd x.toInt y.toInt) : if_icmp.holds cd x y = false := by
  cases cd <;> simp only [cmpI] at q <;> simp [if_icmp.holds, ← Int32.toInt_inj, Int32.lt_iff_toInt_lt, Int32.le_iff_toInt_le] <;> omega
theorem ow_icmp_eq (X : Stand p l e R s m args below meth c T locs cells slots) (hx : p.tables.exec = Jvm.exec) {pc pt pf : Nat} {Ls : Array Slot} {St : List Value} {x y : Int32} {o : Int} (xi yi : Int) (hd : decode c.code pc = .ok (.if_icmp .eq o, 3)) (hxi : x.toInt = xi) (hyi : y.toInt = yi) (ho : 0 ≤ (pc : Int) + o) (hp : ((pc : Int) + o).toNat = pt) (hq : pc + 3 = pf) (kt : xi = yi → Ends p e below Q T (mkF m pt Ls St)) (kf : ¬ xi = yi → Ends p e below Q T (mkF m pf Ls St)) : Ends p e below Q T (mkF m pc Ls (.int y :: .int x :: St)) := by
  subst hxi hyi
  rcases Classical.em (cmpI .eq x.toInt y.toInt) with w | w
  · exact ow_icmpY X hx hd (cmpI_y w) ho hp (kt w)
  · exact ow_icmpN X hx hd (cmpI_n w) hq (kf (by simp only [cmpI] at w; omega))
theorem ow_if_eq (X : Stand p l e R s m args below meth c T locs cells slots) (hx : p.tables.exec = Jvm.exec) {pc pt pf : Nat} {Ls : Array Slot} {St : List Value} {x : Int32} {o : Int} (xi : Int) (hd : decode c.code pc = .ok (.ifCond .eq o, 3)) (hxi : x.toInt = xi) (ho : 0 ≤ (pc : Int) + o) (hp : ((pc : Int) + o).toNat = pt) (hq : pc + 3 = pf) (kt : xi = 0 → Ends p e below Q T (mkF m pt Ls St)) (kf : ¬ xi = 0 → Ends p e below Q T (mkF m pf Ls St)) : Ends p e below Q T (mkF m pc Ls (.int x :: St)) := by
  subst hxi
  have z0 : (0 : Int32).toInt = 0 := rfl
  rcases Classical.em (cmpI .eq x.toInt (0 : Int32).toInt) with w | w
  · exact ow_ifY X hx hd (cmpI_y w) ho hp (kt (by simp only [cmpI, z0] at w; omega))
  · exact ow_ifN X hx hd (cmpI_n w) hq (kf (by simp only [cmpI, z0] at w; omega))
theorem ow_icmp_ne (X : Stand p l e R s m args below meth c T locs cells slots) (hx : p.tables.exec = Jvm.exec) {pc pt pf : Nat} {Ls : Array Slot} {St : List Value} {x y : Int32} {o : Int} (xi yi : Int) (hd : decode c.code pc = .ok (.if_icmp .ne o, 3)) (hxi : x.toInt = xi) (hyi : y.toInt = yi) (ho : 0 ≤ (pc : Int) + o) (hp : ((pc : Int) + o).toNat = pt) (hq : pc + 3 = pf) (kt : ¬ xi = yi → Ends p e below Q T (mkF m pt Ls St)) (kf : xi = yi → Ends p e below Q T (mkF m pf Ls St)) : Ends p e below Q T (mkF m pc Ls (.int y :: .int x :: St)) := by
  subst hxi hyi
  rcases Classical.em (cmpI .ne x.toInt y.toInt) with w | w
  · exact ow_icmpY X hx hd (cmpI_y w) ho hp (kt w)
  · exact ow_icmpN X hx hd (cmpI_n w) hq (kf (by simp only [cmpI] at w; omega))
theorem ow_if_ne (X : Stand p l e R s m args below meth c T locs cells slots) (hx : p.tables.exec = Jvm.exec) {pc pt pf : Nat} {Ls : Array Slot} {St : List Value} {x : Int32} {o : Int} (xi : Int) (hd : decode c.code pc = .ok (.ifCond .ne o, 3)) (hxi : x.toInt = xi) (ho : 0 ≤ (pc : Int) + o) (hp : ((pc : Int) + o).toNat = pt) (hq : pc + 3 = pf) (kt : ¬ xi = 0 → Ends p e below Q T (mkF m pt Ls St)) (kf : xi = 0 → Ends p e below Q T (mkF m pf Ls St)) : Ends p e below Q T (mkF m pc Ls (.int x :: St)) := by
  subst hxi
  have z0 : (0 : Int32).toInt = 0 := rfl
  rcases Classical.em (cmpI .ne x.toInt (0 : Int32).toInt) with w | w
  · exact ow_ifY X hx hd (cmpI_y w) ho hp (kt (by simp only [cmpI, z0] at w; omega))
  · exact ow_ifN X hx hd (cmpI_n w) hq (kf (by simp only [cmpI, z0] at w; omega))
theorem ow_icmp_lt (X : Stand p l e R s m args below meth c T locs cells slots) (hx : p.tables.exec = Jvm.exec) {pc pt pf : Nat} {Ls : Array Slot} {St : List Value} {x y : Int32} {o : Int} (xi yi : Int) (hd : decode c.code pc = .ok (.if_icmp .lt o, 3)) (hxi : x.toInt = xi) (hyi : y.toInt = yi) (ho : 0 ≤ (pc : Int) + o) (hp : ((pc : Int) + o).toNat = pt) (hq : pc + 3 = pf) (kt : xi < yi → Ends p e below Q T (mkF m pt Ls St)) (kf : ¬ xi < yi → Ends p e below Q T (mkF m pf Ls St)) : Ends p e below Q T (mkF m pc Ls (.int y :: .int x :: St)) := by
  subst hxi hyi
  rcases Classical.em (cmpI .lt x.toInt y.toInt) with w | w
  · exact ow_icmpY X hx hd (cmpI_y w) ho hp (kt w)
  · exact ow_icmpN X hx hd (cmpI_n w) hq (kf (by simp only [cmpI] at w; omega))
theorem ow_if_lt (X : Stand p l e R s m args below meth c T locs cells slots) (hx : p.tables.exec = Jvm.exec) {pc pt pf : Nat} {Ls : Array Slot} {St : List Value} {x : Int32} {o : Int} (xi : Int) (hd : decode c.code pc = .ok (.ifCond .lt o, 3)) (hxi : x.toInt = xi) (ho : 0 ≤ (pc : Int) + o) (hp : ((pc : Int) + o).toNat = pt) (hq : pc + 3 = pf) (kt : xi < 0 → Ends p e below Q T (mkF m pt Ls St)) (kf : ¬ xi < 0 → Ends p e below Q T (mkF m pf Ls St)) : Ends p e below Q T (mkF m pc Ls (.int x :: St)) := by
  subst hxi
  have z0 : (0 : Int32).toInt = 0 := rfl
  rcases Classical.em (cmpI .lt x.toInt (0 : Int32).toInt) with w | w
  · exact ow_ifY X hx hd (cmpI_y w) ho hp (kt (by simp only [cmpI, z0] at w; omega))
  · exact ow_ifN X hx hd (cmpI_n w) hq (kf (by simp only [cmpI, z0] at w; omega))
theorem ow_icmp_ge (X : Stand p l e R s m args below meth c T locs cells slots) (hx : p.tables.exec = Jvm.exec) {pc pt pf : Nat} {Ls : Array Slot} {St : List Value} {x y : Int32} {o : Int} (xi yi : Int) (hd : decode c.code pc = .ok (.if_icmp .ge o, 3)) (hxi : x.toInt = xi) (hyi : y.toInt = yi) (ho : 0 ≤ (pc : Int) + o) (hp : ((pc : Int) + o).toNat = pt) (hq : pc + 3 = pf) (kt : ¬ xi < yi → Ends p e below Q T (mkF m pt Ls St)) (kf : xi < yi → Ends p e below Q T (mkF m pf Ls St)) : Ends p e below Q T (mkF m pc Ls (.int y :: .int x :: St)) := by
  subst hxi hyi
  rcases Classical.em (cmpI .ge x.toInt y.toInt) with w | w
  · exact ow_icmpY X hx hd (cmpI_y w) ho hp (kt w)
  · exact ow_icmpN X hx hd (cmpI_n w) hq (kf (by simp only [cmpI] at w; omega))
theorem ow_if_ge (X : Stand p l e R s m args below meth c T locs cells slots) (hx : p.tables.exec = Jvm.exec) {pc pt pf : Nat} {Ls : Array Slot} {St : List Value} {x : Int32} {o : Int} (xi : Int) (hd : decode c.code pc = .ok (.ifCond .ge o, 3)) (hxi : x.toInt = xi) (ho : 0 ≤ (pc : Int) + o) (hp : ((pc : Int) + o).toNat = pt) (hq : pc + 3 = pf) (kt : ¬ xi < 0 → Ends p e below Q T (mkF m pt Ls St)) (kf : xi < 0 → Ends p e below Q T (mkF m pf Ls St)) : Ends p e below Q T (mkF m pc Ls (.int x :: St)) := by
  subst hxi
  have z0 : (0 : Int32).toInt = 0 := rfl
  rcases Classical.em (cmpI .ge x.toInt (0 : Int32).toInt) with w | w
  · exact ow_ifY X hx hd (cmpI_y w) ho hp (kt (by simp only [cmpI, z0] at w; omega))
  · exact ow_ifN X hx hd (cmpI_n w) hq (kf (by simp only [cmpI, z0] at w; omega))
theorem ow_icmp_gt (X : Stand p l e R s m args below meth c T locs cells slots) (hx : p.tables.exec = Jvm.exec) {pc pt pf : Nat} {Ls : Array Slot} {St : List Value} {x y : Int32} {o : Int} (xi yi : Int) (hd : decode c.code pc = .ok (.if_icmp .gt o, 3)) (hxi : x.toInt = xi) (hyi : y.toInt = yi) (ho : 0 ≤ (pc : Int) + o) (hp : ((pc : Int) + o).toNat = pt) (hq : pc + 3 = pf) (kt : yi < xi → Ends p e below Q T (mkF m pt Ls St)) (kf : ¬ yi < xi → Ends p e below Q T (mkF m pf Ls St)) : Ends p e below Q T (mkF m pc Ls (.int y :: .int x :: St)) := by
  subst hxi hyi
  rcases Classical.em (cmpI .gt x.toInt y.toInt) with w | w
  · exact ow_icmpY X hx hd (cmpI_y w) ho hp (kt w)
  · exact ow_icmpN X hx hd (cmpI_n w) hq (kf (by simp only [cmpI] at w; omega))
theorem ow_icmp_le (X : Stand p l e R s m args below meth c T locs cells slots) (hx : p.tables.exec = Jvm.exec) {pc pt pf : Nat} {Ls : Array Slot} {St : List Value} {x y : Int32} {o : Int} (xi yi : Int) (hd : decode c.code pc = .ok (.if_icmp .le o, 3)) (hxi : x.toInt = xi) (hyi : y.toInt = yi) (ho : 0 ≤ (pc : Int) + o) (hp : ((pc : Int) + o).toNat = pt) (hq : pc + 3 = pf) (kt : ¬ yi < xi → Ends p e below Q T (mkF m pt Ls St)) (kf : yi < xi → Ends p e below Q T (mkF m pf Ls St)) : Ends p e below Q T (mkF m pc Ls (.int y :: .int x :: St)) := by
  subst hxi hyi
  rcases Classical.em (cmpI .le x.toInt y.toInt) with w | w
  · exact ow_icmpY X hx hd (cmpI_y w) ho hp (kt w)
  · exact ow_icmpN X hx hd (cmpI_n w) hq (kf (by simp only [cmpI] at w; omega))
theorem ow_if_le (X : Stand p l e R s m args below meth c T locs cells slots) (hx : p.tables.exec = Jvm.exec) {pc pt pf : Nat} {Ls : Array Slot} {St : List Value} {x : Int32} {o : Int} (xi : Int) (hd : decode c.code pc = .ok (.ifCond .le o, 3)) (hxi : x.toInt = xi) (ho : 0 ≤ (pc : Int) + o) (hp : ((pc : Int) + o).toNat = pt) (hq : pc + 3 = pf) (kt : ¬ 0 < xi → Ends p e below Q T (mkF m pt Ls St)) (kf : 0 < xi → Ends p e below Q T (mkF m pf Ls St)) : Ends p e below Q T (mkF m pc Ls (.int x :: St)) := by
  subst hxi
  have z0 : (0 : Int32).toInt = 0 := rfl
  rcases Classical.em (cmpI .le x.toInt (0 : Int32).toInt) with w | w
  · exact ow_ifY X hx hd (cmpI_y w) ho hp (kt (by simp only [cmpI, z0] at w; omega))
  · exact ow_ifN X hx hd (cmpI_n w) hq (kf (by simp only [cmpI, z0] at w; omega))
theorem ow_retB (X : Stand p l e R s m args below meth c T locs cells slots) (hx : p.tables.exec = Jvm.exec) {pc : Nat} {Ls : Array Slot} {rest : List Value} {z z' : Int32} (hret : meth.sig.returnType = some .boolean) (hlk : meth.locks = false) (hd : decode c.code pc = .ok (.ireturn, 1)) {ce sl : Nat} (hc : cells ≤ ce) (hs : slots ≤ sl) {Qv : Option Value → Heap → List Loc → Prop} (hz : nar .boolean z = z') (q : Qv (some (.int z')) T.heap locs) : Ends p e below (Out s ce sl Qv) T (mkF m pc Ls (.int z :: rest)) := by
  subst hz
  obtain ⟨fs, hr, hrun, hended, hW, hsame⟩ := X.leave (v := some (.int (nar .boolean z))) (fun h => by rw [hret] at h; cases h) hlk
  exact ⟨_, _, retN X hx (t := .boolean) hret (by simp) hd hr, hrun, hended, _, _, rfl, q, ⟨_, rfl⟩, hW, hsame.mono hc hs⟩
theorem ow_retY (X : Stand p l e R s m args below meth c T locs cells slots) (hx : p.tables.exec = Jvm.exec) {pc : Nat} {Ls : Array Slot} {rest : List Value} {z z' : Int32} (hret : meth.sig.returnType = some .byte) (hlk : meth.locks = false) (hd : decode c.code pc = .ok (.ireturn, 1)) {ce sl : Nat} (hc : cells ≤ ce) (hs : slots ≤ sl) {Qv : Option Value → Heap → List Loc → Prop} (hz : nar .byte z = z') (q : Qv (some (.int z')) T.heap locs) : Ends p e below (Out s ce sl Qv) T (mkF m pc Ls (.int z :: rest)) := by
  subst hz
  obtain ⟨fs, hr, hrun, hended, hW, hsame⟩ := X.leave (v := some (.int (nar .byte z))) (fun h => by rw [hret] at h; cases h) hlk
  exact ⟨_, _, retN X hx (t := .byte) hret (by simp) hd hr, hrun, hended, _, _, rfl, q, ⟨_, rfl⟩, hW, hsame.mono hc hs⟩
theorem ow_retC (X : Stand p l e R s m args below meth c T locs cells slots) (hx : p.tables.exec = Jvm.exec) {pc : Nat} {Ls : Array Slot} {rest : List Value} {z z' : Int32} (hret : meth.sig.returnType = some .char) (hlk : meth.locks = false) (hd : decode c.code pc = .ok (.ireturn, 1)) {ce sl : Nat} (hc : cells ≤ ce) (hs : slots ≤ sl) {Qv : Option Value → Heap → List Loc → Prop} (hz : nar .char z = z') (q : Qv (some (.int z')) T.heap locs) : Ends p e below (Out s ce sl Qv) T (mkF m pc Ls (.int z :: rest)) := by
  subst hz
  obtain ⟨fs, hr, hrun, hended, hW, hsame⟩ := X.leave (v := some (.int (nar .char z))) (fun h => by rw [hret] at h; cases h) hlk
  exact ⟨_, _, retN X hx (t := .char) hret (by simp) hd hr, hrun, hended, _, _, rfl, q, ⟨_, rfl⟩, hW, hsame.mono hc hs⟩
theorem ow_retI (X : Stand p l e R s m args below meth c T locs cells slots) (hx : p.tables.exec = Jvm.exec) {pc : Nat} {Ls : Array Slot} {z : Int32} (hret : meth.sig.returnType = some .int) (hlk : meth.locks = false) (hd : decode c.code pc = .ok (.ireturn, 1)) {ce sl : Nat} (hc : cells ≤ ce) (hs : slots ≤ sl) {Qv : Option Value → Heap → List Loc → Prop} (q : Qv (some (.int z)) T.heap locs) : Ends p e below (Out s ce sl Qv) T (mkF m pc Ls [.int z]) := by
  obtain ⟨fs, hr, hrun, hended, hW, hsame⟩ := X.leave (v := some (.int z)) (fun h => by rw [hret] at h; cases h) hlk
  exact ⟨_, _, X.ireturnOut hx hret rfl (Or.inl rfl) hd hr, hrun, hended, _, _, rfl, q, ⟨_, rfl⟩, hW, hsame.mono hc hs⟩
theorem ow_retA (X : Stand p l e R s m args below meth c T locs cells slots) (hx : p.tables.exec = Jvm.exec) {pc : Nat} {Ls : Array Slot} {w : Value} {t : FieldType} (hret : meth.sig.returnType = some t) (hlk : meth.locks = false) (hw : w.isRef = true) (ht : t.isReference = true) (hd : decode c.code pc = .ok (.areturn, 1)) {ce sl : Nat} (hc : cells ≤ ce) (hs : slots ≤ sl) {Qv : Option Value → Heap → List Loc → Prop} (q : Qv (some w) T.heap locs) : Ends p e below (Out s ce sl Qv) T (mkF m pc Ls [w]) := by
  obtain ⟨fs, hr, hrun, hended, hW, hsame⟩ := X.leave (v := some w) (fun h => by rw [hret] at h; cases h) hlk
  exact ⟨_, _, X.areturnOut hx hw hret ht hd hr, hrun, hended, _, _, rfl, q, ⟨_, rfl⟩, hW, hsame.mono hc hs⟩
theorem ow_retV (X : Stand p l e R s m args below meth c T locs cells slots) (hx : p.tables.exec = Jvm.exec) {pc : Nat} {Ls : Array Slot} (hret : meth.sig.returnType = none) (hlk : meth.locks = false) (hd : decode c.code pc = .ok (.return_, 1)) {ce sl : Nat} (hc : cells ≤ ce) (hs : slots ≤ sl) {Qv : Option Value → Heap → List Loc → Prop} (q : Qv none T.heap locs) : Ends p e below (Out s ce sl Qv) T (mkF m pc Ls []) := by
  obtain ⟨fs, hr, hrun, hended, hW, hsame⟩ := X.leave (v := none) (fun _ => rfl) hlk
  exact ⟨_, _, X.returnOut hx hret hd hr, hrun, hended, _, _, rfl, q, ⟨_, rfl⟩, hW, hsame.mono hc hs⟩
theorem ow_callS (X : Stand p l e R s m args below meth c T locs cells slots) (hx : p.tables.exec = Jvm.exec) (hZ : Z.Warmed39 s.vm) {own : String} {index : Nat} {y : MethodName} {bytes : ByteArray} {maxL : Nat} {ret : Option FieldType} (hown : s.vm.findClass own = some m.cls)
    (wl : (Jvm.Cond.methodLink own index y).before a0 Z = true) (wst : (Jvm.Cond.static y).before a0 Z = true) (wi : (Jvm.Cond.initialized y.cls).before a0 Z = true) (wc : (Jvm.Cond.code y bytes maxL ret).before a0 Z = true) (hy : y.cls ≠ "java/lang/invoke/MethodHandle" ∧ y.cls ≠ "java/lang/invoke/VarHandle")
    {rm : Room} {as' : Array Value} {Qc : Option Value → Heap → List Loc → Prop} (hM : MetFree l y (head1 [Jvm.Cond.code y bytes maxL ret] rm) (fun a U => a = as' ∧ Z.Warmed39 U.vm ∧ U.heap = h) (fun _ _ _ _ _ => True) (fun _ U o U' => ∃ v L, o = .returned v ∧ Qc v U'.heap L ∧ FrameEnd U o U' L rm.cells rm.slots))
    (eT : T.heap = h) (W : Nat) (hf : rm.frames + 1 ≤ R.frames) (hl : W + (maxL + 11) + rm.locals ≤ R.locals) (hce : cells + rm.cells ≤ R.cells) (hsl : slots + rm.slots ≤ R.slots) {pc pc' : Nat} {Ls : Array Slot} {St rest : List Value} (argsL : List Value) {ps : List FieldType} {rt : Option FieldType} (hsize : Ls.size = c.maxLocals) (hdesc : parseMethodDescriptor y.desc = some ⟨ps, rt⟩) (hlen : argsL.length = ps.length) (hst : St = argsL.reverse ++ rest) (has : argsL.toArray = as') (hW : (rest.map fun v => v.category).sum ≤ W)
    (hd : decode c.code pc = .ok (.invokestatic index, 3)) (hp : pc + 3 = pc')
    (kk : ∀ (v : Option Value) (T' : State) (L' : List Loc), Qc v T'.heap L' → Stand p l e R s m args below meth c T' (locs ++ L') (cells + rm.cells) (slots + rm.slots) → Ends p e below Q T' (mkF m pc' Ls (v.toList ++ rest))) : Ends p e below Q T (mkF m pc Ls St) := by
  subst hst has hp
  obtain ⟨v, vm₁, ⟨T', L, k2, n2⟩, -, X', ⟨Lc, hQ, l1, y1, z1⟩, st⟩ := Jvm.LawKit.callS X hx hown (mvT hZ wl) (mvT hZ wst) (mvT hZ wi) (mvT hZ wc) hy (backOf (W := W) hM hZ wc wi hf hl) (g := mkF m pc Ls (argsL.reverse ++ rest)) rfl hsize (argsL := argsL) (rest := rest) (lenOf hdesc hlen) rfl (by show 2 * 0 + _ ≤ _; omega) hd (fun _ _ => ⟨rfl, eT, hce, hsl⟩)
  dsimp only [Pt.U, Pt.locs, Pt.cells, Pt.slots] at X' l1 y1 z1 st hQ
  subst l1 y1 z1
  exact Ends.go st (kk v T' Lc hQ X')
theorem ow_callI (X : Stand p l e R s m args below meth c T locs cells slots) (hx : p.tables.exec = Jvm.exec) (hZ : Z.Warmed39 s.vm) {own : String} {index : Nat} {y : MethodName} {bytes : ByteArray} {maxL : Nat} {ret : Option FieldType} (hret0 : ret = none) (hy1 : y.name = "<init>") (hown : s.vm.findClass own = some m.cls)
    (wl : (Jvm.Cond.methodLink own index y).before a0 Z = true) (wst : (Jvm.Cond.instanceMethod y).before a0 Z = true) (wi : (Jvm.Cond.initialized y.cls).before a0 Z = true) (wc : (Jvm.Cond.code y bytes maxL ret).before a0 Z = true) (hy : y.cls ≠ "java/lang/invoke/MethodHandle" ∧ y.cls ≠ "java/lang/invoke/VarHandle")
    {rm : Room} {as' : Array Value} {Qc : Option Value → Heap → List Loc → Prop} (hM : MetFree l y (head1 [Jvm.Cond.code y bytes maxL ret] rm) (fun a U => a = as' ∧ Z.Warmed39 U.vm ∧ U.heap = h) (fun _ _ _ _ _ => True) (fun _ U o U' => ∃ v L, o = .returned v ∧ Qc v U'.heap L ∧ FrameEnd U o U' L rm.cells rm.slots))
    (eT : T.heap = h) (W : Nat) (hf : rm.frames + 1 ≤ R.frames) (hl : W + (maxL + 11) + rm.locals ≤ R.locals) (hce : cells + rm.cells ≤ R.cells) (hsl : slots + rm.slots ≤ R.slots) {pc pc' : Nat} {Ls : Array Slot} {St rest : List Value} (argsL : List Value) {ps : List FieldType} {rt : Option FieldType} (hsize : Ls.size = c.maxLocals) (hdesc : parseMethodDescriptor y.desc = some ⟨ps, rt⟩) (hlen : argsL.length = ps.length) {a : Addr} (hst : St = argsL.reverse ++ .ref a :: rest) (has : (Value.ref a :: argsL).toArray = as') (hW : (rest.map fun v => v.category).sum ≤ W)
    (hd : decode c.code pc = .ok (.invokespecial index, 3)) (hp : pc + 3 = pc')
    (kk : ∀ (v : Option Value) (T' : State) (L' : List Loc), Qc v T'.heap L' → Stand p l e R s m args below meth c T' (locs ++ L') (cells + rm.cells) (slots + rm.slots) → Ends p e below Q T' (mkF m pc' Ls (v.toList ++ rest))) : Ends p e below Q T (mkF m pc Ls St) := by
  subst hst has hp hret0
  obtain ⟨v, vm₁, ⟨T', L, k2, n2⟩, -, X', ⟨Lc, hQ, l1, y1, z1⟩, st⟩ := X.specialBack hx hy1 hown (mvT hZ wl) (mvT hZ wst) (mvT hZ wc) hy (backOf (W := W) hM hZ wc wi hf hl) (g := mkF m pc Ls (argsL.reverse ++ .ref a :: rest)) rfl hsize (Steps.refl _) (a := a) (argsL := argsL) (rest := rest) (lenOf hdesc hlen) rfl (by show 2 * 0 + _ ≤ _; omega) hd (fun _ _ => ⟨rfl, eT, hce, hsl⟩)
  dsimp only [Pt.U, Pt.locs, Pt.cells, Pt.slots] at X' l1 y1 z1 st hQ
  subst l1 y1 z1
  exact Ends.thru st (kk v T' Lc hQ X')
theorem ow_callV (X : Stand p l e R s m args below meth c T locs cells slots) (hx : p.tables.exec = Jvm.exec) (hZ : Z.Warmed39 s.vm) {own C : String} {index : Nat} {y y' : MethodName} (hyy : y = y') {bytes : ByteArray} {maxL : Nat} {ret : Option FieldType} (hown : s.vm.findClass own = some m.cls)
    (wl : (Jvm.Cond.methodLink own index y).before a0 Z = true) (wd : (Jvm.Cond.declares y).before a0 Z = true) (wsel : (Jvm.Cond.selects C y y').before a0 Z = true) (wst : (Jvm.Cond.instanceMethod y').before a0 Z = true) (wi : (Jvm.Cond.initialized y'.cls).before a0 Z = true) (wc : (Jvm.Cond.code y' bytes maxL ret).before a0 Z = true) (hy : y.cls ≠ "java/lang/invoke/MethodHandle" ∧ y.cls ≠ "java/lang/invoke/VarHandle")
    {rm : Room} {as' : Array Value} {Qc : Option Value → Heap → List Loc → Prop} (hM : MetFree l y' (head1 [Jvm.Cond.code y' bytes maxL ret] rm) (fun a U => a = as' ∧ Z.Warmed39 U.vm ∧ U.heap = h) (fun _ _ _ _ _ => True) (fun _ U o U' => ∃ v L, o = .returned v ∧ Qc v U'.heap L ∧ FrameEnd U o U' L rm.cells rm.slots))
    (eT : T.heap = h) (W : Nat) (hf : rm.frames + 1 ≤ R.frames) (hl : W + (maxL + 11) + rm.locals ≤ R.locals) (hce : cells + rm.cells ≤ R.cells) (hsl : slots + rm.slots ≤ R.slots) {pc pc' : Nat} {Ls : Array Slot} {St rest : List Value} (argsL : List Value) {ps : List FieldType} {rt : Option FieldType} (hsize : Ls.size = c.maxLocals) (hdesc : parseMethodDescriptor y.desc = some ⟨ps, rt⟩) (hlen : argsL.length = ps.length) {a : Addr} (E : Exa Z h a C) (hst : St = argsL.reverse ++ .ref a :: rest) (has : (Value.ref a :: argsL).toArray = as') (hW : (rest.map fun v => v.category).sum ≤ W)
    (hd : decode c.code pc = .ok (.invokevirtual index, 3)) (hp : pc + 3 = pc')
    (kk : ∀ (v : Option Value) (T' : State) (L' : List Loc), Qc v T'.heap L' → Stand p l e R s m args below meth c T' (locs ++ L') (cells + rm.cells) (slots + rm.slots) → Ends p e below Q T' (mkF m pc' Ls (v.toList ++ rest))) : Ends p e below Q T (mkF m pc Ls St) := by
  subst hst has hp hyy
  obtain ⟨cq, kq, qa, qb, qc⟩ := isOf hZ eT E
  obtain ⟨v, vm₁, ⟨T', L, k2, n2⟩, -, X', ⟨Lc, hQ, l1, y1, z1⟩, st⟩ := X.virtualBack hx hown (mvT hZ wl) (mvT hZ wd) (notFace_of_selects (args := #[]) (mvT hZ wsel)) (mvT hZ wsel) (mvT hZ wst) hy (backOf (W := W) hM hZ wc wi hf hl) qa qc (g := mkF m pc Ls (argsL.reverse ++ .ref a :: rest)) rfl hsize (Steps.refl _) (argsL := argsL) (rest := rest) (lenOf hdesc hlen) rfl (by show 2 * 0 + _ ≤ _; omega) hd (fun _ _ => ⟨rfl, eT, hce, hsl⟩)
  dsimp only [Pt.U, Pt.locs, Pt.cells, Pt.slots] at X' l1 y1 z1 st hQ
  subst l1 y1 z1
  exact Ends.thru st (kk v T' Lc hQ X')
/-- Object's constructor -/
theorem ow_init0 (X : Stand p l e R s m args below meth c T locs cells slots) (hx : p.tables.exec = Jvm.exec) (hZ : Z.Warmed39 s.vm) {own : String} {index : Nat} (hown : s.vm.findClass own = some m.cls) (wl : (Jvm.Cond.methodLink own index Lib.objectInit).before a0 Z = true) (wst : (Jvm.Cond.instanceMethod Lib.objectInit).before a0 Z = true) (wc : (Jvm.Cond.code Lib.objectInit ⟨#[0xb1]⟩ 1 none).before a0 Z = true)
    (eT : T.heap = h) (W : Nat) (hf : 1 ≤ R.frames) (hl : W + 12 ≤ R.locals) {pc pc' : Nat} {Ls : Array Slot} {a : Addr} {St : List Value} (hsize : Ls.size = c.maxLocals) (hW : (St.map fun v => v.category).sum ≤ W) (hd : decode c.code pc = .ok (.invokespecial index, 3)) (hp : pc + 3 = pc')
    (kk : ∀ T' : State, Stand p l e R s m args below meth c T' locs cells slots → T'.heap = h → Ends p e below Q T' (mkF m pc' Ls St)) : Ends p e below Q T (mkF m pc Ls (.ref a :: St)) := by
  subst hp
  obtain ⟨T', X', e', st⟩ := initO X hx hZ hown wl wst wc eT (g := mkF m pc Ls (.ref a :: St)) rfl hsize rfl hd hf (W := W) (by show 2 * 0 + _ ≤ _; omega) hl
  exact Ends.go st (kk T' X' e')
theorem ow_getF (X : Stand p l e R s m args below meth c T locs cells slots) (hx : p.tables.exec = Jvm.exec) (hZ : Z.Warmed39 s.vm) {own R0 O n d host : String} {index : Nat} (hown : s.vm.findClass own = some m.cls) (w : (Jvm.Cond.fieldLink own index R0 n d).before a0 Z = true ∨ (Jvm.Cond.fieldLinkNest own index R0 n d host).before a0 Z = true) (via : Via Z R0 O n d) (eT : T.heap = h) {a : Addr} {v : Value} (F : Fld Z h a O n d v) {pc pc' : Nat} {Ls : Array Slot} {St : List Value} (hd : decode c.code pc = .ok (.getfield index, 3)) (hp : pc + 3 = pc')
    (kk : ∀ T' : State, Stand p l e R s m args below meth c T' locs cells slots → T'.heap = h → Ends p e below Q T' (mkF m pc' Ls (v :: St))) : Ends p e below Q T (mkF m pc Ls (.ref a :: St)) := by
  subst hp
  obtain ⟨T', X', e', st⟩ := getF X hx hZ hown w via eT F (g := mkF m pc Ls (.ref a :: St)) rfl rfl hd
  exact Ends.go st (kk T' X' e')
theorem ow_getS (X : Stand p l e R s m args below meth c T locs cells slots) (hx : p.tables.exec = Jvm.exec) (hZ : Z.Warmed39 s.vm) {own R0 O n d host : String} {index : Nat} (hown : s.vm.findClass own = some m.cls) (w : (Jvm.Cond.fieldLink own index R0 n d).before a0 Z = true ∨ (Jvm.Cond.fieldLinkNest own index R0 n d host).before a0 Z = true) (via : Via Z R0 O n d) (eT : T.heap = h) {v : Value} (F : Sta Z h O n d v) {pc pc' : Nat} {Ls : Array Slot} {St : List Value} (hd : decode c.code pc = .ok (.getstatic index, 3)) (hp : pc + 3 = pc')
    (kk : ∀ T' : State, Stand p l e R s m args below meth c T' locs cells slots → T'.heap = h → Ends p e below Q T' (mkF m pc' Ls (v :: St))) : Ends p e below Q T (mkF m pc Ls St) := by
  subst hp
  obtain ⟨T', X', e', st⟩ := getS2 X hx hZ hown w via eT F (g := mkF m pc Ls St) rfl hd
  exact Ends.go st (kk T' X' e')
theorem ow_putF (X : Stand p l e R s m args below meth c T locs cells slots) (hx : p.tables.exec = Jvm.exec) (hZ : Z.Warmed39 s.vm) {own R0 O n d host C : String} {index kn : Nat} {ty : FieldType} (hown : s.vm.findClass own = some m.cls) (w : (Jvm.Cond.fieldLink own index R0 n d).before a0 Z = true ∨ (Jvm.Cond.fieldLinkNest own index R0 n d host).before a0 Z = true) (via : Via Z R0 O n d) (eT : T.heap = h) {a : Addr} {v old : Value} (F : Fld Z h a O n d old) (E : Exa Z h a C)
    (L : (Jvm.Cond.lays C O n d).before a0 Z = true ∨ ((Jvm.Cond.laysFinal C O n d).before a0 Z = true ∧ own = O ∧ meth.name = "<init>")) (wi : (Jvm.Cond.instantiable C kn).before a0 Z = true) (hty : parseFieldDescriptor d = some ty) (hn : narrow ty v = v) (hft : fits ty v = true) {pc pc' : Nat} {Ls : Array Slot} {St : List Value} (hd : decode c.code pc = .ok (.putfield index, 3)) (hp : pc + 3 = pc')
    (kk : ∀ (T' : State) (h' : Heap), Stand p l e R s m args below meth c T' (locs ++ [⟨a, Jvm.RoadKit.slotOf Z O n d⟩]) cells slots → T'.heap = h' → Wr h h' a (Jvm.RoadKit.slotOf Z O n d) v → Ends p e below Q T' (mkF m pc' Ls St)) : Ends p e below Q T (mkF m pc Ls (v :: .ref a :: St)) := by
  subst hp
  obtain ⟨T', h', X', e', W', st⟩ := putF X hx hZ hown w via eT F E L wi hty hn hft (g := mkF m pc Ls (v :: .ref a :: St)) rfl rfl hd
  exact Ends.go st (kk T' h' X' e' W')
theorem ow_putFN (X : Stand p l e R s m args below meth c T locs cells slots) (hx : p.tables.exec = Jvm.exec) (hZ : Z.Warmed39 s.vm) {own R0 O n d C : String} {index kn : Nat} {ty : FieldType} (hown : s.vm.findClass own = some m.cls) (w : (Jvm.Cond.fieldLink own index R0 n d).before a0 Z = true) (via : Via Z R0 O n d) (eT : T.heap = h) {a : Addr} {v v' old : Value} (F : Fld Z h a O n d old) (E : Exa Z h a C)
    (L : (Jvm.Cond.lays C O n d).before a0 Z = true ∨ ((Jvm.Cond.laysFinal C O n d).before a0 Z = true ∧ own = O ∧ meth.name = "<init>")) (wi : (Jvm.Cond.instantiable C kn).before a0 Z = true) (hty : parseFieldDescriptor d = some ty) (hn : narrow ty v = v') (hft : fits ty v' = true) {pc pc' : Nat} {Ls : Array Slot} {St : List Value} (hd : decode c.code pc = .ok (.putfield index, 3)) (hp : pc + 3 = pc')
    (kk : ∀ (T' : State) (h' : Heap), Stand p l e R s m args below meth c T' (locs ++ [⟨a, Jvm.RoadKit.slotOf Z O n d⟩]) cells slots → T'.heap = h' → Wr h h' a (Jvm.RoadKit.slotOf Z O n d) v' → Ends p e below Q T' (mkF m pc' Ls St)) : Ends p e below Q T (mkF m pc Ls (v :: .ref a :: St)) := by
  subst hp
  obtain ⟨T', h', X', e', W', st⟩ := putFN X hx hZ hown w via eT F E L wi hty hn hft (g := mkF m pc Ls (v :: .ref a :: St)) rfl rfl hd
  exact Ends.go st (kk T' h' X' e' W')
theorem ow_new (X : Stand p l e R s m args below meth c T locs cells slots) (hx : p.tables.exec = Jvm.exec) (hZ : Z.Warmed39 s.vm) {own C : String} {index n : Nat} (hown : s.vm.findClass own = some m.cls) (w : (Jvm.Cond.classLink own index C).before a0 Z = true) (wi : (Jvm.Cond.instantiable C n).before a0 Z = true) (wz : (Jvm.Cond.initialized C).before a0 Z = true) (eT : T.heap = h) {pc pc' : Nat} {Ls : Array Slot} {St : List Value} (hd : decode c.code pc = .ok (.new index, 3)) (hc : cells + 1 ≤ R.cells) (hl : slots + n ≤ R.slots) (hp : pc + 3 = pc')
    (kk : ∀ (T' : State) (h' : Heap) (b : Addr), b = h.size → Stand p l e R s m args below meth c T' locs (cells + 1) (slots + n) → T'.heap = h' → Ext h h' → Exa Z h' b C → (∀ {O nm d : String} {ty : FieldType}, Laid Z a0 C O nm d → parseFieldDescriptor d = some ty → Fld Z h' b O nm d (defaultValue ty)) → Ends p e below Q T' (mkF m pc' Ls (.ref b :: St))) : Ends p e below Q T (mkF m pc Ls St) := by
  subst hp
  obtain ⟨T', h', X', e', E', A', D', -, st⟩ := newO X hx hZ hown w wi wz eT (g := mkF m pc Ls St) rfl hd hc hl
  exact Ends.go st (kk T' h' _ rfl X' e' E' A' D')
theorem ow_newP (X : Stand p l e R s m args below meth c T locs cells slots) (hx : p.tables.exec = Jvm.exec) (hZ : Z.Warmed39 s.vm) {aty : ArrayType} (w : (Jvm.Cond.arrayClass (newarray.typeOf aty)).before a0 Z = true) (eT : T.heap = h) {pc pc' : Nat} {Ls : Array Slot} {St : List Value} {n : Int32} (hd : decode c.code pc = .ok (.newarray aty, 2)) (hn : ¬ n < 0) (cap : Nat) (hcap : n.toNatClampNeg ≤ cap) (hb : cap * 8 ≤ 536870912) (hc : cells + 1 ≤ R.cells) (hl : slots + cap ≤ R.slots) (hp : pc + 2 = pc')
    (kk : ∀ (T' : State) (h' : Heap) (b : Addr) (k : ClassId), b = h.size → Stand p l e R s m args below meth c T' locs (cells + 1) (slots + cap) → T'.heap = h' → Ext h h' → Arv Z h' b k (newarray.typeOf aty) n [] (defaultValue (newarray.typeOf aty)) → Ends p e below Q T' (mkF m pc' Ls (.ref b :: St))) : Ends p e below Q T (mkF m pc Ls (.int n :: St)) := by
  subst hp
  obtain ⟨T', h', k, X', e', E', A', st⟩ := newP X hx hZ w eT (g := mkF m pc Ls (.int n :: St)) rfl hd rfl hn (cap := cap) hcap hb hc hl
  exact Ends.go st (kk T' h' _ k rfl X' e' E' (Arv.new A' hn))
theorem ow_stC (X : Stand p l e R s m args below meth c T locs cells slots) (hx : p.tables.exec = Jvm.exec) (hZ : Z.Warmed39 s.vm) (eT : T.heap = h) {a : Addr} {k : ClassId} {z : Int32} {vs : List Value} {dv : Value} (V : Arv Z h a k .char z vs dv) {pc pc' : Nat} {Ls : Array Slot} {St : List Value} {j x : Int32} (i : Nat) (hj : j.toNatClampNeg = i) (hj0 : ¬ j < 0) (hjz : j < z) (hi : i < vs.length) (hd : decode c.code pc = .ok (.castore, 1)) (hp : pc + 1 = pc')
    (kk : ∀ (T' : State) (h' : Heap), Stand p l e R s m args below meth c T' (locs ++ [⟨a, j.toNatClampNeg⟩]) cells slots → T'.heap = h' → Wr h h' a j.toNatClampNeg (.int (nar .char x)) → Arv Z h' a k .char z (vs.set i (.int (nar .char x))) dv → Ends p e below Q T' (mkF m pc' Ls St)) : Ends p e below Q T (mkF m pc Ls (.int x :: .int j :: .ref a :: St)) := by
  subst hp
  obtain ⟨cl, A, q1, S, N, H, G⟩ := V
  obtain ⟨T', h', X', e', W', st⟩ := stC X hx hZ eT A (inb_of S ⟨hj0, hjz⟩) (g := mkF m pc Ls (.int x :: .int j :: .ref a :: St)) rfl rfl hd
  exact Ends.go st (kk T' h' X' e' W' (Arv.set A q1 S N H G (fits_nar_char _) W' i hj hi))
theorem ow_stB (X : Stand p l e R s m args below meth c T locs cells slots) (hx : p.tables.exec = Jvm.exec) (hZ : Z.Warmed39 s.vm) (eT : T.heap = h) {a : Addr} {k : ClassId} {z : Int32} {vs : List Value} {dv : Value} (V : Arv Z h a k .byte z vs dv) {pc pc' : Nat} {Ls : Array Slot} {St : List Value} {j x : Int32} (i : Nat) (hj : j.toNatClampNeg = i) (hj0 : ¬ j < 0) (hjz : j < z) (hi : i < vs.length) (hd : decode c.code pc = .ok (.bastore, 1)) (hp : pc + 1 = pc')
    (kk : ∀ (T' : State) (h' : Heap), Stand p l e R s m args below meth c T' (locs ++ [⟨a, j.toNatClampNeg⟩]) cells slots → T'.heap = h' → Wr h h' a j.toNatClampNeg (.int x.toInt8.toInt32) → Arv Z h' a k .byte z (vs.set i (.int x.toInt8.toInt32)) dv → Ends p e below Q T' (mkF m pc' Ls St)) : Ends p e below Q T (mkF m pc Ls (.int x :: .int j :: .ref a :: St)) := by
  subst hp
  obtain ⟨cl, A, q1, S, N, H, G⟩ := V
  obtain ⟨T', h', X', e', W', st⟩ := stB X hx hZ eT A (inb_of S ⟨hj0, hjz⟩) (g := mkF m pc Ls (.int x :: .int j :: .ref a :: St)) rfl rfl hd
  exact Ends.go st (kk T' h' X' e' W' (Arv.set A q1 S N H G (fits_nar_byte _) W' i hj hi))
theorem ow_ldC (X : Stand p l e R s m args below meth c T locs cells slots) (hx : p.tables.exec = Jvm.exec) (hZ : Z.Warmed39 s.vm) (eT : T.heap = h) {a : Addr} {k : ClassId} {z : Int32} {vs : List Value} {dv : Value} (V : Arv Z h a k .char z vs dv) {pc pc' : Nat} {Ls : Array Slot} {St : List Value} {j : Int32} {v : Value} (hj0 : ¬ j < 0) (hjz : j < z) (hv : vs.getD j.toNatClampNeg dv = v) (hd : decode c.code pc = .ok (.caload, 1)) (hp : pc + 1 = pc')
    (kk : Ends p e below Q T (mkF m pc' Ls (v :: St))) : Ends p e below Q T (mkF m pc Ls (.int j :: .ref a :: St)) := by
  subst hp
  obtain ⟨cl, A, q1, S, N, H, G⟩ := V
  have hin := inb_of S ⟨hj0, hjz⟩
  exact Ends.go (X.caload hx (by rw [eT]; exact A.1) (State.isArrayOf_alike hZ.alike A.2.1) A.2.2 hin (H.at hin hv) (g := mkF m pc Ls (.int j :: .ref a :: St)) rfl rfl hd) kk
theorem ow_ldB (X : Stand p l e R s m args below meth c T locs cells slots) (hx : p.tables.exec = Jvm.exec) (hZ : Z.Warmed39 s.vm) (eT : T.heap = h) {a : Addr} {k : ClassId} {z : Int32} {vs : List Value} {dv : Value} (V : Arv Z h a k .byte z vs dv) {pc pc' : Nat} {Ls : Array Slot} {St : List Value} {j : Int32} {v : Value} (hj0 : ¬ j < 0) (hjz : j < z) (hv : vs.getD j.toNatClampNeg dv = v) (hd : decode c.code pc = .ok (.baload, 1)) (hp : pc + 1 = pc')
    (kk : Ends p e below Q T (mkF m pc' Ls (v :: St))) : Ends p e below Q T (mkF m pc Ls (.int j :: .ref a :: St)) := by
  subst hp
  obtain ⟨cl, A, q1, S, N, H, G⟩ := V
  have hin := inb_of S ⟨hj0, hjz⟩
  exact Ends.go (X.baloadBytes hx (by rw [eT]; exact A.1) (State.isArrayOf_alike hZ.alike A.2.1) A.2.2 hin (H.at hin hv) (g := mkF m pc Ls (.int j :: .ref a :: St)) rfl rfl hd) kk
theorem ow_len (X : Stand p l e R s m args below meth c T locs cells slots) (hx : p.tables.exec = Jvm.exec) (hZ : Z.Warmed39 s.vm) (eT : T.heap = h) {a : Addr} {k : ClassId} {ty : FieldType} {z : Int32} {vs : List Value} {dv : Value} (V : Arv Z h a k ty z vs dv) {pc pc' : Nat} {Ls : Array Slot} {St : List Value} (hd : decode c.code pc = .ok (.arraylength, 1)) (hp : pc + 1 = pc')
    (kk : Ends p e below Q T (mkF m pc' Ls (.int z :: St))) : Ends p e below Q T (mkF m pc Ls (.ref a :: St)) := by
  subst hp
  obtain ⟨cl, A, q1, S, N, H, G⟩ := V
  refine Ends.go (X.arraylength hx (by rw [eT]; exact A.1) (State.isArrayOf_alike hZ.alike A.2.1) (g := mkF m pc Ls (.ref a :: St)) rfl rfl hd) ?_
  rw [len_of S N]
  exact kk
/-- a body that returns a number and leaves the heap as it is -/
def QI (P : Int32 → Prop) (h0 : Heap) (v : Option Value) (h : Heap) (L : List Loc) : Prop := ∃ z, v = some (.int z) ∧ P z ∧ L = [] ∧ h = h0
theorem ow_callPI (X : Stand p l e R s m args below meth c T locs cells slots) (hx : p.tables.exec = Jvm.exec) (hZ : Z.Warmed39 s.vm) {own : String} {index : Nat} {y : MethodName} {bytes : ByteArray} {maxL : Nat} {ret : Option FieldType} (hown : s.vm.findClass own = some m.cls)
    (wl : (Jvm.Cond.methodLink own index y).before a0 Z = true) (wst : (Jvm.Cond.static y).before a0 Z = true) (wi : (Jvm.Cond.initialized y.cls).before a0 Z = true) (wc : (Jvm.Cond.code y bytes maxL ret).before a0 Z = true) (hy : y.cls ≠ "java/lang/invoke/MethodHandle" ∧ y.cls ≠ "java/lang/invoke/VarHandle")
    {fr lo : Nat} {as' : Array Value} {P : Int32 → Prop} (hM : MetFree l y (head1 [Jvm.Cond.code y bytes maxL ret] ({ frames := fr, cells := 0, slots := 0, locals := lo } : Room)) (fun a U => a = as' ∧ Z.Warmed39 U.vm ∧ U.heap = h) (fun _ _ _ _ _ => True) (fun _ U o U' => ∃ v L, o = .returned v ∧ QI P h v U'.heap L ∧ FrameEnd U o U' L 0 0))
    (eT : T.heap = h) (W : Nat) (hf : fr + 1 ≤ R.frames) (hl : W + (maxL + 11) + lo ≤ R.locals) (hce : cells ≤ R.cells) (hsl : slots ≤ R.slots) {pc pc' : Nat} {Ls : Array Slot} {St rest : List Value} (argsL : List Value) {ps : List FieldType} {rt : Option FieldType} (hsize : Ls.size = c.maxLocals) (hdesc : parseMethodDescriptor y.desc = some ⟨ps, rt⟩) (hlen : argsL.length = ps.length) (hst : St = argsL.reverse ++ rest) (has : argsL.toArray = as') (hW : (rest.map fun v => v.category).sum ≤ W)
    (hd : decode c.code pc = .ok (.invokestatic index, 3)) (hp : pc + 3 = pc')
    (kk : ∀ (z : Int32) (T' : State), P z → Stand p l e R s m args below meth c T' locs cells slots → T'.heap = h → Ends p e below Q T' (mkF m pc' Ls (.int z :: rest))) : Ends p e below Q T (mkF m pc Ls St) := by
  refine ow_callS X hx hZ hown wl wst wi wc hy hM eT W hf hl hce hsl argsL hsize hdesc hlen hst has hW hd hp ?_
  rintro v T' L' ⟨z, rfl, hP, rfl, hh⟩ X'
  rw [List.append_nil] at X'
  exact kk z T' hP X' hh
theorem ow_callVPI (X : Stand p l e R s m args below meth c T locs cells slots) (hx : p.tables.exec = Jvm.exec) (hZ : Z.Warmed39 s.vm) {own C : String} {index : Nat} {y y' : MethodName} (hyy : y = y') {bytes : ByteArray} {maxL : Nat} {ret : Option FieldType} (hown : s.vm.findClass own = some m.cls)
    (wl : (Jvm.Cond.methodLink own index y).before a0 Z = true) (wd : (Jvm.Cond.declares y).before a0 Z = true) (wsel : (Jvm.Cond.selects C y y').before a0 Z = true) (wst : (Jvm.Cond.instanceMethod y').before a0 Z = true) (wi : (Jvm.Cond.initialized y'.cls).before a0 Z = true) (wc : (Jvm.Cond.code y' bytes maxL ret).before a0 Z = true) (hy : y.cls ≠ "java/lang/invoke/MethodHandle" ∧ y.cls ≠ "java/lang/invoke/VarHandle")
    {fr lo : Nat} {as' : Array Value} {P : Int32 → Prop} (hM : MetFree l y' (head1 [Jvm.Cond.code y' bytes maxL ret] ({ frames := fr, cells := 0, slots := 0, locals := lo } : Room)) (fun a U => a = as' ∧ Z.Warmed39 U.vm ∧ U.heap = h) (fun _ _ _ _ _ => True) (fun _ U o U' => ∃ v L, o = .returned v ∧ QI P h v U'.heap L ∧ FrameEnd U o U' L 0 0))
    (eT : T.heap = h) (W : Nat) (hf : fr + 1 ≤ R.frames) (hl : W + (maxL + 11) + lo ≤ R.locals) (hce : cells ≤ R.cells) (hsl : slots ≤ R.slots) {pc pc' : Nat} {Ls : Array Slot} {St rest : List Value} (argsL : List Value) {ps : List FieldType} {rt : Option FieldType} (hsize : Ls.size = c.maxLocals) (hdesc : parseMethodDescriptor y.desc = some ⟨ps, rt⟩) (hlen : argsL.length = ps.length) {a : Addr} (E : Exa Z h a C) (hst : St = argsL.reverse ++ .ref a :: rest) (has : (Value.ref a :: argsL).toArray = as') (hW : (rest.map fun v => v.category).sum ≤ W)
    (hd : decode c.code pc = .ok (.invokevirtual index, 3)) (hp : pc + 3 = pc')
    (kk : ∀ (z : Int32) (T' : State), P z → Stand p l e R s m args below meth c T' locs cells slots → T'.heap = h → Ends p e below Q T' (mkF m pc' Ls (.int z :: rest))) : Ends p e below Q T (mkF m pc Ls St) := by
  refine ow_callV X hx hZ hyy hown wl wd wsel wst wi wc hy hM eT W hf hl hce hsl argsL hsize hdesc hlen E hst has hW hd hp ?_
  rintro v T' L' ⟨z, rfl, hP, rfl, hh⟩ X'
  rw [List.append_nil] at X'
  exact kk z T' hP X' hh
def OutI (s : State) (ce sl : Nat) (Qv : Option Value → Heap → List Loc → Vm → Prop) (o : Outcome) (U : State) : Prop := ∃ v L, o = .returned v ∧ Qv v U.heap L U.vm ∧ ReturnedEndW s o U L ce sl
theorem ow_bodyI {y : MethodName} {bytes : ByteArray} {ml : Nat} {ret : Option FieldType} {ws : List Jvm.Cond} {rm : Room} {as : Array Value} {ce sl : Nat} {Iv : Vm → Prop} {Qv : Option Value → Heap → List Loc → Vm → Prop} (hp : plainFor y = true)
    (body : ∀ (p : Program) (e : Env) (s : State) (m : MethodId) (below : List Frame) (meth : Method) (c : Code) (T : State), Stand p l e rm (s.setVm s.vm) m as below meth c T [] 0 0 → p.tables.exec = Jvm.exec → Z.Warmed39 (s.setVm s.vm).vm → c.code = bytes → c.maxLocals = ml → (s.setVm s.vm).vm.findClass y.cls = some m.cls → meth.name = y.name → meth.sig.returnType = ret → meth.locks = false → T.heap = h → s.heap = h → s.Since s.vm 0 → Iv (s.setVm s.vm).vm → Ends p e below (OutI s ce sl Qv) T (entryFrame m as ml)) :
    MetFree l y (head1 (Jvm.Cond.code y bytes ml ret :: ws) rm) (fun a U => a = as ∧ Z.Warmed39 U.vm ∧ U.heap = h ∧ Iv U.vm) (fun _ _ _ _ _ => True) (fun _ U o U' => ∃ v L, o = .returned v ∧ Qv v U'.heap L U'.vm ∧ ReturnedEndW U o U' L ce sl) := by
  refine MetFree.of_bodySF hp hisR ?_
  intro p e s m args below meth c s₁ Bd hml0 hP hK
  obtain ⟨rfl, hZ, hh, hI⟩ := hP
  exact body p e s m below meth c s₁ (Stand.of_body Bd) Bd.exec hZ Bd.bytes hml0 (findClass_of_methodNamed Bd.named) (name_of_methodNamed Bd.named Bd.method).1 Bd.returns Bd.notSynchronized (by rw [← hh, Bd.state]; rfl) hh ((State.WarmedH.refl s).since 0) hI
theorem ow_bodyIN {y : MethodName} {bytes : ByteArray} {ml : Nat} {ret : Option FieldType} {ws : List Jvm.Cond} {rm : Room} {as : Array Value} {ce sl : Nat} {Iv : Vm → Prop} {Qv : Option Value → Heap → List Loc → Vm → Prop} (hp : plainFor y = true)
    (body : ∀ (p : Program) (e : Env) (s : State) (m : MethodId) (below : List Frame) (meth : Method) (c : Code) (T : State), Stand p l e rm (s.setVm s.vm) m as below meth c T [] 0 0 → p.tables.exec = Jvm.exec → Z.Warmed39 (s.setVm s.vm).vm → c.code = bytes → c.maxLocals = ml → (s.setVm s.vm).vm.findClass y.cls = some m.cls → meth.name = y.name → meth.sig.returnType = ret → meth.locks = false → T.heap = h → s.heap = h → s.Since s.vm 0 → Iv (s.setVm s.vm).vm → (s.setVm s.vm).methodNamed? y = some m → Ends p e below (OutI s ce sl Qv) T (entryFrame m as ml)) :
    MetFree l y (head1 (Jvm.Cond.code y bytes ml ret :: ws) rm) (fun a U => a = as ∧ Z.Warmed39 U.vm ∧ U.heap = h ∧ Iv U.vm) (fun _ _ _ _ _ => True) (fun _ U o U' => ∃ v L, o = .returned v ∧ Qv v U'.heap L U'.vm ∧ ReturnedEndW U o U' L ce sl) := by
  refine MetFree.of_bodySF hp hisR ?_
  intro p e s m args below meth c s₁ Bd hml0 hP hK
  obtain ⟨rfl, hZ, hh, hI⟩ := hP
  exact body p e s m below meth c s₁ (Stand.of_body Bd) Bd.exec hZ Bd.bytes hml0 (findClass_of_methodNamed Bd.named) (name_of_methodNamed Bd.named Bd.method).1 Bd.returns Bd.notSynchronized (by rw [← hh, Bd.state]; rfl) hh ((State.WarmedH.refl s).since 0) hI Bd.named
theorem ow_retBI {vm0 : Vm} (X : Stand p l e R (s.setVm vm0) m args below meth c T locs cells slots) (hx : p.tables.exec = Jvm.exec) {pc : Nat} {Ls : Array Slot} {rest : List Value} {z z' : Int32} (hret : meth.sig.returnType = some .boolean) (hlk : meth.locks = false) (hd : decode c.code pc = .ok (.ireturn, 1)) {k1 : Nat} (hS : s.Since vm0 k1) (hk : k1 ≤ T.heap.size) {ce sl : Nat} (hc : cells ≤ ce) (hs : slots ≤ sl) {Qv : Option Value → Heap → List Loc → Vm → Prop} (hz : nar .boolean z = z') (q : Qv (some (.int z')) T.heap locs T.vm) : Ends p e below (OutI s ce sl Qv) T (mkF m pc Ls (.int z :: rest)) := by
  subst hz
  obtain ⟨fs, hr, hrun, hended, h1, h2, h3, h4⟩ := X.leaveW hS hk (v := some (.int (nar .boolean z))) (fun h => by rw [hret] at h; cases h) hlk
  exact ⟨_, _, retN X hx (t := .boolean) hret (by simp) hd hr, hrun, hended, _, _, rfl, q, ⟨_, rfl⟩, h2, h3, h4.mono hc hs⟩
theorem ow_retVI {vm0 : Vm} (X : Stand p l e R (s.setVm vm0) m args below meth c T locs cells slots) (hx : p.tables.exec = Jvm.exec) {pc : Nat} {Ls : Array Slot} (hret : meth.sig.returnType = none) (hlk : meth.locks = false) (hd : decode c.code pc = .ok (.return_, 1)) {k1 : Nat} (hS : s.Since vm0 k1) (hk : k1 ≤ T.heap.size) {ce sl : Nat} (hc : cells ≤ ce) (hs : slots ≤ sl) {Qv : Option Value → Heap → List Loc → Vm → Prop} (q : Qv none T.heap locs T.vm) : Ends p e below (OutI s ce sl Qv) T (mkF m pc Ls []) := by
  obtain ⟨fs, hr, hrun, hended, h1, h2, h3, h4⟩ := X.leaveW hS hk (v := none) (fun _ => rfl) hlk
  exact ⟨_, _, X.returnOut hx hret hd hr, hrun, hended, _, _, rfl, q, ⟨_, rfl⟩, h2, h3, h4.mono hc hs⟩
theorem ow_backI {y : MethodName} {bytes : ByteArray} {maxL : Nat} {ret : Option FieldType} {len W : Nat} {rm : Room} {as' : Array Value} {Iv : Vm → Prop} {Qc : Option Value → Heap → List Loc → Vm → Prop} (hM : MetFree l y (head1 [Jvm.Cond.code y bytes maxL ret] rm) (fun a U => a = as' ∧ Z.Warmed39 U.vm ∧ U.heap = h ∧ Iv U.vm) (fun _ _ _ _ _ => True) (fun _ U o U' => ∃ v L, o = .returned v ∧ Qc v U'.heap L U'.vm ∧ ReturnedEndW U o U' L rm.cells rm.slots)) (hZ : Z.Warmed39 s.vm) (hI : ∀ vm₁, s.WarmedH vm₁ → Iv vm₁) (wc : (Jvm.Cond.code y bytes maxL ret).before a0 Z = true) (wz : (Jvm.Cond.initialized y.cls).before a0 Z = true) (hf : rm.frames + 1 ≤ R.frames) (hl : W + (maxL + 11) + rm.locals ≤ R.locals) :
    BackS l R p e below s args y len W (fun A a => a = as' ∧ A.U.heap = h ∧ A.cells + rm.cells ≤ R.cells ∧ A.slots + rm.slots ≤ R.slots) (fun A _ v B => ∃ L, Qc v B.U.heap L B.U.vm ∧ B.locs = A.locs ++ L ∧ B.cells = A.cells + rm.cells ∧ B.slots = A.slots + rm.slots) := by
  refine BackS.of_freeW (bytes := bytes) (maxL := maxL) (ret := ret) (E := fun _ _ o t L k n => k = rm.cells ∧ n = rm.slots ∧ ∃ v, o = .returned v ∧ Qc v t.heap L t.vm) hM hf hl ?_ ?_ (fun _ _ _ _ _ _ _ _ _ => trivial) ?_ ?_
  · intro m meth c A a Y q
    have hU : Z.Warmed39 A.U.vm := wtrans hZ Y.warmed
    refine ⟨?_, mv hU wc, mv hU wz, q.2.2.1, q.2.2.2⟩
    show (Jvm.Cond.and _ .tt).before a A.U = true
    rw [Cond.before_and, mv hU wc]
    rfl
  · intro m meth c A a g mk Y q
    exact ⟨q.1, wtrans hZ Y.warmed, q.2.1, hI _ Y.warmed⟩
  · rintro a f o t ⟨v, L, h1, h2, h3⟩
    exact ⟨L, _, _, h3, rfl, rfl, v, h1, h2⟩
  · rintro m meth c A a g mk v t L k n Y q - - ⟨e1, e2, v', e3, e4⟩
    cases e3
    subst e1 e2
    exact ⟨L, e4, rfl, rfl, rfl⟩
theorem ow_callSI {vm0 : Vm} (X : Stand p l e R (s.setVm vm0) m args below meth c T locs cells slots) (hx : p.tables.exec = Jvm.exec) (hZ : Z.Warmed39 (s.setVm vm0).vm) {own : String} {index : Nat} {y : MethodName} {bytes : ByteArray} {maxL : Nat} {ret : Option FieldType} (hown : (s.setVm vm0).vm.findClass own = some m.cls)
    (wl : (Jvm.Cond.methodLink own index y).before a0 Z = true) (wst : (Jvm.Cond.static y).before a0 Z = true) (wi : (Jvm.Cond.initialized y.cls).before a0 Z = true) (wc : (Jvm.Cond.code y bytes maxL ret).before a0 Z = true) (hy : y.cls ≠ "java/lang/invoke/MethodHandle" ∧ y.cls ≠ "java/lang/invoke/VarHandle")
    {rm : Room} {as' : Array Value} {Iv : Vm → Prop} {Qc : Option Value → Heap → List Loc → Vm → Prop} (hM : MetFree l y (head1 [Jvm.Cond.code y bytes maxL ret] rm) (fun a U => a = as' ∧ Z.Warmed39 U.vm ∧ U.heap = h ∧ Iv U.vm) (fun _ _ _ _ _ => True) (fun _ U o U' => ∃ v L, o = .returned v ∧ Qc v U'.heap L U'.vm ∧ ReturnedEndW U o U' L rm.cells rm.slots)) (hI : ∀ vm₁, (s.setVm vm0).WarmedH vm₁ → Iv vm₁) {k0 : Nat} (hS : s.Since vm0 k0) (hk : k0 ≤ h.size)
    (eT : T.heap = h) (W : Nat) (hf : rm.frames + 1 ≤ R.frames) (hl : W + (maxL + 11) + rm.locals ≤ R.locals) (hce : cells + rm.cells ≤ R.cells) (hsl : slots + rm.slots ≤ R.slots) {pc pc' : Nat} {Ls : Array Slot} {St rest : List Value} (argsL : List Value) {ps : List FieldType} {rt : Option FieldType} (hsize : Ls.size = c.maxLocals) (hdesc : parseMethodDescriptor y.desc = some ⟨ps, rt⟩) (hlen : argsL.length = ps.length) (hst : St = argsL.reverse ++ rest) (has : argsL.toArray = as') (hW : (rest.map fun v => v.category).sum ≤ W)
    (hd : decode c.code pc = .ok (.invokestatic index, 3)) (hp : pc + 3 = pc')
    (kk : ∀ (v : Option Value) (T' : State) (L' : List Loc), Qc v T'.heap L' T'.vm → Stand p l e R (s.setVm T'.vm) m args below meth c T' (locs ++ L') (cells + rm.cells) (slots + rm.slots) → s.Since T'.vm T'.heap.size → Z.Warmed39 (s.setVm T'.vm).vm → (s.setVm T'.vm).vm.findClass own = some m.cls → Ends p e below Q T' (mkF m pc' Ls (v.toList ++ rest))) : Ends p e below Q T (mkF m pc Ls St) := by
  subst hst has hp
  obtain ⟨v, vm₁, ⟨T', L, k2, n2⟩, -, X', hS', hgr, ⟨Lc, hQ, l1, y1, z1⟩, st⟩ := callSS X hx hown (mvT hZ wl) (mvT hZ wst) (mvT hZ wi) (mvT hZ wc) hy (ow_backI (W := W) hM hZ hI wc wi hf hl) (g := mkF m pc Ls (argsL.reverse ++ rest)) rfl hsize (argsL := argsL) (rest := rest) (lenOf hdesc hlen) rfl (by show 2 * 0 + _ ≤ _; omega) hd (fun _ _ => ⟨rfl, eT, hce, hsl⟩)
  dsimp only [Pt.U, Pt.locs, Pt.cells, Pt.slots] at X' l1 y1 z1 st hQ hS' hgr
  subst l1 y1 z1
  obtain ⟨X2, S2, Z2, o2⟩ := rebS hS (eT ▸ hk) X' hS' hgr hZ hown
  exact Ends.thru st (kk v T' Lc hQ X2 S2 Z2 o2)
theorem ow_callII {vm0 : Vm} (X : Stand p l e R (s.setVm vm0) m args below meth c T locs cells slots) (hx : p.tables.exec = Jvm.exec) (hZ : Z.Warmed39 (s.setVm vm0).vm) {own : String} {index : Nat} {y : MethodName} {bytes : ByteArray} {maxL : Nat} {ret : Option FieldType} (hret0 : ret = none) (hy1 : y.name = "<init>") (hown : (s.setVm vm0).vm.findClass own = some m.cls)
    (wl : (Jvm.Cond.methodLink own index y).before a0 Z = true) (wst : (Jvm.Cond.instanceMethod y).before a0 Z = true) (wi : (Jvm.Cond.initialized y.cls).before a0 Z = true) (wc : (Jvm.Cond.code y bytes maxL ret).before a0 Z = true) (hy : y.cls ≠ "java/lang/invoke/MethodHandle" ∧ y.cls ≠ "java/lang/invoke/VarHandle")
    {rm : Room} {as' : Array Value} {Iv : Vm → Prop} {Qc : Option Value → Heap → List Loc → Vm → Prop} (hM : MetFree l y (head1 [Jvm.Cond.code y bytes maxL ret] rm) (fun a U => a = as' ∧ Z.Warmed39 U.vm ∧ U.heap = h ∧ Iv U.vm) (fun _ _ _ _ _ => True) (fun _ U o U' => ∃ v L, o = .returned v ∧ Qc v U'.heap L U'.vm ∧ ReturnedEndW U o U' L rm.cells rm.slots)) (hI : ∀ vm₁, (s.setVm vm0).WarmedH vm₁ → Iv vm₁) {k0 : Nat} (hS : s.Since vm0 k0) (hk : k0 ≤ h.size)
    (eT : T.heap = h) (W : Nat) (hf : rm.frames + 1 ≤ R.frames) (hl : W + (maxL + 11) + rm.locals ≤ R.locals) (hce : cells + rm.cells ≤ R.cells) (hsl : slots + rm.slots ≤ R.slots) {pc pc' : Nat} {Ls : Array Slot} {St rest : List Value} (argsL : List Value) {ps : List FieldType} {rt : Option FieldType} (hsize : Ls.size = c.maxLocals) (hdesc : parseMethodDescriptor y.desc = some ⟨ps, rt⟩) (hlen : argsL.length = ps.length) {a : Addr} (hst : St = argsL.reverse ++ .ref a :: rest) (has : (Value.ref a :: argsL).toArray = as') (hW : (rest.map fun v => v.category).sum ≤ W)
    (hd : decode c.code pc = .ok (.invokespecial index, 3)) (hp : pc + 3 = pc')
    (kk : ∀ (v : Option Value) (T' : State) (L' : List Loc), Qc v T'.heap L' T'.vm → Stand p l e R (s.setVm T'.vm) m args below meth c T' (locs ++ L') (cells + rm.cells) (slots + rm.slots) → s.Since T'.vm T'.heap.size → Z.Warmed39 (s.setVm T'.vm).vm → (s.setVm T'.vm).vm.findClass own = some m.cls → Ends p e below Q T' (mkF m pc' Ls (v.toList ++ rest))) : Ends p e below Q T (mkF m pc Ls St) := by
  subst hst has hp hret0
  obtain ⟨v, vm₁, ⟨T', L, k2, n2⟩, -, X', hS', hgr, ⟨Lc, hQ, l1, y1, z1⟩, st⟩ := X.specialBackS hx hy1 hown (mvT hZ wl) (mvT hZ wst) (mvT hZ wc) hy (ow_backI (W := W) hM hZ hI wc wi hf hl) (g := mkF m pc Ls (argsL.reverse ++ .ref a :: rest)) rfl hsize (Steps.refl _) (a := a) (argsL := argsL) (rest := rest) (lenOf hdesc hlen) rfl (by show 2 * 0 + _ ≤ _; omega) hd (fun _ _ => ⟨rfl, eT, hce, hsl⟩)
  dsimp only [Pt.U, Pt.locs, Pt.cells, Pt.slots] at X' l1 y1 z1 st hQ hS' hgr
  subst l1 y1 z1
  obtain ⟨X2, S2, Z2, o2⟩ := rebS hS (eT ▸ hk) X' hS' hgr hZ hown
  exact Ends.thru st (kk v T' Lc hQ X2 S2 Z2 o2)
/-- the table of literals: what has been interned since the start bears one of the texts Ts; the entries Bs are booked -/
def LT (Z : State) (Ts : List String) (Bs : List (String × Nat × Addr)) (vm : Vm) : Prop := IB Z vm Ts ∧ ∀ x ∈ Bs, Lit (Z.setVm vm) x.1 x.2.1 x.2.2
theorem LT.start : LT Z [] [] Z.vm := ⟨IB.start, fun x hx => by simp at hx⟩
theorem LT.warm {Ts : List String} {Bs : List (String × Nat × Addr)} (I : LT Z Ts Bs s.vm) : ∀ vm₁, s.WarmedH vm₁ → LT Z Ts Bs vm₁ := fun vm₁ hW => by
  obtain ⟨⟨more, e1, e2⟩, hb⟩ := I
  refine ⟨⟨more, hW.interned_eq.trans e1, e2⟩, fun x hx => ?_⟩
  have q : Lit ((Z.setVm s.vm).setVm vm₁) x.1 x.2.1 x.2.2 := Lit.stays (s := Z.setVm s.vm) (vm0 := s.vm) (hb x hx) hW.wide
  exact q
theorem LT.weaken {Ts Ts' : List String} {Bs Bs' : List (String × Nat × Addr)} {vm : Vm} (I : LT Z Ts Bs vm) (h1 : ∀ t ∈ Ts, t ∈ Ts') (h2 : ∀ x ∈ Bs', x ∈ Bs) : LT Z Ts' Bs' vm := by
  obtain ⟨⟨more, e1, e2⟩, hb⟩ := I
  exact ⟨⟨more, e1, fun q hq => by obtain ⟨t, ht, hd⟩ := e2 q hq; exact ⟨t, h1 t ht, hd⟩⟩, fun x hx => hb x (h2 x hx)⟩
theorem ow_ldcI {vm0 : Vm} (X : Stand p l e R (s.setVm vm0) m args below meth c T locs cells slots) (hx : p.tables.exec = Jvm.exec) (hZ : Z.Warmed39 (s.setVm vm0).vm) {own text : String} {index : Nat} (hown : (s.setVm vm0).vm.findClass own = some m.cls) (w : (Jvm.Cond.stringLink own index text).before a0 Z = true) (wS : ∀ a ∈ Bundle.stringAtoms, a.before a0 Z = true) (eT : T.heap = h) {k0 : Nat} (hS : s.Since vm0 k0) (hk : k0 ≤ h.size)
    (N : Fr s.heap.size locs) (hkeep : ∀ (b : Addr) (cl : Cell), Z.heap[b]? = some cl → s.heap[b]? = some cl) {Ts : List String} {Bs : List (String × Nat × Addr)} (I : LT Z Ts Bs (s.setVm vm0).vm) (hnot : text ∉ Ts) (hh : Jvm.Lit.constHeld Z own index) (hcw : Jvm.Lit.compactW.before a0 Z = true)
    {vs : List Value} {z : Int32} (ht : (∀ c ∈ text.toList, c.toNat < 256) ∧ text.toList.map (fun c => Value.int (Jvm.Lit.byteI c.toNat.toUInt16)) = vs) (hz : ¬ z < 0) (hl0 : z.toNatClampNeg = vs.length)
    {pc pc' : Nat} {Ls : Array Slot} {St : List Value} (hd : decode c.code pc = .ok (.ldc index, 2)) (n : Nat) (hn : 4 * text.toList.length ≤ n) (hbig : n ≤ 536870912) (hc : cells + 2 ≤ R.cells) (hl : slots + (n + 4) ≤ R.slots) (hp : pc + 2 = pc')
    (kk : ∀ (a : Addr) (T' : State) (h' : Heap) (k1 : Nat) (b : Addr) (k : ClassId), Stand p l e R (s.setVm T'.vm) m args below meth c T' locs (cells + 2) (slots + (n + 4)) → T'.heap = h' → Ext h h' → s.Since T'.vm k1 → k1 ≤ h'.size → Z.Warmed39 (s.setVm T'.vm).vm → (s.setVm T'.vm).vm.findClass own = some m.cls → Exa Z h' a "java/lang/String" → Fld Z h' a "java/lang/String" "coder" "B" (.int (0 : Int32)) → Fld Z h' a "java/lang/String" "value" "[B" (.ref b) → Arv Z h' b k .byte z vs (.int (0 : Int32)) → LT Z (text :: Ts) [(own, index, a)] (s.setVm T'.vm).vm → Ends p e below Q T' (mkF m pc' Ls (.ref a :: St))) : Ends p e below Q T (mkF m pc Ls St) := by
  subst hp
  obtain ⟨a, T', h', k1, b, k, X', e', E', S', hk', Z', o', r1, r2, r3, r4, -, -, I', L', st⟩ := ldcSVL X hx hZ hown w wS eT hS hk N hkeep I.1 hnot hh hcw ht hz hl0 (g := mkF m pc Ls St) rfl hd hn hbig hc hl
  refine Ends.go st (kk a T' h' k1 b k X' e' E' S' hk' Z' o' r1 r2 r3 r4 ⟨I', fun x hx => ?_⟩)
  rw [List.mem_singleton.mp hx]
  exact L'
theorem ow_ldcAgainI {vm0 : Vm} (X : Stand p l e R (s.setVm vm0) m args below meth c T locs cells slots) (hx : p.tables.exec = Jvm.exec) (hZ : Z.Warmed39 (s.setVm vm0).vm) {own text : String} {index : Nat} (hown : (s.setVm vm0).vm.findClass own = some m.cls) (w : (Jvm.Cond.stringLink own index text).before a0 Z = true) {Ts : List String} {Bs : List (String × Nat × Addr)} (I : LT Z Ts Bs (s.setVm vm0).vm) {a : Addr} (hb : (own, index, a) ∈ Bs) {pc pc' : Nat} {Ls : Array Slot} {St : List Value} (hd : decode c.code pc = .ok (.ldc index, 2)) (hp : pc + 2 = pc')
    (kk : Ends p e below Q T (mkF m pc' Ls (.ref a :: St))) : Ends p e below Q T (mkF m pc Ls St) := by
  subst hp
  exact Ends.go (ldcAgain X hx hZ hown w (show Lit (s.setVm vm0) own index a from I.2 _ hb) (g := mkF m pc Ls St) rfl hd) kk
theorem ow_zk {n0 : Nat} {h' : Heap} {ws : List Addr} (hzk : ∀ (b : Addr) (cl : Cell), Z.heap[b]? = some cl → h[b]? = some cl) (hzn : Z.heap.size ≤ n0) (K : Keep h h' ws) (g : ∀ x ∈ ws, n0 ≤ x) : ∀ (b : Addr) (cl : Cell), Z.heap[b]? = some cl → h'[b]? = some cl := fun b cl q => K.2.1 b cl (hzk b cl q) (fun w => by
  have h1 := g b w
  have h2 := (Array.getElem?_eq_some_iff.mp q).1
  exact absurd (Nat.lt_of_lt_of_le h2 (Nat.le_trans hzn h1)) (Nat.lt_irrefl _))
def QN (h0 : Heap) (v : Option Value) (h : Heap) (L : List Loc) : Prop := v = none ∧ L = [] ∧ h = h0
theorem ow_staKeep {C n d : String} {v : Value} {h' : Heap} {ws : List Addr} (F : Sta Z h C n d v) (K : Keep h h' ws) (q : ∀ x ∈ ws, ∀ c : Cell, h[x]? = some c → c.vm.isStatics = false) : Sta Z h' C n d v := by
  obtain ⟨cf, i, k, f, st, cell, h1, h2, h3, h4, h5, h6, h7⟩ := F
  exact ⟨cf, i, k, f, st, cell, h1, h2, h3, h4, K.2.1 st cell h5 (fun w => by rw [q st w cell h5] at h6; cases h6), h6, h7⟩
theorem ow_exaNs {a : Addr} {C : String} (F : Exa Z h a C) : ∀ c : Cell, h[a]? = some c → c.vm.isStatics = false := fun c hc => by
  obtain ⟨cell, k, h1, -, -, h4, -⟩ := F
  cases h1.symm.trans hc
  exact h4
theorem ow_arvNs {a : Addr} {k : ClassId} {ty : FieldType} {n : Int32} {vs : List Value} {d : Value} (F : Arv Z h a k ty n vs d) : ∀ c : Cell, h[a]? = some c → c.vm.isStatics = false := fun c hc => by
  obtain ⟨cell, A, -⟩ := F
  cases A.1.symm.trans hc
  exact A.plain
theorem ow_narY {z : Int32} (q : -128 ≤ z.toInt ∧ z.toInt < 128) : nar .byte z = z := by
  apply Int32.toInt_inj.mp
  have h1 : (nar .byte z).toInt = (z.toInt8.toInt32).toInt := rfl
  have h2 := c_i2b z
  rw [h1]
  omega
theorem ow_narC {z : Int32} (q : 0 ≤ z.toInt ∧ z.toInt < 65536) : nar .char z = z := by
  apply Int32.toInt_inj.mp
  have h1 : (nar .char z).toInt = (z.toUInt32.toUInt16.toUInt32.toInt32).toInt := rfl
  have h2 := c_i2c z
  rw [h1]
  omega
theorem ow_nar1 {z : Int32} (q : z = 0 ∨ z = 1) : nar .boolean z = z := by rcases q with rfl | rfl <;> rfl
theorem ow_eq {x y : Int32} (q : x.toInt = y.toInt) : x = y := Int32.toInt_inj.mp q
theorem ow_lt {x y : Int32} (q : x.toInt < y.toInt) : x < y := Int32.lt_iff_toInt_lt.mpr q
theorem ow_nlt {x y : Int32} (q : ¬ x.toInt < y.toInt) : ¬ x < y := fun w => q (Int32.lt_iff_toInt_lt.mp w)
end Own

/-- the content of an array of numbers, place by place -/
def BN : Nat := 16
theorem BN_eq : BN = 16 := rfl
def BL (f : Nat → Int32) : List Value := (List.range BN).map fun i => Value.int (f i)
def upd (f : Nat → Int32) (i : Nat) (v : Int32) : Nat → Int32 := fun j => if j = i then v else f j
theorem BL_len (f : Nat → Int32) : (BL f).length = 16 := by unfold BL; rw [List.length_map, List.length_range, BN_eq]
theorem BL_at (f : Nat → Int32) (j : Nat) : (BL f)[j]? = if j < 16 then some (.int (f j)) else none := by
  unfold BL
  rw [List.getElem?_map]
  by_cases q : j < 16
  · rw [List.getElem?_range (by rw [BN_eq]; exact q), if_pos q]; rfl
  · rw [List.getElem?_eq_none (by rw [List.length_range, BN_eq]; omega), if_neg q]; rfl
theorem BL_get (f : Nat → Int32) (j : Nat) (hj : j < 16) (d : Value) : (BL f).getD j d = .int (f j) := by
  rw [List.getD_eq_getElem?_getD, BL_at, if_pos hj]; rfl
theorem BL_set (f : Nat → Int32) (i : Nat) (v : Int32) : (BL f).set i (.int v) = BL (upd f i v) := by
  apply List.ext_getElem?
  intro j
  rw [List.getElem?_set, BL_at, BL_at, BL_len]
  unfold upd
  by_cases q : i = j
  · subst q
    by_cases r : i < 16
    · rw [if_pos rfl, if_pos r, if_pos r, if_pos rfl]
    · rw [if_pos rfl, if_neg r, if_neg r]
  · rw [if_neg q, if_neg (fun w : j = i => q w.symm)]
theorem BL_zero (i : Nat) : (BL fun _ => 0).getD i (.int 0) = ([] : List Value).getD i (.int 0) := by
  rw [List.getD_eq_getElem?_getD, BL_at]
  by_cases q : i < 16
  · rw [if_pos q]; rfl
  · rw [if_neg q]; rfl
theorem BL_of (l : List Int32) (hl : l.length ≤ 16) (i : Nat) : (BL fun j => l.getD j 0).getD i (.int 0) = (l.map Value.int).getD i (.int 0) := by
  simp only [List.getD_eq_getElem?_getD, BL_at, List.getElem?_map]
  by_cases q : i < 16
  · rw [if_pos q]; cases l[i]? <;> rfl
  · rw [if_neg q, List.getElem?_eq_none (by omega)]; rfl
theorem upd_same (f : Nat → Int32) (i : Nat) (v : Int32) : upd f i v i = v := if_pos rfl
theorem upd_other (f : Nat → Int32) (i j : Nat) (v : Int32) (h : j ≠ i) : upd f i v j = f j := if_neg h

/-- the byte x is the low (high) byte of the char u -/
def Lo (x u : Int32) : Prop := (x.toInt - u.toInt) % 256 = 0 ∧ -128 ≤ x.toInt ∧ x.toInt < 128
def Hi (x u : Int32) : Prop := (x.toInt - u.toInt / 256) % 256 = 0 ∧ -128 ≤ x.toInt ∧ x.toInt < 128
def LatF (n : Int) (fb f : Nat → Int32) : Prop := ∀ i : Int, 0 ≤ i → i < n → Lo (fb i.toNat) (f i.toNat)
def UtfF (n : Int) (fb f : Nat → Int32) : Prop := ∀ i : Int, 0 ≤ i → i < n → Lo (fb (2 * i).toNat) (f i.toNat) ∧ Hi (fb (2 * i + 1).toNat) (f i.toNat)
def Rng (f : Nat → Int32) : Prop := ∀ i : Nat, 0 ≤ (f i).toInt ∧ (f i).toInt ≤ 65535
def Sml (f : Nat → Int32) : Prop := ∀ i : Nat, (f i).toInt ≤ 255
theorem LatF.nil {fb f : Nat → Int32} {n : Int} (h : n ≤ 0) : LatF n fb f := fun i h0 h1 => absurd h1 (by omega)
theorem UtfF.nil {fb f : Nat → Int32} {n : Int} (h : n ≤ 0) : UtfF n fb f := fun i h0 h1 => absurd h1 (by omega)
theorem LatF.step {fb f : Nat → Int32} {k n : Int} {j : Nat} {v : Int32} (h : LatF k fb f) (hk : 0 ≤ k) (hn : n = k + 1) (hj : j = k.toNat) (hv : Lo v (f k.toNat)) : LatF n (upd fb j v) f := fun i h0 h1 => by
  subst hj
  by_cases q : i = k
  · rw [q, upd_same]; exact hv
  · rw [upd_other _ _ _ _ (by omega)]; exact h i h0 (by omega)
theorem UtfF.step {fb f : Nat → Int32} {k n : Int} {a b : Int32} (h : UtfF k fb f) (hk : 0 ≤ k) (hn : n = k + 1) (ha : Lo a (f k.toNat)) (hb : Hi b (f k.toNat)) : UtfF n (upd (upd fb (2 * k).toNat a) (2 * k + 1).toNat b) f := fun i h0 h1 => by
  by_cases q : i = k
  · rw [q, upd_other _ _ (2 * k).toNat _ (by omega), upd_same, upd_same]; exact ⟨ha, hb⟩
  · rw [upd_other _ _ (2 * i).toNat _ (by omega), upd_other _ _ (2 * i).toNat _ (by omega), upd_other _ _ (2 * i + 1).toNat _ (by omega), upd_other _ _ (2 * i + 1).toNat _ (by omega)]; exact h i h0 (by omega)
theorem ow_or8 (x y : Int32) (hx : 0 ≤ x.toInt ∧ x.toInt ≤ 255) (hy : 0 ≤ y.toInt ∧ y.toInt ≤ 65280 ∧ y.toInt % 256 = 0) : (x ||| y).toInt = x.toInt + y.toInt := by
  have ex : x = Int32.ofNat x.toInt.toNat := by
    apply Int32.toInt_inj.mp
    have q : (Int32.ofNat x.toInt.toNat).toInt = (x.toInt.toNat : Int) := len_toInt (by omega)
    omega
  have ey : y = Int32.ofNat y.toInt.toNat := by
    apply Int32.toInt_inj.mp
    have q : (Int32.ofNat y.toInt.toNat).toInt = (y.toInt.toNat : Int) := len_toInt (by omega)
    omega
  have hn : x.toInt.toNat ||| y.toInt.toNat = x.toInt.toNat + y.toInt.toNat := by
    have q := Nat.two_pow_add_eq_or_of_lt (i := 8) (b := x.toInt.toNat) (show x.toInt.toNat < 2 ^ 8 by omega) (y.toInt.toNat / 256)
    have e : 2 ^ 8 * (y.toInt.toNat / 256) = y.toInt.toNat := by omega
    rw [e] at q
    rw [Nat.or_comm, ← q, Nat.add_comm]
  have ho : x ||| y = Int32.ofNat (x.toInt.toNat ||| y.toInt.toNat) := by
    conv => lhs; rw [ex, ey]
    exact Int32.toBitVec_inj.mp (by rw [Int32.toBitVec_or, Int32.toBitVec_ofNat', Int32.toBitVec_ofNat', Int32.toBitVec_ofNat', BitVec.ofNat_or])
  rw [ho, hn]
  have q : (Int32.ofNat (x.toInt.toNat + y.toInt.toNat)).toInt = ((x.toInt.toNat + y.toInt.toNat : Nat) : Int) := len_toInt (by omega)
  omega

/-- o is a String of the n chars f -/
def StrIs (Z : State) (h : Heap) (o : Addr) (n : Int32) (f : Nat → Int32) : Prop := ∃ (oa : Addr) (ka : ClassId) (pm : Int32) (fb : Nat → Int32), Fld Z h o "java/lang/String" "value" "[B" (.ref oa) ∧ Arv Z h oa ka (.byte) pm (BL fb) (.int (0 : Int32)) ∧ ((Fld Z h o "java/lang/String" "coder" "B" (.int (0 : Int32)) ∧ pm.toInt = n.toInt ∧ LatF n.toInt fb f ∧ Sml f) ∨ (Fld Z h o "java/lang/String" "coder" "B" (.int (1 : Int32)) ∧ pm.toInt = 2 * n.toInt ∧ UtfF n.toInt fb f))
theorem StrIs.keep {Z : State} {h h' : Heap} {o : Addr} {n : Int32} {f : Nat → Int32} (q : StrIs Z h o n f) (K : Keep h h' []) : StrIs Z h' o n f := by
  obtain ⟨oa, ka, pm, fb, F, A, q⟩ := q
  refine ⟨oa, ka, pm, fb, F.keep K nin0, A.keep K nin0, ?_⟩
  rcases q with ⟨q1, q2⟩ | ⟨q1, q2⟩
  · exact Or.inl ⟨q1.keep K nin0, q2⟩
  · exact Or.inr ⟨q1.keep K nin0, q2⟩

section OwnLam
open Jvm.Lambda
variable {p : Program} {l : Launch} {e : Env} {R : Room} {s : State} {m : MethodId} {args : Array Value} {below : List Frame} {meth : Method} {c : Code} {T : State} {locs : List Loc} {cells slots : Nat} {Q : Outcome → State → Prop} {Z : State} {a0 : Array Value} {h : Heap}
/-- what the site's word says at the start -/
theorem ow_lamZ {x : MethodName} {pc index : Nat} {σ : Lambda.Shape} (hl : (Jvm.Cond.lambdaSite x pc index σ).before a0 Z = true) (hc : σ.captured = []) :
    ∃ (a : Addr) (cK : ClassId) (mD : MethodId) (kD : Class) (i0 p0 : Nat), Z.methodNamed? x = some mD ∧ Z.vm.classes[mD.cls]? = some kD ∧ (kD.callSites.find? fun y => y.1 == mD.idx && y.2.1 == pc) = some (i0, p0, .constant a) ∧ LamKit.Made Z x.cls σ cK ∧ LamKit.FnAt Z.heap a cK := by
  obtain ⟨cK, one, hat⟩ := Cond.lambdaSite_spec hl
  obtain ⟨mD, kD, cfD, i0, p0, lk, hmD, hkD, -, -, -, hfind, hmade, hcan, hq⟩ := State.lambdaAt?_spec hat
  obtain ⟨kD', hkD', hnameD⟩ := className_of_methodNamed hmD
  cases hkD.symm.trans hkD'
  rcases hq with ⟨a, cell, rfl, -, -, hcell, hcls, hvm, -⟩ | ⟨-, -, hne⟩
  · exact ⟨a, cK, mD, kD, i0, p0, hmD, hkD, hfind, ⟨_, kD, hkD, hnameD, hmade, hcan⟩, ⟨cell, hcell, hcls, hvm⟩⟩
  · exact absurd hc hne
/-- invokedynamic at the site: the one object -/
theorem ow_indy (X : Stand p l e R s m args below meth c T locs cells slots) (hx : p.tables.exec = Jvm.exec) (hZ : Z.Warmed39 s.vm) {x : MethodName} (hnamed : s.methodNamed? x = some m) {pc pc' index i0 p0 : Nat} {mD : MethodId} {kD : Class} {a : Addr} (h1 : Z.methodNamed? x = some mD) (h2 : Z.vm.classes[mD.cls]? = some kD) (h3 : (kD.callSites.find? fun y => y.1 == mD.idx && y.2.1 == pc) = some (i0, p0, .constant a))
    {Ls : Array Slot} {St : List Value} (hsize : Ls.size = c.maxLocals) {W : Nat} (hW : (St.map fun v => v.category).sum ≤ W) (hlo : W + 3072 ≤ R.locals) (hd : decode c.code pc = .ok (.invokedynamic index, 5)) (hp : pc + 5 = pc') (kk : Ends p e below Q T (mkF m pc' Ls (.ref a :: St))) : Ends p e below Q T (mkF m pc Ls St) := by
  subst hp
  have hm : m = mD := by
    have q : (Z.setVm s.vm).methodNamed? x = some mD := by rw [State.methodNamed?_setVm hZ.alike]; exact h1
    exact Option.some.inj ((show (Z.setVm s.vm).methodNamed? x = some m from hnamed).symm.trans q)
  subst hm
  obtain ⟨k', hk', he⟩ := hZ.alike.2.2 _ _ h2
  have hw : e.platform.lambdaLinkWords = 3072 := by rw [X.admits.platform]
  exact Ends.go (fun _ q => X.lambdaConstant hx (g := mkF m pc Ls St) rfl hsize hd hk' (by rw [he]; exact h3) (by rw [hw]; show 2 * 0 + (St.map fun v => v.category).sum + 3072 ≤ _; omega) q) kk
theorem ow_mready {vm : Vm} (hW : Z.Warmed39 vm) {k : ClassId} {i : Nat} {t : MethodId} (q : Z.vm.methodReady k i t) : vm.methodReady k i t := by
  obtain ⟨kc, hk, hr⟩ := q
  obtain ⟨k', hk', -, -, ee, -⟩ := hW.2.2.2 k kc hk
  rcases ee i with e0 | ⟨hop, -⟩
  · exact ⟨k', hk', e0.trans hr⟩
  · rw [hr] at hop; cases hop
theorem ow_cready {vm : Vm} (hW : Z.Warmed39 vm) {k : ClassId} {i : Nat} {t : ClassId} (q : Z.vm.classReady k i t) : vm.classReady k i t := by
  obtain ⟨kc, hk, hr⟩ := q
  obtain ⟨k', hk', -, -, ee, -⟩ := hW.2.2.2 k kc hk
  rcases ee i with e0 | ⟨hop, -⟩
  · exact ⟨k', hk', e0.trans hr⟩
  · rw [hr] at hop; cases hop
/-- back in the caller's frame, behind a callee that may have interned -/
theorem ow_outW (X : Stand p l e R s m args below meth c T locs cells slots) {g : JFrame} (hg : g.method = m) {ig : Instr} {len : Nat} (hdg : decode c.code g.pc = .ok (ig, len)) {mk : MethodId} {a : Array Value} {t : State} {v : Option Value} {L : List Loc} {k n : Nat}
    (hend : Ended t (.java g :: below) (.returned v)) (hE : ReturnedEndW (T.calling g mk a) (.returned v) t L k n) :
    ∃ T', Stand p l e R (s.setVm T'.vm) m args below meth c T' (locs ++ L) (cells + k) (slots + n) ∧ s.Since T'.vm T'.heap.size ∧ T.heap.size ≤ T'.heap.size ∧ T'.heap = t.heap ∧ T'.vm = t.vm ∧ t = T'.setTop { g with pc := g.pc + len, stack := v.toList ++ g.stack } := by
  subst hg
  obtain ⟨-, hW, hB, e2, q2, q3, q4, q5, q6⟩ := hE
  have hW' : T.Warmed39 t.vm := hW
  have e3 : t = ({ (T.calling g mk a).setFrames t.frames with heap := t.heap, slotsUsed := t.slotsUsed } : State).setVm t.vm := by
    have q : t = ({ t with vm := (T.calling g mk a).vm } : State).setVm t.vm := rfl
    rw [e2] at q
    exact q
  obtain ⟨c2, i2, len2, hc2, hd2, hf2⟩ := hend
  have hcc : c2 = c := by
    have q : t.code? g.method = T.code? g.method := by rw [State.code?_eq, State.code?_eq, hW'.alike.method?]
    exact Option.some.inj (hc2.symm.trans (q.trans X.here.code))
  subst hcc
  have hlen : len2 = len := by rw [hdg] at hd2; cases hd2; rfl
  subst hlen
  obtain ⟨g0, hr⟩ := X.frames_eq
  have ht : t = (({ T with heap := t.heap, slotsUsed := t.slotsUsed } : State).setVm t.vm).setTop { g with pc := g.pc + len2, stack := v.toList ++ g.stack } := by
    have hr' : (({ T with heap := t.heap, slotsUsed := t.slotsUsed } : State).setVm t.vm).frames = .java g0 :: below := hr
    refine e3.trans ?_
    rw [hf2, State.calling_eq X.here.top, State.setFrames_setFrames, State.setTop_of_frames _ hr']
    rfl
  have hsame : T.sameButNew ({ T with heap := t.heap, slotsUsed := t.slotsUsed } : State) L k n := by
    refine ⟨?_, q2, q3, q4, q5, q6⟩
    obtain ⟨th, hth, -⟩ := State.frames_cons hr
    show ({ T with heap := t.heap, slotsUsed := t.slotsUsed } : State) = { T.setFrames T.frames with heap := t.heap, slotsUsed := t.slotsUsed }
    rw [State.setFrames_self hth]
  obtain ⟨X', hS⟩ := X.movedW (T₂ := (({ T with heap := t.heap, slotsUsed := t.slotsUsed } : State).setVm t.vm)) ((X.here.setHeapUsed t.heap t.slotsUsed).setVm hW'.alike) X.tail rfl rfl hW' hB hsame
  exact ⟨_, X', hS, q2, rfl, rfl, ht⟩
theorem ow_callLam {vm0 : Vm} (X : Stand p l e R (s.setVm vm0) m args below meth c T locs cells slots) (hx : p.tables.exec = Jvm.exec) (hZ : Z.Warmed39 (s.setVm vm0).vm) {own host : String} {index count : Nat} {xi y : MethodName} {σ : Lambda.Shape} {bytes : ByteArray} {maxL : Nat} {ret : Option FieldType} (hown : (s.setVm vm0).vm.findClass own = some m.cls)
    (wl : (Jvm.Cond.methodLink own index xi).before a0 Z = true) (wd : (Jvm.Cond.declares xi).before a0 Z = true) (wf : (Jvm.Cond.interfaceMethod xi.cls xi.cls xi.name xi.desc).before a0 Z = true) (wst : (Jvm.Cond.static y).before a0 Z = true) (wi : (Jvm.Cond.initialized y.cls).before a0 Z = true) (wc : (Jvm.Cond.code y bytes maxL ret).before a0 Z = true)
    (hxi : xi.cls = σ.iface ∧ xi.name = σ.name ∧ xi.desc = σ.sam.toString) (hyσ : y.cls = σ.implClass ∧ y.name = σ.implName ∧ y.desc = σ.implDesc.toString) (hp1 : xi.cls ≠ "java/lang/invoke/MethodHandle" ∧ xi.cls ≠ "java/lang/invoke/VarHandle") (hp2 : y.cls ≠ "java/lang/invoke/MethodHandle" ∧ y.cls ≠ "java/lang/invoke/VarHandle")
    {cK : ClassId} {a : Addr} (hmd : LamKit.Made Z host σ cK) (hfn : LamKit.FnAt h a cK) {fcode : ByteArray} {idx ci : Nat} (hok : LamKit.fwdOK σ host fcode 2 (some .boolean) idx ci = true)
    (hd0 : decode fcode 0 = .ok (.iload_n 1, 1)) (hd1 : decode fcode 1 = .ok (.invokestatic idx, 3)) (hd4 : decode fcode 4 = .ok (.ireturn, 1))
    {rm : Room} {z : Int32} {Iv : Vm → Prop} {Qc : Option Value → Heap → List Loc → Vm → Prop} (hM : MetFree l y (head1 [Jvm.Cond.code y bytes maxL ret] rm) (fun a U => a = #[.int z] ∧ Z.Warmed39 U.vm ∧ U.heap = h ∧ Iv U.vm) (fun _ _ _ _ _ => True) (fun _ U o U' => ∃ v L, o = .returned v ∧ Qc v U'.heap L U'.vm ∧ ReturnedEndW U o U' L rm.cells rm.slots))
    (hbool : ∀ v h' L vm', Qc v h' L vm' → ∃ w : Int32, v = some (.int w) ∧ nar .boolean w = w)
    (hI : ∀ vm₁, (s.setVm vm0).WarmedH vm₁ → Iv vm₁) {k0 : Nat} (hS : s.Since vm0 k0) (hk : k0 ≤ h.size) (eT : T.heap = h) (W : Nat) (hf : rm.frames + 2 ≤ R.frames) (hl : W + (2 + 11) + ((maxL + 11) + rm.locals) ≤ R.locals) (hce : cells + rm.cells ≤ R.cells) (hsl : slots + rm.slots ≤ R.slots)
    {pc pc' : Nat} {Ls : Array Slot} {rest : List Value} (hsize : Ls.size = c.maxLocals) {ps ps' : List FieldType} {rt rt' : Option FieldType} (hdx : parseMethodDescriptor xi.desc = some ⟨ps, rt⟩) (hlx : 1 = ps.length) (hdy : parseMethodDescriptor y.desc = some ⟨ps', rt'⟩) (hly : 1 = ps'.length) (hW : (rest.map fun v => v.category).sum ≤ W)
    (hd : decode c.code pc = .ok (.invokeinterface index count, 5)) (hp : pc + 5 = pc')
    (kk : ∀ (v : Option Value) (T' : State) (L' : List Loc), Qc v T'.heap L' T'.vm → Stand p l e R (s.setVm T'.vm) m args below meth c T' (locs ++ L') (cells + rm.cells) (slots + rm.slots) → s.Since T'.vm T'.heap.size → Z.Warmed39 (s.setVm T'.vm).vm → (s.setVm T'.vm).vm.findClass own = some m.cls → Ends p e below Q T' (mkF m pc' Ls (v.toList ++ rest))) : Ends p e below Q T (mkF m pc Ls (.int z :: .ref a :: rest)) := by
  subst hp
  obtain ⟨cell, hcell, rfl, hvmc⟩ := hfn
  obtain ⟨kK, methk, hkK, hmk, hpub, habs, hsel⟩ := LamKit.madeSelects (args := a0) hmd hok wf hxi
  obtain ⟨d, dk, hdd, hdn, hmade, -⟩ := id hmd
  obtain ⟨k1, tk, file, methk1, ck, toy, t, nt, hk1, hpn, hfile, hidx, hnt, hmk1, hck, hbytes, hml, hlk, -, hretk, htoy, htk, hlook, hready, hclsR⟩ := LamKit.made_static hok hdd hdn hmade
  cases hkK.symm.trans hk1
  cases hmk.symm.trans hmk1
  have hA : Z.vm.Alike vm0 := hZ.alike
  -- the interface's method
  obtain ⟨r0, r, hn, hrm, hstR, hsigR⟩ := Cond.declares_spec wd
  obtain ⟨cL, kL, r1, hcL, hkL, hiL, -, -⟩ := Cond.interfaceMethod_spec wf
  have hr0 : r0.cls = cL := Option.some.inj ((findClass_of_methodNamed hn).symm.trans hcL)
  obtain ⟨hasg, hsel', hway⟩ := hsel r0 r hn hrm
  obtain ⟨kL', hkL', heL⟩ := hA.2.2 _ _ hkL
  obtain ⟨kK', hkK', heK⟩ := hA.2.2 _ _ hkK
  have hn' : (s.setVm vm0).methodNamed? xi = some r0 := by
    have q : (Z.setVm vm0).methodNamed? xi = some r0 := by rw [State.methodNamed?_setVm hA]; exact hn
    exact q
  obtain ⟨vm₁, X₁, st1⟩ := X.invokeinterface hx hown (mvT hZ wl) hn' (show vm0.method? r0 = some r by rw [hA.method?]; exact hrm) hstR (show vm0.classes[r0.cls]? = some kL' by rw [hr0]; exact hkL') (by rw [heL]; exact hiL) hp1 (a := a) (cell := cell) (kcell := kK') (by rw [eT]; exact hcell) (fun q w => by rw [hvmc] at w; cases w) hkK' (show vm0.assignable _ _ = true by rw [hA.assignable]; exact hasg)
    (m' := ⟨cell.cls, 1⟩) (meth' := methk) (by rw [Launch.admits_selectMethod X.admits]; show selectMethod {} vm0 _ _ = _; rw [hA.selectMethod]; exact hsel') (show vm0.method? _ = _ by rw [hA.method?]; exact hmk) (by
      show ((cell.cls :: vm0.superclasses cell.cls).any fun k => (declaredIn vm0 r.name r.desc k).any fun (_, y) => y.isPrivate || y.isStatic) = false
      simp only [hA.superclasses, hA.declaredIn]; exact hway) hpub habs (g := mkF m pc Ls (.int z :: .ref a :: rest)) rfl (argsL := [.int z]) (rest := rest) (by rw [show r.sig = ⟨ps, rt⟩ from Option.some.inj (hsigR.symm.trans hdx)]; exact hlx) rfl hd
  have hW1 : Z.Warmed39 (T.setVm vm₁).vm := wtrans hZ X₁.warmed
  have hA1 : Z.vm.Alike vm₁ := hW1.alike
  have hpk : (T.setVm vm₁).plainMethod ⟨cell.cls, 1⟩ := State.plainMethod.of_name (fun k' hk' => by
    obtain ⟨k2, h2, e2⟩ := hA1.2.2 _ _ hkK
    cases (show vm₁.classes[cell.cls]? = some k' from hk').symm.trans h2
    rw [e2]; exact hpn)
  obtain ⟨Y₀, hin⟩ := X₁.into (g := mkF m pc Ls rest) rfl hsize hd #[.ref a, .int z] (R' := { frames := rm.frames + 1, cells := rm.cells, slots := rm.slots, locals := (maxL + 11) + rm.locals }) (show vm₁.method? ⟨cell.cls, 1⟩ = some methk by rw [hA1.method?]; exact hmk) hck hlk hpk (by show rm.frames + 1 + 1 ≤ _; omega) (by rw [hml]; show 2 * 0 + (rest.map fun v => v.category).sum + (2 + 11) + (maxL + 11 + rm.locals) ≤ _; omega) hce hsl
  have hef : entryFrame ⟨cell.cls, 1⟩ #[.ref a, .int z] ck.maxLocals = mkF ⟨cell.cls, 1⟩ 0 #[.val (.ref a), .val (.int z)] [] := by rw [hml]; rfl
  rw [hef] at Y₀ hin
  generalize hU : ((T.setVm vm₁).setTop (mkF m pc Ls rest)).pushFrame (.java (mkF ⟨cell.cls, 1⟩ 0 #[.val (.ref a), .val (.int z)] [])) = U at Y₀ hin
  have hvmU : U.vm = vm₁ := by rw [← hU]; rfl
  have hhU : U.heap = h := by rw [← hU]; exact eT
  generalize hs' : (T.setVm vm₁).calling (mkF m pc Ls rest) ⟨cell.cls, 1⟩ #[.ref a, .int z] = s' at Y₀
  have hvm' : s'.vm = vm₁ := by rw [← hs']; rfl
  -- the target
  obtain ⟨mT, hmT⟩ := Cond.code_named wc
  obtain ⟨methT, cT, hmethT, -, -, -, -, -, -, hsigT⟩ := Cond.code_spec hmT wc
  have hstT : methT.isStatic = true := Cond.static_spec hmT hmethT wst
  obtain ⟨kT, hkT, hnameT⟩ := className_of_methodNamed hmT
  have hfT : Z.vm.findClass y.cls = some mT.cls := findClass_of_methodNamed hmT
  have hiT : kT.init = .initialized := Cond.initialized_spec hfT hkT wi
  obtain ⟨y1, y2, y3⟩ := hyσ
  have htoy' : toy = mT.cls := Option.some.inj (htoy.symm.trans (by rw [← y1]; exact hfT))
  subst htoy'
  have hteq : t = mT := by
    have q : Z.methodFound? y.cls y.name y.desc = some mT := State.methodFound?_of_named hmT hp2
    rw [y1, y2, y3] at q
    simp only [State.methodFound?, htoy, htk, Option.bind_eq_bind, Option.bind_some] at q
    rw [hlook] at q
    exact Option.some.inj q
  subst hteq
  cases htk.symm.trans hkT
  obtain ⟨tk', htk', he'⟩ := hA1.2.2 _ _ htk
  have hsp : ∀ x : Method, signaturePolymorphic tk' x = false := fun x => by
    have q : tk'.name = y.cls := by rw [he']; exact hnameT
    simp [signaturePolymorphic, q, hp2.1, hp2.2]
  obtain ⟨kK1, hkK1, heK1⟩ := hA1.2.2 _ _ hkK
  obtain ⟨bq, hmem⟩ := memberRef_ask' (e := e) (vm := vm₁) (d := cell.cls) (index := idx) hkK1 (by rw [heK1]; exact hfile) (Or.inl hidx) hnt
  have hK := ow_backI (p := p) (e := e) (R := { frames := rm.frames + 1, cells := rm.cells, slots := rm.slots, locals := (maxL + 11) + rm.locals }) (s := s') (args := #[.ref a, .int z]) (below := .java (mkF m pc Ls rest) :: below) (len := 3) (W := 0) hM (by rw [hvm']; exact hW1) (fun v_ w_ => hI v_ (State.WarmedH.trans (show (s.setVm vm0).WarmedH s'.vm by rw [hvm']; exact X₁.warmed) w_)) wc wi (Nat.le_refl _) (by show 0 + (maxL + 11) + rm.locals ≤ (maxL + 11) + rm.locals; omega)
  have hnU : U.methodNamed? y = some t := by
    have q : (Z.setVm vm₁).methodNamed? y = some t := by rw [State.methodNamed?_setVm hA1]; exact hmT
    rw [← hU]; exact q
  obtain ⟨v, ⟨U', ls, cc, sl⟩, Y₁, hSS, hgr, ⟨Lc, hQ, l1, l2, l3⟩, hsteps⟩ := hK ⟨cell.cls, 1⟩ methk ck ⟨U, [], 0, 0⟩ (mkF ⟨cell.cls, 1⟩ 1 #[.val (.ref a), .val (.int z)] []) (.invokestatic idx) t #[.int z] Y₀ rfl (by rw [hml]; rfl) (by rw [hbytes]; exact hd1) (Nat.le_refl _) hnU ⟨rfl, hhU, by show 0 + rm.cells ≤ rm.cells; omega, by show 0 + rm.slots ≤ rm.slots; omega⟩
  dsimp only [Pt.U, Pt.locs, Pt.cells, Pt.slots] at Y₁ hSS hgr hQ l1 l2 l3 hsteps
  subst l1 l2 l3
  obtain ⟨w, rfl, hw⟩ := hbool _ _ _ _ hQ
  obtain ⟨fs, hr, hrun, hended, hE⟩ := Y₁.leaveW hSS (Nat.le_refl _) (v := some (.int (nar .boolean w))) (fun q => by rw [hretk] at q; cases q) hlk
  have hfin := retN Y₁ hx (t := .boolean) (Ls := #[.val (.ref a), .val (.int z)]) (rest := []) (pc := 4) hretk (by simp) (by rw [hbytes]; exact hd4) hr
  rw [hw] at hended hE
  subst hs'
  obtain ⟨T', X', hS', hg', e1, e2, ht⟩ := ow_outW X₁ (g := mkF m pc Ls rest) rfl hd hended hE
  obtain ⟨X2, S2, Z2, o2⟩ := rebS hS (show k0 ≤ (T.setVm vm₁).heap.size from eT ▸ hk) X' hS' hg' hZ hown
  simp only [Nat.zero_add, List.nil_append] at X2
  have hQ' : Qc (some (.int w)) T'.heap ls T'.vm := by rw [e1, e2]; exact hQ
  refine Ends.thru ?_ (kk _ T' ls hQ' X2 S2 Z2 o2)
  refine st1 _ fun acts => ?_
  rw [hin acts]
  show Steps p.tables e below _ (T'.setTop { mkF m pc Ls rest with pc := pc + 5, stack := (some (Value.int w)).toList ++ rest })
  rw [← ht]
  refine Steps.weaken (mid := [.java (mkF m pc Ls rest)]) ?_
  refine XS.iloadN Y₀.here hx rfl (by rw [hbytes]; exact hd0) rfl ?_
  have hsU : U.topJava?.isSome := Y₀.here.top
  have hd1' : decode ck.code 1 = .ok (.invokestatic idx, 3) := by rw [hbytes]; exact hd1
  show Steps p.tables e ([.java (mkF m pc Ls rest)] ++ below) (U.setTop { method := ⟨cell.cls, 1⟩, pc := 1, locals := #[.val (.ref a), .val (.int z)], stack := [.int z], locked := none }) _
  jvm_step Y₀.here [hx, hd1', invokestatic.wp_ready (e := e) (s := U) (m := t) (k := tk') (meth := methT) (args := [.int z]) (rest := [])
    (f := { method := ⟨cell.cls, 1⟩, pc := 1, locals := #[.val (.ref a), .val (.int z)], stack := [.int z], locked := none }) hsU ⟨ci, _, _, bq, t.cls, tk', by rw [hvmU]; exact hmem, by rw [hvmU]; exact ow_cready hW1 hclsR, by rw [hvmU]; exact htk', by simp [hsp]⟩ (by rw [hvmU]; exact ow_mready hW1 hready) (by rw [hvmU]; exact htk') (by rw [hvmU, hA1.method?]; exact hmethT) (hsp _) hstT (by rw [he']; exact hiT) (by rw [show methT.sig = ⟨ps', rt'⟩ from Option.some.inj (hsigT.symm.trans hdy)]; exact hly) (by simp)]
  intro acts'
  rw [doInvoke_state]
  refine hsteps.trans ?_
  simpa using hfin
end OwnLam

def OKc (x : Int) : Prop := (97 ≤ x ∧ x ≤ 122) ∨ (65 ≤ x ∧ x ≤ 90) ∨ (48 ≤ x ∧ x ≤ 57) ∨ x = 45 ∨ x = 46 ∨ x = 95 ∨ x = 126
abbrev ow_sh : Jvm.Lambda.Shape := (Jvm.Lambda.Shape.mk "com/example/inchworm/inchworm/store/HttpSyntax$CharTest" "test" (Jvm.ClassFile.MethodDescriptor.mk ([Jvm.ClassFile.FieldType.char] : List Jvm.ClassFile.FieldType) (Option.some Jvm.ClassFile.FieldType.boolean)) ([] : List Jvm.ClassFile.FieldType) (6 : Nat) "com/example/inchworm/inchworm/store/HttpSyntax" "isUnreserved" (Jvm.ClassFile.MethodDescriptor.mk ([Jvm.ClassFile.FieldType.char] : List Jvm.ClassFile.FieldType) (Option.some Jvm.ClassFile.FieldType.boolean)) false (Jvm.ClassFile.MethodDescriptor.mk ([Jvm.ClassFile.FieldType.char] : List Jvm.ClassFile.FieldType) (Option.some Jvm.ClassFile.FieldType.boolean)))
abbrev ow_fc : ByteArray := ⟨#[0x1b, 0xb8, 0x00, 0x11, 0xac]⟩
theorem ow_fok : LamKit.fwdOK ow_sh "com/example/inchworm/inchworm/store/HttpSyntax" ow_fc 2 (some .boolean) 17 14 = true := by decide +kernel
theorem ow_fd0 : decode ow_fc 0 = .ok (.iload_n 1, 1) := by decide +kernel
theorem ow_fd1 : decode ow_fc 1 = .ok (.invokestatic 17, 3) := by decide +kernel
theorem ow_fd4 : decode ow_fc 4 = .ok (.ireturn, 1) := by decide +kernel
theorem ow_fn {Z : State} {h : Heap} {a : Addr} {cK : ClassId} (q : LamKit.FnAt Z.heap a cK) (k : ∀ (b : Addr) (cl : Cell), Z.heap[b]? = some cl → h[b]? = some cl) : LamKit.FnAt h a cK := by
  obtain ⟨cell, h1, h2, h3⟩ := q
  exact ⟨cell, k _ _ h1, h2, h3⟩

theorem Rng_of {l : List Int32} (q : ∀ x ∈ l, 0 ≤ x.toInt ∧ x.toInt ≤ 65535) : Rng (fun j => l.getD j 0) := fun i => by
  show 0 ≤ (l.getD i 0).toInt ∧ (l.getD i 0).toInt ≤ 65535
  rw [List.getD_eq_getElem?_getD]
  cases w : l[i]? with
  | none => exact ⟨by decide, by decide⟩
  | some x => exact q x (List.mem_of_getElem? w)
theorem Sml_of {l : List Int32} (q : ∀ x ∈ l, x.toInt ≤ 255) : Sml (fun j => l.getD j 0) := fun i => by
  show (l.getD i 0).toInt ≤ 255
  rw [List.getD_eq_getElem?_getD]
  cases w : l[i]? with
  | none => decide
  | some x => exact q x (List.mem_of_getElem? w)

theorem d_jdk_43m23_0 : decode jdk_43_method_23_code 0 = .ok (.iload_n 1, 1) := by decide +kernel
theorem d_jdk_43m23_1 : decode jdk_43_method_23_code 1 = .ok (.i2b, 1) := by decide +kernel
theorem d_jdk_43m23_2 : decode jdk_43_method_23_code 2 = .ok (.istore 4, 2) := by decide +kernel
theorem d_jdk_43m23_4 : decode jdk_43_method_23_code 4 = .ok (.iload_n 2, 1) := by decide +kernel
theorem d_jdk_43m23_5 : decode jdk_43_method_23_code 5 = .ok (.istore 5, 2) := by decide +kernel
theorem d_jdk_43m23_7 : decode jdk_43_method_23_code 7 = .ok (.iload 5, 2) := by decide +kernel
theorem d_jdk_43m23_9 : decode jdk_43_method_23_code 9 = .ok (.iload_n 3, 1) := by decide +kernel
theorem d_jdk_43m23_10 : decode jdk_43_method_23_code 10 = .ok (.if_icmp .ge 21, 3) := by decide +kernel
theorem d_jdk_43m23_13 : decode jdk_43_method_23_code 13 = .ok (.aload_n 0, 1) := by decide +kernel
theorem d_jdk_43m23_14 : decode jdk_43_method_23_code 14 = .ok (.iload 5, 2) := by decide +kernel
theorem d_jdk_43m23_16 : decode jdk_43_method_23_code 16 = .ok (.baload, 1) := by decide +kernel
theorem d_jdk_43m23_17 : decode jdk_43_method_23_code 17 = .ok (.iload 4, 2) := by decide +kernel
theorem d_jdk_43m23_19 : decode jdk_43_method_23_code 19 = .ok (.if_icmp .ne 6, 3) := by decide +kernel
theorem d_jdk_43m23_22 : decode jdk_43_method_23_code 22 = .ok (.iload 5, 2) := by decide +kernel
theorem d_jdk_43m23_24 : decode jdk_43_method_23_code 24 = .ok (.ireturn, 1) := by decide +kernel
theorem d_jdk_43m23_25 : decode jdk_43_method_23_code 25 = .ok (.iinc 5 1, 3) := by decide +kernel
theorem d_jdk_43m23_28 : decode jdk_43_method_23_code 28 = .ok (.goto (-21), 3) := by decide +kernel
theorem d_jdk_43m23_31 : decode jdk_43_method_23_code 31 = .ok (.iconst (-1), 1) := by decide +kernel
theorem d_jdk_43m23_32 : decode jdk_43_method_23_code 32 = .ok (.ireturn, 1) := by decide +kernel
theorem ef_ixChar (m : MethodId) (x0 : Addr) (x1 : Int32) (x2 : Int32) (x3 : Int32) : entryFrame m #[(.ref x0), (.int x1), (.int x2), (.int x3)] 6 = mkF m 0 #[.val (.ref x0), .val (.int x1), .val (.int x2), .val (.int x3), .unset, .unset] [] := by first | (simp [entryFrame, mkF, argsToLocals, Value.category]; done) | rfl
theorem pn_0 : plainName "java/lang/StringLatin1" = true := by first | (simp [plainName, overriddenIn]; done) | decide +kernel
set_option maxRecDepth 65536 in
set_option maxHeartbeats 40000000 in
theorem rm_ixChar (l : Launch) (Z : State) (a0 : Array Value) (hw : ∀ d ∈ tables_1, d.before a0 Z = true) (ws : List Jvm.Cond) (oa : Addr) (pc : Int32) (pf : Int32) (pm : Int32) (ka : ClassId) (h0 : Heap) (V_a : Arv Z h0 oa ka (.byte) (4 : Int32) [(.int (45 : Int32)), (.int (46 : Int32)), (.int (95 : Int32)), (.int (126 : Int32))] (.int (0 : Int32))) (hpf : pf.toInt = 0) (hpm : pm.toInt = 4) (hc0 : 0 ≤ pc.toInt) (hc1 : pc.toInt ≤ 255) :
    MetFree l (⟨"java/lang/StringLatin1", "indexOfChar", "([BIII)I"⟩ : MethodName) (head1 (Jvm.Cond.code (⟨"java/lang/StringLatin1", "indexOfChar", "([BIII)I"⟩ : MethodName) jdk_43_method_23_code 6 (some .int) :: ws) ({ frames := 0, cells := 0, slots := 0, locals := 0 } : Room)) (fun a_ U_ => a_ = #[(.ref oa), (.int pc), (.int pf), (.int pm)] ∧ Z.Warmed39 U_.vm ∧ U_.heap = h0) (fun _ _ _ _ _ => True) (fun _ U_ o_ U_' => ∃ v_ L_, o_ = .returned v_ ∧ (QI (fun z => ((pc.toInt = 45 ∨ pc.toInt = 46 ∨ pc.toInt = 95 ∨ pc.toInt = 126) ∧ 0 ≤ z.toInt) ∨ (¬ (pc.toInt = 45 ∨ pc.toInt = 46 ∨ pc.toInt = 95 ∨ pc.toInt = 126) ∧ z.toInt = -1)) h0) v_ U_'.heap L_ ∧ FrameEnd U_ o_ U_' L_ 0 0) := by
  refine ow_body (plainFor_of_name pn_0) ?_
  intro p e s m below meth c T0 X0 hx hZ hby hml hown hnm hret hlk e0
  refine Ends.cast (ef_ixChar m oa pc pf pm) ?_
  have r_pc := rng32 pc
  have r_pf := rng32 pf
  have r_pm := rng32 pm
  obtain rfl : pf = (0 : Int32) := ow_eq hpf
  obtain rfl : pm = (4 : Int32) := ow_eq hpm
  clear r_pf r_pm
  refine ow_iloadN X0 hx (hb hby d_jdk_43m23_0) rfl (pc' := 1) rfl ?_
  refine ow_i2b X0 hx (hb hby d_jdk_43m23_1) (pc' := 2) rfl (fun z1 hz1 => ?_)
  have az1 : (z1.toInt - pc.toInt) % 256 = 0 ∧ -128 ≤ z1.toInt ∧ z1.toInt < 128 := by rw [hz1]; exact c_i2b pc
  have rz1 := rng32 z1
  refine ow_istore X0 hx (Ls' := #[.val (.ref oa), .val (.int pc), .val (.int (0 : Int32)), .val (.int (4 : Int32)), .val (.int z1), .unset]) (hb hby d_jdk_43m23_2) rfl (pc' := 4) rfl ?_
  refine ow_iloadN X0 hx (hb hby d_jdk_43m23_4) rfl (pc' := 5) rfl ?_
  refine ow_istore X0 hx (Ls' := #[.val (.ref oa), .val (.int pc), .val (.int (0 : Int32)), .val (.int (4 : Int32)), .val (.int z1), .val (.int (0 : Int32))]) (hb hby d_jdk_43m23_5) rfl (pc' := 7) rfl ?_
  refine ow_iload X0 hx (hb hby d_jdk_43m23_7) rfl (pc' := 9) rfl ?_
  refine ow_iloadN X0 hx (hb hby d_jdk_43m23_9) rfl (pc' := 10) rfl ?_
  refine ow_icmpN X0 hx (hb hby d_jdk_43m23_10) (by decide) (pc' := 13) rfl ?_
  refine ow_aloadN X0 hx (hb hby d_jdk_43m23_13) rfl rfl (pc' := 14) rfl ?_
  refine ow_iload X0 hx (hb hby d_jdk_43m23_14) rfl (pc' := 16) rfl ?_
  refine ow_ldB X0 hx hZ e0 V_a (by decide) (by decide) rfl (hb hby d_jdk_43m23_16) (pc' := 17) rfl ?_
  refine ow_iload X0 hx (hb hby d_jdk_43m23_17) rfl (pc' := 19) rfl ?_
  refine ow_icmp_ne X0 hx ((45 : Int)) (z1.toInt) (hb hby d_jdk_43m23_19) rfl rfl (by decide) (pt := 25) (by decide) (pf := 22) rfl (fun c19 => ?_) (fun c19 => ?_)
  · refine ow_iinc X0 hx (Ls' := #[.val (.ref oa), .val (.int pc), .val (.int (0 : Int32)), .val (.int (4 : Int32)), .val (.int z1), .val (.int (0 : Int32))]) (hb hby d_jdk_43m23_25) rfl (fun z => rfl) (pc' := 28) rfl (fun z2 hz2 => ?_)
    obtain rfl : z2 = (1 : Int32) := hz2.trans (by decide)
    show Ends _ _ _ _ T0 (mkF m 28 #[.val (.ref oa), .val (.int pc), .val (.int (0 : Int32)), .val (.int (4 : Int32)), .val (.int z1), .val (.int (1 : Int32))] [])
    refine ow_goto X0 hx (hb hby d_jdk_43m23_28) (by decide) (pc' := 7) (by decide) ?_
    refine ow_iload X0 hx (hb hby d_jdk_43m23_7) rfl (pc' := 9) rfl ?_
    refine ow_iloadN X0 hx (hb hby d_jdk_43m23_9) rfl (pc' := 10) rfl ?_
    refine ow_icmpN X0 hx (hb hby d_jdk_43m23_10) (by decide) (pc' := 13) rfl ?_
    refine ow_aloadN X0 hx (hb hby d_jdk_43m23_13) rfl rfl (pc' := 14) rfl ?_
    refine ow_iload X0 hx (hb hby d_jdk_43m23_14) rfl (pc' := 16) rfl ?_
    refine ow_ldB X0 hx hZ e0 V_a (by decide) (by decide) rfl (hb hby d_jdk_43m23_16) (pc' := 17) rfl ?_
    refine ow_iload X0 hx (hb hby d_jdk_43m23_17) rfl (pc' := 19) rfl ?_
    refine ow_icmp_ne X0 hx ((46 : Int)) (z1.toInt) (hb hby d_jdk_43m23_19) rfl rfl (by decide) (pt := 25) (by decide) (pf := 22) rfl (fun c19 => ?_) (fun c19 => ?_)
    · refine ow_iinc X0 hx (Ls' := #[.val (.ref oa), .val (.int pc), .val (.int (0 : Int32)), .val (.int (4 : Int32)), .val (.int z1), .val (.int (1 : Int32))]) (hb hby d_jdk_43m23_25) rfl (fun z => rfl) (pc' := 28) rfl (fun z3 hz3 => ?_)
      obtain rfl : z3 = (2 : Int32) := hz3.trans (by decide)
      show Ends _ _ _ _ T0 (mkF m 28 #[.val (.ref oa), .val (.int pc), .val (.int (0 : Int32)), .val (.int (4 : Int32)), .val (.int z1), .val (.int (2 : Int32))] [])
      refine ow_goto X0 hx (hb hby d_jdk_43m23_28) (by decide) (pc' := 7) (by decide) ?_
      refine ow_iload X0 hx (hb hby d_jdk_43m23_7) rfl (pc' := 9) rfl ?_
      refine ow_iloadN X0 hx (hb hby d_jdk_43m23_9) rfl (pc' := 10) rfl ?_
      refine ow_icmpN X0 hx (hb hby d_jdk_43m23_10) (by decide) (pc' := 13) rfl ?_
      refine ow_aloadN X0 hx (hb hby d_jdk_43m23_13) rfl rfl (pc' := 14) rfl ?_
      refine ow_iload X0 hx (hb hby d_jdk_43m23_14) rfl (pc' := 16) rfl ?_
      refine ow_ldB X0 hx hZ e0 V_a (by decide) (by decide) rfl (hb hby d_jdk_43m23_16) (pc' := 17) rfl ?_
      refine ow_iload X0 hx (hb hby d_jdk_43m23_17) rfl (pc' := 19) rfl ?_
      refine ow_icmp_ne X0 hx ((95 : Int)) (z1.toInt) (hb hby d_jdk_43m23_19) rfl rfl (by decide) (pt := 25) (by decide) (pf := 22) rfl (fun c19 => ?_) (fun c19 => ?_)
      · refine ow_iinc X0 hx (Ls' := #[.val (.ref oa), .val (.int pc), .val (.int (0 : Int32)), .val (.int (4 : Int32)), .val (.int z1), .val (.int (2 : Int32))]) (hb hby d_jdk_43m23_25) rfl (fun z => rfl) (pc' := 28) rfl (fun z4 hz4 => ?_)
        obtain rfl : z4 = (3 : Int32) := hz4.trans (by decide)
        show Ends _ _ _ _ T0 (mkF m 28 #[.val (.ref oa), .val (.int pc), .val (.int (0 : Int32)), .val (.int (4 : Int32)), .val (.int z1), .val (.int (3 : Int32))] [])
        refine ow_goto X0 hx (hb hby d_jdk_43m23_28) (by decide) (pc' := 7) (by decide) ?_
        refine ow_iload X0 hx (hb hby d_jdk_43m23_7) rfl (pc' := 9) rfl ?_
        refine ow_iloadN X0 hx (hb hby d_jdk_43m23_9) rfl (pc' := 10) rfl ?_
        refine ow_icmpN X0 hx (hb hby d_jdk_43m23_10) (by decide) (pc' := 13) rfl ?_
        refine ow_aloadN X0 hx (hb hby d_jdk_43m23_13) rfl rfl (pc' := 14) rfl ?_
        refine ow_iload X0 hx (hb hby d_jdk_43m23_14) rfl (pc' := 16) rfl ?_
        refine ow_ldB X0 hx hZ e0 V_a (by decide) (by decide) rfl (hb hby d_jdk_43m23_16) (pc' := 17) rfl ?_
        refine ow_iload X0 hx (hb hby d_jdk_43m23_17) rfl (pc' := 19) rfl ?_
        refine ow_icmp_ne X0 hx ((126 : Int)) (z1.toInt) (hb hby d_jdk_43m23_19) rfl rfl (by decide) (pt := 25) (by decide) (pf := 22) rfl (fun c19 => ?_) (fun c19 => ?_)
        · refine ow_iinc X0 hx (Ls' := #[.val (.ref oa), .val (.int pc), .val (.int (0 : Int32)), .val (.int (4 : Int32)), .val (.int z1), .val (.int (3 : Int32))]) (hb hby d_jdk_43m23_25) rfl (fun z => rfl) (pc' := 28) rfl (fun z5 hz5 => ?_)
          obtain rfl : z5 = (4 : Int32) := hz5.trans (by decide)
          show Ends _ _ _ _ T0 (mkF m 28 #[.val (.ref oa), .val (.int pc), .val (.int (0 : Int32)), .val (.int (4 : Int32)), .val (.int z1), .val (.int (4 : Int32))] [])
          refine ow_goto X0 hx (hb hby d_jdk_43m23_28) (by decide) (pc' := 7) (by decide) ?_
          refine ow_iload X0 hx (hb hby d_jdk_43m23_7) rfl (pc' := 9) rfl ?_
          refine ow_iloadN X0 hx (hb hby d_jdk_43m23_9) rfl (pc' := 10) rfl ?_
          refine ow_icmpY X0 hx (hb hby d_jdk_43m23_10) (by decide) (by decide) (pc' := 31) (by decide) ?_
          refine ow_iconst X0 hx (z := (-1 : Int32)) (hb hby d_jdk_43m23_31) rfl (pc' := 32) rfl ?_
          exact ow_retI X0 hx hret hlk (hb hby d_jdk_43m23_32) (by decide) (by decide) ⟨(-1 : Int32), rfl, (show ((pc.toInt = 45 ∨ pc.toInt = 46 ∨ pc.toInt = 95 ∨ pc.toInt = 126) ∧ 0 ≤ (-1 : Int)) ∨ (¬ (pc.toInt = 45 ∨ pc.toInt = 46 ∨ pc.toInt = 95 ∨ pc.toInt = 126) ∧ (-1 : Int) = -1) from by omega), rfl, e0⟩
        · refine ow_iload X0 hx (hb hby d_jdk_43m23_22) rfl (pc' := 24) rfl ?_
          exact ow_retI X0 hx hret hlk (hb hby d_jdk_43m23_24) (by decide) (by decide) ⟨(3 : Int32), rfl, (show ((pc.toInt = 45 ∨ pc.toInt = 46 ∨ pc.toInt = 95 ∨ pc.toInt = 126) ∧ 0 ≤ (3 : Int)) ∨ (¬ (pc.toInt = 45 ∨ pc.toInt = 46 ∨ pc.toInt = 95 ∨ pc.toInt = 126) ∧ (3 : Int) = -1) from by omega), rfl, e0⟩
      · refine ow_iload X0 hx (hb hby d_jdk_43m23_22) rfl (pc' := 24) rfl ?_
        exact ow_retI X0 hx hret hlk (hb hby d_jdk_43m23_24) (by decide) (by decide) ⟨(2 : Int32), rfl, (show ((pc.toInt = 45 ∨ pc.toInt = 46 ∨ pc.toInt = 95 ∨ pc.toInt = 126) ∧ 0 ≤ (2 : Int)) ∨ (¬ (pc.toInt = 45 ∨ pc.toInt = 46 ∨ pc.toInt = 95 ∨ pc.toInt = 126) ∧ (2 : Int) = -1) from by omega), rfl, e0⟩
    · refine ow_iload X0 hx (hb hby d_jdk_43m23_22) rfl (pc' := 24) rfl ?_
      exact ow_retI X0 hx hret hlk (hb hby d_jdk_43m23_24) (by decide) (by decide) ⟨(1 : Int32), rfl, (show ((pc.toInt = 45 ∨ pc.toInt = 46 ∨ pc.toInt = 95 ∨ pc.toInt = 126) ∧ 0 ≤ (1 : Int)) ∨ (¬ (pc.toInt = 45 ∨ pc.toInt = 46 ∨ pc.toInt = 95 ∨ pc.toInt = 126) ∧ (1 : Int) = -1) from by omega), rfl, e0⟩
  · refine ow_iload X0 hx (hb hby d_jdk_43m23_22) rfl (pc' := 24) rfl ?_
    exact ow_retI X0 hx hret hlk (hb hby d_jdk_43m23_24) (by decide) (by decide) ⟨(0 : Int32), rfl, (show ((pc.toInt = 45 ∨ pc.toInt = 46 ∨ pc.toInt = 95 ∨ pc.toInt = 126) ∧ 0 ≤ (0 : Int)) ∨ (¬ (pc.toInt = 45 ∨ pc.toInt = 46 ∨ pc.toInt = 95 ∨ pc.toInt = 126) ∧ (0 : Int) = -1) from by omega), rfl, e0⟩
theorem d_jdk_43m4_0 : decode jdk_43_method_4_code 0 = .ok (.iload_n 0, 1) := by decide +kernel
theorem d_jdk_43m4_1 : decode jdk_43_method_4_code 1 = .ok (.ifCond .lt 14, 3) := by decide +kernel
theorem d_jdk_43m4_4 : decode jdk_43_method_4_code 4 = .ok (.iload_n 0, 1) := by decide +kernel
theorem d_jdk_43m4_5 : decode jdk_43_method_4_code 5 = .ok (.sipush 255, 3) := by decide +kernel
theorem d_jdk_43m4_8 : decode jdk_43_method_4_code 8 = .ok (.if_icmp .gt 7, 3) := by decide +kernel
theorem d_jdk_43m4_11 : decode jdk_43_method_4_code 11 = .ok (.iconst 1, 1) := by decide +kernel
theorem d_jdk_43m4_12 : decode jdk_43_method_4_code 12 = .ok (.goto 4, 3) := by decide +kernel
theorem d_jdk_43m4_15 : decode jdk_43_method_4_code 15 = .ok (.iconst 0, 1) := by decide +kernel
theorem d_jdk_43m4_16 : decode jdk_43_method_4_code 16 = .ok (.ireturn, 1) := by decide +kernel
theorem ef_canEnc (m : MethodId) (x0 : Int32) : entryFrame m #[(.int x0)] 1 = mkF m 0 #[.val (.int x0)] [] := by first | (simp [entryFrame, mkF, argsToLocals, Value.category]; done) | rfl
set_option maxRecDepth 65536 in
set_option maxHeartbeats 40000000 in
theorem rm_canEnc (l : Launch) (Z : State) (a0 : Array Value) (hw : ∀ d ∈ tables_1, d.before a0 Z = true) (ws : List Jvm.Cond) (pc : Int32) (h0 : Heap) :
    MetFree l (⟨"java/lang/StringLatin1", "canEncode", "(I)Z"⟩ : MethodName) (head1 (Jvm.Cond.code (⟨"java/lang/StringLatin1", "canEncode", "(I)Z"⟩ : MethodName) jdk_43_method_4_code 1 (some .boolean) :: ws) ({ frames := 0, cells := 0, slots := 0, locals := 0 } : Room)) (fun a_ U_ => a_ = #[(.int pc)] ∧ Z.Warmed39 U_.vm ∧ U_.heap = h0) (fun _ _ _ _ _ => True) (fun _ U_ o_ U_' => ∃ v_ L_, o_ = .returned v_ ∧ (QI (fun z => ((0 ≤ pc.toInt ∧ pc.toInt ≤ 255) ∧ z.toInt = 1) ∨ (¬ (0 ≤ pc.toInt ∧ pc.toInt ≤ 255) ∧ z.toInt = 0)) h0) v_ U_'.heap L_ ∧ FrameEnd U_ o_ U_' L_ 0 0) := by
  refine ow_body (plainFor_of_name pn_0) ?_
  intro p e s m below meth c T0 X0 hx hZ hby hml hown hnm hret hlk e0
  refine Ends.cast (ef_canEnc m pc) ?_
  have r_pc := rng32 pc
  refine ow_iloadN X0 hx (hb hby d_jdk_43m4_0) rfl (pc' := 1) rfl ?_
  refine ow_if_lt X0 hx (pc.toInt) (hb hby d_jdk_43m4_1) rfl (by decide) (pt := 15) (by decide) (pf := 4) rfl (fun c1 => ?_) (fun c1 => ?_)
  · refine ow_iconst X0 hx (z := (0 : Int32)) (hb hby d_jdk_43m4_15) rfl (pc' := 16) rfl ?_
    exact ow_retB X0 hx hret hlk (hb hby d_jdk_43m4_16) (by decide) (by decide) (z' := (0 : Int32)) rfl ⟨(0 : Int32), rfl, (show ((0 ≤ pc.toInt ∧ pc.toInt ≤ 255) ∧ (0 : Int) = 1) ∨ (¬ (0 ≤ pc.toInt ∧ pc.toInt ≤ 255) ∧ (0 : Int) = 0) from by omega), rfl, e0⟩
  · refine ow_iloadN X0 hx (hb hby d_jdk_43m4_4) rfl (pc' := 5) rfl ?_
    refine ow_sipush X0 hx (z := (255 : Int32)) (hb hby d_jdk_43m4_5) rfl (pc' := 8) rfl ?_
    refine ow_icmp_gt X0 hx (pc.toInt) ((255 : Int)) (hb hby d_jdk_43m4_8) rfl rfl (by decide) (pt := 15) (by decide) (pf := 11) rfl (fun c8 => ?_) (fun c8 => ?_)
    · refine ow_iconst X0 hx (z := (0 : Int32)) (hb hby d_jdk_43m4_15) rfl (pc' := 16) rfl ?_
      exact ow_retB X0 hx hret hlk (hb hby d_jdk_43m4_16) (by decide) (by decide) (z' := (0 : Int32)) rfl ⟨(0 : Int32), rfl, (show ((0 ≤ pc.toInt ∧ pc.toInt ≤ 255) ∧ (0 : Int) = 1) ∨ (¬ (0 ≤ pc.toInt ∧ pc.toInt ≤ 255) ∧ (0 : Int) = 0) from by omega), rfl, e0⟩
    · refine ow_iconst X0 hx (z := (1 : Int32)) (hb hby d_jdk_43m4_11) rfl (pc' := 12) rfl ?_
      refine ow_goto X0 hx (hb hby d_jdk_43m4_12) (by decide) (pc' := 16) (by decide) ?_
      exact ow_retB X0 hx hret hlk (hb hby d_jdk_43m4_16) (by decide) (by decide) (z' := (1 : Int32)) rfl ⟨(1 : Int32), rfl, (show ((0 ≤ pc.toInt ∧ pc.toInt ≤ 255) ∧ (1 : Int) = 1) ∨ (¬ (0 ≤ pc.toInt ∧ pc.toInt ≤ 255) ∧ (1 : Int) = 0) from by omega), rfl, e0⟩
theorem d_jdk_29m65_0 : decode jdk_29_method_65_code 0 = .ok (.iload_n 0, 1) := by decide +kernel
theorem d_jdk_29m65_1 : decode jdk_29_method_65_code 1 = .ok (.iload_n 1, 1) := by decide +kernel
theorem d_jdk_29m65_2 : decode jdk_29_method_65_code 2 = .ok (.if_icmp .lt 7, 3) := by decide +kernel
theorem d_jdk_29m65_5 : decode jdk_29_method_65_code 5 = .ok (.iload_n 0, 1) := by decide +kernel
theorem d_jdk_29m65_6 : decode jdk_29_method_65_code 6 = .ok (.goto 4, 3) := by decide +kernel
theorem d_jdk_29m65_9 : decode jdk_29_method_65_code 9 = .ok (.iload_n 1, 1) := by decide +kernel
theorem d_jdk_29m65_10 : decode jdk_29_method_65_code 10 = .ok (.ireturn, 1) := by decide +kernel
theorem ef_maxI (m : MethodId) (x0 : Int32) (x1 : Int32) : entryFrame m #[(.int x0), (.int x1)] 2 = mkF m 0 #[.val (.int x0), .val (.int x1)] [] := by first | (simp [entryFrame, mkF, argsToLocals, Value.category]; done) | rfl
set_option maxRecDepth 65536 in
set_option maxHeartbeats 40000000 in
theorem rm_maxI (l : Launch) (Z : State) (a0 : Array Value) (hw : ∀ d ∈ tables_1, d.before a0 Z = true) (ws : List Jvm.Cond) (pa : Int32) (pb : Int32) (h0 : Heap) :
    MetFree l (⟨"java/lang/Math", "max", "(II)I"⟩ : MethodName) (head1 (Jvm.Cond.code (⟨"java/lang/Math", "max", "(II)I"⟩ : MethodName) jdk_29_method_65_code 2 (some .int) :: ws) ({ frames := 0, cells := 0, slots := 0, locals := 0 } : Room)) (fun a_ U_ => a_ = #[(.int pa), (.int pb)] ∧ Z.Warmed39 U_.vm ∧ U_.heap = h0) (fun _ _ _ _ _ => True) (fun _ U_ o_ U_' => ∃ v_ L_, o_ = .returned v_ ∧ (QI (fun z => (pa.toInt ≥ pb.toInt → z.toInt = pa.toInt) ∧ (pb.toInt ≥ pa.toInt → z.toInt = pb.toInt)) h0) v_ U_'.heap L_ ∧ FrameEnd U_ o_ U_' L_ 0 0) := by
  refine ow_body (Jvm.Free.JP.mathPlain rfl (by decide +kernel)) ?_
  intro p e s m below meth c T0 X0 hx hZ hby hml hown hnm hret hlk e0
  refine Ends.cast (ef_maxI m pa pb) ?_
  have r_pa := rng32 pa
  have r_pb := rng32 pb
  refine ow_iloadN X0 hx (hb hby d_jdk_29m65_0) rfl (pc' := 1) rfl ?_
  refine ow_iloadN X0 hx (hb hby d_jdk_29m65_1) rfl (pc' := 2) rfl ?_
  refine ow_icmp_lt X0 hx (pa.toInt) (pb.toInt) (hb hby d_jdk_29m65_2) rfl rfl (by decide) (pt := 9) (by decide) (pf := 5) rfl (fun c2 => ?_) (fun c2 => ?_)
  · refine ow_iloadN X0 hx (hb hby d_jdk_29m65_9) rfl (pc' := 10) rfl ?_
    exact ow_retI X0 hx hret hlk (hb hby d_jdk_29m65_10) (by decide) (by decide) ⟨pb, rfl, (show (pa.toInt ≥ pb.toInt → pb.toInt = pa.toInt) ∧ (pb.toInt ≥ pa.toInt → pb.toInt = pb.toInt) from by omega), rfl, e0⟩
  · refine ow_iloadN X0 hx (hb hby d_jdk_29m65_5) rfl (pc' := 6) rfl ?_
    refine ow_goto X0 hx (hb hby d_jdk_29m65_6) (by decide) (pc' := 10) (by decide) ?_
    exact ow_retI X0 hx hret hlk (hb hby d_jdk_29m65_10) (by decide) (by decide) ⟨pa, rfl, (show (pa.toInt ≥ pb.toInt → pa.toInt = pa.toInt) ∧ (pb.toInt ≥ pa.toInt → pa.toInt = pb.toInt) from by omega), rfl, e0⟩
theorem d_jdk_29m69_0 : decode jdk_29_method_69_code 0 = .ok (.iload_n 0, 1) := by decide +kernel
theorem d_jdk_29m69_1 : decode jdk_29_method_69_code 1 = .ok (.iload_n 1, 1) := by decide +kernel
theorem d_jdk_29m69_2 : decode jdk_29_method_69_code 2 = .ok (.if_icmp .gt 7, 3) := by decide +kernel
theorem d_jdk_29m69_5 : decode jdk_29_method_69_code 5 = .ok (.iload_n 0, 1) := by decide +kernel
theorem d_jdk_29m69_6 : decode jdk_29_method_69_code 6 = .ok (.goto 4, 3) := by decide +kernel
theorem d_jdk_29m69_9 : decode jdk_29_method_69_code 9 = .ok (.iload_n 1, 1) := by decide +kernel
theorem d_jdk_29m69_10 : decode jdk_29_method_69_code 10 = .ok (.ireturn, 1) := by decide +kernel
theorem ef_minI (m : MethodId) (x0 : Int32) (x1 : Int32) : entryFrame m #[(.int x0), (.int x1)] 2 = mkF m 0 #[.val (.int x0), .val (.int x1)] [] := by first | (simp [entryFrame, mkF, argsToLocals, Value.category]; done) | rfl
set_option maxRecDepth 65536 in
set_option maxHeartbeats 40000000 in
theorem rm_minI (l : Launch) (Z : State) (a0 : Array Value) (hw : ∀ d ∈ tables_1, d.before a0 Z = true) (ws : List Jvm.Cond) (pa : Int32) (pb : Int32) (h0 : Heap) :
    MetFree l (⟨"java/lang/Math", "min", "(II)I"⟩ : MethodName) (head1 (Jvm.Cond.code (⟨"java/lang/Math", "min", "(II)I"⟩ : MethodName) jdk_29_method_69_code 2 (some .int) :: ws) ({ frames := 0, cells := 0, slots := 0, locals := 0 } : Room)) (fun a_ U_ => a_ = #[(.int pa), (.int pb)] ∧ Z.Warmed39 U_.vm ∧ U_.heap = h0) (fun _ _ _ _ _ => True) (fun _ U_ o_ U_' => ∃ v_ L_, o_ = .returned v_ ∧ (QI (fun z => (pa.toInt ≤ pb.toInt → z.toInt = pa.toInt) ∧ (pb.toInt ≤ pa.toInt → z.toInt = pb.toInt)) h0) v_ U_'.heap L_ ∧ FrameEnd U_ o_ U_' L_ 0 0) := by
  refine ow_body (Jvm.Free.JP.mathPlain rfl (by decide +kernel)) ?_
  intro p e s m below meth c T0 X0 hx hZ hby hml hown hnm hret hlk e0
  refine Ends.cast (ef_minI m pa pb) ?_
  have r_pa := rng32 pa
  have r_pb := rng32 pb
  refine ow_iloadN X0 hx (hb hby d_jdk_29m69_0) rfl (pc' := 1) rfl ?_
  refine ow_iloadN X0 hx (hb hby d_jdk_29m69_1) rfl (pc' := 2) rfl ?_
  refine ow_icmp_gt X0 hx (pa.toInt) (pb.toInt) (hb hby d_jdk_29m69_2) rfl rfl (by decide) (pt := 9) (by decide) (pf := 5) rfl (fun c2 => ?_) (fun c2 => ?_)
  · refine ow_iloadN X0 hx (hb hby d_jdk_29m69_9) rfl (pc' := 10) rfl ?_
    exact ow_retI X0 hx hret hlk (hb hby d_jdk_29m69_10) (by decide) (by decide) ⟨pb, rfl, (show (pa.toInt ≤ pb.toInt → pb.toInt = pa.toInt) ∧ (pb.toInt ≤ pa.toInt → pb.toInt = pb.toInt) from by omega), rfl, e0⟩
  · refine ow_iloadN X0 hx (hb hby d_jdk_29m69_5) rfl (pc' := 6) rfl ?_
    refine ow_goto X0 hx (hb hby d_jdk_29m69_6) (by decide) (pc' := 10) (by decide) ?_
    exact ow_retI X0 hx hret hlk (hb hby d_jdk_29m69_10) (by decide) (by decide) ⟨pa, rfl, (show (pa.toInt ≤ pb.toInt → pa.toInt = pa.toInt) ∧ (pb.toInt ≤ pa.toInt → pa.toInt = pb.toInt) from by omega), rfl, e0⟩
theorem pd_0 : parseMethodDescriptor "(I)Z" = some ⟨[.int], some .boolean⟩ := by decide +kernel
theorem pd_1 : parseMethodDescriptor "(II)I" = some ⟨[.int, .int], some .int⟩ := by decide +kernel
theorem pd_2 : parseMethodDescriptor "([BIII)I" = some ⟨[(.array .byte), .int, .int, .int], some .int⟩ := by decide +kernel
theorem d_jdk_43m22_0 : decode jdk_43_method_22_code 0 = .ok (.iload_n 1, 1) := by decide +kernel
theorem d_jdk_43m22_1 : decode jdk_43_method_22_code 1 = .ok (.invokestatic 88, 3) := by decide +kernel
theorem d_jdk_43m22_4 : decode jdk_43_method_22_code 4 = .ok (.ifCond .ne 5, 3) := by decide +kernel
theorem d_jdk_43m22_7 : decode jdk_43_method_22_code 7 = .ok (.iconst (-1), 1) := by decide +kernel
theorem d_jdk_43m22_8 : decode jdk_43_method_22_code 8 = .ok (.ireturn, 1) := by decide +kernel
theorem d_jdk_43m22_9 : decode jdk_43_method_22_code 9 = .ok (.iload_n 2, 1) := by decide +kernel
theorem d_jdk_43m22_10 : decode jdk_43_method_22_code 10 = .ok (.iconst 0, 1) := by decide +kernel
theorem d_jdk_43m22_11 : decode jdk_43_method_22_code 11 = .ok (.invokestatic 92, 3) := by decide +kernel
theorem d_jdk_43m22_14 : decode jdk_43_method_22_code 14 = .ok (.istore_n 2, 1) := by decide +kernel
theorem d_jdk_43m22_15 : decode jdk_43_method_22_code 15 = .ok (.iload_n 3, 1) := by decide +kernel
theorem d_jdk_43m22_16 : decode jdk_43_method_22_code 16 = .ok (.aload_n 0, 1) := by decide +kernel
theorem d_jdk_43m22_17 : decode jdk_43_method_22_code 17 = .ok (.arraylength, 1) := by decide +kernel
theorem d_jdk_43m22_18 : decode jdk_43_method_22_code 18 = .ok (.invokestatic 38, 3) := by decide +kernel
theorem d_jdk_43m22_21 : decode jdk_43_method_22_code 21 = .ok (.istore_n 3, 1) := by decide +kernel
theorem d_jdk_43m22_22 : decode jdk_43_method_22_code 22 = .ok (.iload_n 2, 1) := by decide +kernel
theorem d_jdk_43m22_23 : decode jdk_43_method_22_code 23 = .ok (.iload_n 3, 1) := by decide +kernel
theorem d_jdk_43m22_24 : decode jdk_43_method_22_code 24 = .ok (.if_icmp .lt 5, 3) := by decide +kernel
theorem d_jdk_43m22_29 : decode jdk_43_method_22_code 29 = .ok (.aload_n 0, 1) := by decide +kernel
theorem d_jdk_43m22_30 : decode jdk_43_method_22_code 30 = .ok (.iload_n 1, 1) := by decide +kernel
theorem d_jdk_43m22_31 : decode jdk_43_method_22_code 31 = .ok (.iload_n 2, 1) := by decide +kernel
theorem d_jdk_43m22_32 : decode jdk_43_method_22_code 32 = .ok (.iload_n 3, 1) := by decide +kernel
theorem d_jdk_43m22_33 : decode jdk_43_method_22_code 33 = .ok (.invokestatic 95, 3) := by decide +kernel
theorem d_jdk_43m22_36 : decode jdk_43_method_22_code 36 = .ok (.ireturn, 1) := by decide +kernel
theorem ef_ixLat (m : MethodId) (x0 : Addr) (x1 : Int32) (x2 : Int32) (x3 : Int32) : entryFrame m #[(.ref x0), (.int x1), (.int x2), (.int x3)] 4 = mkF m 0 #[.val (.ref x0), .val (.int x1), .val (.int x2), .val (.int x3)] [] := by first | (simp [entryFrame, mkF, argsToLocals, Value.category]; done) | rfl
set_option maxRecDepth 65536 in
set_option maxHeartbeats 40000000 in
theorem rm_ixLat (l : Launch) (Z : State) (a0 : Array Value) (hw : ∀ d ∈ tables_1, d.before a0 Z = true) (ws : List Jvm.Cond) (oa : Addr) (pc : Int32) (pf : Int32) (pm : Int32) (ka : ClassId) (h0 : Heap) (V_a : Arv Z h0 oa ka (.byte) (4 : Int32) [(.int (45 : Int32)), (.int (46 : Int32)), (.int (95 : Int32)), (.int (126 : Int32))] (.int (0 : Int32))) (hpf : pf.toInt = 0) (hpm : pm.toInt = 4) (hc0 : 0 ≤ pc.toInt) :
    MetFree l (⟨"java/lang/StringLatin1", "indexOf", "([BIII)I"⟩ : MethodName) (head1 (Jvm.Cond.code (⟨"java/lang/StringLatin1", "indexOf", "([BIII)I"⟩ : MethodName) jdk_43_method_22_code 4 (some .int) :: ws) ({ frames := 1, cells := 0, slots := 0, locals := 17 } : Room)) (fun a_ U_ => a_ = #[(.ref oa), (.int pc), (.int pf), (.int pm)] ∧ Z.Warmed39 U_.vm ∧ U_.heap = h0) (fun _ _ _ _ _ => True) (fun _ U_ o_ U_' => ∃ v_ L_, o_ = .returned v_ ∧ (QI (fun z => ((pc.toInt = 45 ∨ pc.toInt = 46 ∨ pc.toInt = 95 ∨ pc.toInt = 126) ∧ 0 ≤ z.toInt) ∨ (¬ (pc.toInt = 45 ∨ pc.toInt = 46 ∨ pc.toInt = 95 ∨ pc.toInt = 126) ∧ z.toInt = -1)) h0) v_ U_'.heap L_ ∧ FrameEnd U_ o_ U_' L_ 0 0) := by
  refine ow_body (plainFor_of_name pn_0) ?_
  intro p e s m below meth c T0 X0 hx hZ hby hml hown hnm hret hlk e0
  refine Ends.cast (ef_ixLat m oa pc pf pm) ?_
  have r_pc := rng32 pc
  have r_pf := rng32 pf
  have r_pm := rng32 pm
  refine ow_iloadN X0 hx (hb hby d_jdk_43m22_0) rfl (pc' := 1) rfl ?_
  refine ow_callPI X0 hx hZ hown (hw _ (List.mem_of_getElem? (i := 108) rfl)) (hw _ (List.mem_of_getElem? (i := 109) rfl)) (hw _ (List.mem_of_getElem? (i := 75) rfl)) (hw _ (List.mem_of_getElem? (i := 110) rfl)) (by decide) (rm_canEnc l Z a0 hw [] pc h0 ) e0 0 (by decide) (by decide) (by decide) (by decide) [(.int pc)] (by rw [hml]; rfl) pd_0 rfl rfl rfl (Nat.le_of_eq rfl) (hb hby d_jdk_43m22_1) (pc' := 4) rfl (fun z1 T1 hz1 X1 e1 => ?_)
  have az1 : ((0 ≤ pc.toInt ∧ pc.toInt ≤ 255) ∧ z1.toInt = 1) ∨ (¬ (0 ≤ pc.toInt ∧ pc.toInt ≤ 255) ∧ z1.toInt = 0) := hz1
  have rz1 := rng32 z1
  refine ow_if_ne X1 hx (z1.toInt) (hb hby d_jdk_43m22_4) rfl (by decide) (pt := 9) (by decide) (pf := 7) rfl (fun c4 => ?_) (fun c4 => ?_)
  · refine ow_iloadN X1 hx (hb hby d_jdk_43m22_9) rfl (pc' := 10) rfl ?_
    refine ow_iconst X1 hx (z := (0 : Int32)) (hb hby d_jdk_43m22_10) rfl (pc' := 11) rfl ?_
    refine ow_callPI X1 hx hZ hown (hw _ (List.mem_of_getElem? (i := 111) rfl)) (hw _ (List.mem_of_getElem? (i := 112) rfl)) (hw _ (List.mem_of_getElem? (i := 113) rfl)) (hw _ (List.mem_of_getElem? (i := 114) rfl)) (by decide) (rm_maxI l Z a0 hw [] pf (0 : Int32) h0 ) e1 0 (by decide) (by decide) (by decide) (by decide) [(.int pf), (.int (0 : Int32))] (by rw [hml]; rfl) pd_1 rfl rfl rfl (Nat.le_of_eq rfl) (hb hby d_jdk_43m22_11) (pc' := 14) rfl (fun z2 T2 hz2 X2 e2 => ?_)
    have az2 : (pf.toInt ≥ (0 : Int) → z2.toInt = pf.toInt) ∧ ((0 : Int) ≥ pf.toInt → z2.toInt = (0 : Int)) := hz2
    have rz2 := rng32 z2
    refine ow_istoreN X2 hx (Ls' := #[.val (.ref oa), .val (.int pc), .val (.int z2), .val (.int pm)]) (hb hby d_jdk_43m22_14) rfl (pc' := 15) rfl ?_
    refine ow_iloadN X2 hx (hb hby d_jdk_43m22_15) rfl (pc' := 16) rfl ?_
    refine ow_aloadN X2 hx (hb hby d_jdk_43m22_16) rfl rfl (pc' := 17) rfl ?_
    refine ow_len X2 hx hZ e2 V_a (hb hby d_jdk_43m22_17) (pc' := 18) rfl ?_
    refine ow_callPI X2 hx hZ hown (hw _ (List.mem_of_getElem? (i := 115) rfl)) (hw _ (List.mem_of_getElem? (i := 116) rfl)) (hw _ (List.mem_of_getElem? (i := 113) rfl)) (hw _ (List.mem_of_getElem? (i := 117) rfl)) (by decide) (rm_minI l Z a0 hw [] pm (4 : Int32) h0 ) e2 0 (by decide) (by decide) (by decide) (by decide) [(.int pm), (.int (4 : Int32))] (by rw [hml]; rfl) pd_1 rfl rfl rfl (Nat.le_of_eq rfl) (hb hby d_jdk_43m22_18) (pc' := 21) rfl (fun z3 T3 hz3 X3 e3 => ?_)
    have az3 : (pm.toInt ≤ (4 : Int) → z3.toInt = pm.toInt) ∧ ((4 : Int) ≤ pm.toInt → z3.toInt = (4 : Int)) := hz3
    have rz3 := rng32 z3
    refine ow_istoreN X3 hx (Ls' := #[.val (.ref oa), .val (.int pc), .val (.int z2), .val (.int z3)]) (hb hby d_jdk_43m22_21) rfl (pc' := 22) rfl ?_
    refine ow_iloadN X3 hx (hb hby d_jdk_43m22_22) rfl (pc' := 23) rfl ?_
    refine ow_iloadN X3 hx (hb hby d_jdk_43m22_23) rfl (pc' := 24) rfl ?_
    refine ow_icmp_lt X3 hx (z2.toInt) (z3.toInt) (hb hby d_jdk_43m22_24) rfl rfl (by decide) (pt := 29) (by decide) (pf := 27) rfl (fun c24 => ?_) (fun c24 => absurd c24 (by omega))
    refine ow_aloadN X3 hx (hb hby d_jdk_43m22_29) rfl rfl (pc' := 30) rfl ?_
    refine ow_iloadN X3 hx (hb hby d_jdk_43m22_30) rfl (pc' := 31) rfl ?_
    refine ow_iloadN X3 hx (hb hby d_jdk_43m22_31) rfl (pc' := 32) rfl ?_
    refine ow_iloadN X3 hx (hb hby d_jdk_43m22_32) rfl (pc' := 33) rfl ?_
    refine ow_callPI X3 hx hZ hown (hw _ (List.mem_of_getElem? (i := 118) rfl)) (hw _ (List.mem_of_getElem? (i := 119) rfl)) (hw _ (List.mem_of_getElem? (i := 75) rfl)) (hw _ (List.mem_of_getElem? (i := 120) rfl)) (by decide) (rm_ixChar l Z a0 hw [] oa pc z2 z3 ka h0 V_a (by first | assumption | decide | omega) (by first | assumption | decide | omega) (by first | assumption | decide | omega) (by first | assumption | decide | omega)) e3 0 (by decide) (by decide) (by decide) (by decide) [(.ref oa), (.int pc), (.int z2), (.int z3)] (by rw [hml]; rfl) pd_2 rfl rfl rfl (Nat.le_of_eq rfl) (hb hby d_jdk_43m22_33) (pc' := 36) rfl (fun z4 T4 hz4 X4 e4 => ?_)
    have az4 : ((pc.toInt = 45 ∨ pc.toInt = 46 ∨ pc.toInt = 95 ∨ pc.toInt = 126) ∧ 0 ≤ z4.toInt) ∨ (¬ (pc.toInt = 45 ∨ pc.toInt = 46 ∨ pc.toInt = 95 ∨ pc.toInt = 126) ∧ z4.toInt = -1) := hz4
    have rz4 := rng32 z4
    exact ow_retI X4 hx hret hlk (hb hby d_jdk_43m22_36) (by decide) (by decide) ⟨z4, rfl, (show ((pc.toInt = 45 ∨ pc.toInt = 46 ∨ pc.toInt = 95 ∨ pc.toInt = 126) ∧ 0 ≤ z4.toInt) ∨ (¬ (pc.toInt = 45 ∨ pc.toInt = 46 ∨ pc.toInt = 95 ∨ pc.toInt = 126) ∧ z4.toInt = -1) from by omega), rfl, e4⟩
  · refine ow_iconst X1 hx (z := (-1 : Int32)) (hb hby d_jdk_43m22_7) rfl (pc' := 8) rfl ?_
    exact ow_retI X1 hx hret hlk (hb hby d_jdk_43m22_8) (by decide) (by decide) ⟨(-1 : Int32), rfl, (show ((pc.toInt = 45 ∨ pc.toInt = 46 ∨ pc.toInt = 95 ∨ pc.toInt = 126) ∧ 0 ≤ (-1 : Int)) ∨ (¬ (pc.toInt = 45 ∨ pc.toInt = 46 ∨ pc.toInt = 95 ∨ pc.toInt = 126) ∧ (-1 : Int) = -1) from by omega), rfl, e1⟩
theorem d_jdk_42m152_0 : decode jdk_42_method_152_code 0 = .ok (.getstatic 38, 3) := by decide +kernel
theorem d_jdk_42m152_3 : decode jdk_42_method_152_code 3 = .ok (.ifCond .eq 10, 3) := by decide +kernel
theorem d_jdk_42m152_6 : decode jdk_42_method_152_code 6 = .ok (.aload_n 0, 1) := by decide +kernel
theorem d_jdk_42m152_7 : decode jdk_42_method_152_code 7 = .ok (.getfield 15, 3) := by decide +kernel
theorem d_jdk_42m152_10 : decode jdk_42_method_152_code 10 = .ok (.goto 4, 3) := by decide +kernel
theorem d_jdk_42m152_14 : decode jdk_42_method_152_code 14 = .ok (.ireturn, 1) := by decide +kernel
theorem ef_coder (m : MethodId) (x0 : Addr) : entryFrame m #[(.ref x0)] 1 = mkF m 0 #[.val (.ref x0)] [] := by first | (simp [entryFrame, mkF, argsToLocals, Value.category]; done) | rfl
theorem pn_1 : plainName "java/lang/String" = true := by first | (simp [plainName, overriddenIn]; done) | decide +kernel
set_option maxRecDepth 65536 in
set_option maxHeartbeats 40000000 in
theorem rm_coder (l : Launch) (Z : State) (a0 : Array Value) (hw : ∀ d ∈ tables_1, d.before a0 Z = true) (ws : List Jvm.Cond) (o : Addr) (zc : Int32) (h0 : Heap) (S_cs : Sta Z h0 "java/lang/String" "COMPACT_STRINGS" "Z" (.int zc)) (F_c : Fld Z h0 o "java/lang/String" "coder" "B" (.int (0 : Int32))) (hz0 : ¬ zc.toInt = 0) :
    MetFree l (⟨"java/lang/String", "coder", "()B"⟩ : MethodName) (head1 (Jvm.Cond.code (⟨"java/lang/String", "coder", "()B"⟩ : MethodName) jdk_42_method_152_code 1 (some .byte) :: ws) ({ frames := 0, cells := 0, slots := 0, locals := 0 } : Room)) (fun a_ U_ => a_ = #[(.ref o)] ∧ Z.Warmed39 U_.vm ∧ U_.heap = h0) (fun _ _ _ _ _ => True) (fun _ U_ o_ U_' => ∃ v_ L_, o_ = .returned v_ ∧ (QI (fun z => z.toInt = 0) h0) v_ U_'.heap L_ ∧ FrameEnd U_ o_ U_' L_ 0 0) := by
  refine ow_body (plainFor_of_name pn_1) ?_
  intro p e s m below meth c T0 X0 hx hZ hby hml hown hnm hret hlk e0
  refine Ends.cast (ef_coder m o) ?_
  refine ow_getS X0 hx hZ hown (host := "") (Or.inl (hw _ (List.mem_of_getElem? (i := 38) rfl))) Via.refl e0 S_cs (hb hby d_jdk_42m152_0) (pc' := 3) rfl (fun T1 X1 e1 => ?_)
  refine ow_if_eq X1 hx (zc.toInt) (hb hby d_jdk_42m152_3) rfl (by decide) (pt := 13) (by decide) (pf := 6) rfl (fun c3 => absurd c3 (by omega)) (fun c3 => ?_)
  refine ow_aloadN X1 hx (hb hby d_jdk_42m152_6) rfl rfl (pc' := 7) rfl ?_
  refine ow_getF X1 hx hZ hown (host := "") (Or.inl (hw _ (List.mem_of_getElem? (i := 22) rfl))) Via.refl e1 F_c (hb hby d_jdk_42m152_7) (pc' := 10) rfl (fun T2 X2 e2 => ?_)
  refine ow_goto X2 hx (hb hby d_jdk_42m152_10) (by decide) (pc' := 14) (by decide) ?_
  exact ow_retY X2 hx hret hlk (hb hby d_jdk_42m152_14) (by decide) (by decide) (z' := (0 : Int32)) (by decide) ⟨(0 : Int32), rfl, (show (0 : Int) = 0 from by omega), rfl, e2⟩
theorem d_jdk_42m154_0 : decode jdk_42_method_154_code 0 = .ok (.getstatic 38, 3) := by decide +kernel
theorem d_jdk_42m154_3 : decode jdk_42_method_154_code 3 = .ok (.ifCond .eq 14, 3) := by decide +kernel
theorem d_jdk_42m154_6 : decode jdk_42_method_154_code 6 = .ok (.aload_n 0, 1) := by decide +kernel
theorem d_jdk_42m154_7 : decode jdk_42_method_154_code 7 = .ok (.getfield 15, 3) := by decide +kernel
theorem d_jdk_42m154_10 : decode jdk_42_method_154_code 10 = .ok (.ifCond .ne 7, 3) := by decide +kernel
theorem d_jdk_42m154_13 : decode jdk_42_method_154_code 13 = .ok (.iconst 1, 1) := by decide +kernel
theorem d_jdk_42m154_14 : decode jdk_42_method_154_code 14 = .ok (.goto 4, 3) := by decide +kernel
theorem d_jdk_42m154_18 : decode jdk_42_method_154_code 18 = .ok (.ireturn, 1) := by decide +kernel
theorem ef_isLatin1 (m : MethodId) (x0 : Addr) : entryFrame m #[(.ref x0)] 1 = mkF m 0 #[.val (.ref x0)] [] := by first | (simp [entryFrame, mkF, argsToLocals, Value.category]; done) | rfl
set_option maxRecDepth 65536 in
set_option maxHeartbeats 40000000 in
theorem rm_isLatin1 (l : Launch) (Z : State) (a0 : Array Value) (hw : ∀ d ∈ tables_1, d.before a0 Z = true) (ws : List Jvm.Cond) (o : Addr) (zc : Int32) (h0 : Heap) (S_cs : Sta Z h0 "java/lang/String" "COMPACT_STRINGS" "Z" (.int zc)) (F_c : Fld Z h0 o "java/lang/String" "coder" "B" (.int (0 : Int32))) (hz0 : ¬ zc.toInt = 0) :
    MetFree l (⟨"java/lang/String", "isLatin1", "()Z"⟩ : MethodName) (head1 (Jvm.Cond.code (⟨"java/lang/String", "isLatin1", "()Z"⟩ : MethodName) jdk_42_method_154_code 1 (some .boolean) :: ws) ({ frames := 0, cells := 0, slots := 0, locals := 0 } : Room)) (fun a_ U_ => a_ = #[(.ref o)] ∧ Z.Warmed39 U_.vm ∧ U_.heap = h0) (fun _ _ _ _ _ => True) (fun _ U_ o_ U_' => ∃ v_ L_, o_ = .returned v_ ∧ (QI (fun z => z.toInt = 1) h0) v_ U_'.heap L_ ∧ FrameEnd U_ o_ U_' L_ 0 0) := by
  refine ow_body (plainFor_of_name pn_1) ?_
  intro p e s m below meth c T0 X0 hx hZ hby hml hown hnm hret hlk e0
  refine Ends.cast (ef_isLatin1 m o) ?_
  refine ow_getS X0 hx hZ hown (host := "") (Or.inl (hw _ (List.mem_of_getElem? (i := 38) rfl))) Via.refl e0 S_cs (hb hby d_jdk_42m154_0) (pc' := 3) rfl (fun T1 X1 e1 => ?_)
  refine ow_if_eq X1 hx (zc.toInt) (hb hby d_jdk_42m154_3) rfl (by decide) (pt := 17) (by decide) (pf := 6) rfl (fun c3 => absurd c3 (by omega)) (fun c3 => ?_)
  refine ow_aloadN X1 hx (hb hby d_jdk_42m154_6) rfl rfl (pc' := 7) rfl ?_
  refine ow_getF X1 hx hZ hown (host := "") (Or.inl (hw _ (List.mem_of_getElem? (i := 22) rfl))) Via.refl e1 F_c (hb hby d_jdk_42m154_7) (pc' := 10) rfl (fun T2 X2 e2 => ?_)
  refine ow_ifN X2 hx (hb hby d_jdk_42m154_10) (by decide) (pc' := 13) rfl ?_
  refine ow_iconst X2 hx (z := (1 : Int32)) (hb hby d_jdk_42m154_13) rfl (pc' := 14) rfl ?_
  refine ow_goto X2 hx (hb hby d_jdk_42m154_14) (by decide) (pc' := 18) (by decide) ?_
  exact ow_retB X2 hx hret hlk (hb hby d_jdk_42m154_18) (by decide) (by decide) (z' := (1 : Int32)) rfl ⟨(1 : Int32), rfl, (show (1 : Int) = 1 from by omega), rfl, e2⟩
theorem pd_3 : parseMethodDescriptor "()B" = some ⟨[], some .byte⟩ := by decide +kernel
theorem d_jdk_42m54_0 : decode jdk_42_method_54_code 0 = .ok (.aload_n 0, 1) := by decide +kernel
theorem d_jdk_42m54_1 : decode jdk_42_method_54_code 1 = .ok (.getfield 9, 3) := by decide +kernel
theorem d_jdk_42m54_4 : decode jdk_42_method_54_code 4 = .ok (.arraylength, 1) := by decide +kernel
theorem d_jdk_42m54_5 : decode jdk_42_method_54_code 5 = .ok (.aload_n 0, 1) := by decide +kernel
theorem d_jdk_42m54_6 : decode jdk_42_method_54_code 6 = .ok (.invokevirtual 335, 3) := by decide +kernel
theorem d_jdk_42m54_9 : decode jdk_42_method_54_code 9 = .ok (.ishr, 1) := by decide +kernel
theorem d_jdk_42m54_10 : decode jdk_42_method_54_code 10 = .ok (.ireturn, 1) := by decide +kernel
theorem ef_strLen (m : MethodId) (x0 : Addr) : entryFrame m #[(.ref x0)] 1 = mkF m 0 #[.val (.ref x0)] [] := by first | (simp [entryFrame, mkF, argsToLocals, Value.category]; done) | rfl
set_option maxRecDepth 65536 in
set_option maxHeartbeats 40000000 in
theorem rm_strLen (l : Launch) (Z : State) (a0 : Array Value) (hw : ∀ d ∈ tables_1, d.before a0 Z = true) (ws : List Jvm.Cond) (o : Addr) (zc : Int32) (oa : Addr) (ka : ClassId) (h0 : Heap) (S_cs : Sta Z h0 "java/lang/String" "COMPACT_STRINGS" "Z" (.int zc)) (E_o : Exa Z h0 o "java/lang/String") (F_c : Fld Z h0 o "java/lang/String" "coder" "B" (.int (0 : Int32))) (F_v : Fld Z h0 o "java/lang/String" "value" "[B" (.ref oa)) (V_a : Arv Z h0 oa ka (.byte) (4 : Int32) [(.int (45 : Int32)), (.int (46 : Int32)), (.int (95 : Int32)), (.int (126 : Int32))] (.int (0 : Int32))) (hz0 : ¬ zc.toInt = 0) :
    MetFree l (⟨"java/lang/String", "length", "()I"⟩ : MethodName) (head1 (Jvm.Cond.code (⟨"java/lang/String", "length", "()I"⟩ : MethodName) jdk_42_method_54_code 1 (some .int) :: ws) ({ frames := 1, cells := 0, slots := 0, locals := 13 } : Room)) (fun a_ U_ => a_ = #[(.ref o)] ∧ Z.Warmed39 U_.vm ∧ U_.heap = h0) (fun _ _ _ _ _ => True) (fun _ U_ o_ U_' => ∃ v_ L_, o_ = .returned v_ ∧ (QI (fun z => z.toInt = 4) h0) v_ U_'.heap L_ ∧ FrameEnd U_ o_ U_' L_ 0 0) := by
  refine ow_body (plainFor_of_name pn_1) ?_
  intro p e s m below meth c T0 X0 hx hZ hby hml hown hnm hret hlk e0
  refine Ends.cast (ef_strLen m o) ?_
  refine ow_aloadN X0 hx (hb hby d_jdk_42m54_0) rfl rfl (pc' := 1) rfl ?_
  refine ow_getF X0 hx hZ hown (host := "") (Or.inl (hw _ (List.mem_of_getElem? (i := 21) rfl))) Via.refl e0 F_v (hb hby d_jdk_42m54_1) (pc' := 4) rfl (fun T1 X1 e1 => ?_)
  refine ow_len X1 hx hZ e1 V_a (hb hby d_jdk_42m54_4) (pc' := 5) rfl ?_
  refine ow_aloadN X1 hx (hb hby d_jdk_42m54_5) rfl rfl (pc' := 6) rfl ?_
  refine ow_callVPI X1 hx hZ rfl hown (hw _ (List.mem_of_getElem? (i := 58) rfl)) (hw _ (List.mem_of_getElem? (i := 59) rfl)) (hw _ (List.mem_of_getElem? (i := 61) rfl)) (hw _ (List.mem_of_getElem? (i := 60) rfl)) (hw _ (List.mem_of_getElem? (i := 4) rfl)) (hw _ (List.mem_of_getElem? (i := 62) rfl)) (by decide) (rm_coder l Z a0 hw [] o zc h0 S_cs F_c (by first | assumption | decide | omega)) e1 1 (by decide) (by decide) (by decide) (by decide) [] (by rw [hml]; rfl) pd_3 rfl E_o rfl rfl (Nat.le_of_eq rfl) (hb hby d_jdk_42m54_6) (pc' := 9) rfl (fun z2 T2 hz2 X2 e2 => ?_)
  have az2 : z2.toInt = 0 := hz2
  have rz2 := rng32 z2
  obtain rfl : z2 = (0 : Int32) := ow_eq (show z2.toInt = 0 from by omega)
  refine ow_ishr X2 hx (hb hby d_jdk_42m54_9) (pc' := 10) rfl (fun z3 hz3 => ?_)
  obtain rfl : z3 = (4 : Int32) := hz3.trans (by decide)
  exact ow_retI X2 hx hret hlk (hb hby d_jdk_42m54_10) (by decide) (by decide) ⟨(4 : Int32), rfl, (show (4 : Int) = 4 from by omega), rfl, e2⟩
theorem pd_4 : parseMethodDescriptor "()Z" = some ⟨[], some .boolean⟩ := by decide +kernel
theorem pd_5 : parseMethodDescriptor "()I" = some ⟨[], some .int⟩ := by decide +kernel
theorem d_jdk_42m80_0 : decode jdk_42_method_80_code 0 = .ok (.aload_n 0, 1) := by decide +kernel
theorem d_jdk_42m80_1 : decode jdk_42_method_80_code 1 = .ok (.invokevirtual 492, 3) := by decide +kernel
theorem d_jdk_42m80_4 : decode jdk_42_method_80_code 4 = .ok (.ifCond .eq 19, 3) := by decide +kernel
theorem d_jdk_42m80_7 : decode jdk_42_method_80_code 7 = .ok (.aload_n 0, 1) := by decide +kernel
theorem d_jdk_42m80_8 : decode jdk_42_method_80_code 8 = .ok (.getfield 9, 3) := by decide +kernel
theorem d_jdk_42m80_11 : decode jdk_42_method_80_code 11 = .ok (.iload_n 1, 1) := by decide +kernel
theorem d_jdk_42m80_12 : decode jdk_42_method_80_code 12 = .ok (.iload_n 2, 1) := by decide +kernel
theorem d_jdk_42m80_13 : decode jdk_42_method_80_code 13 = .ok (.aload_n 0, 1) := by decide +kernel
theorem d_jdk_42m80_14 : decode jdk_42_method_80_code 14 = .ok (.invokevirtual 505, 3) := by decide +kernel
theorem d_jdk_42m80_17 : decode jdk_42_method_80_code 17 = .ok (.invokestatic 637, 3) := by decide +kernel
theorem d_jdk_42m80_20 : decode jdk_42_method_80_code 20 = .ok (.goto 16, 3) := by decide +kernel
theorem d_jdk_42m80_36 : decode jdk_42_method_80_code 36 = .ok (.ireturn, 1) := by decide +kernel
theorem ef_ixII (m : MethodId) (x0 : Addr) (x1 : Int32) (x2 : Int32) : entryFrame m #[(.ref x0), (.int x1), (.int x2)] 3 = mkF m 0 #[.val (.ref x0), .val (.int x1), .val (.int x2)] [] := by first | (simp [entryFrame, mkF, argsToLocals, Value.category]; done) | rfl
set_option maxRecDepth 65536 in
set_option maxHeartbeats 40000000 in
theorem rm_ixII (l : Launch) (Z : State) (a0 : Array Value) (hw : ∀ d ∈ tables_1, d.before a0 Z = true) (ws : List Jvm.Cond) (o : Addr) (pc : Int32) (pf : Int32) (zc : Int32) (oa : Addr) (ka : ClassId) (h0 : Heap) (S_cs : Sta Z h0 "java/lang/String" "COMPACT_STRINGS" "Z" (.int zc)) (E_o : Exa Z h0 o "java/lang/String") (F_c : Fld Z h0 o "java/lang/String" "coder" "B" (.int (0 : Int32))) (F_v : Fld Z h0 o "java/lang/String" "value" "[B" (.ref oa)) (V_a : Arv Z h0 oa ka (.byte) (4 : Int32) [(.int (45 : Int32)), (.int (46 : Int32)), (.int (95 : Int32)), (.int (126 : Int32))] (.int (0 : Int32))) (hz0 : ¬ zc.toInt = 0) (hc0 : 0 ≤ pc.toInt) (hpf : pf.toInt = 0) :
    MetFree l (⟨"java/lang/String", "indexOf", "(II)I"⟩ : MethodName) (head1 (Jvm.Cond.code (⟨"java/lang/String", "indexOf", "(II)I"⟩ : MethodName) jdk_42_method_80_code 3 (some .int) :: ws) ({ frames := 2, cells := 0, slots := 0, locals := 32 } : Room)) (fun a_ U_ => a_ = #[(.ref o), (.int pc), (.int pf)] ∧ Z.Warmed39 U_.vm ∧ U_.heap = h0) (fun _ _ _ _ _ => True) (fun _ U_ o_ U_' => ∃ v_ L_, o_ = .returned v_ ∧ (QI (fun z => ((pc.toInt = 45 ∨ pc.toInt = 46 ∨ pc.toInt = 95 ∨ pc.toInt = 126) ∧ 0 ≤ z.toInt) ∨ (¬ (pc.toInt = 45 ∨ pc.toInt = 46 ∨ pc.toInt = 95 ∨ pc.toInt = 126) ∧ z.toInt = -1)) h0) v_ U_'.heap L_ ∧ FrameEnd U_ o_ U_' L_ 0 0) := by
  refine ow_body (plainFor_of_name pn_1) ?_
  intro p e s m below meth c T0 X0 hx hZ hby hml hown hnm hret hlk e0
  refine Ends.cast (ef_ixII m o pc pf) ?_
  have r_pc := rng32 pc
  have r_pf := rng32 pf
  refine ow_aloadN X0 hx (hb hby d_jdk_42m80_0) rfl rfl (pc' := 1) rfl ?_
  refine ow_callVPI X0 hx hZ rfl hown (hw _ (List.mem_of_getElem? (i := 68) rfl)) (hw _ (List.mem_of_getElem? (i := 69) rfl)) (hw _ (List.mem_of_getElem? (i := 71) rfl)) (hw _ (List.mem_of_getElem? (i := 70) rfl)) (hw _ (List.mem_of_getElem? (i := 4) rfl)) (hw _ (List.mem_of_getElem? (i := 72) rfl)) (by decide) (rm_isLatin1 l Z a0 hw [] o zc h0 S_cs F_c (by first | assumption | decide | omega)) e0 0 (by decide) (by decide) (by decide) (by decide) [] (by rw [hml]; rfl) pd_4 rfl E_o rfl rfl (Nat.le_of_eq rfl) (hb hby d_jdk_42m80_1) (pc' := 4) rfl (fun z1 T1 hz1 X1 e1 => ?_)
  have az1 : z1.toInt = 1 := hz1
  have rz1 := rng32 z1
  refine ow_if_eq X1 hx (z1.toInt) (hb hby d_jdk_42m80_4) rfl (by decide) (pt := 23) (by decide) (pf := 7) rfl (fun c4 => absurd c4 (by omega)) (fun c4 => ?_)
  refine ow_aloadN X1 hx (hb hby d_jdk_42m80_7) rfl rfl (pc' := 8) rfl ?_
  refine ow_getF X1 hx hZ hown (host := "") (Or.inl (hw _ (List.mem_of_getElem? (i := 21) rfl))) Via.refl e1 F_v (hb hby d_jdk_42m80_8) (pc' := 11) rfl (fun T2 X2 e2 => ?_)
  refine ow_iloadN X2 hx (hb hby d_jdk_42m80_11) rfl (pc' := 12) rfl ?_
  refine ow_iloadN X2 hx (hb hby d_jdk_42m80_12) rfl (pc' := 13) rfl ?_
  refine ow_aloadN X2 hx (hb hby d_jdk_42m80_13) rfl rfl (pc' := 14) rfl ?_
  refine ow_callVPI X2 hx hZ rfl hown (hw _ (List.mem_of_getElem? (i := 104) rfl)) (hw _ (List.mem_of_getElem? (i := 54) rfl)) (hw _ (List.mem_of_getElem? (i := 56) rfl)) (hw _ (List.mem_of_getElem? (i := 55) rfl)) (hw _ (List.mem_of_getElem? (i := 4) rfl)) (hw _ (List.mem_of_getElem? (i := 57) rfl)) (by decide) (rm_strLen l Z a0 hw [] o zc oa ka h0 S_cs E_o F_c F_v V_a (by first | assumption | decide | omega)) e2 3 (by decide) (by decide) (by decide) (by decide) [] (by rw [hml]; rfl) pd_5 rfl E_o rfl rfl (Nat.le_of_eq rfl) (hb hby d_jdk_42m80_14) (pc' := 17) rfl (fun z3 T3 hz3 X3 e3 => ?_)
  have az3 : z3.toInt = 4 := hz3
  have rz3 := rng32 z3
  refine ow_callPI X3 hx hZ hown (hw _ (List.mem_of_getElem? (i := 105) rfl)) (hw _ (List.mem_of_getElem? (i := 106) rfl)) (hw _ (List.mem_of_getElem? (i := 75) rfl)) (hw _ (List.mem_of_getElem? (i := 107) rfl)) (by decide) (rm_ixLat l Z a0 hw [] oa pc pf z3 ka h0 V_a (by first | assumption | decide | omega) (by first | assumption | decide | omega) (by first | assumption | decide | omega)) e3 0 (by decide) (by decide) (by decide) (by decide) [(.ref oa), (.int pc), (.int pf), (.int z3)] (by rw [hml]; rfl) pd_2 rfl rfl rfl (Nat.le_of_eq rfl) (hb hby d_jdk_42m80_17) (pc' := 20) rfl (fun z4 T4 hz4 X4 e4 => ?_)
  have az4 : ((pc.toInt = 45 ∨ pc.toInt = 46 ∨ pc.toInt = 95 ∨ pc.toInt = 126) ∧ 0 ≤ z4.toInt) ∨ (¬ (pc.toInt = 45 ∨ pc.toInt = 46 ∨ pc.toInt = 95 ∨ pc.toInt = 126) ∧ z4.toInt = -1) := hz4
  have rz4 := rng32 z4
  refine ow_goto X4 hx (hb hby d_jdk_42m80_20) (by decide) (pc' := 36) (by decide) ?_
  exact ow_retI X4 hx hret hlk (hb hby d_jdk_42m80_36) (by decide) (by decide) ⟨z4, rfl, (show ((pc.toInt = 45 ∨ pc.toInt = 46 ∨ pc.toInt = 95 ∨ pc.toInt = 126) ∧ 0 ≤ z4.toInt) ∨ (¬ (pc.toInt = 45 ∨ pc.toInt = 46 ∨ pc.toInt = 95 ∨ pc.toInt = 126) ∧ z4.toInt = -1) from by omega), rfl, e4⟩
theorem d_jdk_42m79_0 : decode jdk_42_method_79_code 0 = .ok (.aload_n 0, 1) := by decide +kernel
theorem d_jdk_42m79_1 : decode jdk_42_method_79_code 1 = .ok (.iload_n 1, 1) := by decide +kernel
theorem d_jdk_42m79_2 : decode jdk_42_method_79_code 2 = .ok (.iconst 0, 1) := by decide +kernel
theorem d_jdk_42m79_3 : decode jdk_42_method_79_code 3 = .ok (.invokevirtual 633, 3) := by decide +kernel
theorem d_jdk_42m79_6 : decode jdk_42_method_79_code 6 = .ok (.ireturn, 1) := by decide +kernel
theorem ef_ixI (m : MethodId) (x0 : Addr) (x1 : Int32) : entryFrame m #[(.ref x0), (.int x1)] 2 = mkF m 0 #[.val (.ref x0), .val (.int x1)] [] := by first | (simp [entryFrame, mkF, argsToLocals, Value.category]; done) | rfl
set_option maxRecDepth 65536 in
set_option maxHeartbeats 40000000 in
theorem rm_ixI (l : Launch) (Z : State) (a0 : Array Value) (hw : ∀ d ∈ tables_1, d.before a0 Z = true) (ws : List Jvm.Cond) (o : Addr) (pc : Int32) (zc : Int32) (oa : Addr) (ka : ClassId) (h0 : Heap) (S_cs : Sta Z h0 "java/lang/String" "COMPACT_STRINGS" "Z" (.int zc)) (E_o : Exa Z h0 o "java/lang/String") (F_c : Fld Z h0 o "java/lang/String" "coder" "B" (.int (0 : Int32))) (F_v : Fld Z h0 o "java/lang/String" "value" "[B" (.ref oa)) (V_a : Arv Z h0 oa ka (.byte) (4 : Int32) [(.int (45 : Int32)), (.int (46 : Int32)), (.int (95 : Int32)), (.int (126 : Int32))] (.int (0 : Int32))) (hz0 : ¬ zc.toInt = 0) (hc0 : 0 ≤ pc.toInt) :
    MetFree l (⟨"java/lang/String", "indexOf", "(I)I"⟩ : MethodName) (head1 (Jvm.Cond.code (⟨"java/lang/String", "indexOf", "(I)I"⟩ : MethodName) jdk_42_method_79_code 2 (some .int) :: ws) ({ frames := 3, cells := 0, slots := 0, locals := 46 } : Room)) (fun a_ U_ => a_ = #[(.ref o), (.int pc)] ∧ Z.Warmed39 U_.vm ∧ U_.heap = h0) (fun _ _ _ _ _ => True) (fun _ U_ o_ U_' => ∃ v_ L_, o_ = .returned v_ ∧ (QI (fun z => ((pc.toInt = 45 ∨ pc.toInt = 46 ∨ pc.toInt = 95 ∨ pc.toInt = 126) ∧ 0 ≤ z.toInt) ∨ (¬ (pc.toInt = 45 ∨ pc.toInt = 46 ∨ pc.toInt = 95 ∨ pc.toInt = 126) ∧ z.toInt = -1)) h0) v_ U_'.heap L_ ∧ FrameEnd U_ o_ U_' L_ 0 0) := by
  refine ow_body (plainFor_of_name pn_1) ?_
  intro p e s m below meth c T0 X0 hx hZ hby hml hown hnm hret hlk e0
  refine Ends.cast (ef_ixI m o pc) ?_
  have r_pc := rng32 pc
  refine ow_aloadN X0 hx (hb hby d_jdk_42m79_0) rfl rfl (pc' := 1) rfl ?_
  refine ow_iloadN X0 hx (hb hby d_jdk_42m79_1) rfl (pc' := 2) rfl ?_
  refine ow_iconst X0 hx (z := (0 : Int32)) (hb hby d_jdk_42m79_2) rfl (pc' := 3) rfl ?_
  refine ow_callVPI X0 hx hZ rfl hown (hw _ (List.mem_of_getElem? (i := 99) rfl)) (hw _ (List.mem_of_getElem? (i := 100) rfl)) (hw _ (List.mem_of_getElem? (i := 102) rfl)) (hw _ (List.mem_of_getElem? (i := 101) rfl)) (hw _ (List.mem_of_getElem? (i := 4) rfl)) (hw _ (List.mem_of_getElem? (i := 103) rfl)) (by decide) (rm_ixII l Z a0 hw [] o pc (0 : Int32) zc oa ka h0 S_cs E_o F_c F_v V_a (by first | assumption | decide | omega | (have q0_ : (0 : Int32).toInt = 0 := (by decide); omega)) (by first | assumption | decide | omega | (have q0_ : (0 : Int32).toInt = 0 := (by decide); omega)) (by first | assumption | decide | omega | (have q0_ : (0 : Int32).toInt = 0 := (by decide); omega))) e0 0 (by decide) (by decide) (by decide) (by decide) [(.int pc), (.int (0 : Int32))] (by rw [hml]; rfl) pd_1 rfl E_o rfl rfl (Nat.le_of_eq rfl) (hb hby d_jdk_42m79_3) (pc' := 6) rfl (fun z1 T1 hz1 X1 e1 => ?_)
  have az1 : ((pc.toInt = 45 ∨ pc.toInt = 46 ∨ pc.toInt = 95 ∨ pc.toInt = 126) ∧ 0 ≤ z1.toInt) ∨ (¬ (pc.toInt = 45 ∨ pc.toInt = 46 ∨ pc.toInt = 95 ∨ pc.toInt = 126) ∧ z1.toInt = -1) := hz1
  have rz1 := rng32 z1
  exact ow_retI X1 hx hret hlk (hb hby d_jdk_42m79_6) (by decide) (by decide) ⟨z1, rfl, (show ((pc.toInt = 45 ∨ pc.toInt = 46 ∨ pc.toInt = 95 ∨ pc.toInt = 126) ∧ 0 ≤ z1.toInt) ∨ (¬ (pc.toInt = 45 ∨ pc.toInt = 46 ∨ pc.toInt = 95 ∨ pc.toInt = 126) ∧ z1.toInt = -1) from by omega), rfl, e1⟩
theorem d_jdk_52m21_0 : decode jdk_52_method_21_code 0 = .ok (.iconst 0, 1) := by decide +kernel
theorem d_jdk_52m21_1 : decode jdk_52_method_21_code 1 = .ok (.istore 5, 2) := by decide +kernel
theorem d_jdk_52m21_3 : decode jdk_52_method_21_code 3 = .ok (.iload 5, 2) := by decide +kernel
theorem d_jdk_52m21_5 : decode jdk_52_method_21_code 5 = .ok (.iload 4, 2) := by decide +kernel
theorem d_jdk_52m21_7 : decode jdk_52_method_21_code 7 = .ok (.if_icmp .ge 37, 3) := by decide +kernel
theorem d_jdk_52m21_10 : decode jdk_52_method_21_code 10 = .ok (.aload_n 0, 1) := by decide +kernel
theorem d_jdk_52m21_11 : decode jdk_52_method_21_code 11 = .ok (.iload_n 1, 1) := by decide +kernel
theorem d_jdk_52m21_12 : decode jdk_52_method_21_code 12 = .ok (.caload, 1) := by decide +kernel
theorem d_jdk_52m21_13 : decode jdk_52_method_21_code 13 = .ok (.istore 6, 2) := by decide +kernel
theorem d_jdk_52m21_15 : decode jdk_52_method_21_code 15 = .ok (.iload 6, 2) := by decide +kernel
theorem d_jdk_52m21_17 : decode jdk_52_method_21_code 17 = .ok (.sipush 255, 3) := by decide +kernel
theorem d_jdk_52m21_20 : decode jdk_52_method_21_code 20 = .ok (.if_icmp .le 6, 3) := by decide +kernel
theorem d_jdk_52m21_26 : decode jdk_52_method_21_code 26 = .ok (.aload_n 2, 1) := by decide +kernel
theorem d_jdk_52m21_27 : decode jdk_52_method_21_code 27 = .ok (.iload_n 3, 1) := by decide +kernel
theorem d_jdk_52m21_28 : decode jdk_52_method_21_code 28 = .ok (.iload 6, 2) := by decide +kernel
theorem d_jdk_52m21_30 : decode jdk_52_method_21_code 30 = .ok (.i2b, 1) := by decide +kernel
theorem d_jdk_52m21_31 : decode jdk_52_method_21_code 31 = .ok (.bastore, 1) := by decide +kernel
theorem d_jdk_52m21_32 : decode jdk_52_method_21_code 32 = .ok (.iinc 1 1, 3) := by decide +kernel
theorem d_jdk_52m21_35 : decode jdk_52_method_21_code 35 = .ok (.iinc 3 1, 3) := by decide +kernel
theorem d_jdk_52m21_38 : decode jdk_52_method_21_code 38 = .ok (.iinc 5 1, 3) := by decide +kernel
theorem d_jdk_52m21_41 : decode jdk_52_method_21_code 41 = .ok (.goto (-38), 3) := by decide +kernel
theorem d_jdk_52m21_44 : decode jdk_52_method_21_code 44 = .ok (.iload 4, 2) := by decide +kernel
theorem d_jdk_52m21_46 : decode jdk_52_method_21_code 46 = .ok (.ireturn, 1) := by decide +kernel
theorem ef_cfL (m : MethodId) (x0 : Addr) (x1 : Int32) (x2 : Addr) (x3 : Int32) (x4 : Int32) : entryFrame m #[(.ref x0), (.int x1), (.ref x2), (.int x3), (.int x4)] 7 = mkF m 0 #[.val (.ref x0), .val (.int x1), .val (.ref x2), .val (.int x3), .val (.int x4), .unset, .unset] [] := by first | (simp [entryFrame, mkF, argsToLocals, Value.category]; done) | rfl
def Q_cfL (Z : State) (oc : Addr) (ps : Int32) (od : Addr) (pd : Int32) (pn : Int32) (kc : ClassId) (f : Nat → Int32) (kd : ClassId) (g : Nat → Int32) (h0 : Heap) (n0 : Nat) (v : Option Value) (h : Heap) (L : List Loc) : Prop := ∃ (fr : Nat → Int32), (v = some (.int pn)) ∧ (Fr n0 L) ∧ (Keep h0 h [od]) ∧ (Arv Z h od kd (.byte) pn (BL fr) (.int (0 : Int32))) ∧ (LatF pn.toInt fr f)
theorem pn_2 : plainName "java/lang/StringUTF16" = true := by first | (simp [plainName, overriddenIn]; done) | decide +kernel
set_option maxRecDepth 65536 in
set_option maxHeartbeats 40000000 in
theorem rm_cfL (l : Launch) (Z : State) (a0 : Array Value) (hw : ∀ d ∈ tables_1, d.before a0 Z = true) (ws : List Jvm.Cond) (oc : Addr) (ps : Int32) (od : Addr) (pd : Int32) (pn : Int32) (kc : ClassId) (f : Nat → Int32) (kd : ClassId) (g : Nat → Int32) (h0 : Heap) (n0 : Nat) (Z0 : n0 ≤ h0.size) (V_c : Arv Z h0 oc kc (.char) pn (BL f) (.int (0 : Int32))) (V_d : Arv Z h0 od kd (.byte) pn (BL g) (.int (0 : Int32))) (g_od : n0 ≤ od) (ne_oc_od : oc ≠ od) (hps : ps.toInt = 0) (hpd : pd.toInt = 0) (hn0 : 1 ≤ pn.toInt) (hn1 : pn.toInt ≤ 4) (hr : Rng f) (hs : Sml f) :
    MetFree l (⟨"java/lang/StringUTF16", "compress", "([CI[BII)I"⟩ : MethodName) (head1 (Jvm.Cond.code (⟨"java/lang/StringUTF16", "compress", "([CI[BII)I"⟩ : MethodName) jdk_52_method_21_code 7 (some .int) :: ws) ({ frames := 0, cells := 0, slots := 0, locals := 0 } : Room)) (fun a_ U_ => a_ = #[(.ref oc), (.int ps), (.ref od), (.int pd), (.int pn)] ∧ Z.Warmed39 U_.vm ∧ U_.heap = h0) (fun _ _ _ _ _ => True) (fun _ U_ o_ U_' => ∃ v_ L_, o_ = .returned v_ ∧ (Q_cfL Z oc ps od pd pn kc f kd g h0 n0) v_ U_'.heap L_ ∧ FrameEnd U_ o_ U_' L_ 0 0) := by
  refine ow_body (plainFor_of_name pn_2) ?_
  intro p e s m below meth c T0 X0 hx hZ hby hml hown hnm hret hlk e0
  have N0 := Fr.nil n0
  refine Ends.cast (ef_cfL m oc ps od pd pn) ?_
  have r_ps := rng32 ps
  have r_pd := rng32 pd
  have r_pn := rng32 pn
  refine ow_iconst X0 hx (z := (0 : Int32)) (hb hby d_jdk_52m21_0) rfl (pc' := 1) rfl ?_
  refine ow_istore X0 hx (Ls' := #[.val (.ref oc), .val (.int ps), .val (.ref od), .val (.int pd), .val (.int pn), .val (.int (0 : Int32)), .unset]) (hb hby d_jdk_52m21_1) rfl (pc' := 3) rfl ?_
  have J3 : ∀ (n : Nat) (iv : Int32) (iw : Int32) (ik : Int32) (s6 : Slot) (fj : Nat → Int32) (T1 : State) (hj3 : Heap) (lc3 : List Loc), Stand p l e ({ frames := 0, cells := 0, slots := 0, locals := 0 } : Room) s m #[(.ref oc), (.int ps), (.ref od), (.int pd), (.int pn)] below meth c T1 lc3 0 0 → T1.heap = hj3 → Fr n0 lc3 → (Arv Z hj3 oc kc (.char) pn (BL f) (.int (0 : Int32))) → (Arv Z hj3 od kd (.byte) pn (BL fj) (.int (0 : Int32))) → (Keep h0 hj3 [od]) → (n0 ≤ hj3.size) → (iv.toInt = ik.toInt ∧ iw.toInt = ik.toInt ∧ 0 ≤ ik.toInt ∧ ik.toInt ≤ pn.toInt ∧ ((s6 : Slot) = .unset ∨ ∃ x : Int32, (s6 : Slot) = .val (.int x)) ∧ LatF ik.toInt fj f) → (pn.toInt - ik.toInt) = (n : Int) → Ends p e below (Out s 0 0 (Q_cfL Z oc ps od pd pn kc f kd g h0 n0)) T1 (mkF m 3 #[.val (.ref oc), .val (.int iv), .val (.ref od), .val (.int iw), .val (.int pn), .val (.int ik), s6] []) := by
    intro n
    induction n using Nat.strongRecOn with
    | _ n ih =>
      intro iv iw ik s6 fj T1 hj3 lc3 X1 e1 Nj3 Hf3_0 Hf3_1 HK3 HZ3 hi3 hm3
      have r_iv := rng32 iv
      have r_iw := rng32 iw
      have r_ik := rng32 ik
      refine ow_iload X1 hx (hb hby d_jdk_52m21_3) rfl (pc' := 5) rfl ?_
      refine ow_iload X1 hx (hb hby d_jdk_52m21_5) rfl (pc' := 7) rfl ?_
      refine ow_icmp_ge X1 hx (ik.toInt) (pn.toInt) (hb hby d_jdk_52m21_7) rfl rfl (by decide) (pt := 44) (by decide) (pf := 10) rfl (fun c7 => ?_) (fun c7 => ?_)
      · refine ow_iload X1 hx (hb hby d_jdk_52m21_44) rfl (pc' := 46) rfl ?_
        exact ow_retI X1 hx hret hlk (hb hby d_jdk_52m21_46) (by decide) (by decide) (show Q_cfL Z oc ps od pd pn kc f kd g h0 n0 _ T1.heap _ from by rw [e1]; exact ⟨fj, rfl, Nj3, HK3, Hf3_1, (show LatF pn.toInt fj f from by rw [show pn.toInt = ik.toInt from by omega]; exact hi3.2.2.2.2.2)⟩)
      · refine ow_aloadN X1 hx (hb hby d_jdk_52m21_10) rfl rfl (pc' := 11) rfl ?_
        refine ow_iloadN X1 hx (hb hby d_jdk_52m21_11) rfl (pc' := 12) rfl ?_
        obtain ⟨x2, hx2⟩ : ∃ x : Int32, x = f iv.toInt.toNat := ⟨_, rfl⟩
        have hr2 : 0 ≤ x2.toInt ∧ x2.toInt ≤ 65535 := by rw [hx2]; exact hr _
        have hs2 : x2.toInt ≤ 255 := by rw [hx2]; exact hs _
        refine ow_ldC X1 hx hZ e1 Hf3_0 (ow_nlt (y := (0 : Int32)) (show ¬ iv.toInt < 0 from by omega)) (ow_lt (show iv.toInt < pn.toInt from by omega)) (show (BL f).getD iv.toNatClampNeg (.int (0 : Int32)) = .int x2 from by rw [hx2]; exact BL_get _ _ (show iv.toInt.toNat < 16 by omega) _) (hb hby d_jdk_52m21_12) (pc' := 13) rfl ?_
        rcases hi3.2.2.2.2.1 with hs6 | ⟨w6, hs6⟩ <;> subst hs6
        · refine ow_istore X1 hx (Ls' := #[.val (.ref oc), .val (.int iv), .val (.ref od), .val (.int iw), .val (.int pn), .val (.int ik), .val (.int x2)]) (hb hby d_jdk_52m21_13) rfl (pc' := 15) rfl ?_
          refine ow_iload X1 hx (hb hby d_jdk_52m21_15) rfl (pc' := 17) rfl ?_
          refine ow_sipush X1 hx (z := (255 : Int32)) (hb hby d_jdk_52m21_17) rfl (pc' := 20) rfl ?_
          refine ow_icmp_le X1 hx (x2.toInt) ((255 : Int)) (hb hby d_jdk_52m21_20) rfl rfl (by decide) (pt := 26) (by decide) (pf := 23) rfl (fun c20 => ?_) (fun c20 => absurd c20 (by omega))
          refine ow_aloadN X1 hx (hb hby d_jdk_52m21_26) rfl rfl (pc' := 27) rfl ?_
          refine ow_iloadN X1 hx (hb hby d_jdk_52m21_27) rfl (pc' := 28) rfl ?_
          refine ow_iload X1 hx (hb hby d_jdk_52m21_28) rfl (pc' := 30) rfl ?_
          refine ow_i2b X1 hx (hb hby d_jdk_52m21_30) (pc' := 31) rfl (fun z3 hz3 => ?_)
          have az3 : (z3.toInt - x2.toInt) % 256 = 0 ∧ -128 ≤ z3.toInt ∧ z3.toInt < 128 := by rw [hz3]; exact c_i2b x2
          have rz3 := rng32 z3
          refine ow_stB X1 hx hZ e1 Hf3_1 (iw.toNatClampNeg) rfl (ow_nlt (y := (0 : Int32)) (show ¬ iw.toInt < 0 from by omega)) (ow_lt (show iw.toInt < pn.toInt from by omega)) (by rw [BL_len]; show iw.toInt.toNat < 16; omega) (hb hby d_jdk_52m21_31) (pc' := 32) rfl (fun T4 h4 X4 e4 W4 V4 => ?_)
          have V_od_4 : Arv Z h4 od kd (.byte) pn (BL (upd fj iw.toInt.toNat (z3.toInt8.toInt32))) (.int (0 : Int32)) := by rw [← (show (BL fj).set iw.toNatClampNeg (.int (z3.toInt8.toInt32)) = BL (upd fj iw.toInt.toNat (z3.toInt8.toInt32)) from BL_set _ _ _)]; exact V4
          have V_oc_4 := Hf3_0.other W4 ne_oc_od
          have Zs4 : n0 ≤ h4.size := Nat.le_trans HZ3 (Keep.of_wr W4).1
          have K4 := HK3.wr W4 (Or.inl (List.mem_of_getElem? (i := 0) rfl))
          have N4 := Fr.snoc X4 Nj3 g_od
          refine ow_iinc X4 hx (Ls' := #[.val (.ref oc), .val (.int iv), .val (.ref od), .val (.int iw), .val (.int pn), .val (.int ik), .val (.int x2)]) (hb hby d_jdk_52m21_32) rfl (fun z => rfl) (pc' := 35) rfl (fun z5 hz5 => ?_)
          show Ends _ _ _ _ T4 (mkF m 35 #[.val (.ref oc), .val (.int z5), .val (.ref od), .val (.int iw), .val (.int pn), .val (.int ik), .val (.int x2)] [])
          have az5 : (z5.toInt - (iv.toInt + 1)) % 4294967296 = 0 := by rw [hz5]; exact c_iadd iv (1 : Int32)
          have rz5 := rng32 z5
          refine ow_iinc X4 hx (Ls' := #[.val (.ref oc), .val (.int z5), .val (.ref od), .val (.int iw), .val (.int pn), .val (.int ik), .val (.int x2)]) (hb hby d_jdk_52m21_35) rfl (fun z => rfl) (pc' := 38) rfl (fun z6 hz6 => ?_)
          show Ends _ _ _ _ T4 (mkF m 38 #[.val (.ref oc), .val (.int z5), .val (.ref od), .val (.int z6), .val (.int pn), .val (.int ik), .val (.int x2)] [])
          have az6 : (z6.toInt - (iw.toInt + 1)) % 4294967296 = 0 := by rw [hz6]; exact c_iadd iw (1 : Int32)
          have rz6 := rng32 z6
          refine ow_iinc X4 hx (Ls' := #[.val (.ref oc), .val (.int z5), .val (.ref od), .val (.int z6), .val (.int pn), .val (.int ik), .val (.int x2)]) (hb hby d_jdk_52m21_38) rfl (fun z => rfl) (pc' := 41) rfl (fun z7 hz7 => ?_)
          show Ends _ _ _ _ T4 (mkF m 41 #[.val (.ref oc), .val (.int z5), .val (.ref od), .val (.int z6), .val (.int pn), .val (.int z7), .val (.int x2)] [])
          have az7 : (z7.toInt - (ik.toInt + 1)) % 4294967296 = 0 := by rw [hz7]; exact c_iadd ik (1 : Int32)
          have rz7 := rng32 z7
          refine ow_goto X4 hx (hb hby d_jdk_52m21_41) (by decide) (pc' := 3) (by decide) ?_
          exact ih (pn.toInt - z7.toInt).toNat (by omega) z5 z6 z7 (.val (.int x2)) (upd fj iw.toInt.toNat (z3.toInt8.toInt32)) T4 h4 _ X4 e4 N4 (show Arv Z h4 oc kc (.char) pn (BL f) (.int (0 : Int32)) from V_oc_4) (show Arv Z h4 od kd (.byte) pn (BL (upd fj iw.toInt.toNat (z3.toInt8.toInt32))) (.int (0 : Int32)) from V_od_4) K4 Zs4 (show z5.toInt = z7.toInt ∧ z6.toInt = z7.toInt ∧ 0 ≤ z7.toInt ∧ z7.toInt ≤ pn.toInt ∧ (((.val (.int x2)) : Slot) = .unset ∨ ∃ x : Int32, ((.val (.int x2)) : Slot) = .val (.int x)) ∧ LatF z7.toInt (upd fj iw.toInt.toNat (z3.toInt8.toInt32)) f from by refine ⟨by omega, by omega, by omega, by omega, Or.inr ⟨_, rfl⟩, LatF.step hi3.2.2.2.2.2 (by omega) (by omega) (by omega) ?_⟩; rw [show ik.toInt.toNat = iv.toInt.toNat from by omega, ← hx2]; have q_ := c_i2b z3; unfold Lo; omega) (show (pn.toInt - z7.toInt) = (((pn.toInt - z7.toInt).toNat : Nat) : Int) from by omega)
        · refine ow_istore X1 hx (Ls' := #[.val (.ref oc), .val (.int iv), .val (.ref od), .val (.int iw), .val (.int pn), .val (.int ik), .val (.int x2)]) (hb hby d_jdk_52m21_13) rfl (pc' := 15) rfl ?_
          refine ow_iload X1 hx (hb hby d_jdk_52m21_15) rfl (pc' := 17) rfl ?_
          refine ow_sipush X1 hx (z := (255 : Int32)) (hb hby d_jdk_52m21_17) rfl (pc' := 20) rfl ?_
          refine ow_icmp_le X1 hx (x2.toInt) ((255 : Int)) (hb hby d_jdk_52m21_20) rfl rfl (by decide) (pt := 26) (by decide) (pf := 23) rfl (fun c20 => ?_) (fun c20 => absurd c20 (by omega))
          refine ow_aloadN X1 hx (hb hby d_jdk_52m21_26) rfl rfl (pc' := 27) rfl ?_
          refine ow_iloadN X1 hx (hb hby d_jdk_52m21_27) rfl (pc' := 28) rfl ?_
          refine ow_iload X1 hx (hb hby d_jdk_52m21_28) rfl (pc' := 30) rfl ?_
          refine ow_i2b X1 hx (hb hby d_jdk_52m21_30) (pc' := 31) rfl (fun z8 hz8 => ?_)
          have az8 : (z8.toInt - x2.toInt) % 256 = 0 ∧ -128 ≤ z8.toInt ∧ z8.toInt < 128 := by rw [hz8]; exact c_i2b x2
          have rz8 := rng32 z8
          refine ow_stB X1 hx hZ e1 Hf3_1 (iw.toNatClampNeg) rfl (ow_nlt (y := (0 : Int32)) (show ¬ iw.toInt < 0 from by omega)) (ow_lt (show iw.toInt < pn.toInt from by omega)) (by rw [BL_len]; show iw.toInt.toNat < 16; omega) (hb hby d_jdk_52m21_31) (pc' := 32) rfl (fun T9 h9 X9 e9 W9 V9 => ?_)
          have V_od_9 : Arv Z h9 od kd (.byte) pn (BL (upd fj iw.toInt.toNat (z8.toInt8.toInt32))) (.int (0 : Int32)) := by rw [← (show (BL fj).set iw.toNatClampNeg (.int (z8.toInt8.toInt32)) = BL (upd fj iw.toInt.toNat (z8.toInt8.toInt32)) from BL_set _ _ _)]; exact V9
          have V_oc_9 := Hf3_0.other W9 ne_oc_od
          have Zs9 : n0 ≤ h9.size := Nat.le_trans HZ3 (Keep.of_wr W9).1
          have K9 := HK3.wr W9 (Or.inl (List.mem_of_getElem? (i := 0) rfl))
          have N9 := Fr.snoc X9 Nj3 g_od
          refine ow_iinc X9 hx (Ls' := #[.val (.ref oc), .val (.int iv), .val (.ref od), .val (.int iw), .val (.int pn), .val (.int ik), .val (.int x2)]) (hb hby d_jdk_52m21_32) rfl (fun z => rfl) (pc' := 35) rfl (fun z10 hz10 => ?_)
          show Ends _ _ _ _ T9 (mkF m 35 #[.val (.ref oc), .val (.int z10), .val (.ref od), .val (.int iw), .val (.int pn), .val (.int ik), .val (.int x2)] [])
          have az10 : (z10.toInt - (iv.toInt + 1)) % 4294967296 = 0 := by rw [hz10]; exact c_iadd iv (1 : Int32)
          have rz10 := rng32 z10
          refine ow_iinc X9 hx (Ls' := #[.val (.ref oc), .val (.int z10), .val (.ref od), .val (.int iw), .val (.int pn), .val (.int ik), .val (.int x2)]) (hb hby d_jdk_52m21_35) rfl (fun z => rfl) (pc' := 38) rfl (fun z11 hz11 => ?_)
          show Ends _ _ _ _ T9 (mkF m 38 #[.val (.ref oc), .val (.int z10), .val (.ref od), .val (.int z11), .val (.int pn), .val (.int ik), .val (.int x2)] [])
          have az11 : (z11.toInt - (iw.toInt + 1)) % 4294967296 = 0 := by rw [hz11]; exact c_iadd iw (1 : Int32)
          have rz11 := rng32 z11
          refine ow_iinc X9 hx (Ls' := #[.val (.ref oc), .val (.int z10), .val (.ref od), .val (.int z11), .val (.int pn), .val (.int ik), .val (.int x2)]) (hb hby d_jdk_52m21_38) rfl (fun z => rfl) (pc' := 41) rfl (fun z12 hz12 => ?_)
          show Ends _ _ _ _ T9 (mkF m 41 #[.val (.ref oc), .val (.int z10), .val (.ref od), .val (.int z11), .val (.int pn), .val (.int z12), .val (.int x2)] [])
          have az12 : (z12.toInt - (ik.toInt + 1)) % 4294967296 = 0 := by rw [hz12]; exact c_iadd ik (1 : Int32)
          have rz12 := rng32 z12
          refine ow_goto X9 hx (hb hby d_jdk_52m21_41) (by decide) (pc' := 3) (by decide) ?_
          exact ih (pn.toInt - z12.toInt).toNat (by omega) z10 z11 z12 (.val (.int x2)) (upd fj iw.toInt.toNat (z8.toInt8.toInt32)) T9 h9 _ X9 e9 N9 (show Arv Z h9 oc kc (.char) pn (BL f) (.int (0 : Int32)) from V_oc_9) (show Arv Z h9 od kd (.byte) pn (BL (upd fj iw.toInt.toNat (z8.toInt8.toInt32))) (.int (0 : Int32)) from V_od_9) K9 Zs9 (show z10.toInt = z12.toInt ∧ z11.toInt = z12.toInt ∧ 0 ≤ z12.toInt ∧ z12.toInt ≤ pn.toInt ∧ (((.val (.int x2)) : Slot) = .unset ∨ ∃ x : Int32, ((.val (.int x2)) : Slot) = .val (.int x)) ∧ LatF z12.toInt (upd fj iw.toInt.toNat (z8.toInt8.toInt32)) f from by refine ⟨by omega, by omega, by omega, by omega, Or.inr ⟨_, rfl⟩, LatF.step hi3.2.2.2.2.2 (by omega) (by omega) (by omega) ?_⟩; rw [show ik.toInt.toNat = iv.toInt.toNat from by omega, ← hx2]; have q_ := c_i2b z8; unfold Lo; omega) (show (pn.toInt - z12.toInt) = (((pn.toInt - z12.toInt).toNat : Nat) : Int) from by omega)
  exact J3 (pn.toInt - (0 : Int)).toNat ps pd (0 : Int32) (.unset) g T0 h0 _ X0 e0 N0 (show Arv Z h0 oc kc (.char) pn (BL f) (.int (0 : Int32)) from V_c) (show Arv Z h0 od kd (.byte) pn (BL g) (.int (0 : Int32)) from V_d) (Keep.refl h0 [od]) Z0 (show ps.toInt = (0 : Int) ∧ pd.toInt = (0 : Int) ∧ 0 ≤ (0 : Int) ∧ (0 : Int) ≤ pn.toInt ∧ (((.unset) : Slot) = .unset ∨ ∃ x : Int32, ((.unset) : Slot) = .val (.int x)) ∧ LatF (0 : Int) g f from by exact ⟨by omega, by omega, by omega, by omega, Or.inl rfl, LatF.nil (by decide)⟩) (show (pn.toInt - (0 : Int)) = (((pn.toInt - (0 : Int)).toNat : Nat) : Int) from by omega)
theorem d_jdk_52m21_23 : decode jdk_52_method_21_code 23 = .ok (.iload 5, 2) := by decide +kernel
theorem d_jdk_52m21_25 : decode jdk_52_method_21_code 25 = .ok (.ireturn, 1) := by decide +kernel
def Q_cfU (Z : State) (oc : Addr) (ps : Int32) (od : Addr) (pd : Int32) (pn : Int32) (kc : ClassId) (f : Nat → Int32) (kd : ClassId) (g : Nat → Int32) (jb : Nat) (h0 : Heap) (n0 : Nat) (v : Option Value) (h : Heap) (L : List Loc) : Prop := ∃ (zr : Int32), (v = some (.int zr)) ∧ (Fr n0 L) ∧ (Keep h0 h [od]) ∧ (0 ≤ zr.toInt ∧ zr.toInt < pn.toInt ∧ 255 < (f zr.toInt.toNat).toInt)
set_option maxRecDepth 65536 in
set_option maxHeartbeats 40000000 in
theorem rm_cfU (l : Launch) (Z : State) (a0 : Array Value) (hw : ∀ d ∈ tables_1, d.before a0 Z = true) (ws : List Jvm.Cond) (oc : Addr) (ps : Int32) (od : Addr) (pd : Int32) (pn : Int32) (kc : ClassId) (f : Nat → Int32) (kd : ClassId) (g : Nat → Int32) (jb : Nat) (h0 : Heap) (n0 : Nat) (Z0 : n0 ≤ h0.size) (V_c : Arv Z h0 oc kc (.char) pn (BL f) (.int (0 : Int32))) (V_d : Arv Z h0 od kd (.byte) pn (BL g) (.int (0 : Int32))) (g_od : n0 ≤ od) (ne_oc_od : oc ≠ od) (hps : ps.toInt = 0) (hpd : pd.toInt = 0) (hn0 : 1 ≤ pn.toInt) (hn1 : pn.toInt ≤ 4) (hr : Rng f) (hj : (jb : Int) < pn.toInt) (hbad : 255 < (f jb).toInt) :
    MetFree l (⟨"java/lang/StringUTF16", "compress", "([CI[BII)I"⟩ : MethodName) (head1 (Jvm.Cond.code (⟨"java/lang/StringUTF16", "compress", "([CI[BII)I"⟩ : MethodName) jdk_52_method_21_code 7 (some .int) :: ws) ({ frames := 0, cells := 0, slots := 0, locals := 0 } : Room)) (fun a_ U_ => a_ = #[(.ref oc), (.int ps), (.ref od), (.int pd), (.int pn)] ∧ Z.Warmed39 U_.vm ∧ U_.heap = h0) (fun _ _ _ _ _ => True) (fun _ U_ o_ U_' => ∃ v_ L_, o_ = .returned v_ ∧ (Q_cfU Z oc ps od pd pn kc f kd g jb h0 n0) v_ U_'.heap L_ ∧ FrameEnd U_ o_ U_' L_ 0 0) := by
  refine ow_body (plainFor_of_name pn_2) ?_
  intro p e s m below meth c T0 X0 hx hZ hby hml hown hnm hret hlk e0
  have N0 := Fr.nil n0
  refine Ends.cast (ef_cfL m oc ps od pd pn) ?_
  have r_ps := rng32 ps
  have r_pd := rng32 pd
  have r_pn := rng32 pn
  refine ow_iconst X0 hx (z := (0 : Int32)) (hb hby d_jdk_52m21_0) rfl (pc' := 1) rfl ?_
  refine ow_istore X0 hx (Ls' := #[.val (.ref oc), .val (.int ps), .val (.ref od), .val (.int pd), .val (.int pn), .val (.int (0 : Int32)), .unset]) (hb hby d_jdk_52m21_1) rfl (pc' := 3) rfl ?_
  have J3 : ∀ (n : Nat) (iv : Int32) (iw : Int32) (ik : Int32) (s6 : Slot) (fj : Nat → Int32) (T1 : State) (hj3 : Heap) (lc3 : List Loc), Stand p l e ({ frames := 0, cells := 0, slots := 0, locals := 0 } : Room) s m #[(.ref oc), (.int ps), (.ref od), (.int pd), (.int pn)] below meth c T1 lc3 0 0 → T1.heap = hj3 → Fr n0 lc3 → (Arv Z hj3 oc kc (.char) pn (BL f) (.int (0 : Int32))) → (Arv Z hj3 od kd (.byte) pn (BL fj) (.int (0 : Int32))) → (Keep h0 hj3 [od]) → (n0 ≤ hj3.size) → (iv.toInt = ik.toInt ∧ iw.toInt = ik.toInt ∧ 0 ≤ ik.toInt ∧ ik.toInt ≤ pn.toInt ∧ ((s6 : Slot) = .unset ∨ ∃ x : Int32, (s6 : Slot) = .val (.int x)) ∧ ik.toInt ≤ (jb : Int)) → (pn.toInt - ik.toInt) = (n : Int) → Ends p e below (Out s 0 0 (Q_cfU Z oc ps od pd pn kc f kd g jb h0 n0)) T1 (mkF m 3 #[.val (.ref oc), .val (.int iv), .val (.ref od), .val (.int iw), .val (.int pn), .val (.int ik), s6] []) := by
    intro n
    induction n using Nat.strongRecOn with
    | _ n ih =>
      intro iv iw ik s6 fj T1 hj3 lc3 X1 e1 Nj3 Hf3_0 Hf3_1 HK3 HZ3 hi3 hm3
      have r_iv := rng32 iv
      have r_iw := rng32 iw
      have r_ik := rng32 ik
      refine ow_iload X1 hx (hb hby d_jdk_52m21_3) rfl (pc' := 5) rfl ?_
      refine ow_iload X1 hx (hb hby d_jdk_52m21_5) rfl (pc' := 7) rfl ?_
      refine ow_icmp_ge X1 hx (ik.toInt) (pn.toInt) (hb hby d_jdk_52m21_7) rfl rfl (by decide) (pt := 44) (by decide) (pf := 10) rfl (fun c7 => ?_) (fun c7 => ?_)
      · exact absurd (show False from by omega) id
      · refine ow_aloadN X1 hx (hb hby d_jdk_52m21_10) rfl rfl (pc' := 11) rfl ?_
        refine ow_iloadN X1 hx (hb hby d_jdk_52m21_11) rfl (pc' := 12) rfl ?_
        obtain ⟨x2, hx2⟩ : ∃ x : Int32, x = f iv.toInt.toNat := ⟨_, rfl⟩
        have hr2 : 0 ≤ x2.toInt ∧ x2.toInt ≤ 65535 := by rw [hx2]; exact hr _
        have hb2 : iv.toInt = (jb : Int) → 255 < x2.toInt := fun e => by rw [hx2, show iv.toInt.toNat = jb from by omega]; exact hbad
        refine ow_ldC X1 hx hZ e1 Hf3_0 (ow_nlt (y := (0 : Int32)) (show ¬ iv.toInt < 0 from by omega)) (ow_lt (show iv.toInt < pn.toInt from by omega)) (show (BL f).getD iv.toNatClampNeg (.int (0 : Int32)) = .int x2 from by rw [hx2]; exact BL_get _ _ (show iv.toInt.toNat < 16 by omega) _) (hb hby d_jdk_52m21_12) (pc' := 13) rfl ?_
        rcases hi3.2.2.2.2.1 with hs6 | ⟨w6, hs6⟩ <;> subst hs6
        · refine ow_istore X1 hx (Ls' := #[.val (.ref oc), .val (.int iv), .val (.ref od), .val (.int iw), .val (.int pn), .val (.int ik), .val (.int x2)]) (hb hby d_jdk_52m21_13) rfl (pc' := 15) rfl ?_
          refine ow_iload X1 hx (hb hby d_jdk_52m21_15) rfl (pc' := 17) rfl ?_
          refine ow_sipush X1 hx (z := (255 : Int32)) (hb hby d_jdk_52m21_17) rfl (pc' := 20) rfl ?_
          refine ow_icmp_le X1 hx (x2.toInt) ((255 : Int)) (hb hby d_jdk_52m21_20) rfl rfl (by decide) (pt := 26) (by decide) (pf := 23) rfl (fun c20 => ?_) (fun c20 => ?_)
          · refine ow_aloadN X1 hx (hb hby d_jdk_52m21_26) rfl rfl (pc' := 27) rfl ?_
            refine ow_iloadN X1 hx (hb hby d_jdk_52m21_27) rfl (pc' := 28) rfl ?_
            refine ow_iload X1 hx (hb hby d_jdk_52m21_28) rfl (pc' := 30) rfl ?_
            refine ow_i2b X1 hx (hb hby d_jdk_52m21_30) (pc' := 31) rfl (fun z3 hz3 => ?_)
            have az3 : (z3.toInt - x2.toInt) % 256 = 0 ∧ -128 ≤ z3.toInt ∧ z3.toInt < 128 := by rw [hz3]; exact c_i2b x2
            have rz3 := rng32 z3
            refine ow_stB X1 hx hZ e1 Hf3_1 (iw.toNatClampNeg) rfl (ow_nlt (y := (0 : Int32)) (show ¬ iw.toInt < 0 from by omega)) (ow_lt (show iw.toInt < pn.toInt from by omega)) (by rw [BL_len]; show iw.toInt.toNat < 16; omega) (hb hby d_jdk_52m21_31) (pc' := 32) rfl (fun T4 h4 X4 e4 W4 V4 => ?_)
            have V_od_4 : Arv Z h4 od kd (.byte) pn (BL (upd fj iw.toInt.toNat (z3.toInt8.toInt32))) (.int (0 : Int32)) := by rw [← (show (BL fj).set iw.toNatClampNeg (.int (z3.toInt8.toInt32)) = BL (upd fj iw.toInt.toNat (z3.toInt8.toInt32)) from BL_set _ _ _)]; exact V4
            have V_oc_4 := Hf3_0.other W4 ne_oc_od
            have Zs4 : n0 ≤ h4.size := Nat.le_trans HZ3 (Keep.of_wr W4).1
            have K4 := HK3.wr W4 (Or.inl (List.mem_of_getElem? (i := 0) rfl))
            have N4 := Fr.snoc X4 Nj3 g_od
            refine ow_iinc X4 hx (Ls' := #[.val (.ref oc), .val (.int iv), .val (.ref od), .val (.int iw), .val (.int pn), .val (.int ik), .val (.int x2)]) (hb hby d_jdk_52m21_32) rfl (fun z => rfl) (pc' := 35) rfl (fun z5 hz5 => ?_)
            show Ends _ _ _ _ T4 (mkF m 35 #[.val (.ref oc), .val (.int z5), .val (.ref od), .val (.int iw), .val (.int pn), .val (.int ik), .val (.int x2)] [])
            have az5 : (z5.toInt - (iv.toInt + 1)) % 4294967296 = 0 := by rw [hz5]; exact c_iadd iv (1 : Int32)
            have rz5 := rng32 z5
            refine ow_iinc X4 hx (Ls' := #[.val (.ref oc), .val (.int z5), .val (.ref od), .val (.int iw), .val (.int pn), .val (.int ik), .val (.int x2)]) (hb hby d_jdk_52m21_35) rfl (fun z => rfl) (pc' := 38) rfl (fun z6 hz6 => ?_)
            show Ends _ _ _ _ T4 (mkF m 38 #[.val (.ref oc), .val (.int z5), .val (.ref od), .val (.int z6), .val (.int pn), .val (.int ik), .val (.int x2)] [])
            have az6 : (z6.toInt - (iw.toInt + 1)) % 4294967296 = 0 := by rw [hz6]; exact c_iadd iw (1 : Int32)
            have rz6 := rng32 z6
            refine ow_iinc X4 hx (Ls' := #[.val (.ref oc), .val (.int z5), .val (.ref od), .val (.int z6), .val (.int pn), .val (.int ik), .val (.int x2)]) (hb hby d_jdk_52m21_38) rfl (fun z => rfl) (pc' := 41) rfl (fun z7 hz7 => ?_)
            show Ends _ _ _ _ T4 (mkF m 41 #[.val (.ref oc), .val (.int z5), .val (.ref od), .val (.int z6), .val (.int pn), .val (.int z7), .val (.int x2)] [])
            have az7 : (z7.toInt - (ik.toInt + 1)) % 4294967296 = 0 := by rw [hz7]; exact c_iadd ik (1 : Int32)
            have rz7 := rng32 z7
            refine ow_goto X4 hx (hb hby d_jdk_52m21_41) (by decide) (pc' := 3) (by decide) ?_
            exact ih (pn.toInt - z7.toInt).toNat (by omega) z5 z6 z7 (.val (.int x2)) (upd fj iw.toInt.toNat (z3.toInt8.toInt32)) T4 h4 _ X4 e4 N4 (show Arv Z h4 oc kc (.char) pn (BL f) (.int (0 : Int32)) from V_oc_4) (show Arv Z h4 od kd (.byte) pn (BL (upd fj iw.toInt.toNat (z3.toInt8.toInt32))) (.int (0 : Int32)) from V_od_4) K4 Zs4 (show z5.toInt = z7.toInt ∧ z6.toInt = z7.toInt ∧ 0 ≤ z7.toInt ∧ z7.toInt ≤ pn.toInt ∧ (((.val (.int x2)) : Slot) = .unset ∨ ∃ x : Int32, ((.val (.int x2)) : Slot) = .val (.int x)) ∧ z7.toInt ≤ (jb : Int) from by exact ⟨by omega, by omega, by omega, by omega, Or.inr ⟨_, rfl⟩, by omega⟩) (show (pn.toInt - z7.toInt) = (((pn.toInt - z7.toInt).toNat : Nat) : Int) from by omega)
          · refine ow_iload X1 hx (hb hby d_jdk_52m21_23) rfl (pc' := 25) rfl ?_
            exact ow_retI X1 hx hret hlk (hb hby d_jdk_52m21_25) (by decide) (by decide) (show Q_cfU Z oc ps od pd pn kc f kd g jb h0 n0 _ T1.heap _ from by rw [e1]; exact ⟨ik, rfl, Nj3, HK3, (show 0 ≤ ik.toInt ∧ ik.toInt < pn.toInt ∧ 255 < (f ik.toInt.toNat).toInt from ⟨by omega, by omega, by rw [show ik.toInt.toNat = iv.toInt.toNat from by omega, ← hx2]; omega⟩)⟩)
        · refine ow_istore X1 hx (Ls' := #[.val (.ref oc), .val (.int iv), .val (.ref od), .val (.int iw), .val (.int pn), .val (.int ik), .val (.int x2)]) (hb hby d_jdk_52m21_13) rfl (pc' := 15) rfl ?_
          refine ow_iload X1 hx (hb hby d_jdk_52m21_15) rfl (pc' := 17) rfl ?_
          refine ow_sipush X1 hx (z := (255 : Int32)) (hb hby d_jdk_52m21_17) rfl (pc' := 20) rfl ?_
          refine ow_icmp_le X1 hx (x2.toInt) ((255 : Int)) (hb hby d_jdk_52m21_20) rfl rfl (by decide) (pt := 26) (by decide) (pf := 23) rfl (fun c20 => ?_) (fun c20 => ?_)
          · refine ow_aloadN X1 hx (hb hby d_jdk_52m21_26) rfl rfl (pc' := 27) rfl ?_
            refine ow_iloadN X1 hx (hb hby d_jdk_52m21_27) rfl (pc' := 28) rfl ?_
            refine ow_iload X1 hx (hb hby d_jdk_52m21_28) rfl (pc' := 30) rfl ?_
            refine ow_i2b X1 hx (hb hby d_jdk_52m21_30) (pc' := 31) rfl (fun z8 hz8 => ?_)
            have az8 : (z8.toInt - x2.toInt) % 256 = 0 ∧ -128 ≤ z8.toInt ∧ z8.toInt < 128 := by rw [hz8]; exact c_i2b x2
            have rz8 := rng32 z8
            refine ow_stB X1 hx hZ e1 Hf3_1 (iw.toNatClampNeg) rfl (ow_nlt (y := (0 : Int32)) (show ¬ iw.toInt < 0 from by omega)) (ow_lt (show iw.toInt < pn.toInt from by omega)) (by rw [BL_len]; show iw.toInt.toNat < 16; omega) (hb hby d_jdk_52m21_31) (pc' := 32) rfl (fun T9 h9 X9 e9 W9 V9 => ?_)
            have V_od_9 : Arv Z h9 od kd (.byte) pn (BL (upd fj iw.toInt.toNat (z8.toInt8.toInt32))) (.int (0 : Int32)) := by rw [← (show (BL fj).set iw.toNatClampNeg (.int (z8.toInt8.toInt32)) = BL (upd fj iw.toInt.toNat (z8.toInt8.toInt32)) from BL_set _ _ _)]; exact V9
            have V_oc_9 := Hf3_0.other W9 ne_oc_od
            have Zs9 : n0 ≤ h9.size := Nat.le_trans HZ3 (Keep.of_wr W9).1
            have K9 := HK3.wr W9 (Or.inl (List.mem_of_getElem? (i := 0) rfl))
            have N9 := Fr.snoc X9 Nj3 g_od
            refine ow_iinc X9 hx (Ls' := #[.val (.ref oc), .val (.int iv), .val (.ref od), .val (.int iw), .val (.int pn), .val (.int ik), .val (.int x2)]) (hb hby d_jdk_52m21_32) rfl (fun z => rfl) (pc' := 35) rfl (fun z10 hz10 => ?_)
            show Ends _ _ _ _ T9 (mkF m 35 #[.val (.ref oc), .val (.int z10), .val (.ref od), .val (.int iw), .val (.int pn), .val (.int ik), .val (.int x2)] [])
            have az10 : (z10.toInt - (iv.toInt + 1)) % 4294967296 = 0 := by rw [hz10]; exact c_iadd iv (1 : Int32)
            have rz10 := rng32 z10
            refine ow_iinc X9 hx (Ls' := #[.val (.ref oc), .val (.int z10), .val (.ref od), .val (.int iw), .val (.int pn), .val (.int ik), .val (.int x2)]) (hb hby d_jdk_52m21_35) rfl (fun z => rfl) (pc' := 38) rfl (fun z11 hz11 => ?_)
            show Ends _ _ _ _ T9 (mkF m 38 #[.val (.ref oc), .val (.int z10), .val (.ref od), .val (.int z11), .val (.int pn), .val (.int ik), .val (.int x2)] [])
            have az11 : (z11.toInt - (iw.toInt + 1)) % 4294967296 = 0 := by rw [hz11]; exact c_iadd iw (1 : Int32)
            have rz11 := rng32 z11
            refine ow_iinc X9 hx (Ls' := #[.val (.ref oc), .val (.int z10), .val (.ref od), .val (.int z11), .val (.int pn), .val (.int ik), .val (.int x2)]) (hb hby d_jdk_52m21_38) rfl (fun z => rfl) (pc' := 41) rfl (fun z12 hz12 => ?_)
            show Ends _ _ _ _ T9 (mkF m 41 #[.val (.ref oc), .val (.int z10), .val (.ref od), .val (.int z11), .val (.int pn), .val (.int z12), .val (.int x2)] [])
            have az12 : (z12.toInt - (ik.toInt + 1)) % 4294967296 = 0 := by rw [hz12]; exact c_iadd ik (1 : Int32)
            have rz12 := rng32 z12
            refine ow_goto X9 hx (hb hby d_jdk_52m21_41) (by decide) (pc' := 3) (by decide) ?_
            exact ih (pn.toInt - z12.toInt).toNat (by omega) z10 z11 z12 (.val (.int x2)) (upd fj iw.toInt.toNat (z8.toInt8.toInt32)) T9 h9 _ X9 e9 N9 (show Arv Z h9 oc kc (.char) pn (BL f) (.int (0 : Int32)) from V_oc_9) (show Arv Z h9 od kd (.byte) pn (BL (upd fj iw.toInt.toNat (z8.toInt8.toInt32))) (.int (0 : Int32)) from V_od_9) K9 Zs9 (show z10.toInt = z12.toInt ∧ z11.toInt = z12.toInt ∧ 0 ≤ z12.toInt ∧ z12.toInt ≤ pn.toInt ∧ (((.val (.int x2)) : Slot) = .unset ∨ ∃ x : Int32, ((.val (.int x2)) : Slot) = .val (.int x)) ∧ z12.toInt ≤ (jb : Int) from by exact ⟨by omega, by omega, by omega, by omega, Or.inr ⟨_, rfl⟩, by omega⟩) (show (pn.toInt - z12.toInt) = (((pn.toInt - z12.toInt).toNat : Nat) : Int) from by omega)
          · refine ow_iload X1 hx (hb hby d_jdk_52m21_23) rfl (pc' := 25) rfl ?_
            exact ow_retI X1 hx hret hlk (hb hby d_jdk_52m21_25) (by decide) (by decide) (show Q_cfU Z oc ps od pd pn kc f kd g jb h0 n0 _ T1.heap _ from by rw [e1]; exact ⟨ik, rfl, Nj3, HK3, (show 0 ≤ ik.toInt ∧ ik.toInt < pn.toInt ∧ 255 < (f ik.toInt.toNat).toInt from ⟨by omega, by omega, by rw [show ik.toInt.toNat = iv.toInt.toNat from by omega, ← hx2]; omega⟩)⟩)
  exact J3 (pn.toInt - (0 : Int)).toNat ps pd (0 : Int32) (.unset) g T0 h0 _ X0 e0 N0 (show Arv Z h0 oc kc (.char) pn (BL f) (.int (0 : Int32)) from V_c) (show Arv Z h0 od kd (.byte) pn (BL g) (.int (0 : Int32)) from V_d) (Keep.refl h0 [od]) Z0 (show ps.toInt = (0 : Int) ∧ pd.toInt = (0 : Int) ∧ 0 ≤ (0 : Int) ∧ (0 : Int) ≤ pn.toInt ∧ (((.unset) : Slot) = .unset ∨ ∃ x : Int32, ((.unset) : Slot) = .val (.int x)) ∧ (0 : Int) ≤ (jb : Int) from by exact ⟨by omega, by omega, by omega, by omega, Or.inl rfl, by omega⟩) (show (pn.toInt - (0 : Int)) = (((pn.toInt - (0 : Int)).toNat : Nat) : Int) from by omega)
theorem d_jdk_52m3_0 : decode jdk_52_method_3_code 0 = .ok (.iload_n 0, 1) := by decide +kernel
theorem d_jdk_52m3_1 : decode jdk_52_method_3_code 1 = .ok (.ifCond .ge 11, 3) := by decide +kernel
theorem d_jdk_52m3_12 : decode jdk_52_method_3_code 12 = .ok (.iload_n 0, 1) := by decide +kernel
theorem d_jdk_52m3_13 : decode jdk_52_method_3_code 13 = .ok (.ldc 20, 2) := by decide +kernel
theorem d_jdk_52m3_15 : decode jdk_52_method_3_code 15 = .ok (.if_icmp .lt 40, 3) := by decide +kernel
theorem d_jdk_52m3_55 : decode jdk_52_method_3_code 55 = .ok (.iload_n 0, 1) := by decide +kernel
theorem d_jdk_52m3_56 : decode jdk_52_method_3_code 56 = .ok (.iconst 1, 1) := by decide +kernel
theorem d_jdk_52m3_57 : decode jdk_52_method_3_code 57 = .ok (.ishl, 1) := by decide +kernel
theorem d_jdk_52m3_58 : decode jdk_52_method_3_code 58 = .ok (.ireturn, 1) := by decide +kernel
theorem ef_nbl (m : MethodId) (x0 : Int32) : entryFrame m #[(.int x0)] 1 = mkF m 0 #[.val (.int x0)] [] := by first | (simp [entryFrame, mkF, argsToLocals, Value.category]; done) | rfl
set_option maxRecDepth 65536 in
set_option maxHeartbeats 40000000 in
theorem rm_nbl (l : Launch) (Z : State) (a0 : Array Value) (hw : ∀ d ∈ tables_1, d.before a0 Z = true) (ws : List Jvm.Cond) (pn : Int32) (h0 : Heap) (hn0 : 0 ≤ pn.toInt) (hn1 : pn.toInt ≤ 4) :
    MetFree l (⟨"java/lang/StringUTF16", "newBytesLength", "(I)I"⟩ : MethodName) (head1 (Jvm.Cond.code (⟨"java/lang/StringUTF16", "newBytesLength", "(I)I"⟩ : MethodName) jdk_52_method_3_code 1 (some .int) :: ws) ({ frames := 0, cells := 0, slots := 0, locals := 0 } : Room)) (fun a_ U_ => a_ = #[(.int pn)] ∧ Z.Warmed39 U_.vm ∧ U_.heap = h0) (fun _ _ _ _ _ => True) (fun _ U_ o_ U_' => ∃ v_ L_, o_ = .returned v_ ∧ (QI (fun z => z.toInt = 2 * pn.toInt) h0) v_ U_'.heap L_ ∧ FrameEnd U_ o_ U_' L_ 0 0) := by
  refine ow_body (plainFor_of_name pn_2) ?_
  intro p e s m below meth c T0 X0 hx hZ hby hml hown hnm hret hlk e0
  refine Ends.cast (ef_nbl m pn) ?_
  have r_pn := rng32 pn
  refine ow_iloadN X0 hx (hb hby d_jdk_52m3_0) rfl (pc' := 1) rfl ?_
  refine ow_if_ge X0 hx (pn.toInt) (hb hby d_jdk_52m3_1) rfl (by decide) (pt := 12) (by decide) (pf := 4) rfl (fun c1 => ?_) (fun c1 => absurd c1 (by omega))
  refine ow_iloadN X0 hx (hb hby d_jdk_52m3_12) rfl (pc' := 13) rfl ?_
  refine ow_ldcInt X0 hx hZ hown (hw _ (List.mem_of_getElem? (i := 130) rfl)) (hb hby d_jdk_52m3_13) (pc' := 15) rfl ?_
  refine ow_icmp_lt X0 hx (pn.toInt) ((1073741823 : Int)) (hb hby d_jdk_52m3_15) rfl rfl (by decide) (pt := 55) (by decide) (pf := 18) rfl (fun c15 => ?_) (fun c15 => absurd c15 (by omega))
  refine ow_iloadN X0 hx (hb hby d_jdk_52m3_55) rfl (pc' := 56) rfl ?_
  refine ow_iconst X0 hx (z := (1 : Int32)) (hb hby d_jdk_52m3_56) rfl (pc' := 57) rfl ?_
  refine ow_ishl X0 hx (hb hby d_jdk_52m3_57) (pc' := 58) rfl (fun z1 hz1 => ?_)
  have az1 : (z1.toInt - pn.toInt * 2) % 4294967296 = 0 := by rw [hz1]; exact c_ishl pn (1 : Int32) 1 (by decide)
  have rz1 := rng32 z1
  exact ow_retI X0 hx hret hlk (hb hby d_jdk_52m3_58) (by decide) (by decide) ⟨z1, rfl, (show z1.toInt = 2 * pn.toInt from by omega), rfl, e0⟩
theorem pd_6 : parseMethodDescriptor "(I)I" = some ⟨[.int], some .int⟩ := by decide +kernel
theorem d_jdk_52m2_0 : decode jdk_52_method_2_code 0 = .ok (.iload_n 0, 1) := by decide +kernel
theorem d_jdk_52m2_1 : decode jdk_52_method_2_code 1 = .ok (.invokestatic 11, 3) := by decide +kernel
theorem d_jdk_52m2_4 : decode jdk_52_method_2_code 4 = .ok (.newarray .byte, 2) := by decide +kernel
theorem d_jdk_52m2_6 : decode jdk_52_method_2_code 6 = .ok (.areturn, 1) := by decide +kernel
theorem ef_nbf (m : MethodId) (x0 : Int32) : entryFrame m #[(.int x0)] 1 = mkF m 0 #[.val (.int x0)] [] := by first | (simp [entryFrame, mkF, argsToLocals, Value.category]; done) | rfl
def Q_nbf (Z : State) (pn : Int32) (h0 : Heap) (n0 : Nat) (v : Option Value) (h : Heap) (L : List Loc) : Prop := ∃ (ot : Addr), ∃ (kt : ClassId), ∃ (pm : Int32), (v = some (.ref ot)) ∧ (Fr n0 L) ∧ (Keep h0 h []) ∧ (Arv Z h ot kt (.byte) pm (BL (fun _ => 0)) (.int (0 : Int32))) ∧ (n0 ≤ ot) ∧ (h0.size ≤ ot) ∧ (pm.toInt = 2 * pn.toInt)
set_option maxRecDepth 65536 in
set_option maxHeartbeats 40000000 in
theorem rm_nbf (l : Launch) (Z : State) (a0 : Array Value) (hw : ∀ d ∈ tables_1, d.before a0 Z = true) (ws : List Jvm.Cond) (pn : Int32) (h0 : Heap) (n0 : Nat) (Z0 : n0 ≤ h0.size) (hn0 : 1 ≤ pn.toInt) (hn1 : pn.toInt ≤ 4) :
    MetFree l (⟨"java/lang/StringUTF16", "newBytesFor", "(I)[B"⟩ : MethodName) (head1 (Jvm.Cond.code (⟨"java/lang/StringUTF16", "newBytesFor", "(I)[B"⟩ : MethodName) jdk_52_method_2_code 1 (some (.array .byte)) :: ws) ({ frames := 1, cells := 1, slots := 8, locals := 12 } : Room)) (fun a_ U_ => a_ = #[(.int pn)] ∧ Z.Warmed39 U_.vm ∧ U_.heap = h0) (fun _ _ _ _ _ => True) (fun _ U_ o_ U_' => ∃ v_ L_, o_ = .returned v_ ∧ (Q_nbf Z pn h0 n0) v_ U_'.heap L_ ∧ FrameEnd U_ o_ U_' L_ 1 8) := by
  refine ow_body (plainFor_of_name pn_2) ?_
  intro p e s m below meth c T0 X0 hx hZ hby hml hown hnm hret hlk e0
  have N0 := Fr.nil n0
  refine Ends.cast (ef_nbf m pn) ?_
  have r_pn := rng32 pn
  refine ow_iloadN X0 hx (hb hby d_jdk_52m2_0) rfl (pc' := 1) rfl ?_
  refine ow_callPI X0 hx hZ hown (hw _ (List.mem_of_getElem? (i := 127) rfl)) (hw _ (List.mem_of_getElem? (i := 128) rfl)) (hw _ (List.mem_of_getElem? (i := 41) rfl)) (hw _ (List.mem_of_getElem? (i := 129) rfl)) (by decide) (rm_nbl l Z a0 hw [] pn h0 (by first | assumption | decide | omega) (by first | assumption | decide | omega)) e0 0 (by decide) (by decide) (by decide) (by decide) [(.int pn)] (by rw [hml]; rfl) pd_6 rfl rfl rfl (Nat.le_of_eq rfl) (hb hby d_jdk_52m2_1) (pc' := 4) rfl (fun z1 T1 hz1 X1 e1 => ?_)
  have az1 : z1.toInt = 2 * pn.toInt := hz1
  have rz1 := rng32 z1
  refine ow_newP X1 hx hZ (hw _ (List.mem_of_getElem? (i := 16) rfl)) e1 (hb hby d_jdk_52m2_4) (ow_nlt (y := (0 : Int32)) (show ¬ z1.toInt < 0 from by omega)) 8 (show z1.toInt.toNat ≤ 8 from by omega) (by decide) (by decide) (by decide) (pc' := 6) rfl (fun T2 h2 b2 k2 g2 X2 e2 E2 V2 => ?_)
  have g_b2 : n0 ≤ b2 := Nat.le_trans Z0 (Nat.le_of_eq g2.symm)
  have sz_b2 : h0.size ≤ b2 := Nat.le_trans (Keep.refl h0 []).1 (Nat.le_of_eq g2.symm)
  have Zs2 : n0 ≤ h2.size := Nat.le_trans Z0 E2.1
  have K2 := (Keep.refl h0 []).ext E2
  have V_b2 : Arv Z h2 b2 k2 .byte z1 (BL (fun _ => 0)) (.int (0 : Int32)) := V2.pad BL_zero
  exact ow_retA X2 hx hret hlk rfl rfl (hb hby d_jdk_52m2_6) (by decide) (by decide) (show Q_nbf Z pn h0 n0 _ T2.heap _ from by rw [e2]; exact ⟨b2, k2, z1, rfl, N0, K2, V_b2, g_b2, sz_b2, (show z1.toInt = 2 * pn.toInt from by omega)⟩)
theorem d_jdk_52m4_0 : decode jdk_52_method_4_code 0 = .ok (.getstatic 44, 3) := by decide +kernel
theorem d_jdk_52m4_3 : decode jdk_52_method_4_code 3 = .ok (.ifCond .ne 25, 3) := by decide +kernel
theorem d_jdk_52m4_28 : decode jdk_52_method_4_code 28 = .ok (.iload_n 1, 1) := by decide +kernel
theorem d_jdk_52m4_29 : decode jdk_52_method_4_code 29 = .ok (.iconst 1, 1) := by decide +kernel
theorem d_jdk_52m4_30 : decode jdk_52_method_4_code 30 = .ok (.ishl, 1) := by decide +kernel
theorem d_jdk_52m4_31 : decode jdk_52_method_4_code 31 = .ok (.istore_n 1, 1) := by decide +kernel
theorem d_jdk_52m4_32 : decode jdk_52_method_4_code 32 = .ok (.aload_n 0, 1) := by decide +kernel
theorem d_jdk_52m4_33 : decode jdk_52_method_4_code 33 = .ok (.iload_n 1, 1) := by decide +kernel
theorem d_jdk_52m4_34 : decode jdk_52_method_4_code 34 = .ok (.iinc 1 1, 3) := by decide +kernel
theorem d_jdk_52m4_37 : decode jdk_52_method_4_code 37 = .ok (.iload_n 2, 1) := by decide +kernel
theorem d_jdk_52m4_38 : decode jdk_52_method_4_code 38 = .ok (.getstatic 59, 3) := by decide +kernel
theorem d_jdk_52m4_41 : decode jdk_52_method_4_code 41 = .ok (.ishr, 1) := by decide +kernel
theorem d_jdk_52m4_42 : decode jdk_52_method_4_code 42 = .ok (.i2b, 1) := by decide +kernel
theorem d_jdk_52m4_43 : decode jdk_52_method_4_code 43 = .ok (.bastore, 1) := by decide +kernel
theorem d_jdk_52m4_44 : decode jdk_52_method_4_code 44 = .ok (.aload_n 0, 1) := by decide +kernel
theorem d_jdk_52m4_45 : decode jdk_52_method_4_code 45 = .ok (.iload_n 1, 1) := by decide +kernel
theorem d_jdk_52m4_46 : decode jdk_52_method_4_code 46 = .ok (.iload_n 2, 1) := by decide +kernel
theorem d_jdk_52m4_47 : decode jdk_52_method_4_code 47 = .ok (.getstatic 63, 3) := by decide +kernel
theorem d_jdk_52m4_50 : decode jdk_52_method_4_code 50 = .ok (.ishr, 1) := by decide +kernel
theorem d_jdk_52m4_51 : decode jdk_52_method_4_code 51 = .ok (.i2b, 1) := by decide +kernel
theorem d_jdk_52m4_52 : decode jdk_52_method_4_code 52 = .ok (.bastore, 1) := by decide +kernel
theorem d_jdk_52m4_53 : decode jdk_52_method_4_code 53 = .ok (.return_, 1) := by decide +kernel
theorem ef_puC (m : MethodId) (x0 : Addr) (x1 : Int32) (x2 : Int32) : entryFrame m #[(.ref x0), (.int x1), (.int x2)] 3 = mkF m 0 #[.val (.ref x0), .val (.int x1), .val (.int x2)] [] := by first | (simp [entryFrame, mkF, argsToLocals, Value.category]; done) | rfl
def Q_puC (Z : State) (oa : Addr) (pi : Int32) (pc : Int32) (ka : ClassId) (pm : Int32) (f : Nat → Int32) (h0 : Heap) (n0 : Nat) (v : Option Value) (h : Heap) (L : List Loc) : Prop := ∃ (xa : Int32), ∃ (xb : Int32), (v = none) ∧ (Fr n0 L) ∧ (Keep h0 h [oa]) ∧ (Arv Z h oa ka (.byte) pm (BL (upd (upd f (2 * pi.toInt).toNat xa) (2 * pi.toInt + 1).toNat xb)) (.int (0 : Int32))) ∧ (Lo xa pc ∧ Hi xb pc)
set_option maxRecDepth 65536 in
set_option maxHeartbeats 40000000 in
theorem rm_puC (l : Launch) (Z : State) (a0 : Array Value) (hw : ∀ d ∈ tables_1, d.before a0 Z = true) (ws : List Jvm.Cond) (oa : Addr) (pi : Int32) (pc : Int32) (ka : ClassId) (pm : Int32) (f : Nat → Int32) (h0 : Heap) (n0 : Nat) (Z0 : n0 ≤ h0.size) (S_ad : Sta Z h0 "java/lang/StringUTF16" "$assertionsDisabled" "Z" (.int (1 : Int32))) (S_hi : Sta Z h0 "java/lang/StringUTF16" "HI_BYTE_SHIFT" "I" (.int (0 : Int32))) (S_lo : Sta Z h0 "java/lang/StringUTF16" "LO_BYTE_SHIFT" "I" (.int (8 : Int32))) (V_a : Arv Z h0 oa ka (.byte) pm (BL f) (.int (0 : Int32))) (g_oa : n0 ≤ oa) (hc : 0 ≤ pc.toInt ∧ pc.toInt ≤ 65535) (hi0 : 0 ≤ pi.toInt) (hi1 : 2 * pi.toInt + 1 < pm.toInt) (hm : pm.toInt ≤ 8) :
    MetFree l (⟨"java/lang/StringUTF16", "putChar", "([BII)V"⟩ : MethodName) (head1 (Jvm.Cond.code (⟨"java/lang/StringUTF16", "putChar", "([BII)V"⟩ : MethodName) jdk_52_method_4_code 3 none :: ws) ({ frames := 0, cells := 0, slots := 0, locals := 0 } : Room)) (fun a_ U_ => a_ = #[(.ref oa), (.int pi), (.int pc)] ∧ Z.Warmed39 U_.vm ∧ U_.heap = h0) (fun _ _ _ _ _ => True) (fun _ U_ o_ U_' => ∃ v_ L_, o_ = .returned v_ ∧ (Q_puC Z oa pi pc ka pm f h0 n0) v_ U_'.heap L_ ∧ FrameEnd U_ o_ U_' L_ 0 0) := by
  refine ow_body (plainFor_of_name pn_2) ?_
  intro p e s m below meth c T0 X0 hx hZ hby hml hown hnm hret hlk e0
  have N0 := Fr.nil n0
  refine Ends.cast (ef_puC m oa pi pc) ?_
  have r_pi := rng32 pi
  have r_pc := rng32 pc
  refine ow_getS X0 hx hZ hown (host := "") (Or.inl (hw _ (List.mem_of_getElem? (i := 134) rfl))) Via.refl e0 S_ad (hb hby d_jdk_52m4_0) (pc' := 3) rfl (fun T1 X1 e1 => ?_)
  refine ow_ifY X1 hx (hb hby d_jdk_52m4_3) (by decide) (by decide) (pc' := 28) (by decide) ?_
  refine ow_iloadN X1 hx (hb hby d_jdk_52m4_28) rfl (pc' := 29) rfl ?_
  refine ow_iconst X1 hx (z := (1 : Int32)) (hb hby d_jdk_52m4_29) rfl (pc' := 30) rfl ?_
  refine ow_ishl X1 hx (hb hby d_jdk_52m4_30) (pc' := 31) rfl (fun z2 hz2 => ?_)
  have az2 : (z2.toInt - pi.toInt * 2) % 4294967296 = 0 := by rw [hz2]; exact c_ishl pi (1 : Int32) 1 (by decide)
  have rz2 := rng32 z2
  refine ow_istoreN X1 hx (Ls' := #[.val (.ref oa), .val (.int z2), .val (.int pc)]) (hb hby d_jdk_52m4_31) rfl (pc' := 32) rfl ?_
  refine ow_aloadN X1 hx (hb hby d_jdk_52m4_32) rfl rfl (pc' := 33) rfl ?_
  refine ow_iloadN X1 hx (hb hby d_jdk_52m4_33) rfl (pc' := 34) rfl ?_
  refine ow_iinc X1 hx (Ls' := #[.val (.ref oa), .val (.int z2), .val (.int pc)]) (hb hby d_jdk_52m4_34) rfl (fun z => rfl) (pc' := 37) rfl (fun z3 hz3 => ?_)
  show Ends _ _ _ _ T1 (mkF m 37 #[.val (.ref oa), .val (.int z3), .val (.int pc)] [(.int z2), (.ref oa)])
  have az3 : (z3.toInt - (z2.toInt + 1)) % 4294967296 = 0 := by rw [hz3]; exact c_iadd z2 (1 : Int32)
  have rz3 := rng32 z3
  refine ow_iloadN X1 hx (hb hby d_jdk_52m4_37) rfl (pc' := 38) rfl ?_
  refine ow_getS X1 hx hZ hown (host := "") (Or.inl (hw _ (List.mem_of_getElem? (i := 135) rfl))) Via.refl e1 S_hi (hb hby d_jdk_52m4_38) (pc' := 41) rfl (fun T4 X4 e4 => ?_)
  refine ow_ishr X4 hx (hb hby d_jdk_52m4_41) (pc' := 42) rfl (fun z5 hz5 => ?_)
  have az5 : z5.toInt = pc.toInt / 1 := by rw [hz5]; exact c_ishr pc (0 : Int32) 0 (by decide)
  have rz5 := rng32 z5
  refine ow_i2b X4 hx (hb hby d_jdk_52m4_42) (pc' := 43) rfl (fun z6 hz6 => ?_)
  have az6 : (z6.toInt - z5.toInt) % 256 = 0 ∧ -128 ≤ z6.toInt ∧ z6.toInt < 128 := by rw [hz6]; exact c_i2b z5
  have rz6 := rng32 z6
  refine ow_stB X4 hx hZ e4 V_a (z2.toNatClampNeg) rfl (ow_nlt (y := (0 : Int32)) (show ¬ z2.toInt < 0 from by omega)) (ow_lt (show z2.toInt < pm.toInt from by omega)) (by rw [BL_len]; show z2.toInt.toNat < 16; omega) (hb hby d_jdk_52m4_43) (pc' := 44) rfl (fun T7 h7 X7 e7 W7 V7 => ?_)
  have V_oa_7 : Arv Z h7 oa ka (.byte) pm (BL (upd f z2.toInt.toNat (z6.toInt8.toInt32))) (.int (0 : Int32)) := by rw [← (show (BL f).set z2.toNatClampNeg (.int (z6.toInt8.toInt32)) = BL (upd f z2.toInt.toNat (z6.toInt8.toInt32)) from BL_set _ _ _)]; exact V7
  have S_java_lang_StringUTF16__assertionsDisabled_7 := S_ad.wr W7
  have S_java_lang_StringUTF16_HI_BYTE_SHIFT_7 := S_hi.wr W7
  have S_java_lang_StringUTF16_LO_BYTE_SHIFT_7 := S_lo.wr W7
  have Zs7 : n0 ≤ h7.size := Nat.le_trans Z0 (Keep.of_wr W7).1
  have K7 := (Keep.refl h0 [oa]).wr W7 (Or.inl (List.mem_of_getElem? (i := 0) rfl))
  have N7 := Fr.snoc X7 N0 g_oa
  refine ow_aloadN X7 hx (hb hby d_jdk_52m4_44) rfl rfl (pc' := 45) rfl ?_
  refine ow_iloadN X7 hx (hb hby d_jdk_52m4_45) rfl (pc' := 46) rfl ?_
  refine ow_iloadN X7 hx (hb hby d_jdk_52m4_46) rfl (pc' := 47) rfl ?_
  refine ow_getS X7 hx hZ hown (host := "") (Or.inl (hw _ (List.mem_of_getElem? (i := 136) rfl))) Via.refl e7 S_java_lang_StringUTF16_LO_BYTE_SHIFT_7 (hb hby d_jdk_52m4_47) (pc' := 50) rfl (fun T8 X8 e8 => ?_)
  refine ow_ishr X8 hx (hb hby d_jdk_52m4_50) (pc' := 51) rfl (fun z9 hz9 => ?_)
  have az9 : z9.toInt = pc.toInt / 256 := by rw [hz9]; exact c_ishr pc (8 : Int32) 8 (by decide)
  have rz9 := rng32 z9
  refine ow_i2b X8 hx (hb hby d_jdk_52m4_51) (pc' := 52) rfl (fun z10 hz10 => ?_)
  have az10 : (z10.toInt - z9.toInt) % 256 = 0 ∧ -128 ≤ z10.toInt ∧ z10.toInt < 128 := by rw [hz10]; exact c_i2b z9
  have rz10 := rng32 z10
  refine ow_stB X8 hx hZ e8 V_oa_7 (z3.toNatClampNeg) rfl (ow_nlt (y := (0 : Int32)) (show ¬ z3.toInt < 0 from by omega)) (ow_lt (show z3.toInt < pm.toInt from by omega)) (by rw [BL_len]; show z3.toInt.toNat < 16; omega) (hb hby d_jdk_52m4_52) (pc' := 53) rfl (fun T11 h11 X11 e11 W11 V11 => ?_)
  have V_oa_11 : Arv Z h11 oa ka (.byte) pm (BL (upd (upd f z2.toInt.toNat (z6.toInt8.toInt32)) z3.toInt.toNat (z10.toInt8.toInt32))) (.int (0 : Int32)) := by rw [← (show (BL (upd f z2.toInt.toNat (z6.toInt8.toInt32))).set z3.toNatClampNeg (.int (z10.toInt8.toInt32)) = BL (upd (upd f z2.toInt.toNat (z6.toInt8.toInt32)) z3.toInt.toNat (z10.toInt8.toInt32)) from BL_set _ _ _)]; exact V11
  have S_java_lang_StringUTF16__assertionsDisabled_11 := S_java_lang_StringUTF16__assertionsDisabled_7.wr W11
  have S_java_lang_StringUTF16_HI_BYTE_SHIFT_11 := S_java_lang_StringUTF16_HI_BYTE_SHIFT_7.wr W11
  have S_java_lang_StringUTF16_LO_BYTE_SHIFT_11 := S_java_lang_StringUTF16_LO_BYTE_SHIFT_7.wr W11
  have Zs11 : n0 ≤ h11.size := Nat.le_trans Zs7 (Keep.of_wr W11).1
  have K11 := K7.wr W11 (Or.inl (List.mem_of_getElem? (i := 0) rfl))
  have N11 := Fr.snoc X11 N7 g_oa
  have V_two : Arv Z h11 oa ka (.byte) pm (BL (upd (upd f (2 * pi.toInt).toNat (z6.toInt8.toInt32)) (2 * pi.toInt + 1).toNat (z10.toInt8.toInt32))) (.int (0 : Int32)) := by rw [show (2 * pi.toInt).toNat = z2.toInt.toNat from by omega, show (2 * pi.toInt + 1).toNat = z3.toInt.toNat from by omega]; exact V_oa_11
  exact ow_retV X11 hx hret hlk (hb hby d_jdk_52m4_53) (by decide) (by decide) (show Q_puC Z oa pi pc ka pm f h0 n0 _ T11.heap _ from by rw [e11]; exact ⟨(z6.toInt8.toInt32), (z10.toInt8.toInt32), rfl, N11, K11, V_two, (show Lo (z6.toInt8.toInt32) pc ∧ Hi (z10.toInt8.toInt32) pc from by have q1_ := c_i2b z6; have q2_ := c_i2b z10; unfold Lo Hi; omega)⟩)
theorem d_jdk_52m5_0 : decode jdk_52_method_5_code 0 = .ok (.getstatic 44, 3) := by decide +kernel
theorem d_jdk_52m5_3 : decode jdk_52_method_5_code 3 = .ok (.ifCond .ne 25, 3) := by decide +kernel
theorem d_jdk_52m5_28 : decode jdk_52_method_5_code 28 = .ok (.iload_n 1, 1) := by decide +kernel
theorem d_jdk_52m5_29 : decode jdk_52_method_5_code 29 = .ok (.iconst 1, 1) := by decide +kernel
theorem d_jdk_52m5_30 : decode jdk_52_method_5_code 30 = .ok (.ishl, 1) := by decide +kernel
theorem d_jdk_52m5_31 : decode jdk_52_method_5_code 31 = .ok (.istore_n 1, 1) := by decide +kernel
theorem d_jdk_52m5_32 : decode jdk_52_method_5_code 32 = .ok (.aload_n 0, 1) := by decide +kernel
theorem d_jdk_52m5_33 : decode jdk_52_method_5_code 33 = .ok (.iload_n 1, 1) := by decide +kernel
theorem d_jdk_52m5_34 : decode jdk_52_method_5_code 34 = .ok (.iinc 1 1, 3) := by decide +kernel
theorem d_jdk_52m5_37 : decode jdk_52_method_5_code 37 = .ok (.baload, 1) := by decide +kernel
theorem d_jdk_52m5_38 : decode jdk_52_method_5_code 38 = .ok (.sipush 255, 3) := by decide +kernel
theorem d_jdk_52m5_41 : decode jdk_52_method_5_code 41 = .ok (.iand, 1) := by decide +kernel
theorem d_jdk_52m5_42 : decode jdk_52_method_5_code 42 = .ok (.getstatic 59, 3) := by decide +kernel
theorem d_jdk_52m5_45 : decode jdk_52_method_5_code 45 = .ok (.ishl, 1) := by decide +kernel
theorem d_jdk_52m5_46 : decode jdk_52_method_5_code 46 = .ok (.aload_n 0, 1) := by decide +kernel
theorem d_jdk_52m5_47 : decode jdk_52_method_5_code 47 = .ok (.iload_n 1, 1) := by decide +kernel
theorem d_jdk_52m5_48 : decode jdk_52_method_5_code 48 = .ok (.baload, 1) := by decide +kernel
theorem d_jdk_52m5_49 : decode jdk_52_method_5_code 49 = .ok (.sipush 255, 3) := by decide +kernel
theorem d_jdk_52m5_52 : decode jdk_52_method_5_code 52 = .ok (.iand, 1) := by decide +kernel
theorem d_jdk_52m5_53 : decode jdk_52_method_5_code 53 = .ok (.getstatic 63, 3) := by decide +kernel
theorem d_jdk_52m5_56 : decode jdk_52_method_5_code 56 = .ok (.ishl, 1) := by decide +kernel
theorem d_jdk_52m5_57 : decode jdk_52_method_5_code 57 = .ok (.ior, 1) := by decide +kernel
theorem d_jdk_52m5_58 : decode jdk_52_method_5_code 58 = .ok (.i2c, 1) := by decide +kernel
theorem d_jdk_52m5_59 : decode jdk_52_method_5_code 59 = .ok (.ireturn, 1) := by decide +kernel
theorem ef_geC (m : MethodId) (x0 : Addr) (x1 : Int32) : entryFrame m #[(.ref x0), (.int x1)] 2 = mkF m 0 #[.val (.ref x0), .val (.int x1)] [] := by first | (simp [entryFrame, mkF, argsToLocals, Value.category]; done) | rfl
set_option maxRecDepth 65536 in
set_option maxHeartbeats 40000000 in
theorem rm_geC (l : Launch) (Z : State) (a0 : Array Value) (hw : ∀ d ∈ tables_1, d.before a0 Z = true) (ws : List Jvm.Cond) (oa : Addr) (pi : Int32) (ka : ClassId) (pm : Int32) (f : Nat → Int32) (h0 : Heap) (S_ad : Sta Z h0 "java/lang/StringUTF16" "$assertionsDisabled" "Z" (.int (1 : Int32))) (S_hi : Sta Z h0 "java/lang/StringUTF16" "HI_BYTE_SHIFT" "I" (.int (0 : Int32))) (S_lo : Sta Z h0 "java/lang/StringUTF16" "LO_BYTE_SHIFT" "I" (.int (8 : Int32))) (V_a : Arv Z h0 oa ka (.byte) pm (BL f) (.int (0 : Int32))) (hi0 : 0 ≤ pi.toInt) (hi1 : 2 * pi.toInt + 1 < pm.toInt) (hm : pm.toInt ≤ 8) :
    MetFree l (⟨"java/lang/StringUTF16", "getChar", "([BI)C"⟩ : MethodName) (head1 (Jvm.Cond.code (⟨"java/lang/StringUTF16", "getChar", "([BI)C"⟩ : MethodName) jdk_52_method_5_code 2 (some .char) :: ws) ({ frames := 0, cells := 0, slots := 0, locals := 0 } : Room)) (fun a_ U_ => a_ = #[(.ref oa), (.int pi)] ∧ Z.Warmed39 U_.vm ∧ U_.heap = h0) (fun _ _ _ _ _ => True) (fun _ U_ o_ U_' => ∃ v_ L_, o_ = .returned v_ ∧ (QI (fun z => z.toInt = (f (2 * pi.toInt).toNat).toInt % 256 + 256 * ((f (2 * pi.toInt + 1).toNat).toInt % 256)) h0) v_ U_'.heap L_ ∧ FrameEnd U_ o_ U_' L_ 0 0) := by
  refine ow_body (plainFor_of_name pn_2) ?_
  intro p e s m below meth c T0 X0 hx hZ hby hml hown hnm hret hlk e0
  refine Ends.cast (ef_geC m oa pi) ?_
  have r_pi := rng32 pi
  refine ow_getS X0 hx hZ hown (host := "") (Or.inl (hw _ (List.mem_of_getElem? (i := 134) rfl))) Via.refl e0 S_ad (hb hby d_jdk_52m5_0) (pc' := 3) rfl (fun T1 X1 e1 => ?_)
  refine ow_ifY X1 hx (hb hby d_jdk_52m5_3) (by decide) (by decide) (pc' := 28) (by decide) ?_
  refine ow_iloadN X1 hx (hb hby d_jdk_52m5_28) rfl (pc' := 29) rfl ?_
  refine ow_iconst X1 hx (z := (1 : Int32)) (hb hby d_jdk_52m5_29) rfl (pc' := 30) rfl ?_
  refine ow_ishl X1 hx (hb hby d_jdk_52m5_30) (pc' := 31) rfl (fun z2 hz2 => ?_)
  have az2 : (z2.toInt - pi.toInt * 2) % 4294967296 = 0 := by rw [hz2]; exact c_ishl pi (1 : Int32) 1 (by decide)
  have rz2 := rng32 z2
  refine ow_istoreN X1 hx (Ls' := #[.val (.ref oa), .val (.int z2)]) (hb hby d_jdk_52m5_31) rfl (pc' := 32) rfl ?_
  refine ow_aloadN X1 hx (hb hby d_jdk_52m5_32) rfl rfl (pc' := 33) rfl ?_
  refine ow_iloadN X1 hx (hb hby d_jdk_52m5_33) rfl (pc' := 34) rfl ?_
  refine ow_iinc X1 hx (Ls' := #[.val (.ref oa), .val (.int z2)]) (hb hby d_jdk_52m5_34) rfl (fun z => rfl) (pc' := 37) rfl (fun z3 hz3 => ?_)
  show Ends _ _ _ _ T1 (mkF m 37 #[.val (.ref oa), .val (.int z3)] [(.int z2), (.ref oa)])
  have az3 : (z3.toInt - (z2.toInt + 1)) % 4294967296 = 0 := by rw [hz3]; exact c_iadd z2 (1 : Int32)
  have rz3 := rng32 z3
  obtain ⟨x4, hx4⟩ : ∃ x : Int32, x = f (2 * pi.toInt).toNat := ⟨_, rfl⟩
  refine ow_ldB X1 hx hZ e1 V_a (ow_nlt (y := (0 : Int32)) (show ¬ z2.toInt < 0 from by omega)) (ow_lt (show z2.toInt < pm.toInt from by omega)) (show (BL f).getD z2.toNatClampNeg (.int (0 : Int32)) = .int x4 from by rw [show z2.toNatClampNeg = (2 * pi.toInt).toNat from by (show z2.toInt.toNat = _; omega), hx4]; exact BL_get _ _ (by omega) _) (hb hby d_jdk_52m5_37) (pc' := 38) rfl ?_
  refine ow_sipush X1 hx (z := (255 : Int32)) (hb hby d_jdk_52m5_38) rfl (pc' := 41) rfl ?_
  refine ow_iand X1 hx (hb hby d_jdk_52m5_41) (pc' := 42) rfl (fun z5 hz5 => ?_)
  have az5 : z5.toInt = x4.toInt % 256 := by rw [hz5]; exact c_mask x4 (255 : Int32) 8 (by decide) (by decide)
  have rz5 := rng32 z5
  refine ow_getS X1 hx hZ hown (host := "") (Or.inl (hw _ (List.mem_of_getElem? (i := 135) rfl))) Via.refl e1 S_hi (hb hby d_jdk_52m5_42) (pc' := 45) rfl (fun T6 X6 e6 => ?_)
  refine ow_ishl X6 hx (hb hby d_jdk_52m5_45) (pc' := 46) rfl (fun z7 hz7 => ?_)
  have az7 : (z7.toInt - z5.toInt * 1) % 4294967296 = 0 := by rw [hz7]; exact c_ishl z5 (0 : Int32) 0 (by decide)
  have rz7 := rng32 z7
  refine ow_aloadN X6 hx (hb hby d_jdk_52m5_46) rfl rfl (pc' := 47) rfl ?_
  refine ow_iloadN X6 hx (hb hby d_jdk_52m5_47) rfl (pc' := 48) rfl ?_
  obtain ⟨x8, hx8⟩ : ∃ x : Int32, x = f (2 * pi.toInt + 1).toNat := ⟨_, rfl⟩
  refine ow_ldB X6 hx hZ e6 V_a (ow_nlt (y := (0 : Int32)) (show ¬ z3.toInt < 0 from by omega)) (ow_lt (show z3.toInt < pm.toInt from by omega)) (show (BL f).getD z3.toNatClampNeg (.int (0 : Int32)) = .int x8 from by rw [show z3.toNatClampNeg = (2 * pi.toInt + 1).toNat from by (show z3.toInt.toNat = _; omega), hx8]; exact BL_get _ _ (by omega) _) (hb hby d_jdk_52m5_48) (pc' := 49) rfl ?_
  refine ow_sipush X6 hx (z := (255 : Int32)) (hb hby d_jdk_52m5_49) rfl (pc' := 52) rfl ?_
  refine ow_iand X6 hx (hb hby d_jdk_52m5_52) (pc' := 53) rfl (fun z9 hz9 => ?_)
  have az9 : z9.toInt = x8.toInt % 256 := by rw [hz9]; exact c_mask x8 (255 : Int32) 8 (by decide) (by decide)
  have rz9 := rng32 z9
  refine ow_getS X6 hx hZ hown (host := "") (Or.inl (hw _ (List.mem_of_getElem? (i := 136) rfl))) Via.refl e6 S_lo (hb hby d_jdk_52m5_53) (pc' := 56) rfl (fun T10 X10 e10 => ?_)
  refine ow_ishl X10 hx (hb hby d_jdk_52m5_56) (pc' := 57) rfl (fun z11 hz11 => ?_)
  have az11 : (z11.toInt - z9.toInt * 256) % 4294967296 = 0 := by rw [hz11]; exact c_ishl z9 (8 : Int32) 8 (by decide)
  have rz11 := rng32 z11
  refine ow_ior X10 hx (hb hby d_jdk_52m5_57) (pc' := 58) rfl (fun z12 hz12 => ?_)
  have rz12 := rng32 z12
  have oz_z12 : z12.toInt = z7.toInt + z11.toInt := by rw [hz12]; exact ow_or8 z7 z11 (by omega) (by omega)
  refine ow_i2c X10 hx (hb hby d_jdk_52m5_58) (pc' := 59) rfl (fun z13 hz13 => ?_)
  have az13 : (z13.toInt - z12.toInt) % 65536 = 0 ∧ 0 ≤ z13.toInt ∧ z13.toInt < 65536 := by rw [hz13]; exact c_i2c z12
  have rz13 := rng32 z13
  exact ow_retC X10 hx hret hlk (hb hby d_jdk_52m5_59) (by decide) (by decide) (z' := z13) (ow_narC (by omega)) ⟨z13, rfl, (show z13.toInt = (f (2 * pi.toInt).toNat).toInt % 256 + 256 * ((f (2 * pi.toInt + 1).toNat).toInt % 256) from by rw [← hx4, ← hx8]; omega), rfl, e10⟩
theorem pd_7 : parseMethodDescriptor "(I)[B" = some ⟨[.int], some (.array .byte)⟩ := by decide +kernel
theorem pd_8 : parseMethodDescriptor "([BII)V" = some ⟨[(.array .byte), .int, .int], none⟩ := by decide +kernel
theorem d_jdk_52m14_0 : decode jdk_52_method_14_code 0 = .ok (.iload_n 2, 1) := by decide +kernel
theorem d_jdk_52m14_1 : decode jdk_52_method_14_code 1 = .ok (.invokestatic 107, 3) := by decide +kernel
theorem d_jdk_52m14_4 : decode jdk_52_method_14_code 4 = .ok (.astore_n 3, 1) := by decide +kernel
theorem d_jdk_52m14_5 : decode jdk_52_method_14_code 5 = .ok (.iconst 0, 1) := by decide +kernel
theorem d_jdk_52m14_6 : decode jdk_52_method_14_code 6 = .ok (.istore 4, 2) := by decide +kernel
theorem d_jdk_52m14_8 : decode jdk_52_method_14_code 8 = .ok (.iload 4, 2) := by decide +kernel
theorem d_jdk_52m14_10 : decode jdk_52_method_14_code 10 = .ok (.iload_n 2, 1) := by decide +kernel
theorem d_jdk_52m14_11 : decode jdk_52_method_14_code 11 = .ok (.if_icmp .ge 21, 3) := by decide +kernel
theorem d_jdk_52m14_14 : decode jdk_52_method_14_code 14 = .ok (.aload_n 3, 1) := by decide +kernel
theorem d_jdk_52m14_15 : decode jdk_52_method_14_code 15 = .ok (.iload 4, 2) := by decide +kernel
theorem d_jdk_52m14_17 : decode jdk_52_method_14_code 17 = .ok (.aload_n 0, 1) := by decide +kernel
theorem d_jdk_52m14_18 : decode jdk_52_method_14_code 18 = .ok (.iload_n 1, 1) := by decide +kernel
theorem d_jdk_52m14_19 : decode jdk_52_method_14_code 19 = .ok (.caload, 1) := by decide +kernel
theorem d_jdk_52m14_20 : decode jdk_52_method_14_code 20 = .ok (.invokestatic 111, 3) := by decide +kernel
theorem d_jdk_52m14_23 : decode jdk_52_method_14_code 23 = .ok (.iinc 1 1, 3) := by decide +kernel
theorem d_jdk_52m14_26 : decode jdk_52_method_14_code 26 = .ok (.iinc 4 1, 3) := by decide +kernel
theorem d_jdk_52m14_29 : decode jdk_52_method_14_code 29 = .ok (.goto (-21), 3) := by decide +kernel
theorem d_jdk_52m14_32 : decode jdk_52_method_14_code 32 = .ok (.aload_n 3, 1) := by decide +kernel
theorem d_jdk_52m14_33 : decode jdk_52_method_14_code 33 = .ok (.areturn, 1) := by decide +kernel
theorem ef_tob (m : MethodId) (x0 : Addr) (x1 : Int32) (x2 : Int32) : entryFrame m #[(.ref x0), (.int x1), (.int x2)] 5 = mkF m 0 #[.val (.ref x0), .val (.int x1), .val (.int x2), .unset, .unset] [] := by first | (simp [entryFrame, mkF, argsToLocals, Value.category]; done) | rfl
def Q_tob (Z : State) (oc : Addr) (ps : Int32) (pn : Int32) (kc : ClassId) (f : Nat → Int32) (h0 : Heap) (n0 : Nat) (v : Option Value) (h : Heap) (L : List Loc) : Prop := ∃ (ot : Addr), ∃ (kt : ClassId), ∃ (pm : Int32), ∃ (fr : Nat → Int32), (v = some (.ref ot)) ∧ (Fr n0 L) ∧ (Keep h0 h []) ∧ (Arv Z h ot kt (.byte) pm (BL fr) (.int (0 : Int32))) ∧ (n0 ≤ ot) ∧ (h0.size ≤ ot) ∧ (pm.toInt = 2 * pn.toInt) ∧ (UtfF pn.toInt fr f)
set_option maxRecDepth 65536 in
set_option maxHeartbeats 40000000 in
theorem rm_tob (l : Launch) (Z : State) (a0 : Array Value) (hw : ∀ d ∈ tables_1, d.before a0 Z = true) (ws : List Jvm.Cond) (oc : Addr) (ps : Int32) (pn : Int32) (kc : ClassId) (f : Nat → Int32) (h0 : Heap) (n0 : Nat) (Z0 : n0 ≤ h0.size) (S_ad : Sta Z h0 "java/lang/StringUTF16" "$assertionsDisabled" "Z" (.int (1 : Int32))) (S_hi : Sta Z h0 "java/lang/StringUTF16" "HI_BYTE_SHIFT" "I" (.int (0 : Int32))) (S_lo : Sta Z h0 "java/lang/StringUTF16" "LO_BYTE_SHIFT" "I" (.int (8 : Int32))) (V_c : Arv Z h0 oc kc (.char) pn (BL f) (.int (0 : Int32))) (hps : ps.toInt = 0) (hn0 : 1 ≤ pn.toInt) (hn1 : pn.toInt ≤ 4) (hr : Rng f) :
    MetFree l (⟨"java/lang/StringUTF16", "toBytes", "([CII)[B"⟩ : MethodName) (head1 (Jvm.Cond.code (⟨"java/lang/StringUTF16", "toBytes", "([CII)[B"⟩ : MethodName) jdk_52_method_14_code 5 (some (.array .byte)) :: ws) ({ frames := 2, cells := 1, slots := 8, locals := 24 } : Room)) (fun a_ U_ => a_ = #[(.ref oc), (.int ps), (.int pn)] ∧ Z.Warmed39 U_.vm ∧ U_.heap = h0) (fun _ _ _ _ _ => True) (fun _ U_ o_ U_' => ∃ v_ L_, o_ = .returned v_ ∧ (Q_tob Z oc ps pn kc f h0 n0) v_ U_'.heap L_ ∧ FrameEnd U_ o_ U_' L_ 1 8) := by
  refine ow_body (plainFor_of_name pn_2) ?_
  intro p e s m below meth c T0 X0 hx hZ hby hml hown hnm hret hlk e0
  have N0 := Fr.nil n0
  refine Ends.cast (ef_tob m oc ps pn) ?_
  have r_ps := rng32 ps
  have r_pn := rng32 pn
  refine ow_iloadN X0 hx (hb hby d_jdk_52m14_0) rfl (pc' := 1) rfl ?_
  refine ow_callS X0 hx hZ hown (hw _ (List.mem_of_getElem? (i := 124) rfl)) (hw _ (List.mem_of_getElem? (i := 125) rfl)) (hw _ (List.mem_of_getElem? (i := 41) rfl)) (hw _ (List.mem_of_getElem? (i := 126) rfl)) (by decide) (rm_nbf l Z a0 hw [] pn h0 n0 Z0 (by first | assumption | decide | omega) (by first | assumption | decide | omega)) e0 0 (by decide) (by decide) (by decide) (by decide) [(.int pn)] (by rw [hml]; rfl) pd_7 rfl rfl rfl (Nat.le_of_eq rfl) (hb hby d_jdk_52m14_1) (pc' := 4) rfl (fun v1 T1 L1 hQ1 X1 => ?_)
  obtain ⟨b1, kt_1, pm_1, rfl, Nc1, Kc1, P1_0, P1_1, P1_2, P1_3⟩ := hQ1
  have P1_3 : pm_1.toInt = 2 * pn.toInt := P1_3
  have S_java_lang_StringUTF16__assertionsDisabled_1 := ow_staKeep S_ad Kc1 all0
  have S_java_lang_StringUTF16_HI_BYTE_SHIFT_1 := ow_staKeep S_hi Kc1 all0
  have S_java_lang_StringUTF16_LO_BYTE_SHIFT_1 := ow_staKeep S_lo Kc1 all0
  have V_oc_1 := V_c.keep Kc1 nin0
  have ne_oc_b1 : oc ≠ b1 := Nat.ne_of_lt (Nat.lt_of_lt_of_le V_c.lt P1_2)
  have sz_b1 : h0.size ≤ b1 := Nat.le_trans (Keep.refl h0 []).1 P1_2
  have Zs1 : n0 ≤ T1.heap.size := Nat.le_trans Z0 Kc1.1
  have K1 := (Keep.refl h0 []).trans Kc1 all0
  have N1 := Fr.app N0 Nc1
  show Ends _ _ _ _ T1 (mkF m 4 #[.val (.ref oc), .val (.int ps), .val (.int pn), .unset, .unset] [(.ref b1)])
  refine ow_astoreN X1 hx (Ls' := #[.val (.ref oc), .val (.int ps), .val (.int pn), .val (.ref b1), .unset]) (hb hby d_jdk_52m14_4) rfl rfl (pc' := 5) rfl ?_
  refine ow_iconst X1 hx (z := (0 : Int32)) (hb hby d_jdk_52m14_5) rfl (pc' := 6) rfl ?_
  refine ow_istore X1 hx (Ls' := #[.val (.ref oc), .val (.int ps), .val (.int pn), .val (.ref b1), .val (.int (0 : Int32))]) (hb hby d_jdk_52m14_6) rfl (pc' := 8) rfl ?_
  have J8 : ∀ (n : Nat) (iv : Int32) (ik : Int32) (fj : Nat → Int32) (T2 : State) (hj8 : Heap) (lc8 : List Loc), Stand p l e ({ frames := 2, cells := 1, slots := 8, locals := 24 } : Room) s m #[(.ref oc), (.int ps), (.int pn)] below meth c T2 lc8 1 8 → T2.heap = hj8 → Fr n0 lc8 → (Sta Z hj8 "java/lang/StringUTF16" "$assertionsDisabled" "Z" (.int (1 : Int32))) → (Sta Z hj8 "java/lang/StringUTF16" "HI_BYTE_SHIFT" "I" (.int (0 : Int32))) → (Sta Z hj8 "java/lang/StringUTF16" "LO_BYTE_SHIFT" "I" (.int (8 : Int32))) → (Arv Z hj8 oc kc (.char) pn (BL f) (.int (0 : Int32))) → (Arv Z hj8 b1 kt_1 (.byte) pm_1 (BL fj) (.int (0 : Int32))) → (Keep h0 hj8 []) → (n0 ≤ hj8.size) → (iv.toInt = ik.toInt ∧ 0 ≤ ik.toInt ∧ ik.toInt ≤ pn.toInt ∧ UtfF ik.toInt fj f) → (pn.toInt - ik.toInt) = (n : Int) → Ends p e below (Out s 1 8 (Q_tob Z oc ps pn kc f h0 n0)) T2 (mkF m 8 #[.val (.ref oc), .val (.int iv), .val (.int pn), .val (.ref b1), .val (.int ik)] []) := by
    intro n
    induction n using Nat.strongRecOn with
    | _ n ih =>
      intro iv ik fj T2 hj8 lc8 X2 e2 Nj8 Hf8_0 Hf8_1 Hf8_2 Hf8_3 Hf8_4 HK8 HZ8 hi8 hm8
      have r_iv := rng32 iv
      have r_ik := rng32 ik
      refine ow_iload X2 hx (hb hby d_jdk_52m14_8) rfl (pc' := 10) rfl ?_
      refine ow_iloadN X2 hx (hb hby d_jdk_52m14_10) rfl (pc' := 11) rfl ?_
      refine ow_icmp_ge X2 hx (ik.toInt) (pn.toInt) (hb hby d_jdk_52m14_11) rfl rfl (by decide) (pt := 32) (by decide) (pf := 14) rfl (fun c11 => ?_) (fun c11 => ?_)
      · refine ow_aloadN X2 hx (hb hby d_jdk_52m14_32) rfl rfl (pc' := 33) rfl ?_
        exact ow_retA X2 hx hret hlk rfl rfl (hb hby d_jdk_52m14_33) (by decide) (by decide) (show Q_tob Z oc ps pn kc f h0 n0 _ T2.heap _ from by rw [e2]; exact ⟨b1, kt_1, pm_1, fj, rfl, Nj8, HK8, Hf8_4, P1_1, sz_b1, (show pm_1.toInt = 2 * pn.toInt from by omega), (show UtfF pn.toInt fj f from by rw [show pn.toInt = ik.toInt from by omega]; exact hi8.2.2.2)⟩)
      · refine ow_aloadN X2 hx (hb hby d_jdk_52m14_14) rfl rfl (pc' := 15) rfl ?_
        refine ow_iload X2 hx (hb hby d_jdk_52m14_15) rfl (pc' := 17) rfl ?_
        refine ow_aloadN X2 hx (hb hby d_jdk_52m14_17) rfl rfl (pc' := 18) rfl ?_
        refine ow_iloadN X2 hx (hb hby d_jdk_52m14_18) rfl (pc' := 19) rfl ?_
        obtain ⟨x3, hx3⟩ : ∃ x : Int32, x = f iv.toInt.toNat := ⟨_, rfl⟩
        have hr3 : 0 ≤ x3.toInt ∧ x3.toInt ≤ 65535 := by rw [hx3]; exact hr _
        refine ow_ldC X2 hx hZ e2 Hf8_3 (ow_nlt (y := (0 : Int32)) (show ¬ iv.toInt < 0 from by omega)) (ow_lt (show iv.toInt < pn.toInt from by omega)) (show (BL f).getD iv.toNatClampNeg (.int (0 : Int32)) = .int x3 from by rw [hx3]; exact BL_get _ _ (show iv.toInt.toNat < 16 by omega) _) (hb hby d_jdk_52m14_19) (pc' := 20) rfl ?_
        refine ow_callS X2 hx hZ hown (hw _ (List.mem_of_getElem? (i := 131) rfl)) (hw _ (List.mem_of_getElem? (i := 132) rfl)) (hw _ (List.mem_of_getElem? (i := 41) rfl)) (hw _ (List.mem_of_getElem? (i := 133) rfl)) (by decide) (rm_puC l Z a0 hw [] b1 ik x3 kt_1 pm_1 fj hj8 n0 HZ8 Hf8_0 Hf8_1 Hf8_2 Hf8_4 P1_1 (by first | assumption | decide | omega) (by first | assumption | decide | omega) (by first | assumption | decide | omega) (by first | assumption | decide | omega)) e2 0 (by decide) (by decide) (by decide) (by decide) [(.ref b1), (.int ik), (.int x3)] (by rw [hml]; rfl) pd_8 rfl rfl rfl (Nat.le_of_eq rfl) (hb hby d_jdk_52m14_20) (pc' := 23) rfl (fun v4 T4 L4 hQ4 X4 => ?_)
        obtain ⟨xa_4, xb_4, rfl, Nc4, Kc4, P4_0, P4_1⟩ := hQ4
        have P4_1 : Lo xa_4 x3 ∧ Hi xb_4 x3 := P4_1
        have S_java_lang_StringUTF16__assertionsDisabled_4 := ow_staKeep Hf8_0 Kc4 (allS (ow_arvNs Hf8_4) all0)
        have S_java_lang_StringUTF16_HI_BYTE_SHIFT_4 := ow_staKeep Hf8_1 Kc4 (allS (ow_arvNs Hf8_4) all0)
        have S_java_lang_StringUTF16_LO_BYTE_SHIFT_4 := ow_staKeep Hf8_2 Kc4 (allS (ow_arvNs Hf8_4) all0)
        have V_oc_4 := Hf8_3.keep Kc4 (ninS ne_oc_b1 nin0)
        have Zs4 : n0 ≤ T4.heap.size := Nat.le_trans HZ8 Kc4.1
        have K4 := HK8.trans Kc4 (allS (Or.inr sz_b1) all0)
        have N4 := Fr.app Nj8 Nc4
        show Ends _ _ _ _ T4 (mkF m 23 #[.val (.ref oc), .val (.int iv), .val (.int pn), .val (.ref b1), .val (.int ik)] [])
        refine ow_iinc X4 hx (Ls' := #[.val (.ref oc), .val (.int iv), .val (.int pn), .val (.ref b1), .val (.int ik)]) (hb hby d_jdk_52m14_23) rfl (fun z => rfl) (pc' := 26) rfl (fun z5 hz5 => ?_)
        show Ends _ _ _ _ T4 (mkF m 26 #[.val (.ref oc), .val (.int z5), .val (.int pn), .val (.ref b1), .val (.int ik)] [])
        have az5 : (z5.toInt - (iv.toInt + 1)) % 4294967296 = 0 := by rw [hz5]; exact c_iadd iv (1 : Int32)
        have rz5 := rng32 z5
        refine ow_iinc X4 hx (Ls' := #[.val (.ref oc), .val (.int z5), .val (.int pn), .val (.ref b1), .val (.int ik)]) (hb hby d_jdk_52m14_26) rfl (fun z => rfl) (pc' := 29) rfl (fun z6 hz6 => ?_)
        show Ends _ _ _ _ T4 (mkF m 29 #[.val (.ref oc), .val (.int z5), .val (.int pn), .val (.ref b1), .val (.int z6)] [])
        have az6 : (z6.toInt - (ik.toInt + 1)) % 4294967296 = 0 := by rw [hz6]; exact c_iadd ik (1 : Int32)
        have rz6 := rng32 z6
        refine ow_goto X4 hx (hb hby d_jdk_52m14_29) (by decide) (pc' := 8) (by decide) ?_
        exact ih (pn.toInt - z6.toInt).toNat (by omega) z5 z6 (upd (upd fj (2 * ik.toInt).toNat xa_4) (2 * ik.toInt + 1).toNat xb_4) T4 T4.heap _ X4 rfl N4 (show Sta Z T4.heap "java/lang/StringUTF16" "$assertionsDisabled" "Z" (.int (1 : Int32)) from S_java_lang_StringUTF16__assertionsDisabled_4) (show Sta Z T4.heap "java/lang/StringUTF16" "HI_BYTE_SHIFT" "I" (.int (0 : Int32)) from S_java_lang_StringUTF16_HI_BYTE_SHIFT_4) (show Sta Z T4.heap "java/lang/StringUTF16" "LO_BYTE_SHIFT" "I" (.int (8 : Int32)) from S_java_lang_StringUTF16_LO_BYTE_SHIFT_4) (show Arv Z T4.heap oc kc (.char) pn (BL f) (.int (0 : Int32)) from V_oc_4) (show Arv Z T4.heap b1 kt_1 (.byte) pm_1 (BL (upd (upd fj (2 * ik.toInt).toNat xa_4) (2 * ik.toInt + 1).toNat xb_4)) (.int (0 : Int32)) from P4_0) K4 Zs4 (show z5.toInt = z6.toInt ∧ 0 ≤ z6.toInt ∧ z6.toInt ≤ pn.toInt ∧ UtfF z6.toInt (upd (upd fj (2 * ik.toInt).toNat xa_4) (2 * ik.toInt + 1).toNat xb_4) f from by refine ⟨by omega, by omega, by omega, UtfF.step hi8.2.2.2 (by omega) (by omega) ?_ ?_⟩ <;> rw [show ik.toInt.toNat = iv.toInt.toNat from by omega, ← hx3] <;> first | exact P4_1.1 | exact P4_1.2) (show (pn.toInt - z6.toInt) = (((pn.toInt - z6.toInt).toNat : Nat) : Int) from by omega)
  exact J8 (pn.toInt - (0 : Int)).toNat ps (0 : Int32) (fun _ => 0) T1 T1.heap _ X1 rfl N1 (show Sta Z T1.heap "java/lang/StringUTF16" "$assertionsDisabled" "Z" (.int (1 : Int32)) from S_java_lang_StringUTF16__assertionsDisabled_1) (show Sta Z T1.heap "java/lang/StringUTF16" "HI_BYTE_SHIFT" "I" (.int (0 : Int32)) from S_java_lang_StringUTF16_HI_BYTE_SHIFT_1) (show Sta Z T1.heap "java/lang/StringUTF16" "LO_BYTE_SHIFT" "I" (.int (8 : Int32)) from S_java_lang_StringUTF16_LO_BYTE_SHIFT_1) (show Arv Z T1.heap oc kc (.char) pn (BL f) (.int (0 : Int32)) from V_oc_1) (show Arv Z T1.heap b1 kt_1 (.byte) pm_1 (BL (fun _ => 0)) (.int (0 : Int32)) from P1_0) K1 Zs1 (show ps.toInt = (0 : Int) ∧ 0 ≤ (0 : Int) ∧ (0 : Int) ≤ pn.toInt ∧ UtfF (0 : Int) (fun _ => 0) f from by exact ⟨by omega, by omega, by omega, UtfF.nil (by decide)⟩) (show (pn.toInt - (0 : Int)) = (((pn.toInt - (0 : Int)).toNat : Nat) : Int) from by omega)
theorem pd_9 : parseMethodDescriptor "([CI[BII)I" = some ⟨[(.array .char), .int, (.array .byte), .int, .int], some .int⟩ := by decide +kernel
theorem d_jdk_52m16_0 : decode jdk_52_method_16_code 0 = .ok (.iload_n 2, 1) := by decide +kernel
theorem d_jdk_52m16_1 : decode jdk_52_method_16_code 1 = .ok (.newarray .byte, 2) := by decide +kernel
theorem d_jdk_52m16_3 : decode jdk_52_method_16_code 3 = .ok (.astore_n 3, 1) := by decide +kernel
theorem d_jdk_52m16_4 : decode jdk_52_method_16_code 4 = .ok (.aload_n 0, 1) := by decide +kernel
theorem d_jdk_52m16_5 : decode jdk_52_method_16_code 5 = .ok (.iload_n 1, 1) := by decide +kernel
theorem d_jdk_52m16_6 : decode jdk_52_method_16_code 6 = .ok (.aload_n 3, 1) := by decide +kernel
theorem d_jdk_52m16_7 : decode jdk_52_method_16_code 7 = .ok (.iconst 0, 1) := by decide +kernel
theorem d_jdk_52m16_8 : decode jdk_52_method_16_code 8 = .ok (.iload_n 2, 1) := by decide +kernel
theorem d_jdk_52m16_9 : decode jdk_52_method_16_code 9 = .ok (.invokestatic 115, 3) := by decide +kernel
theorem d_jdk_52m16_12 : decode jdk_52_method_16_code 12 = .ok (.istore 4, 2) := by decide +kernel
theorem d_jdk_52m16_14 : decode jdk_52_method_16_code 14 = .ok (.iload 4, 2) := by decide +kernel
theorem d_jdk_52m16_16 : decode jdk_52_method_16_code 16 = .ok (.iload_n 2, 1) := by decide +kernel
theorem d_jdk_52m16_17 : decode jdk_52_method_16_code 17 = .ok (.if_icmp .eq 40, 3) := by decide +kernel
theorem d_jdk_52m16_57 : decode jdk_52_method_16_code 57 = .ok (.aload_n 3, 1) := by decide +kernel
theorem d_jdk_52m16_58 : decode jdk_52_method_16_code 58 = .ok (.areturn, 1) := by decide +kernel
theorem ef_ctL (m : MethodId) (x0 : Addr) (x1 : Int32) (x2 : Int32) : entryFrame m #[(.ref x0), (.int x1), (.int x2)] 6 = mkF m 0 #[.val (.ref x0), .val (.int x1), .val (.int x2), .unset, .unset, .unset] [] := by first | (simp [entryFrame, mkF, argsToLocals, Value.category]; done) | rfl
def Q_ctL (Z : State) (oc : Addr) (ps : Int32) (pn : Int32) (kc : ClassId) (f : Nat → Int32) (h0 : Heap) (n0 : Nat) (v : Option Value) (h : Heap) (L : List Loc) : Prop := ∃ (ot : Addr), ∃ (kt : ClassId), ∃ (fr : Nat → Int32), (v = some (.ref ot)) ∧ (Fr n0 L) ∧ (Keep h0 h []) ∧ (Arv Z h ot kt (.byte) pn (BL fr) (.int (0 : Int32))) ∧ (n0 ≤ ot) ∧ (h0.size ≤ ot) ∧ (LatF pn.toInt fr f)
set_option maxRecDepth 65536 in
set_option maxHeartbeats 40000000 in
theorem rm_ctL (l : Launch) (Z : State) (a0 : Array Value) (hw : ∀ d ∈ tables_1, d.before a0 Z = true) (ws : List Jvm.Cond) (oc : Addr) (ps : Int32) (pn : Int32) (kc : ClassId) (f : Nat → Int32) (h0 : Heap) (n0 : Nat) (Z0 : n0 ≤ h0.size) (S_ad : Sta Z h0 "java/lang/StringUTF16" "$assertionsDisabled" "Z" (.int (1 : Int32))) (S_hi : Sta Z h0 "java/lang/StringUTF16" "HI_BYTE_SHIFT" "I" (.int (0 : Int32))) (S_lo : Sta Z h0 "java/lang/StringUTF16" "LO_BYTE_SHIFT" "I" (.int (8 : Int32))) (V_c : Arv Z h0 oc kc (.char) pn (BL f) (.int (0 : Int32))) (hps : ps.toInt = 0) (hn0 : 1 ≤ pn.toInt) (hn1 : pn.toInt ≤ 4) (hr : Rng f) (hs : Sml f) :
    MetFree l (⟨"java/lang/StringUTF16", "compress", "([CII)[B"⟩ : MethodName) (head1 (Jvm.Cond.code (⟨"java/lang/StringUTF16", "compress", "([CII)[B"⟩ : MethodName) jdk_52_method_16_code 6 (some (.array .byte)) :: ws) ({ frames := 1, cells := 1, slots := 4, locals := 18 } : Room)) (fun a_ U_ => a_ = #[(.ref oc), (.int ps), (.int pn)] ∧ Z.Warmed39 U_.vm ∧ U_.heap = h0) (fun _ _ _ _ _ => True) (fun _ U_ o_ U_' => ∃ v_ L_, o_ = .returned v_ ∧ (Q_ctL Z oc ps pn kc f h0 n0) v_ U_'.heap L_ ∧ FrameEnd U_ o_ U_' L_ 1 4) := by
  refine ow_body (plainFor_of_name pn_2) ?_
  intro p e s m below meth c T0 X0 hx hZ hby hml hown hnm hret hlk e0
  have N0 := Fr.nil n0
  refine Ends.cast (ef_ctL m oc ps pn) ?_
  have r_ps := rng32 ps
  have r_pn := rng32 pn
  refine ow_iloadN X0 hx (hb hby d_jdk_52m16_0) rfl (pc' := 1) rfl ?_
  refine ow_newP X0 hx hZ (hw _ (List.mem_of_getElem? (i := 16) rfl)) e0 (hb hby d_jdk_52m16_1) (ow_nlt (y := (0 : Int32)) (show ¬ pn.toInt < 0 from by omega)) 4 (show pn.toInt.toNat ≤ 4 from by omega) (by decide) (by decide) (by decide) (pc' := 3) rfl (fun T1 h1 b1 k1 g1 X1 e1 E1 V1 => ?_)
  have ne_oc_b1 : oc ≠ b1 := Nat.ne_of_lt (Nat.lt_of_lt_of_le V_c.lt (Nat.le_of_eq g1.symm))
  have g_b1 : n0 ≤ b1 := Nat.le_trans Z0 (Nat.le_of_eq g1.symm)
  have sz_b1 : h0.size ≤ b1 := Nat.le_trans (Keep.refl h0 []).1 (Nat.le_of_eq g1.symm)
  have S_java_lang_StringUTF16__assertionsDisabled_1 := S_ad.ext E1
  have S_java_lang_StringUTF16_HI_BYTE_SHIFT_1 := S_hi.ext E1
  have S_java_lang_StringUTF16_LO_BYTE_SHIFT_1 := S_lo.ext E1
  have V_oc_1 := V_c.ext E1
  have Zs1 : n0 ≤ h1.size := Nat.le_trans Z0 E1.1
  have K1 := (Keep.refl h0 []).ext E1
  have V_b1 : Arv Z h1 b1 k1 .byte pn (BL (fun _ => 0)) (.int (0 : Int32)) := V1.pad BL_zero
  refine ow_astoreN X1 hx (Ls' := #[.val (.ref oc), .val (.int ps), .val (.int pn), .val (.ref b1), .unset, .unset]) (hb hby d_jdk_52m16_3) rfl rfl (pc' := 4) rfl ?_
  refine ow_aloadN X1 hx (hb hby d_jdk_52m16_4) rfl rfl (pc' := 5) rfl ?_
  refine ow_iloadN X1 hx (hb hby d_jdk_52m16_5) rfl (pc' := 6) rfl ?_
  refine ow_aloadN X1 hx (hb hby d_jdk_52m16_6) rfl rfl (pc' := 7) rfl ?_
  refine ow_iconst X1 hx (z := (0 : Int32)) (hb hby d_jdk_52m16_7) rfl (pc' := 8) rfl ?_
  refine ow_iloadN X1 hx (hb hby d_jdk_52m16_8) rfl (pc' := 9) rfl ?_
  refine ow_callS X1 hx hZ hown (hw _ (List.mem_of_getElem? (i := 43) rfl)) (hw _ (List.mem_of_getElem? (i := 44) rfl)) (hw _ (List.mem_of_getElem? (i := 41) rfl)) (hw _ (List.mem_of_getElem? (i := 45) rfl)) (by decide) (rm_cfL l Z a0 hw [] oc ps b1 (0 : Int32) pn kc f k1 (fun _ => 0) h1 n0 Zs1 V_oc_1 V_b1 g_b1 ne_oc_b1 (by first | assumption | decide | omega | (have q0_ : (0 : Int32).toInt = 0 := (by decide); omega)) (by first | assumption | decide | omega | (have q0_ : (0 : Int32).toInt = 0 := (by decide); omega)) (by first | assumption | decide | omega | (have q0_ : (0 : Int32).toInt = 0 := (by decide); omega)) (by first | assumption | decide | omega | (have q0_ : (0 : Int32).toInt = 0 := (by decide); omega)) (by first | assumption | decide | omega | (have q0_ : (0 : Int32).toInt = 0 := (by decide); omega)) (by first | assumption | decide | omega | (have q0_ : (0 : Int32).toInt = 0 := (by decide); omega))) e1 0 (by decide) (by decide) (by decide) (by decide) [(.ref oc), (.int ps), (.ref b1), (.int (0 : Int32)), (.int pn)] (by rw [hml]; rfl) pd_9 rfl rfl rfl (Nat.le_of_eq rfl) (hb hby d_jdk_52m16_9) (pc' := 12) rfl (fun v2 T2 L2 hQ2 X2 => ?_)
  obtain ⟨fr_2, rfl, Nc2, Kc2, P2_0, P2_1⟩ := hQ2
  have P2_1 : LatF pn.toInt fr_2 f := P2_1
  have S_java_lang_StringUTF16__assertionsDisabled_2 := ow_staKeep S_java_lang_StringUTF16__assertionsDisabled_1 Kc2 (allS (ow_arvNs V_b1) all0)
  have S_java_lang_StringUTF16_HI_BYTE_SHIFT_2 := ow_staKeep S_java_lang_StringUTF16_HI_BYTE_SHIFT_1 Kc2 (allS (ow_arvNs V_b1) all0)
  have S_java_lang_StringUTF16_LO_BYTE_SHIFT_2 := ow_staKeep S_java_lang_StringUTF16_LO_BYTE_SHIFT_1 Kc2 (allS (ow_arvNs V_b1) all0)
  have V_oc_2 := V_oc_1.keep Kc2 (ninS ne_oc_b1 nin0)
  have Zs2 : n0 ≤ T2.heap.size := Nat.le_trans Zs1 Kc2.1
  have K2 := K1.trans Kc2 (allS (Or.inr sz_b1) all0)
  have N2 := Fr.app N0 Nc2
  show Ends _ _ _ _ T2 (mkF m 12 #[.val (.ref oc), .val (.int ps), .val (.int pn), .val (.ref b1), .unset, .unset] [(.int pn)])
  refine ow_istore X2 hx (Ls' := #[.val (.ref oc), .val (.int ps), .val (.int pn), .val (.ref b1), .val (.int pn), .unset]) (hb hby d_jdk_52m16_12) rfl (pc' := 14) rfl ?_
  refine ow_iload X2 hx (hb hby d_jdk_52m16_14) rfl (pc' := 16) rfl ?_
  refine ow_iloadN X2 hx (hb hby d_jdk_52m16_16) rfl (pc' := 17) rfl ?_
  refine ow_icmp_eq X2 hx (pn.toInt) (pn.toInt) (hb hby d_jdk_52m16_17) rfl rfl (by decide) (pt := 57) (by decide) (pf := 20) rfl (fun c17 => ?_) (fun c17 => absurd c17 (by omega))
  refine ow_aloadN X2 hx (hb hby d_jdk_52m16_57) rfl rfl (pc' := 58) rfl ?_
  exact ow_retA X2 hx hret hlk rfl rfl (hb hby d_jdk_52m16_58) (by decide) (by decide) (show Q_ctL Z oc ps pn kc f h0 n0 _ T2.heap _ from ⟨b1, k1, fr_2, rfl, N2, K2, P2_0, g_b1, sz_b1, P2_1⟩)
theorem d_jdk_52m15_0 : decode jdk_52_method_15_code 0 = .ok (.iload_n 1, 1) := by decide +kernel
theorem d_jdk_52m15_1 : decode jdk_52_method_15_code 1 = .ok (.aload_n 0, 1) := by decide +kernel
theorem d_jdk_52m15_2 : decode jdk_52_method_15_code 2 = .ok (.arraylength, 1) := by decide +kernel
theorem d_jdk_52m15_3 : decode jdk_52_method_15_code 3 = .ok (.isub, 1) := by decide +kernel
theorem d_jdk_52m15_4 : decode jdk_52_method_15_code 4 = .ok (.bipush 31, 2) := by decide +kernel
theorem d_jdk_52m15_6 : decode jdk_52_method_15_code 6 = .ok (.iushr, 1) := by decide +kernel
theorem d_jdk_52m15_7 : decode jdk_52_method_15_code 7 = .ok (.i2b, 1) := by decide +kernel
theorem d_jdk_52m15_8 : decode jdk_52_method_15_code 8 = .ok (.ireturn, 1) := by decide +kernel
theorem ef_clL (m : MethodId) (x0 : Addr) (x1 : Int32) : entryFrame m #[(.ref x0), (.int x1)] 2 = mkF m 0 #[.val (.ref x0), .val (.int x1)] [] := by first | (simp [entryFrame, mkF, argsToLocals, Value.category]; done) | rfl
set_option maxRecDepth 65536 in
set_option maxHeartbeats 40000000 in
theorem rm_clL (l : Launch) (Z : State) (a0 : Array Value) (hw : ∀ d ∈ tables_1, d.before a0 Z = true) (ws : List Jvm.Cond) (oa : Addr) (pn : Int32) (ka : ClassId) (f : Nat → Int32) (h0 : Heap) (V_a : Arv Z h0 oa ka (.byte) pn (BL f) (.int (0 : Int32))) :
    MetFree l (⟨"java/lang/StringUTF16", "coderFromArrayLen", "([BI)B"⟩ : MethodName) (head1 (Jvm.Cond.code (⟨"java/lang/StringUTF16", "coderFromArrayLen", "([BI)B"⟩ : MethodName) jdk_52_method_15_code 2 (some .byte) :: ws) ({ frames := 0, cells := 0, slots := 0, locals := 0 } : Room)) (fun a_ U_ => a_ = #[(.ref oa), (.int pn)] ∧ Z.Warmed39 U_.vm ∧ U_.heap = h0) (fun _ _ _ _ _ => True) (fun _ U_ o_ U_' => ∃ v_ L_, o_ = .returned v_ ∧ (QI (fun z => z.toInt = 0) h0) v_ U_'.heap L_ ∧ FrameEnd U_ o_ U_' L_ 0 0) := by
  refine ow_body (plainFor_of_name pn_2) ?_
  intro p e s m below meth c T0 X0 hx hZ hby hml hown hnm hret hlk e0
  refine Ends.cast (ef_clL m oa pn) ?_
  have r_pn := rng32 pn
  refine ow_iloadN X0 hx (hb hby d_jdk_52m15_0) rfl (pc' := 1) rfl ?_
  refine ow_aloadN X0 hx (hb hby d_jdk_52m15_1) rfl rfl (pc' := 2) rfl ?_
  refine ow_len X0 hx hZ e0 V_a (hb hby d_jdk_52m15_2) (pc' := 3) rfl ?_
  refine ow_isub X0 hx (hb hby d_jdk_52m15_3) (pc' := 4) rfl (fun z1 hz1 => ?_)
  have az1 : (z1.toInt - (pn.toInt - pn.toInt)) % 4294967296 = 0 := by rw [hz1]; exact c_isub pn pn
  have rz1 := rng32 z1
  refine ow_bipush X0 hx (z := (31 : Int32)) (hb hby d_jdk_52m15_4) rfl (pc' := 6) rfl ?_
  refine ow_iushr X0 hx (hb hby d_jdk_52m15_6) (pc' := 7) rfl (fun z2 hz2 => ?_)
  have az2 : z2.toInt = (z1.toInt % 4294967296) / 2147483648 := by rw [hz2]; exact c_iushr z1 (31 : Int32) 31 (by decide) (by decide)
  have rz2 := rng32 z2
  refine ow_i2b X0 hx (hb hby d_jdk_52m15_7) (pc' := 8) rfl (fun z3 hz3 => ?_)
  have az3 : (z3.toInt - z2.toInt) % 256 = 0 ∧ -128 ≤ z3.toInt ∧ z3.toInt < 128 := by rw [hz3]; exact c_i2b z2
  have rz3 := rng32 z3
  exact ow_retY X0 hx hret hlk (hb hby d_jdk_52m15_8) (by decide) (by decide) (z' := z3) (ow_narY (by omega)) ⟨z3, rfl, (show z3.toInt = 0 from by omega), rfl, e0⟩
theorem pd_10 : parseMethodDescriptor "([CII)[B" = some ⟨[(.array .char), .int, .int], some (.array .byte)⟩ := by decide +kernel
theorem pd_11 : parseMethodDescriptor "([BI)B" = some ⟨[(.array .byte), .int], some .byte⟩ := by decide +kernel
theorem d_jdk_42m149_0 : decode jdk_42_method_149_code 0 = .ok (.aload_n 0, 1) := by decide +kernel
theorem d_jdk_42m149_1 : decode jdk_42_method_149_code 1 = .ok (.invokespecial 1, 3) := by decide +kernel
theorem d_jdk_42m149_4 : decode jdk_42_method_149_code 4 = .ok (.iload_n 3, 1) := by decide +kernel
theorem d_jdk_42m149_5 : decode jdk_42_method_149_code 5 = .ok (.ifCond .ne 22, 3) := by decide +kernel
theorem d_jdk_42m149_27 : decode jdk_42_method_149_code 27 = .ok (.getstatic 38, 3) := by decide +kernel
theorem d_jdk_42m149_30 : decode jdk_42_method_149_code 30 = .ok (.ifCond .eq 28, 3) := by decide +kernel
theorem d_jdk_42m149_33 : decode jdk_42_method_149_code 33 = .ok (.aload_n 1, 1) := by decide +kernel
theorem d_jdk_42m149_34 : decode jdk_42_method_149_code 34 = .ok (.iload_n 2, 1) := by decide +kernel
theorem d_jdk_42m149_35 : decode jdk_42_method_149_code 35 = .ok (.iload_n 3, 1) := by decide +kernel
theorem d_jdk_42m149_36 : decode jdk_42_method_149_code 36 = .ok (.invokestatic 177, 3) := by decide +kernel
theorem d_jdk_42m149_39 : decode jdk_42_method_149_code 39 = .ok (.astore 5, 2) := by decide +kernel
theorem d_jdk_42m149_41 : decode jdk_42_method_149_code 41 = .ok (.aload_n 0, 1) := by decide +kernel
theorem d_jdk_42m149_42 : decode jdk_42_method_149_code 42 = .ok (.aload 5, 2) := by decide +kernel
theorem d_jdk_42m149_44 : decode jdk_42_method_149_code 44 = .ok (.iload_n 3, 1) := by decide +kernel
theorem d_jdk_42m149_45 : decode jdk_42_method_149_code 45 = .ok (.invokestatic 47, 3) := by decide +kernel
theorem d_jdk_42m149_48 : decode jdk_42_method_149_code 48 = .ok (.putfield 15, 3) := by decide +kernel
theorem d_jdk_42m149_51 : decode jdk_42_method_149_code 51 = .ok (.aload_n 0, 1) := by decide +kernel
theorem d_jdk_42m149_52 : decode jdk_42_method_149_code 52 = .ok (.aload 5, 2) := by decide +kernel
theorem d_jdk_42m149_54 : decode jdk_42_method_149_code 54 = .ok (.putfield 9, 3) := by decide +kernel
theorem d_jdk_42m149_57 : decode jdk_42_method_149_code 57 = .ok (.return_, 1) := by decide +kernel
theorem ef_siL (m : MethodId) (x0 : Addr) (x1 : Addr) (x2 : Int32) (x3 : Int32) : entryFrame m #[(.ref x0), (.ref x1), (.int x2), (.int x3), .null] 6 = mkF m 0 #[.val (.ref x0), .val (.ref x1), .val (.int x2), .val (.int x3), .val .null, .unset] [] := by first | (simp [entryFrame, mkF, argsToLocals, Value.category]; done) | rfl
def Q_siL (Z : State) (o : Addr) (oc : Addr) (ps : Int32) (pn : Int32) (zc : Int32) (kc : ClassId) (f : Nat → Int32) (h0 : Heap) (n0 : Nat) (v : Option Value) (h : Heap) (L : List Loc) : Prop := ∃ (ot : Addr), ∃ (kt : ClassId), ∃ (fr : Nat → Int32), (v = none) ∧ (Fr n0 L) ∧ (Keep h0 h [o]) ∧ (Exa Z h o "java/lang/String") ∧ (Fld Z h o "java/lang/String" "coder" "B" (.int (0 : Int32))) ∧ (Fld Z h o "java/lang/String" "value" "[B" (.ref ot)) ∧ (Arv Z h ot kt (.byte) pn (BL fr) (.int (0 : Int32))) ∧ (n0 ≤ ot) ∧ (h0.size ≤ ot) ∧ (o ≠ ot) ∧ (LatF pn.toInt fr f)
set_option maxRecDepth 65536 in
set_option maxHeartbeats 40000000 in
theorem rm_siL (l : Launch) (Z : State) (a0 : Array Value) (hw : ∀ d ∈ tables_1, d.before a0 Z = true) (ws : List Jvm.Cond) (o : Addr) (oc : Addr) (ps : Int32) (pn : Int32) (zc : Int32) (kc : ClassId) (f : Nat → Int32) (h0 : Heap) (n0 : Nat) (Z0 : n0 ≤ h0.size) (S_cs : Sta Z h0 "java/lang/String" "COMPACT_STRINGS" "Z" (.int zc)) (hz0 : ¬ zc.toInt = 0) (S_ad : Sta Z h0 "java/lang/StringUTF16" "$assertionsDisabled" "Z" (.int (1 : Int32))) (S_hi : Sta Z h0 "java/lang/StringUTF16" "HI_BYTE_SHIFT" "I" (.int (0 : Int32))) (S_lo : Sta Z h0 "java/lang/StringUTF16" "LO_BYTE_SHIFT" "I" (.int (8 : Int32))) (E_o : Exa Z h0 o "java/lang/String") (F_c : Fld Z h0 o "java/lang/String" "coder" "B" (.int (0 : Int32))) (F_v : Fld Z h0 o "java/lang/String" "value" "[B" .null) (g_o : n0 ≤ o) (V_c : Arv Z h0 oc kc (.char) pn (BL f) (.int (0 : Int32))) (ne_o_oc : o ≠ oc) (hps : ps.toInt = 0) (hn0 : 1 ≤ pn.toInt) (hn1 : pn.toInt ≤ 4) (hr : Rng f) (hs : Sml f) :
    MetFree l (⟨"java/lang/String", "<init>", "([CIILjava/lang/Void;)V"⟩ : MethodName) (head1 (Jvm.Cond.code (⟨"java/lang/String", "<init>", "([CIILjava/lang/Void;)V"⟩ : MethodName) jdk_42_method_149_code 6 none :: ws) ({ frames := 2, cells := 1, slots := 4, locals := 35 } : Room)) (fun a_ U_ => a_ = #[(.ref o), (.ref oc), (.int ps), (.int pn), .null] ∧ Z.Warmed39 U_.vm ∧ U_.heap = h0) (fun _ _ _ _ _ => True) (fun _ U_ o_ U_' => ∃ v_ L_, o_ = .returned v_ ∧ (Q_siL Z o oc ps pn zc kc f h0 n0) v_ U_'.heap L_ ∧ FrameEnd U_ o_ U_' L_ 1 4) := by
  refine ow_body (plainFor_of_name pn_1) ?_
  intro p e s m below meth c T0 X0 hx hZ hby hml hown hnm hret hlk e0
  have N0 := Fr.nil n0
  refine Ends.cast (ef_siL m o oc ps pn) ?_
  have r_ps := rng32 ps
  have r_pn := rng32 pn
  refine ow_aloadN X0 hx (hb hby d_jdk_42m149_0) rfl rfl (pc' := 1) rfl ?_
  refine ow_init0 X0 hx hZ hown (hw _ (List.mem_of_getElem? (i := 12) rfl)) (hw _ (List.mem_of_getElem? (i := 13) rfl)) (hw _ (List.mem_of_getElem? (i := 14) rfl)) e0 0 (by decide) (by decide) (by rw [hml]; rfl) (Nat.le_of_eq rfl) (hb hby d_jdk_42m149_1) (pc' := 4) rfl (fun T1 X1 e1 => ?_)
  refine ow_iloadN X1 hx (hb hby d_jdk_42m149_4) rfl (pc' := 5) rfl ?_
  refine ow_if_ne X1 hx (pn.toInt) (hb hby d_jdk_42m149_5) rfl (by decide) (pt := 27) (by decide) (pf := 8) rfl (fun c5 => ?_) (fun c5 => absurd c5 (by omega))
  refine ow_getS X1 hx hZ hown (host := "") (Or.inl (hw _ (List.mem_of_getElem? (i := 38) rfl))) Via.refl e1 S_cs (hb hby d_jdk_42m149_27) (pc' := 30) rfl (fun T2 X2 e2 => ?_)
  refine ow_if_eq X2 hx (zc.toInt) (hb hby d_jdk_42m149_30) rfl (by decide) (pt := 58) (by decide) (pf := 33) rfl (fun c30 => absurd c30 (by omega)) (fun c30 => ?_)
  refine ow_aloadN X2 hx (hb hby d_jdk_42m149_33) rfl rfl (pc' := 34) rfl ?_
  refine ow_iloadN X2 hx (hb hby d_jdk_42m149_34) rfl (pc' := 35) rfl ?_
  refine ow_iloadN X2 hx (hb hby d_jdk_42m149_35) rfl (pc' := 36) rfl ?_
  refine ow_callS X2 hx hZ hown (hw _ (List.mem_of_getElem? (i := 39) rfl)) (hw _ (List.mem_of_getElem? (i := 40) rfl)) (hw _ (List.mem_of_getElem? (i := 41) rfl)) (hw _ (List.mem_of_getElem? (i := 42) rfl)) (by decide) (rm_ctL l Z a0 hw [] oc ps pn kc f h0 n0 Z0 S_ad S_hi S_lo V_c (by first | assumption | decide | omega) (by first | assumption | decide | omega) (by first | assumption | decide | omega) (by first | assumption | decide | omega) (by first | assumption | decide | omega)) e2 0 (by decide) (by decide) (by decide) (by decide) [(.ref oc), (.int ps), (.int pn)] (by rw [hml]; rfl) pd_10 rfl rfl rfl (Nat.le_of_eq rfl) (hb hby d_jdk_42m149_36) (pc' := 39) rfl (fun v3 T3 L3 hQ3 X3 => ?_)
  obtain ⟨b3, kt_3, fr_3, rfl, Nc3, Kc3, P3_0, P3_1, P3_2, P3_3⟩ := hQ3
  have P3_3 : LatF pn.toInt fr_3 f := P3_3
  have S_java_lang_String_COMPACT_STRINGS_3 := ow_staKeep S_cs Kc3 all0
  have S_java_lang_StringUTF16__assertionsDisabled_3 := ow_staKeep S_ad Kc3 all0
  have S_java_lang_StringUTF16_HI_BYTE_SHIFT_3 := ow_staKeep S_hi Kc3 all0
  have S_java_lang_StringUTF16_LO_BYTE_SHIFT_3 := ow_staKeep S_lo Kc3 all0
  have E_o_3 := E_o.keep Kc3
  have F_o_coder_3 := F_c.keep Kc3 nin0
  have F_o_value_3 := F_v.keep Kc3 nin0
  have V_oc_3 := V_c.keep Kc3 nin0
  have ne_o_b3 : o ≠ b3 := Nat.ne_of_lt (Nat.lt_of_lt_of_le E_o.lt P3_2)
  have ne_oc_b3 : oc ≠ b3 := Nat.ne_of_lt (Nat.lt_of_lt_of_le V_c.lt P3_2)
  have sz_b3 : h0.size ≤ b3 := Nat.le_trans (Keep.refl h0 [o]).1 P3_2
  have Zs3 : n0 ≤ T3.heap.size := Nat.le_trans Z0 Kc3.1
  have K3 := (Keep.refl h0 [o]).trans Kc3 all0
  have N3 := Fr.app N0 Nc3
  show Ends _ _ _ _ T3 (mkF m 39 #[.val (.ref o), .val (.ref oc), .val (.int ps), .val (.int pn), .val .null, .unset] [(.ref b3)])
  refine ow_astore X3 hx (Ls' := #[.val (.ref o), .val (.ref oc), .val (.int ps), .val (.int pn), .val .null, .val (.ref b3)]) (hb hby d_jdk_42m149_39) rfl rfl (pc' := 41) rfl ?_
  refine ow_aloadN X3 hx (hb hby d_jdk_42m149_41) rfl rfl (pc' := 42) rfl ?_
  refine ow_aload X3 hx (hb hby d_jdk_42m149_42) rfl rfl (pc' := 44) rfl ?_
  refine ow_iloadN X3 hx (hb hby d_jdk_42m149_44) rfl (pc' := 45) rfl ?_
  refine ow_callPI X3 hx hZ hown (hw _ (List.mem_of_getElem? (i := 46) rfl)) (hw _ (List.mem_of_getElem? (i := 47) rfl)) (hw _ (List.mem_of_getElem? (i := 41) rfl)) (hw _ (List.mem_of_getElem? (i := 48) rfl)) (by decide) (rm_clL l Z a0 hw [] b3 pn kt_3 fr_3 T3.heap P3_0) rfl 1 (by decide) (by decide) (by decide) (by decide) [(.ref b3), (.int pn)] (by rw [hml]; rfl) pd_11 rfl rfl rfl (Nat.le_of_eq rfl) (hb hby d_jdk_42m149_45) (pc' := 48) rfl (fun z4 T4 hz4 X4 e4 => ?_)
  have az4 : z4.toInt = 0 := hz4
  have rz4 := rng32 z4
  rw [show z4 = (0 : Int32) from ow_eq (show z4.toInt = 0 from by omega)]
  refine ow_putFN X4 hx hZ hown (hw _ (List.mem_of_getElem? (i := 22) rfl)) Via.refl e4 F_o_coder_3 E_o_3 (Or.inr ⟨(hw _ (List.mem_of_getElem? (i := 18) rfl)), rfl, hnm⟩) (hw _ (List.mem_of_getElem? (i := 3) rfl)) (ty := .byte) (v' := .int ((0 : Int32).toInt8.toInt32)) (by decide) rfl (fits_nar_byte _) (hb hby d_jdk_42m149_48) (pc' := 51) rfl (fun T5 h5 X5 e5 W5 => ?_)
  have F_o_coder_5 := F_o_coder_3.same W5
  have S_java_lang_String_COMPACT_STRINGS_5 := S_java_lang_String_COMPACT_STRINGS_3.wr W5
  have S_java_lang_StringUTF16__assertionsDisabled_5 := S_java_lang_StringUTF16__assertionsDisabled_3.wr W5
  have S_java_lang_StringUTF16_HI_BYTE_SHIFT_5 := S_java_lang_StringUTF16_HI_BYTE_SHIFT_3.wr W5
  have S_java_lang_StringUTF16_LO_BYTE_SHIFT_5 := S_java_lang_StringUTF16_LO_BYTE_SHIFT_3.wr W5
  have E_o_5 := E_o_3.wr W5
  have F_o_value_5 := F_o_value_3.other W5 (Or.inr (slot_ne (Or.inr (hw _ (List.mem_of_getElem? (i := 17) rfl))) (Or.inr (hw _ (List.mem_of_getElem? (i := 18) rfl))) (by decide) (t := (.array .byte)) (t' := .byte) (by decide) (by decide)))
  have V_oc_5 := V_oc_3.other W5 (Ne.symm ne_o_oc)
  have V_b3_5 := P3_0.other W5 (Ne.symm ne_o_b3)
  have Zs5 : n0 ≤ h5.size := Nat.le_trans Zs3 (Keep.of_wr W5).1
  have K5 := K3.wr W5 (Or.inl (List.mem_of_getElem? (i := 0) rfl))
  have N5 := Fr.snoc X5 N3 g_o
  have F_co : Fld Z h5 o "java/lang/String" "coder" "B" (.int (0 : Int32)) := by have q := F_o_coder_5; rw [show ((0 : Int32).toInt8.toInt32) = (0 : Int32) from by decide] at q; exact q
  refine ow_aloadN X5 hx (hb hby d_jdk_42m149_51) rfl rfl (pc' := 52) rfl ?_
  refine ow_aload X5 hx (hb hby d_jdk_42m149_52) rfl rfl (pc' := 54) rfl ?_
  refine ow_putF X5 hx hZ hown (host := "") (Or.inl (hw _ (List.mem_of_getElem? (i := 21) rfl))) Via.refl e5 F_o_value_5 E_o_5 (Or.inr ⟨(hw _ (List.mem_of_getElem? (i := 17) rfl)), rfl, hnm⟩) (hw _ (List.mem_of_getElem? (i := 3) rfl)) (ty := (.array .byte)) (by decide) rfl rfl (hb hby d_jdk_42m149_54) (pc' := 57) rfl (fun T6 h6 X6 e6 W6 => ?_)
  have F_o_value_6 := F_o_value_5.same W6
  have S_java_lang_String_COMPACT_STRINGS_6 := S_java_lang_String_COMPACT_STRINGS_5.wr W6
  have S_java_lang_StringUTF16__assertionsDisabled_6 := S_java_lang_StringUTF16__assertionsDisabled_5.wr W6
  have S_java_lang_StringUTF16_HI_BYTE_SHIFT_6 := S_java_lang_StringUTF16_HI_BYTE_SHIFT_5.wr W6
  have S_java_lang_StringUTF16_LO_BYTE_SHIFT_6 := S_java_lang_StringUTF16_LO_BYTE_SHIFT_5.wr W6
  have E_o_6 := E_o_5.wr W6
  have V_oc_6 := V_oc_5.other W6 (Ne.symm ne_o_oc)
  have V_b3_6 := V_b3_5.other W6 (Ne.symm ne_o_b3)
  have F_o_coder_6 := F_co.other W6 (Or.inr (slot_ne (Or.inr (hw _ (List.mem_of_getElem? (i := 18) rfl))) (Or.inr (hw _ (List.mem_of_getElem? (i := 17) rfl))) (by decide) (t := .byte) (t' := (.array .byte)) (by decide) (by decide)))
  have Zs6 : n0 ≤ h6.size := Nat.le_trans Zs5 (Keep.of_wr W6).1
  have K6 := K5.wr W6 (Or.inl (List.mem_of_getElem? (i := 0) rfl))
  have N6 := Fr.snoc X6 N5 g_o
  exact ow_retV X6 hx hret hlk (hb hby d_jdk_42m149_57) (by decide) (by decide) (show Q_siL Z o oc ps pn zc kc f h0 n0 _ T6.heap _ from by rw [e6]; exact ⟨b3, kt_3, fr_3, rfl, N6, K6, E_o_6, F_o_coder_6, F_o_value_6, V_b3_6, P3_1, sz_b3, ne_o_b3, P3_3⟩)
theorem pd_12 : parseMethodDescriptor "([CIILjava/lang/Void;)V" = some ⟨[(.array .char), .int, .int, (.object "java/lang/Void")], none⟩ := by decide +kernel
theorem d_jdk_42m3_0 : decode jdk_42_method_3_code 0 = .ok (.aload_n 0, 1) := by decide +kernel
theorem d_jdk_42m3_1 : decode jdk_42_method_3_code 1 = .ok (.aload_n 1, 1) := by decide +kernel
theorem d_jdk_42m3_2 : decode jdk_42_method_3_code 2 = .ok (.iconst 0, 1) := by decide +kernel
theorem d_jdk_42m3_3 : decode jdk_42_method_3_code 3 = .ok (.aload_n 1, 1) := by decide +kernel
theorem d_jdk_42m3_4 : decode jdk_42_method_3_code 4 = .ok (.arraylength, 1) := by decide +kernel
theorem d_jdk_42m3_5 : decode jdk_42_method_3_code 5 = .ok (.aconst_null, 1) := by decide +kernel
theorem d_jdk_42m3_6 : decode jdk_42_method_3_code 6 = .ok (.invokespecial 27, 3) := by decide +kernel
theorem d_jdk_42m3_9 : decode jdk_42_method_3_code 9 = .ok (.return_, 1) := by decide +kernel
theorem ef_sjL (m : MethodId) (x0 : Addr) (x1 : Addr) : entryFrame m #[(.ref x0), (.ref x1)] 2 = mkF m 0 #[.val (.ref x0), .val (.ref x1)] [] := by first | (simp [entryFrame, mkF, argsToLocals, Value.category]; done) | rfl
def Q_sjL (Z : State) (o : Addr) (oc : Addr) (zc : Int32) (kc : ClassId) (f : Nat → Int32) (pn : Int32) (h0 : Heap) (n0 : Nat) (v : Option Value) (h : Heap) (L : List Loc) : Prop := ∃ (ot : Addr), ∃ (kt : ClassId), ∃ (fr : Nat → Int32), (v = none) ∧ (Fr n0 L) ∧ (Keep h0 h [o]) ∧ (Exa Z h o "java/lang/String") ∧ (Fld Z h o "java/lang/String" "coder" "B" (.int (0 : Int32))) ∧ (Fld Z h o "java/lang/String" "value" "[B" (.ref ot)) ∧ (Arv Z h ot kt (.byte) pn (BL fr) (.int (0 : Int32))) ∧ (n0 ≤ ot) ∧ (h0.size ≤ ot) ∧ (o ≠ ot) ∧ (LatF pn.toInt fr f)
set_option maxRecDepth 65536 in
set_option maxHeartbeats 40000000 in
theorem rm_sjL (l : Launch) (Z : State) (a0 : Array Value) (hw : ∀ d ∈ tables_1, d.before a0 Z = true) (ws : List Jvm.Cond) (o : Addr) (oc : Addr) (zc : Int32) (kc : ClassId) (f : Nat → Int32) (pn : Int32) (h0 : Heap) (n0 : Nat) (Z0 : n0 ≤ h0.size) (S_cs : Sta Z h0 "java/lang/String" "COMPACT_STRINGS" "Z" (.int zc)) (hz0 : ¬ zc.toInt = 0) (S_ad : Sta Z h0 "java/lang/StringUTF16" "$assertionsDisabled" "Z" (.int (1 : Int32))) (S_hi : Sta Z h0 "java/lang/StringUTF16" "HI_BYTE_SHIFT" "I" (.int (0 : Int32))) (S_lo : Sta Z h0 "java/lang/StringUTF16" "LO_BYTE_SHIFT" "I" (.int (8 : Int32))) (E_o : Exa Z h0 o "java/lang/String") (F_c : Fld Z h0 o "java/lang/String" "coder" "B" (.int (0 : Int32))) (F_v : Fld Z h0 o "java/lang/String" "value" "[B" .null) (g_o : n0 ≤ o) (V_c : Arv Z h0 oc kc (.char) pn (BL f) (.int (0 : Int32))) (ne_o_oc : o ≠ oc) (hn0 : 1 ≤ pn.toInt) (hn1 : pn.toInt ≤ 4) (hr : Rng f) (hs : Sml f) :
    MetFree l (⟨"java/lang/String", "<init>", "([C)V"⟩ : MethodName) (head1 (Jvm.Cond.code (⟨"java/lang/String", "<init>", "([C)V"⟩ : MethodName) jdk_42_method_3_code 2 none :: ws) ({ frames := 3, cells := 1, slots := 4, locals := 52 } : Room)) (fun a_ U_ => a_ = #[(.ref o), (.ref oc)] ∧ Z.Warmed39 U_.vm ∧ U_.heap = h0) (fun _ _ _ _ _ => True) (fun _ U_ o_ U_' => ∃ v_ L_, o_ = .returned v_ ∧ (Q_sjL Z o oc zc kc f pn h0 n0) v_ U_'.heap L_ ∧ FrameEnd U_ o_ U_' L_ 1 4) := by
  refine ow_body (plainFor_of_name pn_1) ?_
  intro p e s m below meth c T0 X0 hx hZ hby hml hown hnm hret hlk e0
  have N0 := Fr.nil n0
  refine Ends.cast (ef_sjL m o oc) ?_
  refine ow_aloadN X0 hx (hb hby d_jdk_42m3_0) rfl rfl (pc' := 1) rfl ?_
  refine ow_aloadN X0 hx (hb hby d_jdk_42m3_1) rfl rfl (pc' := 2) rfl ?_
  refine ow_iconst X0 hx (z := (0 : Int32)) (hb hby d_jdk_42m3_2) rfl (pc' := 3) rfl ?_
  refine ow_aloadN X0 hx (hb hby d_jdk_42m3_3) rfl rfl (pc' := 4) rfl ?_
  refine ow_len X0 hx hZ e0 V_c (hb hby d_jdk_42m3_4) (pc' := 5) rfl ?_
  refine ow_aconstNull X0 hx (hb hby d_jdk_42m3_5) (pc' := 6) rfl ?_
  refine ow_callI X0 hx hZ rfl rfl hown (hw _ (List.mem_of_getElem? (i := 8) rfl)) (hw _ (List.mem_of_getElem? (i := 9) rfl)) (hw _ (List.mem_of_getElem? (i := 4) rfl)) (hw _ (List.mem_of_getElem? (i := 11) rfl)) (by decide) (rm_siL l Z a0 hw [] o oc (0 : Int32) pn zc kc f h0 n0 Z0 S_cs (by first | assumption | decide | omega | (have q0_ : (0 : Int32).toInt = 0 := (by decide); omega)) S_ad S_hi S_lo E_o F_c F_v g_o V_c ne_o_oc (by first | assumption | decide | omega | (have q0_ : (0 : Int32).toInt = 0 := (by decide); omega)) (by first | assumption | decide | omega | (have q0_ : (0 : Int32).toInt = 0 := (by decide); omega)) (by first | assumption | decide | omega | (have q0_ : (0 : Int32).toInt = 0 := (by decide); omega)) (by first | assumption | decide | omega | (have q0_ : (0 : Int32).toInt = 0 := (by decide); omega)) (by first | assumption | decide | omega | (have q0_ : (0 : Int32).toInt = 0 := (by decide); omega))) e0 0 (by decide) (by decide) (by decide) (by decide) [(.ref oc), (.int (0 : Int32)), (.int pn), .null] (by rw [hml]; rfl) pd_12 rfl rfl rfl (Nat.le_of_eq rfl) (hb hby d_jdk_42m3_6) (pc' := 9) rfl (fun v1 T1 L1 hQ1 X1 => ?_)
  obtain ⟨b1, kt_1, fr_1, rfl, Nc1, Kc1, P1_0, P1_1, P1_2, P1_3, P1_4, P1_5, P1_6, P1_7⟩ := hQ1
  have P1_7 : LatF pn.toInt fr_1 f := P1_7
  have S_java_lang_String_COMPACT_STRINGS_1 := ow_staKeep S_cs Kc1 (allS (ow_exaNs E_o) all0)
  have S_java_lang_StringUTF16__assertionsDisabled_1 := ow_staKeep S_ad Kc1 (allS (ow_exaNs E_o) all0)
  have S_java_lang_StringUTF16_HI_BYTE_SHIFT_1 := ow_staKeep S_hi Kc1 (allS (ow_exaNs E_o) all0)
  have S_java_lang_StringUTF16_LO_BYTE_SHIFT_1 := ow_staKeep S_lo Kc1 (allS (ow_exaNs E_o) all0)
  have V_oc_1 := V_c.keep Kc1 (ninS (Ne.symm ne_o_oc) nin0)
  have ne_o_b1 : o ≠ b1 := Nat.ne_of_lt (Nat.lt_of_lt_of_le E_o.lt P1_5)
  have ne_oc_b1 : oc ≠ b1 := Nat.ne_of_lt (Nat.lt_of_lt_of_le V_c.lt P1_5)
  have sz_b1 : h0.size ≤ b1 := Nat.le_trans (Keep.refl h0 [o]).1 P1_5
  have Zs1 : n0 ≤ T1.heap.size := Nat.le_trans Z0 Kc1.1
  have K1 := (Keep.refl h0 [o]).trans Kc1 (allS (Or.inl (List.mem_of_getElem? (i := 0) rfl)) all0)
  have N1 := Fr.app N0 Nc1
  show Ends _ _ _ _ T1 (mkF m 9 #[.val (.ref o), .val (.ref oc)] [])
  exact ow_retV X1 hx hret hlk (hb hby d_jdk_42m3_9) (by decide) (by decide) (show Q_sjL Z o oc zc kc f pn h0 n0 _ T1.heap _ from ⟨b1, kt_1, fr_1, rfl, N1, K1, P1_0, P1_1, P1_2, P1_3, P1_4, sz_b1, P1_6, P1_7⟩)
theorem pd_13 : parseMethodDescriptor "([BI)C" = some ⟨[(.array .byte), .int], some .char⟩ := by decide +kernel
theorem d_jdk_52m16_20 : decode jdk_52_method_16_code 20 = .ok (.aload_n 0, 1) := by decide +kernel
theorem d_jdk_52m16_21 : decode jdk_52_method_16_code 21 = .ok (.iload_n 1, 1) := by decide +kernel
theorem d_jdk_52m16_22 : decode jdk_52_method_16_code 22 = .ok (.iload_n 2, 1) := by decide +kernel
theorem d_jdk_52m16_23 : decode jdk_52_method_16_code 23 = .ok (.invokestatic 119, 3) := by decide +kernel
theorem d_jdk_52m16_26 : decode jdk_52_method_16_code 26 = .ok (.astore 5, 2) := by decide +kernel
theorem d_jdk_52m16_28 : decode jdk_52_method_16_code 28 = .ok (.aload 5, 2) := by decide +kernel
theorem d_jdk_52m16_30 : decode jdk_52_method_16_code 30 = .ok (.iload 4, 2) := by decide +kernel
theorem d_jdk_52m16_32 : decode jdk_52_method_16_code 32 = .ok (.invokestatic 71, 3) := by decide +kernel
theorem d_jdk_52m16_35 : decode jdk_52_method_16_code 35 = .ok (.sipush 255, 3) := by decide +kernel
theorem d_jdk_52m16_38 : decode jdk_52_method_16_code 38 = .ok (.if_icmp .gt 16, 3) := by decide +kernel
theorem d_jdk_52m16_54 : decode jdk_52_method_16_code 54 = .ok (.aload 5, 2) := by decide +kernel
theorem d_jdk_52m16_56 : decode jdk_52_method_16_code 56 = .ok (.areturn, 1) := by decide +kernel
def Q_ctU (Z : State) (oc : Addr) (ps : Int32) (pn : Int32) (kc : ClassId) (f : Nat → Int32) (jb : Nat) (h0 : Heap) (n0 : Nat) (v : Option Value) (h : Heap) (L : List Loc) : Prop := ∃ (ot : Addr), ∃ (kt : ClassId), ∃ (fr : Nat → Int32), ∃ (pm : Int32), (v = some (.ref ot)) ∧ (Fr n0 L) ∧ (Keep h0 h []) ∧ (Arv Z h ot kt (.byte) pm (BL fr) (.int (0 : Int32))) ∧ (n0 ≤ ot) ∧ (h0.size ≤ ot) ∧ (pm.toInt = 2 * pn.toInt) ∧ (UtfF pn.toInt fr f)
set_option maxRecDepth 65536 in
set_option maxHeartbeats 40000000 in
theorem rm_ctU (l : Launch) (Z : State) (a0 : Array Value) (hw : ∀ d ∈ tables_1, d.before a0 Z = true) (ws : List Jvm.Cond) (oc : Addr) (ps : Int32) (pn : Int32) (kc : ClassId) (f : Nat → Int32) (jb : Nat) (h0 : Heap) (n0 : Nat) (Z0 : n0 ≤ h0.size) (S_ad : Sta Z h0 "java/lang/StringUTF16" "$assertionsDisabled" "Z" (.int (1 : Int32))) (S_hi : Sta Z h0 "java/lang/StringUTF16" "HI_BYTE_SHIFT" "I" (.int (0 : Int32))) (S_lo : Sta Z h0 "java/lang/StringUTF16" "LO_BYTE_SHIFT" "I" (.int (8 : Int32))) (V_c : Arv Z h0 oc kc (.char) pn (BL f) (.int (0 : Int32))) (hps : ps.toInt = 0) (hn0 : 1 ≤ pn.toInt) (hn1 : pn.toInt ≤ 4) (hr : Rng f) (hj : (jb : Int) < pn.toInt) (hbad : 255 < (f jb).toInt) :
    MetFree l (⟨"java/lang/StringUTF16", "compress", "([CII)[B"⟩ : MethodName) (head1 (Jvm.Cond.code (⟨"java/lang/StringUTF16", "compress", "([CII)[B"⟩ : MethodName) jdk_52_method_16_code 6 (some (.array .byte)) :: ws) ({ frames := 3, cells := 2, slots := 12, locals := 40 } : Room)) (fun a_ U_ => a_ = #[(.ref oc), (.int ps), (.int pn)] ∧ Z.Warmed39 U_.vm ∧ U_.heap = h0) (fun _ _ _ _ _ => True) (fun _ U_ o_ U_' => ∃ v_ L_, o_ = .returned v_ ∧ (Q_ctU Z oc ps pn kc f jb h0 n0) v_ U_'.heap L_ ∧ FrameEnd U_ o_ U_' L_ 2 12) := by
  refine ow_body (plainFor_of_name pn_2) ?_
  intro p e s m below meth c T0 X0 hx hZ hby hml hown hnm hret hlk e0
  have N0 := Fr.nil n0
  refine Ends.cast (ef_ctL m oc ps pn) ?_
  have r_ps := rng32 ps
  have r_pn := rng32 pn
  refine ow_iloadN X0 hx (hb hby d_jdk_52m16_0) rfl (pc' := 1) rfl ?_
  refine ow_newP X0 hx hZ (hw _ (List.mem_of_getElem? (i := 16) rfl)) e0 (hb hby d_jdk_52m16_1) (ow_nlt (y := (0 : Int32)) (show ¬ pn.toInt < 0 from by omega)) 4 (show pn.toInt.toNat ≤ 4 from by omega) (by decide) (by decide) (by decide) (pc' := 3) rfl (fun T1 h1 b1 k1 g1 X1 e1 E1 V1 => ?_)
  have ne_oc_b1 : oc ≠ b1 := Nat.ne_of_lt (Nat.lt_of_lt_of_le V_c.lt (Nat.le_of_eq g1.symm))
  have g_b1 : n0 ≤ b1 := Nat.le_trans Z0 (Nat.le_of_eq g1.symm)
  have sz_b1 : h0.size ≤ b1 := Nat.le_trans (Keep.refl h0 []).1 (Nat.le_of_eq g1.symm)
  have S_java_lang_StringUTF16__assertionsDisabled_1 := S_ad.ext E1
  have S_java_lang_StringUTF16_HI_BYTE_SHIFT_1 := S_hi.ext E1
  have S_java_lang_StringUTF16_LO_BYTE_SHIFT_1 := S_lo.ext E1
  have V_oc_1 := V_c.ext E1
  have Zs1 : n0 ≤ h1.size := Nat.le_trans Z0 E1.1
  have K1 := (Keep.refl h0 []).ext E1
  have V_b1 : Arv Z h1 b1 k1 .byte pn (BL (fun _ => 0)) (.int (0 : Int32)) := V1.pad BL_zero
  refine ow_astoreN X1 hx (Ls' := #[.val (.ref oc), .val (.int ps), .val (.int pn), .val (.ref b1), .unset, .unset]) (hb hby d_jdk_52m16_3) rfl rfl (pc' := 4) rfl ?_
  refine ow_aloadN X1 hx (hb hby d_jdk_52m16_4) rfl rfl (pc' := 5) rfl ?_
  refine ow_iloadN X1 hx (hb hby d_jdk_52m16_5) rfl (pc' := 6) rfl ?_
  refine ow_aloadN X1 hx (hb hby d_jdk_52m16_6) rfl rfl (pc' := 7) rfl ?_
  refine ow_iconst X1 hx (z := (0 : Int32)) (hb hby d_jdk_52m16_7) rfl (pc' := 8) rfl ?_
  refine ow_iloadN X1 hx (hb hby d_jdk_52m16_8) rfl (pc' := 9) rfl ?_
  refine ow_callS X1 hx hZ hown (hw _ (List.mem_of_getElem? (i := 43) rfl)) (hw _ (List.mem_of_getElem? (i := 44) rfl)) (hw _ (List.mem_of_getElem? (i := 41) rfl)) (hw _ (List.mem_of_getElem? (i := 45) rfl)) (by decide) (rm_cfU l Z a0 hw [] oc ps b1 (0 : Int32) pn kc f k1 (fun _ => 0) jb h1 n0 Zs1 V_oc_1 V_b1 g_b1 ne_oc_b1 (by first | assumption | decide | omega | (have q0_ : (0 : Int32).toInt = 0 := (by decide); omega)) (by first | assumption | decide | omega | (have q0_ : (0 : Int32).toInt = 0 := (by decide); omega)) (by first | assumption | decide | omega | (have q0_ : (0 : Int32).toInt = 0 := (by decide); omega)) (by first | assumption | decide | omega | (have q0_ : (0 : Int32).toInt = 0 := (by decide); omega)) (by first | assumption | decide | omega | (have q0_ : (0 : Int32).toInt = 0 := (by decide); omega)) (by first | assumption | decide | omega | (have q0_ : (0 : Int32).toInt = 0 := (by decide); omega)) (by first | assumption | decide | omega | (have q0_ : (0 : Int32).toInt = 0 := (by decide); omega))) e1 0 (by decide) (by decide) (by decide) (by decide) [(.ref oc), (.int ps), (.ref b1), (.int (0 : Int32)), (.int pn)] (by rw [hml]; rfl) pd_9 rfl rfl rfl (Nat.le_of_eq rfl) (hb hby d_jdk_52m16_9) (pc' := 12) rfl (fun v2 T2 L2 hQ2 X2 => ?_)
  obtain ⟨zr_2, rfl, Nc2, Kc2, P2_0⟩ := hQ2
  have P2_0 : 0 ≤ zr_2.toInt ∧ zr_2.toInt < pn.toInt ∧ 255 < (f zr_2.toInt.toNat).toInt := P2_0
  have S_java_lang_StringUTF16__assertionsDisabled_2 := ow_staKeep S_java_lang_StringUTF16__assertionsDisabled_1 Kc2 (allS (ow_arvNs V_b1) all0)
  have S_java_lang_StringUTF16_HI_BYTE_SHIFT_2 := ow_staKeep S_java_lang_StringUTF16_HI_BYTE_SHIFT_1 Kc2 (allS (ow_arvNs V_b1) all0)
  have S_java_lang_StringUTF16_LO_BYTE_SHIFT_2 := ow_staKeep S_java_lang_StringUTF16_LO_BYTE_SHIFT_1 Kc2 (allS (ow_arvNs V_b1) all0)
  have V_oc_2 := V_oc_1.keep Kc2 (ninS ne_oc_b1 nin0)
  have Zs2 : n0 ≤ T2.heap.size := Nat.le_trans Zs1 Kc2.1
  have K2 := K1.trans Kc2 (allS (Or.inr sz_b1) all0)
  have N2 := Fr.app N0 Nc2
  show Ends _ _ _ _ T2 (mkF m 12 #[.val (.ref oc), .val (.int ps), .val (.int pn), .val (.ref b1), .unset, .unset] [(.int zr_2)])
  refine ow_istore X2 hx (Ls' := #[.val (.ref oc), .val (.int ps), .val (.int pn), .val (.ref b1), .val (.int zr_2), .unset]) (hb hby d_jdk_52m16_12) rfl (pc' := 14) rfl ?_
  refine ow_iload X2 hx (hb hby d_jdk_52m16_14) rfl (pc' := 16) rfl ?_
  refine ow_iloadN X2 hx (hb hby d_jdk_52m16_16) rfl (pc' := 17) rfl ?_
  refine ow_icmp_eq X2 hx (zr_2.toInt) (pn.toInt) (hb hby d_jdk_52m16_17) rfl rfl (by decide) (pt := 57) (by decide) (pf := 20) rfl (fun c17 => absurd c17 (by omega)) (fun c17 => ?_)
  refine ow_aloadN X2 hx (hb hby d_jdk_52m16_20) rfl rfl (pc' := 21) rfl ?_
  refine ow_iloadN X2 hx (hb hby d_jdk_52m16_21) rfl (pc' := 22) rfl ?_
  refine ow_iloadN X2 hx (hb hby d_jdk_52m16_22) rfl (pc' := 23) rfl ?_
  refine ow_callS X2 hx hZ hown (hw _ (List.mem_of_getElem? (i := 121) rfl)) (hw _ (List.mem_of_getElem? (i := 122) rfl)) (hw _ (List.mem_of_getElem? (i := 41) rfl)) (hw _ (List.mem_of_getElem? (i := 123) rfl)) (by decide) (rm_tob l Z a0 hw [] oc ps pn kc f T2.heap n0 Zs2 S_java_lang_StringUTF16__assertionsDisabled_2 S_java_lang_StringUTF16_HI_BYTE_SHIFT_2 S_java_lang_StringUTF16_LO_BYTE_SHIFT_2 V_oc_2 (by first | assumption | decide | omega) (by first | assumption | decide | omega) (by first | assumption | decide | omega) (by first | assumption | decide | omega)) rfl 0 (by decide) (by decide) (by decide) (by decide) [(.ref oc), (.int ps), (.int pn)] (by rw [hml]; rfl) pd_10 rfl rfl rfl (Nat.le_of_eq rfl) (hb hby d_jdk_52m16_23) (pc' := 26) rfl (fun v3 T3 L3 hQ3 X3 => ?_)
  obtain ⟨b3, kt_3, pm_3, fr_3, rfl, Nc3, Kc3, P3_0, P3_1, P3_2, P3_3, P3_4⟩ := hQ3
  have P3_3 : pm_3.toInt = 2 * pn.toInt := P3_3
  have P3_4 : UtfF pn.toInt fr_3 f := P3_4
  have S_java_lang_StringUTF16__assertionsDisabled_3 := ow_staKeep S_java_lang_StringUTF16__assertionsDisabled_2 Kc3 all0
  have S_java_lang_StringUTF16_HI_BYTE_SHIFT_3 := ow_staKeep S_java_lang_StringUTF16_HI_BYTE_SHIFT_2 Kc3 all0
  have S_java_lang_StringUTF16_LO_BYTE_SHIFT_3 := ow_staKeep S_java_lang_StringUTF16_LO_BYTE_SHIFT_2 Kc3 all0
  have V_oc_3 := V_oc_2.keep Kc3 nin0
  have ne_oc_b3 : oc ≠ b3 := Nat.ne_of_lt (Nat.lt_of_lt_of_le V_oc_2.lt P3_2)
  have sz_b3 : h0.size ≤ b3 := Nat.le_trans K2.1 P3_2
  have Zs3 : n0 ≤ T3.heap.size := Nat.le_trans Zs2 Kc3.1
  have K3 := K2.trans Kc3 all0
  have N3 := Fr.app N2 Nc3
  show Ends _ _ _ _ T3 (mkF m 26 #[.val (.ref oc), .val (.int ps), .val (.int pn), .val (.ref b1), .val (.int zr_2), .unset] [(.ref b3)])
  refine ow_astore X3 hx (Ls' := #[.val (.ref oc), .val (.int ps), .val (.int pn), .val (.ref b1), .val (.int zr_2), .val (.ref b3)]) (hb hby d_jdk_52m16_26) rfl rfl (pc' := 28) rfl ?_
  refine ow_aload X3 hx (hb hby d_jdk_52m16_28) rfl rfl (pc' := 30) rfl ?_
  refine ow_iload X3 hx (hb hby d_jdk_52m16_30) rfl (pc' := 32) rfl ?_
  refine ow_callPI X3 hx hZ hown (hw _ (List.mem_of_getElem? (i := 137) rfl)) (hw _ (List.mem_of_getElem? (i := 138) rfl)) (hw _ (List.mem_of_getElem? (i := 41) rfl)) (hw _ (List.mem_of_getElem? (i := 139) rfl)) (by decide) (rm_geC l Z a0 hw [] b3 zr_2 kt_3 pm_3 fr_3 T3.heap S_java_lang_StringUTF16__assertionsDisabled_3 S_java_lang_StringUTF16_HI_BYTE_SHIFT_3 S_java_lang_StringUTF16_LO_BYTE_SHIFT_3 P3_0 (by first | assumption | decide | omega) (by first | assumption | decide | omega) (by first | assumption | decide | omega)) rfl 0 (by decide) (by decide) (by decide) (by decide) [(.ref b3), (.int zr_2)] (by rw [hml]; rfl) pd_13 rfl rfl rfl (Nat.le_of_eq rfl) (hb hby d_jdk_52m16_32) (pc' := 35) rfl (fun z4 T4 hz4 X4 e4 => ?_)
  have az4 : z4.toInt = (fr_3 (2 * zr_2.toInt).toNat).toInt % 256 + 256 * ((fr_3 (2 * zr_2.toInt + 1).toNat).toInt % 256) := hz4
  have rz4 := rng32 z4
  obtain ⟨ql_, qh_⟩ := P3_4 zr_2.toInt (by omega) (by omega)
  unfold Lo at ql_
  unfold Hi at qh_
  have qr_ := hr zr_2.toInt.toNat
  refine ow_sipush X4 hx (z := (255 : Int32)) (hb hby d_jdk_52m16_35) rfl (pc' := 38) rfl ?_
  refine ow_icmp_gt X4 hx (z4.toInt) ((255 : Int)) (hb hby d_jdk_52m16_38) rfl rfl (by decide) (pt := 54) (by decide) (pf := 41) rfl (fun c38 => ?_) (fun c38 => absurd c38 (by omega))
  refine ow_aload X4 hx (hb hby d_jdk_52m16_54) rfl rfl (pc' := 56) rfl ?_
  exact ow_retA X4 hx hret hlk rfl rfl (hb hby d_jdk_52m16_56) (by decide) (by decide) (show Q_ctU Z oc ps pn kc f jb h0 n0 _ T4.heap _ from by rw [e4]; exact ⟨b3, kt_3, fr_3, pm_3, rfl, N3, K3, P3_0, P3_1, sz_b3, P3_3, P3_4⟩)
set_option maxRecDepth 65536 in
set_option maxHeartbeats 40000000 in
theorem rm_clU (l : Launch) (Z : State) (a0 : Array Value) (hw : ∀ d ∈ tables_1, d.before a0 Z = true) (ws : List Jvm.Cond) (oa : Addr) (pn : Int32) (ka : ClassId) (pm : Int32) (f : Nat → Int32) (h0 : Heap) (V_a : Arv Z h0 oa ka (.byte) pm (BL f) (.int (0 : Int32))) (h2 : pm.toInt = 2 * pn.toInt) (hn0 : 1 ≤ pn.toInt) (hn1 : pn.toInt ≤ 4) :
    MetFree l (⟨"java/lang/StringUTF16", "coderFromArrayLen", "([BI)B"⟩ : MethodName) (head1 (Jvm.Cond.code (⟨"java/lang/StringUTF16", "coderFromArrayLen", "([BI)B"⟩ : MethodName) jdk_52_method_15_code 2 (some .byte) :: ws) ({ frames := 0, cells := 0, slots := 0, locals := 0 } : Room)) (fun a_ U_ => a_ = #[(.ref oa), (.int pn)] ∧ Z.Warmed39 U_.vm ∧ U_.heap = h0) (fun _ _ _ _ _ => True) (fun _ U_ o_ U_' => ∃ v_ L_, o_ = .returned v_ ∧ (QI (fun z => z.toInt = 1) h0) v_ U_'.heap L_ ∧ FrameEnd U_ o_ U_' L_ 0 0) := by
  refine ow_body (plainFor_of_name pn_2) ?_
  intro p e s m below meth c T0 X0 hx hZ hby hml hown hnm hret hlk e0
  refine Ends.cast (ef_clL m oa pn) ?_
  have r_pn := rng32 pn
  refine ow_iloadN X0 hx (hb hby d_jdk_52m15_0) rfl (pc' := 1) rfl ?_
  refine ow_aloadN X0 hx (hb hby d_jdk_52m15_1) rfl rfl (pc' := 2) rfl ?_
  refine ow_len X0 hx hZ e0 V_a (hb hby d_jdk_52m15_2) (pc' := 3) rfl ?_
  refine ow_isub X0 hx (hb hby d_jdk_52m15_3) (pc' := 4) rfl (fun z1 hz1 => ?_)
  have az1 : (z1.toInt - (pn.toInt - pm.toInt)) % 4294967296 = 0 := by rw [hz1]; exact c_isub pn pm
  have rz1 := rng32 z1
  refine ow_bipush X0 hx (z := (31 : Int32)) (hb hby d_jdk_52m15_4) rfl (pc' := 6) rfl ?_
  refine ow_iushr X0 hx (hb hby d_jdk_52m15_6) (pc' := 7) rfl (fun z2 hz2 => ?_)
  have az2 : z2.toInt = (z1.toInt % 4294967296) / 2147483648 := by rw [hz2]; exact c_iushr z1 (31 : Int32) 31 (by decide) (by decide)
  have rz2 := rng32 z2
  refine ow_i2b X0 hx (hb hby d_jdk_52m15_7) (pc' := 8) rfl (fun z3 hz3 => ?_)
  have az3 : (z3.toInt - z2.toInt) % 256 = 0 ∧ -128 ≤ z3.toInt ∧ z3.toInt < 128 := by rw [hz3]; exact c_i2b z2
  have rz3 := rng32 z3
  exact ow_retY X0 hx hret hlk (hb hby d_jdk_52m15_8) (by decide) (by decide) (z' := z3) (ow_narY (by omega)) ⟨z3, rfl, (show z3.toInt = 1 from by omega), rfl, e0⟩
def Q_siU (Z : State) (o : Addr) (oc : Addr) (ps : Int32) (pn : Int32) (zc : Int32) (kc : ClassId) (f : Nat → Int32) (jb : Nat) (h0 : Heap) (n0 : Nat) (v : Option Value) (h : Heap) (L : List Loc) : Prop := ∃ (ot : Addr), ∃ (kt : ClassId), ∃ (fr : Nat → Int32), ∃ (pm : Int32), (v = none) ∧ (Fr n0 L) ∧ (Keep h0 h [o]) ∧ (Exa Z h o "java/lang/String") ∧ (Fld Z h o "java/lang/String" "coder" "B" (.int (1 : Int32))) ∧ (Fld Z h o "java/lang/String" "value" "[B" (.ref ot)) ∧ (Arv Z h ot kt (.byte) pm (BL fr) (.int (0 : Int32))) ∧ (n0 ≤ ot) ∧ (h0.size ≤ ot) ∧ (o ≠ ot) ∧ (pm.toInt = 2 * pn.toInt) ∧ (UtfF pn.toInt fr f)
set_option maxRecDepth 65536 in
set_option maxHeartbeats 40000000 in
theorem rm_siU (l : Launch) (Z : State) (a0 : Array Value) (hw : ∀ d ∈ tables_1, d.before a0 Z = true) (ws : List Jvm.Cond) (o : Addr) (oc : Addr) (ps : Int32) (pn : Int32) (zc : Int32) (kc : ClassId) (f : Nat → Int32) (jb : Nat) (h0 : Heap) (n0 : Nat) (Z0 : n0 ≤ h0.size) (S_cs : Sta Z h0 "java/lang/String" "COMPACT_STRINGS" "Z" (.int zc)) (hz0 : ¬ zc.toInt = 0) (S_ad : Sta Z h0 "java/lang/StringUTF16" "$assertionsDisabled" "Z" (.int (1 : Int32))) (S_hi : Sta Z h0 "java/lang/StringUTF16" "HI_BYTE_SHIFT" "I" (.int (0 : Int32))) (S_lo : Sta Z h0 "java/lang/StringUTF16" "LO_BYTE_SHIFT" "I" (.int (8 : Int32))) (E_o : Exa Z h0 o "java/lang/String") (F_c : Fld Z h0 o "java/lang/String" "coder" "B" (.int (0 : Int32))) (F_v : Fld Z h0 o "java/lang/String" "value" "[B" .null) (g_o : n0 ≤ o) (V_c : Arv Z h0 oc kc (.char) pn (BL f) (.int (0 : Int32))) (ne_o_oc : o ≠ oc) (hps : ps.toInt = 0) (hn0 : 1 ≤ pn.toInt) (hn1 : pn.toInt ≤ 4) (hr : Rng f) (hj : (jb : Int) < pn.toInt) (hbad : 255 < (f jb).toInt) :
    MetFree l (⟨"java/lang/String", "<init>", "([CIILjava/lang/Void;)V"⟩ : MethodName) (head1 (Jvm.Cond.code (⟨"java/lang/String", "<init>", "([CIILjava/lang/Void;)V"⟩ : MethodName) jdk_42_method_149_code 6 none :: ws) ({ frames := 4, cells := 2, slots := 12, locals := 57 } : Room)) (fun a_ U_ => a_ = #[(.ref o), (.ref oc), (.int ps), (.int pn), .null] ∧ Z.Warmed39 U_.vm ∧ U_.heap = h0) (fun _ _ _ _ _ => True) (fun _ U_ o_ U_' => ∃ v_ L_, o_ = .returned v_ ∧ (Q_siU Z o oc ps pn zc kc f jb h0 n0) v_ U_'.heap L_ ∧ FrameEnd U_ o_ U_' L_ 2 12) := by
  refine ow_body (plainFor_of_name pn_1) ?_
  intro p e s m below meth c T0 X0 hx hZ hby hml hown hnm hret hlk e0
  have N0 := Fr.nil n0
  refine Ends.cast (ef_siL m o oc ps pn) ?_
  have r_ps := rng32 ps
  have r_pn := rng32 pn
  refine ow_aloadN X0 hx (hb hby d_jdk_42m149_0) rfl rfl (pc' := 1) rfl ?_
  refine ow_init0 X0 hx hZ hown (hw _ (List.mem_of_getElem? (i := 12) rfl)) (hw _ (List.mem_of_getElem? (i := 13) rfl)) (hw _ (List.mem_of_getElem? (i := 14) rfl)) e0 0 (by decide) (by decide) (by rw [hml]; rfl) (Nat.le_of_eq rfl) (hb hby d_jdk_42m149_1) (pc' := 4) rfl (fun T1 X1 e1 => ?_)
  refine ow_iloadN X1 hx (hb hby d_jdk_42m149_4) rfl (pc' := 5) rfl ?_
  refine ow_if_ne X1 hx (pn.toInt) (hb hby d_jdk_42m149_5) rfl (by decide) (pt := 27) (by decide) (pf := 8) rfl (fun c5 => ?_) (fun c5 => absurd c5 (by omega))
  refine ow_getS X1 hx hZ hown (host := "") (Or.inl (hw _ (List.mem_of_getElem? (i := 38) rfl))) Via.refl e1 S_cs (hb hby d_jdk_42m149_27) (pc' := 30) rfl (fun T2 X2 e2 => ?_)
  refine ow_if_eq X2 hx (zc.toInt) (hb hby d_jdk_42m149_30) rfl (by decide) (pt := 58) (by decide) (pf := 33) rfl (fun c30 => absurd c30 (by omega)) (fun c30 => ?_)
  refine ow_aloadN X2 hx (hb hby d_jdk_42m149_33) rfl rfl (pc' := 34) rfl ?_
  refine ow_iloadN X2 hx (hb hby d_jdk_42m149_34) rfl (pc' := 35) rfl ?_
  refine ow_iloadN X2 hx (hb hby d_jdk_42m149_35) rfl (pc' := 36) rfl ?_
  refine ow_callS X2 hx hZ hown (hw _ (List.mem_of_getElem? (i := 39) rfl)) (hw _ (List.mem_of_getElem? (i := 40) rfl)) (hw _ (List.mem_of_getElem? (i := 41) rfl)) (hw _ (List.mem_of_getElem? (i := 42) rfl)) (by decide) (rm_ctU l Z a0 hw [] oc ps pn kc f jb h0 n0 Z0 S_ad S_hi S_lo V_c (by first | assumption | decide | omega) (by first | assumption | decide | omega) (by first | assumption | decide | omega) (by first | assumption | decide | omega) (by first | assumption | decide | omega) (by first | assumption | decide | omega)) e2 0 (by decide) (by decide) (by decide) (by decide) [(.ref oc), (.int ps), (.int pn)] (by rw [hml]; rfl) pd_10 rfl rfl rfl (Nat.le_of_eq rfl) (hb hby d_jdk_42m149_36) (pc' := 39) rfl (fun v3 T3 L3 hQ3 X3 => ?_)
  obtain ⟨b3, kt_3, fr_3, pm_3, rfl, Nc3, Kc3, P3_0, P3_1, P3_2, P3_3, P3_4⟩ := hQ3
  have P3_3 : pm_3.toInt = 2 * pn.toInt := P3_3
  have P3_4 : UtfF pn.toInt fr_3 f := P3_4
  have S_java_lang_String_COMPACT_STRINGS_3 := ow_staKeep S_cs Kc3 all0
  have S_java_lang_StringUTF16__assertionsDisabled_3 := ow_staKeep S_ad Kc3 all0
  have S_java_lang_StringUTF16_HI_BYTE_SHIFT_3 := ow_staKeep S_hi Kc3 all0
  have S_java_lang_StringUTF16_LO_BYTE_SHIFT_3 := ow_staKeep S_lo Kc3 all0
  have E_o_3 := E_o.keep Kc3
  have F_o_coder_3 := F_c.keep Kc3 nin0
  have F_o_value_3 := F_v.keep Kc3 nin0
  have V_oc_3 := V_c.keep Kc3 nin0
  have ne_o_b3 : o ≠ b3 := Nat.ne_of_lt (Nat.lt_of_lt_of_le E_o.lt P3_2)
  have ne_oc_b3 : oc ≠ b3 := Nat.ne_of_lt (Nat.lt_of_lt_of_le V_c.lt P3_2)
  have sz_b3 : h0.size ≤ b3 := Nat.le_trans (Keep.refl h0 [o]).1 P3_2
  have Zs3 : n0 ≤ T3.heap.size := Nat.le_trans Z0 Kc3.1
  have K3 := (Keep.refl h0 [o]).trans Kc3 all0
  have N3 := Fr.app N0 Nc3
  show Ends _ _ _ _ T3 (mkF m 39 #[.val (.ref o), .val (.ref oc), .val (.int ps), .val (.int pn), .val .null, .unset] [(.ref b3)])
  refine ow_astore X3 hx (Ls' := #[.val (.ref o), .val (.ref oc), .val (.int ps), .val (.int pn), .val .null, .val (.ref b3)]) (hb hby d_jdk_42m149_39) rfl rfl (pc' := 41) rfl ?_
  refine ow_aloadN X3 hx (hb hby d_jdk_42m149_41) rfl rfl (pc' := 42) rfl ?_
  refine ow_aload X3 hx (hb hby d_jdk_42m149_42) rfl rfl (pc' := 44) rfl ?_
  refine ow_iloadN X3 hx (hb hby d_jdk_42m149_44) rfl (pc' := 45) rfl ?_
  refine ow_callPI X3 hx hZ hown (hw _ (List.mem_of_getElem? (i := 46) rfl)) (hw _ (List.mem_of_getElem? (i := 47) rfl)) (hw _ (List.mem_of_getElem? (i := 41) rfl)) (hw _ (List.mem_of_getElem? (i := 48) rfl)) (by decide) (rm_clU l Z a0 hw [] b3 pn kt_3 pm_3 fr_3 T3.heap P3_0 (by first | assumption | decide | omega) (by first | assumption | decide | omega) (by first | assumption | decide | omega)) rfl 1 (by decide) (by decide) (by decide) (by decide) [(.ref b3), (.int pn)] (by rw [hml]; rfl) pd_11 rfl rfl rfl (Nat.le_of_eq rfl) (hb hby d_jdk_42m149_45) (pc' := 48) rfl (fun z4 T4 hz4 X4 e4 => ?_)
  have az4 : z4.toInt = 1 := hz4
  have rz4 := rng32 z4
  rw [show z4 = (1 : Int32) from ow_eq (show z4.toInt = 1 from by omega)]
  refine ow_putFN X4 hx hZ hown (hw _ (List.mem_of_getElem? (i := 22) rfl)) Via.refl e4 F_o_coder_3 E_o_3 (Or.inr ⟨(hw _ (List.mem_of_getElem? (i := 18) rfl)), rfl, hnm⟩) (hw _ (List.mem_of_getElem? (i := 3) rfl)) (ty := .byte) (v' := .int ((1 : Int32).toInt8.toInt32)) (by decide) rfl (fits_nar_byte _) (hb hby d_jdk_42m149_48) (pc' := 51) rfl (fun T5 h5 X5 e5 W5 => ?_)
  have F_o_coder_5 := F_o_coder_3.same W5
  have S_java_lang_String_COMPACT_STRINGS_5 := S_java_lang_String_COMPACT_STRINGS_3.wr W5
  have S_java_lang_StringUTF16__assertionsDisabled_5 := S_java_lang_StringUTF16__assertionsDisabled_3.wr W5
  have S_java_lang_StringUTF16_HI_BYTE_SHIFT_5 := S_java_lang_StringUTF16_HI_BYTE_SHIFT_3.wr W5
  have S_java_lang_StringUTF16_LO_BYTE_SHIFT_5 := S_java_lang_StringUTF16_LO_BYTE_SHIFT_3.wr W5
  have E_o_5 := E_o_3.wr W5
  have F_o_value_5 := F_o_value_3.other W5 (Or.inr (slot_ne (Or.inr (hw _ (List.mem_of_getElem? (i := 17) rfl))) (Or.inr (hw _ (List.mem_of_getElem? (i := 18) rfl))) (by decide) (t := (.array .byte)) (t' := .byte) (by decide) (by decide)))
  have V_oc_5 := V_oc_3.other W5 (Ne.symm ne_o_oc)
  have V_b3_5 := P3_0.other W5 (Ne.symm ne_o_b3)
  have Zs5 : n0 ≤ h5.size := Nat.le_trans Zs3 (Keep.of_wr W5).1
  have K5 := K3.wr W5 (Or.inl (List.mem_of_getElem? (i := 0) rfl))
  have N5 := Fr.snoc X5 N3 g_o
  have F_co : Fld Z h5 o "java/lang/String" "coder" "B" (.int (1 : Int32)) := by have q := F_o_coder_5; rw [show ((1 : Int32).toInt8.toInt32) = (1 : Int32) from by decide] at q; exact q
  refine ow_aloadN X5 hx (hb hby d_jdk_42m149_51) rfl rfl (pc' := 52) rfl ?_
  refine ow_aload X5 hx (hb hby d_jdk_42m149_52) rfl rfl (pc' := 54) rfl ?_
  refine ow_putF X5 hx hZ hown (host := "") (Or.inl (hw _ (List.mem_of_getElem? (i := 21) rfl))) Via.refl e5 F_o_value_5 E_o_5 (Or.inr ⟨(hw _ (List.mem_of_getElem? (i := 17) rfl)), rfl, hnm⟩) (hw _ (List.mem_of_getElem? (i := 3) rfl)) (ty := (.array .byte)) (by decide) rfl rfl (hb hby d_jdk_42m149_54) (pc' := 57) rfl (fun T6 h6 X6 e6 W6 => ?_)
  have F_o_value_6 := F_o_value_5.same W6
  have S_java_lang_String_COMPACT_STRINGS_6 := S_java_lang_String_COMPACT_STRINGS_5.wr W6
  have S_java_lang_StringUTF16__assertionsDisabled_6 := S_java_lang_StringUTF16__assertionsDisabled_5.wr W6
  have S_java_lang_StringUTF16_HI_BYTE_SHIFT_6 := S_java_lang_StringUTF16_HI_BYTE_SHIFT_5.wr W6
  have S_java_lang_StringUTF16_LO_BYTE_SHIFT_6 := S_java_lang_StringUTF16_LO_BYTE_SHIFT_5.wr W6
  have E_o_6 := E_o_5.wr W6
  have V_oc_6 := V_oc_5.other W6 (Ne.symm ne_o_oc)
  have V_b3_6 := V_b3_5.other W6 (Ne.symm ne_o_b3)
  have F_o_coder_6 := F_co.other W6 (Or.inr (slot_ne (Or.inr (hw _ (List.mem_of_getElem? (i := 18) rfl))) (Or.inr (hw _ (List.mem_of_getElem? (i := 17) rfl))) (by decide) (t := .byte) (t' := (.array .byte)) (by decide) (by decide)))
  have Zs6 : n0 ≤ h6.size := Nat.le_trans Zs5 (Keep.of_wr W6).1
  have K6 := K5.wr W6 (Or.inl (List.mem_of_getElem? (i := 0) rfl))
  have N6 := Fr.snoc X6 N5 g_o
  exact ow_retV X6 hx hret hlk (hb hby d_jdk_42m149_57) (by decide) (by decide) (show Q_siU Z o oc ps pn zc kc f jb h0 n0 _ T6.heap _ from by rw [e6]; exact ⟨b3, kt_3, fr_3, pm_3, rfl, N6, K6, E_o_6, F_o_coder_6, F_o_value_6, V_b3_6, P3_1, sz_b3, ne_o_b3, P3_3, P3_4⟩)
def Q_sjU (Z : State) (o : Addr) (oc : Addr) (zc : Int32) (kc : ClassId) (f : Nat → Int32) (jb : Nat) (pn : Int32) (h0 : Heap) (n0 : Nat) (v : Option Value) (h : Heap) (L : List Loc) : Prop := ∃ (ot : Addr), ∃ (kt : ClassId), ∃ (fr : Nat → Int32), ∃ (pm : Int32), (v = none) ∧ (Fr n0 L) ∧ (Keep h0 h [o]) ∧ (Exa Z h o "java/lang/String") ∧ (Fld Z h o "java/lang/String" "coder" "B" (.int (1 : Int32))) ∧ (Fld Z h o "java/lang/String" "value" "[B" (.ref ot)) ∧ (Arv Z h ot kt (.byte) pm (BL fr) (.int (0 : Int32))) ∧ (n0 ≤ ot) ∧ (h0.size ≤ ot) ∧ (o ≠ ot) ∧ (pm.toInt = 2 * pn.toInt) ∧ (UtfF pn.toInt fr f)
set_option maxRecDepth 65536 in
set_option maxHeartbeats 40000000 in
theorem rm_sjU (l : Launch) (Z : State) (a0 : Array Value) (hw : ∀ d ∈ tables_1, d.before a0 Z = true) (ws : List Jvm.Cond) (o : Addr) (oc : Addr) (zc : Int32) (kc : ClassId) (f : Nat → Int32) (jb : Nat) (pn : Int32) (h0 : Heap) (n0 : Nat) (Z0 : n0 ≤ h0.size) (S_cs : Sta Z h0 "java/lang/String" "COMPACT_STRINGS" "Z" (.int zc)) (hz0 : ¬ zc.toInt = 0) (S_ad : Sta Z h0 "java/lang/StringUTF16" "$assertionsDisabled" "Z" (.int (1 : Int32))) (S_hi : Sta Z h0 "java/lang/StringUTF16" "HI_BYTE_SHIFT" "I" (.int (0 : Int32))) (S_lo : Sta Z h0 "java/lang/StringUTF16" "LO_BYTE_SHIFT" "I" (.int (8 : Int32))) (E_o : Exa Z h0 o "java/lang/String") (F_c : Fld Z h0 o "java/lang/String" "coder" "B" (.int (0 : Int32))) (F_v : Fld Z h0 o "java/lang/String" "value" "[B" .null) (g_o : n0 ≤ o) (V_c : Arv Z h0 oc kc (.char) pn (BL f) (.int (0 : Int32))) (ne_o_oc : o ≠ oc) (hn0 : 1 ≤ pn.toInt) (hn1 : pn.toInt ≤ 4) (hr : Rng f) (hj : (jb : Int) < pn.toInt) (hbad : 255 < (f jb).toInt) :
    MetFree l (⟨"java/lang/String", "<init>", "([C)V"⟩ : MethodName) (head1 (Jvm.Cond.code (⟨"java/lang/String", "<init>", "([C)V"⟩ : MethodName) jdk_42_method_3_code 2 none :: ws) ({ frames := 5, cells := 2, slots := 12, locals := 74 } : Room)) (fun a_ U_ => a_ = #[(.ref o), (.ref oc)] ∧ Z.Warmed39 U_.vm ∧ U_.heap = h0) (fun _ _ _ _ _ => True) (fun _ U_ o_ U_' => ∃ v_ L_, o_ = .returned v_ ∧ (Q_sjU Z o oc zc kc f jb pn h0 n0) v_ U_'.heap L_ ∧ FrameEnd U_ o_ U_' L_ 2 12) := by
  refine ow_body (plainFor_of_name pn_1) ?_
  intro p e s m below meth c T0 X0 hx hZ hby hml hown hnm hret hlk e0
  have N0 := Fr.nil n0
  refine Ends.cast (ef_sjL m o oc) ?_
  refine ow_aloadN X0 hx (hb hby d_jdk_42m3_0) rfl rfl (pc' := 1) rfl ?_
  refine ow_aloadN X0 hx (hb hby d_jdk_42m3_1) rfl rfl (pc' := 2) rfl ?_
  refine ow_iconst X0 hx (z := (0 : Int32)) (hb hby d_jdk_42m3_2) rfl (pc' := 3) rfl ?_
  refine ow_aloadN X0 hx (hb hby d_jdk_42m3_3) rfl rfl (pc' := 4) rfl ?_
  refine ow_len X0 hx hZ e0 V_c (hb hby d_jdk_42m3_4) (pc' := 5) rfl ?_
  refine ow_aconstNull X0 hx (hb hby d_jdk_42m3_5) (pc' := 6) rfl ?_
  refine ow_callI X0 hx hZ rfl rfl hown (hw _ (List.mem_of_getElem? (i := 8) rfl)) (hw _ (List.mem_of_getElem? (i := 9) rfl)) (hw _ (List.mem_of_getElem? (i := 4) rfl)) (hw _ (List.mem_of_getElem? (i := 11) rfl)) (by decide) (rm_siU l Z a0 hw [] o oc (0 : Int32) pn zc kc f jb h0 n0 Z0 S_cs (by first | assumption | decide | omega | (have q0_ : (0 : Int32).toInt = 0 := (by decide); omega)) S_ad S_hi S_lo E_o F_c F_v g_o V_c ne_o_oc (by first | assumption | decide | omega | (have q0_ : (0 : Int32).toInt = 0 := (by decide); omega)) (by first | assumption | decide | omega | (have q0_ : (0 : Int32).toInt = 0 := (by decide); omega)) (by first | assumption | decide | omega | (have q0_ : (0 : Int32).toInt = 0 := (by decide); omega)) (by first | assumption | decide | omega | (have q0_ : (0 : Int32).toInt = 0 := (by decide); omega)) (by first | assumption | decide | omega | (have q0_ : (0 : Int32).toInt = 0 := (by decide); omega)) (by first | assumption | decide | omega | (have q0_ : (0 : Int32).toInt = 0 := (by decide); omega))) e0 0 (by decide) (by decide) (by decide) (by decide) [(.ref oc), (.int (0 : Int32)), (.int pn), .null] (by rw [hml]; rfl) pd_12 rfl rfl rfl (Nat.le_of_eq rfl) (hb hby d_jdk_42m3_6) (pc' := 9) rfl (fun v1 T1 L1 hQ1 X1 => ?_)
  obtain ⟨b1, kt_1, fr_1, pm_1, rfl, Nc1, Kc1, P1_0, P1_1, P1_2, P1_3, P1_4, P1_5, P1_6, P1_7, P1_8⟩ := hQ1
  have P1_7 : pm_1.toInt = 2 * pn.toInt := P1_7
  have P1_8 : UtfF pn.toInt fr_1 f := P1_8
  have S_java_lang_String_COMPACT_STRINGS_1 := ow_staKeep S_cs Kc1 (allS (ow_exaNs E_o) all0)
  have S_java_lang_StringUTF16__assertionsDisabled_1 := ow_staKeep S_ad Kc1 (allS (ow_exaNs E_o) all0)
  have S_java_lang_StringUTF16_HI_BYTE_SHIFT_1 := ow_staKeep S_hi Kc1 (allS (ow_exaNs E_o) all0)
  have S_java_lang_StringUTF16_LO_BYTE_SHIFT_1 := ow_staKeep S_lo Kc1 (allS (ow_exaNs E_o) all0)
  have V_oc_1 := V_c.keep Kc1 (ninS (Ne.symm ne_o_oc) nin0)
  have ne_o_b1 : o ≠ b1 := Nat.ne_of_lt (Nat.lt_of_lt_of_le E_o.lt P1_5)
  have ne_oc_b1 : oc ≠ b1 := Nat.ne_of_lt (Nat.lt_of_lt_of_le V_c.lt P1_5)
  have sz_b1 : h0.size ≤ b1 := Nat.le_trans (Keep.refl h0 [o]).1 P1_5
  have Zs1 : n0 ≤ T1.heap.size := Nat.le_trans Z0 Kc1.1
  have K1 := (Keep.refl h0 [o]).trans Kc1 (allS (Or.inl (List.mem_of_getElem? (i := 0) rfl)) all0)
  have N1 := Fr.app N0 Nc1
  show Ends _ _ _ _ T1 (mkF m 9 #[.val (.ref o), .val (.ref oc)] [])
  exact ow_retV X1 hx hret hlk (hb hby d_jdk_42m3_9) (by decide) (by decide) (show Q_sjU Z o oc zc kc f jb pn h0 n0 _ T1.heap _ from ⟨b1, kt_1, fr_1, pm_1, rfl, N1, K1, P1_0, P1_1, P1_2, P1_3, P1_4, sz_b1, P1_6, P1_7, P1_8⟩)
theorem d_jdk_41m11_0 : decode jdk_41_method_11_code 0 = .ok (.iload_n 0, 1) := by decide +kernel
theorem d_jdk_41m11_1 : decode jdk_41_method_11_code 1 = .ok (.ifCond .lt 8, 3) := by decide +kernel
theorem d_jdk_41m11_4 : decode jdk_41_method_11_code 4 = .ok (.iload_n 0, 1) := by decide +kernel
theorem d_jdk_41m11_5 : decode jdk_41_method_11_code 5 = .ok (.iload_n 1, 1) := by decide +kernel
theorem d_jdk_41m11_6 : decode jdk_41_method_11_code 6 = .ok (.if_icmp .lt 10, 3) := by decide +kernel
theorem d_jdk_41m11_16 : decode jdk_41_method_11_code 16 = .ok (.iload_n 0, 1) := by decide +kernel
theorem d_jdk_41m11_17 : decode jdk_41_method_11_code 17 = .ok (.ireturn, 1) := by decide +kernel
theorem ef_pchkl (m : MethodId) (x0 : Int32) (x1 : Int32) : entryFrame m #[(.int x0), (.int x1), .null] 3 = mkF m 0 #[.val (.int x0), .val (.int x1), .val .null] [] := by first | (simp [entryFrame, mkF, argsToLocals, Value.category]; done) | rfl
theorem pn_3 : plainName "jdk/internal/util/Preconditions" = true := by first | (simp [plainName, overriddenIn]; done) | decide +kernel
set_option maxRecDepth 65536 in
set_option maxHeartbeats 40000000 in
theorem rm_pchkl (l : Launch) (Z : State) (a0 : Array Value) (hw : ∀ d ∈ tables_1, d.before a0 Z = true) (ws : List Jvm.Cond) (pi : Int32) (pn : Int32) (h0 : Heap) (hi0 : 0 ≤ pi.toInt) (hi1 : pi.toInt < pn.toInt) :
    MetFree l (⟨"jdk/internal/util/Preconditions", "checkIndex", "(IILjava/util/function/BiFunction;)I"⟩ : MethodName) (head1 (Jvm.Cond.code (⟨"jdk/internal/util/Preconditions", "checkIndex", "(IILjava/util/function/BiFunction;)I"⟩ : MethodName) jdk_41_method_11_code 3 (some .int) :: ws) ({ frames := 0, cells := 0, slots := 0, locals := 0 } : Room)) (fun a_ U_ => a_ = #[(.int pi), (.int pn), .null] ∧ Z.Warmed39 U_.vm ∧ U_.heap = h0) (fun _ _ _ _ _ => True) (fun _ U_ o_ U_' => ∃ v_ L_, o_ = .returned v_ ∧ (QI (fun z => z.toInt = pi.toInt) h0) v_ U_'.heap L_ ∧ FrameEnd U_ o_ U_' L_ 0 0) := by
  refine ow_body (plainFor_of_name pn_3) ?_
  intro p e s m below meth c T0 X0 hx hZ hby hml hown hnm hret hlk e0
  refine Ends.cast (ef_pchkl m pi pn) ?_
  have r_pi := rng32 pi
  have r_pn := rng32 pn
  refine ow_iloadN X0 hx (hb hby d_jdk_41m11_0) rfl (pc' := 1) rfl ?_
  refine ow_if_lt X0 hx (pi.toInt) (hb hby d_jdk_41m11_1) rfl (by decide) (pt := 9) (by decide) (pf := 4) rfl (fun c1 => absurd c1 (by omega)) (fun c1 => ?_)
  refine ow_iloadN X0 hx (hb hby d_jdk_41m11_4) rfl (pc' := 5) rfl ?_
  refine ow_iloadN X0 hx (hb hby d_jdk_41m11_5) rfl (pc' := 6) rfl ?_
  refine ow_icmp_lt X0 hx (pi.toInt) (pn.toInt) (hb hby d_jdk_41m11_6) rfl rfl (by decide) (pt := 16) (by decide) (pf := 9) rfl (fun c6 => ?_) (fun c6 => absurd c6 (by omega))
  refine ow_iloadN X0 hx (hb hby d_jdk_41m11_16) rfl (pc' := 17) rfl ?_
  exact ow_retI X0 hx hret hlk (hb hby d_jdk_41m11_17) (by decide) (by decide) ⟨pi, rfl, (show pi.toInt = pi.toInt from by omega), rfl, e0⟩
theorem ef_pchkf (m : MethodId) (x0 : Int32) (x1 : Int32) (x2 : Addr) : entryFrame m #[(.int x0), (.int x1), (.ref x2)] 3 = mkF m 0 #[.val (.int x0), .val (.int x1), .val (.ref x2)] [] := by first | (simp [entryFrame, mkF, argsToLocals, Value.category]; done) | rfl
set_option maxRecDepth 65536 in
set_option maxHeartbeats 40000000 in
theorem rm_pchkf (l : Launch) (Z : State) (a0 : Array Value) (hw : ∀ d ∈ tables_1, d.before a0 Z = true) (ws : List Jvm.Cond) (pi : Int32) (pn : Int32) (of : Addr) (h0 : Heap) (hi0 : 0 ≤ pi.toInt) (hi1 : pi.toInt < pn.toInt) :
    MetFree l (⟨"jdk/internal/util/Preconditions", "checkIndex", "(IILjava/util/function/BiFunction;)I"⟩ : MethodName) (head1 (Jvm.Cond.code (⟨"jdk/internal/util/Preconditions", "checkIndex", "(IILjava/util/function/BiFunction;)I"⟩ : MethodName) jdk_41_method_11_code 3 (some .int) :: ws) ({ frames := 0, cells := 0, slots := 0, locals := 0 } : Room)) (fun a_ U_ => a_ = #[(.int pi), (.int pn), (.ref of)] ∧ Z.Warmed39 U_.vm ∧ U_.heap = h0) (fun _ _ _ _ _ => True) (fun _ U_ o_ U_' => ∃ v_ L_, o_ = .returned v_ ∧ (QI (fun z => z.toInt = pi.toInt) h0) v_ U_'.heap L_ ∧ FrameEnd U_ o_ U_' L_ 0 0) := by
  refine ow_body (plainFor_of_name pn_3) ?_
  intro p e s m below meth c T0 X0 hx hZ hby hml hown hnm hret hlk e0
  refine Ends.cast (ef_pchkf m pi pn of) ?_
  have r_pi := rng32 pi
  have r_pn := rng32 pn
  refine ow_iloadN X0 hx (hb hby d_jdk_41m11_0) rfl (pc' := 1) rfl ?_
  refine ow_if_lt X0 hx (pi.toInt) (hb hby d_jdk_41m11_1) rfl (by decide) (pt := 9) (by decide) (pf := 4) rfl (fun c1 => absurd c1 (by omega)) (fun c1 => ?_)
  refine ow_iloadN X0 hx (hb hby d_jdk_41m11_4) rfl (pc' := 5) rfl ?_
  refine ow_iloadN X0 hx (hb hby d_jdk_41m11_5) rfl (pc' := 6) rfl ?_
  refine ow_icmp_lt X0 hx (pi.toInt) (pn.toInt) (hb hby d_jdk_41m11_6) rfl rfl (by decide) (pt := 16) (by decide) (pf := 9) rfl (fun c6 => ?_) (fun c6 => absurd c6 (by omega))
  refine ow_iloadN X0 hx (hb hby d_jdk_41m11_16) rfl (pc' := 17) rfl ?_
  exact ow_retI X0 hx hret hlk (hb hby d_jdk_41m11_17) (by decide) (by decide) ⟨pi, rfl, (show pi.toInt = pi.toInt from by omega), rfl, e0⟩
theorem pd_14 : parseMethodDescriptor "(IILjava/util/function/BiFunction;)I" = some ⟨[.int, .int, (.object "java/util/function/BiFunction")], some .int⟩ := by decide +kernel
theorem d_jdk_42m155_0 : decode jdk_42_method_155_code 0 = .ok (.iload_n 0, 1) := by decide +kernel
theorem d_jdk_42m155_1 : decode jdk_42_method_155_code 1 = .ok (.iload_n 1, 1) := by decide +kernel
theorem d_jdk_42m155_2 : decode jdk_42_method_155_code 2 = .ok (.getstatic 1053, 3) := by decide +kernel
theorem d_jdk_42m155_5 : decode jdk_42_method_155_code 5 = .ok (.invokestatic 1059, 3) := by decide +kernel
theorem d_jdk_42m155_8 : decode jdk_42_method_155_code 8 = .ok (.pop, 1) := by decide +kernel
theorem d_jdk_42m155_9 : decode jdk_42_method_155_code 9 = .ok (.return_, 1) := by decide +kernel
theorem ef_schk (m : MethodId) (x0 : Int32) (x1 : Int32) : entryFrame m #[(.int x0), (.int x1)] 2 = mkF m 0 #[.val (.int x0), .val (.int x1)] [] := by first | (simp [entryFrame, mkF, argsToLocals, Value.category]; done) | rfl
set_option maxRecDepth 65536 in
set_option maxHeartbeats 40000000 in
theorem rm_schk (l : Launch) (Z : State) (a0 : Array Value) (hw : ∀ d ∈ tables_1, d.before a0 Z = true) (ws : List Jvm.Cond) (pi : Int32) (pn : Int32) (wf : Value) (h0 : Heap) (S_f : Sta Z h0 "jdk/internal/util/Preconditions" "SIOOBE_FORMATTER" "Ljava/util/function/BiFunction;" wf) (hwf : wf = .null ∨ ∃ a, wf = .ref a) (hi0 : 0 ≤ pi.toInt) (hi1 : pi.toInt < pn.toInt) :
    MetFree l (⟨"java/lang/String", "checkIndex", "(II)V"⟩ : MethodName) (head1 (Jvm.Cond.code (⟨"java/lang/String", "checkIndex", "(II)V"⟩ : MethodName) jdk_42_method_155_code 2 none :: ws) ({ frames := 1, cells := 0, slots := 0, locals := 14 } : Room)) (fun a_ U_ => a_ = #[(.int pi), (.int pn)] ∧ Z.Warmed39 U_.vm ∧ U_.heap = h0) (fun _ _ _ _ _ => True) (fun _ U_ o_ U_' => ∃ v_ L_, o_ = .returned v_ ∧ (QN h0) v_ U_'.heap L_ ∧ FrameEnd U_ o_ U_' L_ 0 0) := by
  refine ow_body (plainFor_of_name pn_1) ?_
  intro p e s m below meth c T0 X0 hx hZ hby hml hown hnm hret hlk e0
  refine Ends.cast (ef_schk m pi pn) ?_
  have r_pi := rng32 pi
  have r_pn := rng32 pn
  rcases hwf with rfl | ⟨of, rfl⟩
  · refine ow_iloadN X0 hx (hb hby d_jdk_42m155_0) rfl (pc' := 1) rfl ?_
    refine ow_iloadN X0 hx (hb hby d_jdk_42m155_1) rfl (pc' := 2) rfl ?_
    refine ow_getS X0 hx hZ hown (host := "") (Or.inl (hw _ (List.mem_of_getElem? (i := 80) rfl))) Via.refl e0 S_f (hb hby d_jdk_42m155_2) (pc' := 5) rfl (fun T1 X1 e1 => ?_)
    refine ow_callPI X1 hx hZ hown (hw _ (List.mem_of_getElem? (i := 82) rfl)) (hw _ (List.mem_of_getElem? (i := 83) rfl)) (hw _ (List.mem_of_getElem? (i := 81) rfl)) (hw _ (List.mem_of_getElem? (i := 84) rfl)) (by decide) (rm_pchkl l Z a0 hw [] pi pn h0 (by first | assumption | decide | omega) (by first | assumption | decide | omega)) e1 0 (by decide) (by decide) (by decide) (by decide) [(.int pi), (.int pn), .null] (by rw [hml]; rfl) pd_14 rfl rfl rfl (Nat.le_of_eq rfl) (hb hby d_jdk_42m155_5) (pc' := 8) rfl (fun z2 T2 hz2 X2 e2 => ?_)
    have az2 : z2.toInt = pi.toInt := hz2
    have rz2 := rng32 z2
    refine ow_pop X2 hx (hb hby d_jdk_42m155_8) rfl (pc' := 9) rfl ?_
    exact ow_retV X2 hx hret hlk (hb hby d_jdk_42m155_9) (by decide) (by decide) ⟨rfl, rfl, e2⟩
  · refine ow_iloadN X0 hx (hb hby d_jdk_42m155_0) rfl (pc' := 1) rfl ?_
    refine ow_iloadN X0 hx (hb hby d_jdk_42m155_1) rfl (pc' := 2) rfl ?_
    refine ow_getS X0 hx hZ hown (host := "") (Or.inl (hw _ (List.mem_of_getElem? (i := 80) rfl))) Via.refl e0 S_f (hb hby d_jdk_42m155_2) (pc' := 5) rfl (fun T3 X3 e3 => ?_)
    refine ow_callPI X3 hx hZ hown (hw _ (List.mem_of_getElem? (i := 82) rfl)) (hw _ (List.mem_of_getElem? (i := 83) rfl)) (hw _ (List.mem_of_getElem? (i := 81) rfl)) (hw _ (List.mem_of_getElem? (i := 84) rfl)) (by decide) (rm_pchkf l Z a0 hw [] pi pn of h0 (by first | assumption | decide | omega) (by first | assumption | decide | omega)) e3 0 (by decide) (by decide) (by decide) (by decide) [(.int pi), (.int pn), (.ref of)] (by rw [hml]; rfl) pd_14 rfl rfl rfl (Nat.le_of_eq rfl) (hb hby d_jdk_42m155_5) (pc' := 8) rfl (fun z4 T4 hz4 X4 e4 => ?_)
    have az4 : z4.toInt = pi.toInt := hz4
    have rz4 := rng32 z4
    refine ow_pop X4 hx (hb hby d_jdk_42m155_8) rfl (pc' := 9) rfl ?_
    exact ow_retV X4 hx hret hlk (hb hby d_jdk_42m155_9) (by decide) (by decide) ⟨rfl, rfl, e4⟩
theorem d_jdk_52m6_0 : decode jdk_52_method_6_code 0 = .ok (.aload_n 0, 1) := by decide +kernel
theorem d_jdk_52m6_1 : decode jdk_52_method_6_code 1 = .ok (.arraylength, 1) := by decide +kernel
theorem d_jdk_52m6_2 : decode jdk_52_method_6_code 2 = .ok (.iconst 1, 1) := by decide +kernel
theorem d_jdk_52m6_3 : decode jdk_52_method_6_code 3 = .ok (.ishr, 1) := by decide +kernel
theorem d_jdk_52m6_4 : decode jdk_52_method_6_code 4 = .ok (.ireturn, 1) := by decide +kernel
theorem ef_uln (m : MethodId) (x0 : Addr) : entryFrame m #[(.ref x0)] 1 = mkF m 0 #[.val (.ref x0)] [] := by first | (simp [entryFrame, mkF, argsToLocals, Value.category]; done) | rfl
set_option maxRecDepth 65536 in
set_option maxHeartbeats 40000000 in
theorem rm_uln (l : Launch) (Z : State) (a0 : Array Value) (hw : ∀ d ∈ tables_1, d.before a0 Z = true) (ws : List Jvm.Cond) (oa : Addr) (ka : ClassId) (pm : Int32) (f : Nat → Int32) (h0 : Heap) (V_a : Arv Z h0 oa ka (.byte) pm (BL f) (.int (0 : Int32))) :
    MetFree l (⟨"java/lang/StringUTF16", "length", "([B)I"⟩ : MethodName) (head1 (Jvm.Cond.code (⟨"java/lang/StringUTF16", "length", "([B)I"⟩ : MethodName) jdk_52_method_6_code 1 (some .int) :: ws) ({ frames := 0, cells := 0, slots := 0, locals := 0 } : Room)) (fun a_ U_ => a_ = #[(.ref oa)] ∧ Z.Warmed39 U_.vm ∧ U_.heap = h0) (fun _ _ _ _ _ => True) (fun _ U_ o_ U_' => ∃ v_ L_, o_ = .returned v_ ∧ (QI (fun z => z.toInt = pm.toInt / 2) h0) v_ U_'.heap L_ ∧ FrameEnd U_ o_ U_' L_ 0 0) := by
  refine ow_body (plainFor_of_name pn_2) ?_
  intro p e s m below meth c T0 X0 hx hZ hby hml hown hnm hret hlk e0
  refine Ends.cast (ef_uln m oa) ?_
  refine ow_aloadN X0 hx (hb hby d_jdk_52m6_0) rfl rfl (pc' := 1) rfl ?_
  refine ow_len X0 hx hZ e0 V_a (hb hby d_jdk_52m6_1) (pc' := 2) rfl ?_
  refine ow_iconst X0 hx (z := (1 : Int32)) (hb hby d_jdk_52m6_2) rfl (pc' := 3) rfl ?_
  refine ow_ishr X0 hx (hb hby d_jdk_52m6_3) (pc' := 4) rfl (fun z1 hz1 => ?_)
  have az1 : z1.toInt = pm.toInt / 2 := by rw [hz1]; exact c_ishr pm (1 : Int32) 1 (by decide)
  have rz1 := rng32 z1
  exact ow_retI X0 hx hret hlk (hb hby d_jdk_52m6_4) (by decide) (by decide) ⟨z1, rfl, (show z1.toInt = pm.toInt / 2 from by omega), rfl, e0⟩
theorem pd_15 : parseMethodDescriptor "([B)I" = some ⟨[(.array .byte)], some .int⟩ := by decide +kernel
theorem pd_16 : parseMethodDescriptor "(II)V" = some ⟨[.int, .int], none⟩ := by decide +kernel
theorem d_jdk_52m91_0 : decode jdk_52_method_91_code 0 = .ok (.iload_n 0, 1) := by decide +kernel
theorem d_jdk_52m91_1 : decode jdk_52_method_91_code 1 = .ok (.aload_n 1, 1) := by decide +kernel
theorem d_jdk_52m91_2 : decode jdk_52_method_91_code 2 = .ok (.invokestatic 48, 3) := by decide +kernel
theorem d_jdk_52m91_5 : decode jdk_52_method_91_code 5 = .ok (.invokestatic 414, 3) := by decide +kernel
theorem d_jdk_52m91_8 : decode jdk_52_method_91_code 8 = .ok (.return_, 1) := by decide +kernel
theorem ef_uck (m : MethodId) (x0 : Int32) (x1 : Addr) : entryFrame m #[(.int x0), (.ref x1)] 2 = mkF m 0 #[.val (.int x0), .val (.ref x1)] [] := by first | (simp [entryFrame, mkF, argsToLocals, Value.category]; done) | rfl
set_option maxRecDepth 65536 in
set_option maxHeartbeats 40000000 in
theorem rm_uck (l : Launch) (Z : State) (a0 : Array Value) (hw : ∀ d ∈ tables_1, d.before a0 Z = true) (ws : List Jvm.Cond) (pi : Int32) (oa : Addr) (ka : ClassId) (pm : Int32) (f : Nat → Int32) (wf : Value) (h0 : Heap) (V_a : Arv Z h0 oa ka (.byte) pm (BL f) (.int (0 : Int32))) (S_f : Sta Z h0 "jdk/internal/util/Preconditions" "SIOOBE_FORMATTER" "Ljava/util/function/BiFunction;" wf) (hwf : wf = .null ∨ ∃ a, wf = .ref a) (hi0 : 0 ≤ pi.toInt) (hi1 : 2 * pi.toInt + 1 < pm.toInt) (hm : pm.toInt ≤ 8) :
    MetFree l (⟨"java/lang/StringUTF16", "checkIndex", "(I[B)V"⟩ : MethodName) (head1 (Jvm.Cond.code (⟨"java/lang/StringUTF16", "checkIndex", "(I[B)V"⟩ : MethodName) jdk_52_method_91_code 2 none :: ws) ({ frames := 2, cells := 0, slots := 0, locals := 27 } : Room)) (fun a_ U_ => a_ = #[(.int pi), (.ref oa)] ∧ Z.Warmed39 U_.vm ∧ U_.heap = h0) (fun _ _ _ _ _ => True) (fun _ U_ o_ U_' => ∃ v_ L_, o_ = .returned v_ ∧ (QN h0) v_ U_'.heap L_ ∧ FrameEnd U_ o_ U_' L_ 0 0) := by
  refine ow_body (plainFor_of_name pn_2) ?_
  intro p e s m below meth c T0 X0 hx hZ hby hml hown hnm hret hlk e0
  refine Ends.cast (ef_uck m pi oa) ?_
  have r_pi := rng32 pi
  refine ow_iloadN X0 hx (hb hby d_jdk_52m91_0) rfl (pc' := 1) rfl ?_
  refine ow_aloadN X0 hx (hb hby d_jdk_52m91_1) rfl rfl (pc' := 2) rfl ?_
  refine ow_callPI X0 hx hZ hown (hw _ (List.mem_of_getElem? (i := 146) rfl)) (hw _ (List.mem_of_getElem? (i := 147) rfl)) (hw _ (List.mem_of_getElem? (i := 41) rfl)) (hw _ (List.mem_of_getElem? (i := 148) rfl)) (by decide) (rm_uln l Z a0 hw [] oa ka pm f h0 V_a) e0 1 (by decide) (by decide) (by decide) (by decide) [(.ref oa)] (by rw [hml]; rfl) pd_15 rfl rfl rfl (Nat.le_of_eq rfl) (hb hby d_jdk_52m91_2) (pc' := 5) rfl (fun z1 T1 hz1 X1 e1 => ?_)
  have az1 : z1.toInt = pm.toInt / 2 := hz1
  have rz1 := rng32 z1
  refine ow_callS X1 hx hZ hown (hw _ (List.mem_of_getElem? (i := 149) rfl)) (hw _ (List.mem_of_getElem? (i := 78) rfl)) (hw _ (List.mem_of_getElem? (i := 4) rfl)) (hw _ (List.mem_of_getElem? (i := 79) rfl)) (by decide) (rm_schk l Z a0 hw [] pi z1 wf h0 S_f (by first | assumption | decide | omega) (by first | assumption | decide | omega) (by first | assumption | decide | omega)) e1 0 (by decide) (by decide) (by decide) (by decide) [(.int pi), (.int z1)] (by rw [hml]; rfl) pd_16 rfl rfl rfl (Nat.le_of_eq rfl) (hb hby d_jdk_52m91_5) (pc' := 8) rfl (fun v2 T2 L2 hQ2 X2 => ?_)
  obtain ⟨rfl, rfl, e2⟩ := hQ2
  rw [List.append_nil] at X2
  show Ends _ _ _ _ T2 (mkF m 8 #[.val (.int pi), .val (.ref oa)] [])
  exact ow_retV X2 hx hret hlk (hb hby d_jdk_52m91_8) (by decide) (by decide) ⟨rfl, rfl, e2⟩
theorem pd_17 : parseMethodDescriptor "(I[B)V" = some ⟨[.int, (.array .byte)], none⟩ := by decide +kernel
theorem d_jdk_52m83_0 : decode jdk_52_method_83_code 0 = .ok (.iload_n 1, 1) := by decide +kernel
theorem d_jdk_52m83_1 : decode jdk_52_method_83_code 1 = .ok (.aload_n 0, 1) := by decide +kernel
theorem d_jdk_52m83_2 : decode jdk_52_method_83_code 2 = .ok (.invokestatic 67, 3) := by decide +kernel
theorem d_jdk_52m83_5 : decode jdk_52_method_83_code 5 = .ok (.aload_n 0, 1) := by decide +kernel
theorem d_jdk_52m83_6 : decode jdk_52_method_83_code 6 = .ok (.iload_n 1, 1) := by decide +kernel
theorem d_jdk_52m83_7 : decode jdk_52_method_83_code 7 = .ok (.invokestatic 71, 3) := by decide +kernel
theorem d_jdk_52m83_10 : decode jdk_52_method_83_code 10 = .ok (.ireturn, 1) := by decide +kernel
theorem ef_uca (m : MethodId) (x0 : Addr) (x1 : Int32) : entryFrame m #[(.ref x0), (.int x1)] 2 = mkF m 0 #[.val (.ref x0), .val (.int x1)] [] := by first | (simp [entryFrame, mkF, argsToLocals, Value.category]; done) | rfl
set_option maxRecDepth 65536 in
set_option maxHeartbeats 40000000 in
theorem rm_uca (l : Launch) (Z : State) (a0 : Array Value) (hw : ∀ d ∈ tables_1, d.before a0 Z = true) (ws : List Jvm.Cond) (oa : Addr) (pi : Int32) (ka : ClassId) (pm : Int32) (f : Nat → Int32) (wf : Value) (h0 : Heap) (S_ad : Sta Z h0 "java/lang/StringUTF16" "$assertionsDisabled" "Z" (.int (1 : Int32))) (S_hi : Sta Z h0 "java/lang/StringUTF16" "HI_BYTE_SHIFT" "I" (.int (0 : Int32))) (S_lo : Sta Z h0 "java/lang/StringUTF16" "LO_BYTE_SHIFT" "I" (.int (8 : Int32))) (V_a : Arv Z h0 oa ka (.byte) pm (BL f) (.int (0 : Int32))) (S_f : Sta Z h0 "jdk/internal/util/Preconditions" "SIOOBE_FORMATTER" "Ljava/util/function/BiFunction;" wf) (hwf : wf = .null ∨ ∃ a, wf = .ref a) (hi0 : 0 ≤ pi.toInt) (hi1 : 2 * pi.toInt + 1 < pm.toInt) (hm : pm.toInt ≤ 8) :
    MetFree l (⟨"java/lang/StringUTF16", "charAt", "([BI)C"⟩ : MethodName) (head1 (Jvm.Cond.code (⟨"java/lang/StringUTF16", "charAt", "([BI)C"⟩ : MethodName) jdk_52_method_83_code 2 (some .char) :: ws) ({ frames := 3, cells := 0, slots := 0, locals := 40 } : Room)) (fun a_ U_ => a_ = #[(.ref oa), (.int pi)] ∧ Z.Warmed39 U_.vm ∧ U_.heap = h0) (fun _ _ _ _ _ => True) (fun _ U_ o_ U_' => ∃ v_ L_, o_ = .returned v_ ∧ (QI (fun z => z.toInt = (f (2 * pi.toInt).toNat).toInt % 256 + 256 * ((f (2 * pi.toInt + 1).toNat).toInt % 256)) h0) v_ U_'.heap L_ ∧ FrameEnd U_ o_ U_' L_ 0 0) := by
  refine ow_body (plainFor_of_name pn_2) ?_
  intro p e s m below meth c T0 X0 hx hZ hby hml hown hnm hret hlk e0
  refine Ends.cast (ef_uca m oa pi) ?_
  have r_pi := rng32 pi
  refine ow_iloadN X0 hx (hb hby d_jdk_52m83_0) rfl (pc' := 1) rfl ?_
  refine ow_aloadN X0 hx (hb hby d_jdk_52m83_1) rfl rfl (pc' := 2) rfl ?_
  refine ow_callS X0 hx hZ hown (hw _ (List.mem_of_getElem? (i := 143) rfl)) (hw _ (List.mem_of_getElem? (i := 144) rfl)) (hw _ (List.mem_of_getElem? (i := 41) rfl)) (hw _ (List.mem_of_getElem? (i := 145) rfl)) (by decide) (rm_uck l Z a0 hw [] pi oa ka pm f wf h0 V_a S_f (by first | assumption | decide | omega) (by first | assumption | decide | omega) (by first | assumption | decide | omega) (by first | assumption | decide | omega)) e0 0 (by decide) (by decide) (by decide) (by decide) [(.int pi), (.ref oa)] (by rw [hml]; rfl) pd_17 rfl rfl rfl (Nat.le_of_eq rfl) (hb hby d_jdk_52m83_2) (pc' := 5) rfl (fun v1 T1 L1 hQ1 X1 => ?_)
  obtain ⟨rfl, rfl, e1⟩ := hQ1
  rw [List.append_nil] at X1
  show Ends _ _ _ _ T1 (mkF m 5 #[.val (.ref oa), .val (.int pi)] [])
  refine ow_aloadN X1 hx (hb hby d_jdk_52m83_5) rfl rfl (pc' := 6) rfl ?_
  refine ow_iloadN X1 hx (hb hby d_jdk_52m83_6) rfl (pc' := 7) rfl ?_
  refine ow_callPI X1 hx hZ hown (hw _ (List.mem_of_getElem? (i := 137) rfl)) (hw _ (List.mem_of_getElem? (i := 138) rfl)) (hw _ (List.mem_of_getElem? (i := 41) rfl)) (hw _ (List.mem_of_getElem? (i := 139) rfl)) (by decide) (rm_geC l Z a0 hw [] oa pi ka pm f h0 S_ad S_hi S_lo V_a (by first | assumption | decide | omega) (by first | assumption | decide | omega) (by first | assumption | decide | omega)) e1 0 (by decide) (by decide) (by decide) (by decide) [(.ref oa), (.int pi)] (by rw [hml]; rfl) pd_13 rfl rfl rfl (Nat.le_of_eq rfl) (hb hby d_jdk_52m83_7) (pc' := 10) rfl (fun z2 T2 hz2 X2 e2 => ?_)
  have az2 : z2.toInt = (f (2 * pi.toInt).toNat).toInt % 256 + 256 * ((f (2 * pi.toInt + 1).toNat).toInt % 256) := hz2
  have rz2 := rng32 z2
  exact ow_retC X2 hx hret hlk (hb hby d_jdk_52m83_10) (by decide) (by decide) (z' := z2) (ow_narC (by omega)) ⟨z2, rfl, (show z2.toInt = (f (2 * pi.toInt).toNat).toInt % 256 + 256 * ((f (2 * pi.toInt + 1).toNat).toInt % 256) from by omega), rfl, e2⟩
theorem d_jdk_43m2_0 : decode jdk_43_method_2_code 0 = .ok (.iload_n 1, 1) := by decide +kernel
theorem d_jdk_43m2_1 : decode jdk_43_method_2_code 1 = .ok (.aload_n 0, 1) := by decide +kernel
theorem d_jdk_43m2_2 : decode jdk_43_method_2_code 2 = .ok (.arraylength, 1) := by decide +kernel
theorem d_jdk_43m2_3 : decode jdk_43_method_2_code 3 = .ok (.invokestatic 9, 3) := by decide +kernel
theorem d_jdk_43m2_6 : decode jdk_43_method_2_code 6 = .ok (.aload_n 0, 1) := by decide +kernel
theorem d_jdk_43m2_7 : decode jdk_43_method_2_code 7 = .ok (.iload_n 1, 1) := by decide +kernel
theorem d_jdk_43m2_8 : decode jdk_43_method_2_code 8 = .ok (.baload, 1) := by decide +kernel
theorem d_jdk_43m2_9 : decode jdk_43_method_2_code 9 = .ok (.sipush 255, 3) := by decide +kernel
theorem d_jdk_43m2_12 : decode jdk_43_method_2_code 12 = .ok (.iand, 1) := by decide +kernel
theorem d_jdk_43m2_13 : decode jdk_43_method_2_code 13 = .ok (.i2c, 1) := by decide +kernel
theorem d_jdk_43m2_14 : decode jdk_43_method_2_code 14 = .ok (.ireturn, 1) := by decide +kernel
theorem ef_lca (m : MethodId) (x0 : Addr) (x1 : Int32) : entryFrame m #[(.ref x0), (.int x1)] 2 = mkF m 0 #[.val (.ref x0), .val (.int x1)] [] := by first | (simp [entryFrame, mkF, argsToLocals, Value.category]; done) | rfl
set_option maxRecDepth 65536 in
set_option maxHeartbeats 40000000 in
theorem rm_lca (l : Launch) (Z : State) (a0 : Array Value) (hw : ∀ d ∈ tables_1, d.before a0 Z = true) (ws : List Jvm.Cond) (oa : Addr) (pi : Int32) (ka : ClassId) (pm : Int32) (f : Nat → Int32) (wf : Value) (h0 : Heap) (V_a : Arv Z h0 oa ka (.byte) pm (BL f) (.int (0 : Int32))) (S_f : Sta Z h0 "jdk/internal/util/Preconditions" "SIOOBE_FORMATTER" "Ljava/util/function/BiFunction;" wf) (hwf : wf = .null ∨ ∃ a, wf = .ref a) (hi0 : 0 ≤ pi.toInt) (hi1 : pi.toInt < pm.toInt) (hm : pm.toInt ≤ 8) :
    MetFree l (⟨"java/lang/StringLatin1", "charAt", "([BI)C"⟩ : MethodName) (head1 (Jvm.Cond.code (⟨"java/lang/StringLatin1", "charAt", "([BI)C"⟩ : MethodName) jdk_43_method_2_code 2 (some .char) :: ws) ({ frames := 2, cells := 0, slots := 0, locals := 27 } : Room)) (fun a_ U_ => a_ = #[(.ref oa), (.int pi)] ∧ Z.Warmed39 U_.vm ∧ U_.heap = h0) (fun _ _ _ _ _ => True) (fun _ U_ o_ U_' => ∃ v_ L_, o_ = .returned v_ ∧ (QI (fun z => z.toInt = (f pi.toInt.toNat).toInt % 256) h0) v_ U_'.heap L_ ∧ FrameEnd U_ o_ U_' L_ 0 0) := by
  refine ow_body (plainFor_of_name pn_0) ?_
  intro p e s m below meth c T0 X0 hx hZ hby hml hown hnm hret hlk e0
  refine Ends.cast (ef_lca m oa pi) ?_
  have r_pi := rng32 pi
  refine ow_iloadN X0 hx (hb hby d_jdk_43m2_0) rfl (pc' := 1) rfl ?_
  refine ow_aloadN X0 hx (hb hby d_jdk_43m2_1) rfl rfl (pc' := 2) rfl ?_
  refine ow_len X0 hx hZ e0 V_a (hb hby d_jdk_43m2_2) (pc' := 3) rfl ?_
  refine ow_callS X0 hx hZ hown (hw _ (List.mem_of_getElem? (i := 77) rfl)) (hw _ (List.mem_of_getElem? (i := 78) rfl)) (hw _ (List.mem_of_getElem? (i := 4) rfl)) (hw _ (List.mem_of_getElem? (i := 79) rfl)) (by decide) (rm_schk l Z a0 hw [] pi pm wf h0 S_f (by first | assumption | decide | omega) (by first | assumption | decide | omega) (by first | assumption | decide | omega)) e0 0 (by decide) (by decide) (by decide) (by decide) [(.int pi), (.int pm)] (by rw [hml]; rfl) pd_16 rfl rfl rfl (Nat.le_of_eq rfl) (hb hby d_jdk_43m2_3) (pc' := 6) rfl (fun v1 T1 L1 hQ1 X1 => ?_)
  obtain ⟨rfl, rfl, e1⟩ := hQ1
  rw [List.append_nil] at X1
  show Ends _ _ _ _ T1 (mkF m 6 #[.val (.ref oa), .val (.int pi)] [])
  refine ow_aloadN X1 hx (hb hby d_jdk_43m2_6) rfl rfl (pc' := 7) rfl ?_
  refine ow_iloadN X1 hx (hb hby d_jdk_43m2_7) rfl (pc' := 8) rfl ?_
  refine ow_ldB X1 hx hZ e1 V_a (ow_nlt (y := (0 : Int32)) (show ¬ pi.toInt < 0 from by omega)) (ow_lt (show pi.toInt < pm.toInt from by omega)) (show (BL f).getD pi.toNatClampNeg (.int (0 : Int32)) = .int (f pi.toInt.toNat) from BL_get _ _ (show pi.toInt.toNat < 16 by omega) _) (hb hby d_jdk_43m2_8) (pc' := 9) rfl ?_
  refine ow_sipush X1 hx (z := (255 : Int32)) (hb hby d_jdk_43m2_9) rfl (pc' := 12) rfl ?_
  refine ow_iand X1 hx (hb hby d_jdk_43m2_12) (pc' := 13) rfl (fun z2 hz2 => ?_)
  have az2 : z2.toInt = (f pi.toInt.toNat).toInt % 256 := by rw [hz2]; exact c_mask (f pi.toInt.toNat) (255 : Int32) 8 (by decide) (by decide)
  have rz2 := rng32 z2
  refine ow_i2c X1 hx (hb hby d_jdk_43m2_13) (pc' := 14) rfl (fun z3 hz3 => ?_)
  have az3 : (z3.toInt - z2.toInt) % 65536 = 0 ∧ 0 ≤ z3.toInt ∧ z3.toInt < 65536 := by rw [hz3]; exact c_i2c z2
  have rz3 := rng32 z3
  exact ow_retC X1 hx hret hlk (hb hby d_jdk_43m2_14) (by decide) (by decide) (z' := z3) (ow_narC (by omega)) ⟨z3, rfl, (show z3.toInt = (f pi.toInt.toNat).toInt % 256 from by omega), rfl, e1⟩
set_option maxRecDepth 65536 in
set_option maxHeartbeats 40000000 in
theorem rm_codL (l : Launch) (Z : State) (a0 : Array Value) (hw : ∀ d ∈ tables_1, d.before a0 Z = true) (ws : List Jvm.Cond) (o : Addr) (zc : Int32) (h0 : Heap) (S_cs : Sta Z h0 "java/lang/String" "COMPACT_STRINGS" "Z" (.int zc)) (F_c : Fld Z h0 o "java/lang/String" "coder" "B" (.int (0 : Int32))) (hz0 : ¬ zc.toInt = 0) :
    MetFree l (⟨"java/lang/String", "coder", "()B"⟩ : MethodName) (head1 (Jvm.Cond.code (⟨"java/lang/String", "coder", "()B"⟩ : MethodName) jdk_42_method_152_code 1 (some .byte) :: ws) ({ frames := 0, cells := 0, slots := 0, locals := 0 } : Room)) (fun a_ U_ => a_ = #[(.ref o)] ∧ Z.Warmed39 U_.vm ∧ U_.heap = h0) (fun _ _ _ _ _ => True) (fun _ U_ o_ U_' => ∃ v_ L_, o_ = .returned v_ ∧ (QI (fun z => z.toInt = 0) h0) v_ U_'.heap L_ ∧ FrameEnd U_ o_ U_' L_ 0 0) := by
  refine ow_body (plainFor_of_name pn_1) ?_
  intro p e s m below meth c T0 X0 hx hZ hby hml hown hnm hret hlk e0
  refine Ends.cast (ef_coder m o) ?_
  refine ow_getS X0 hx hZ hown (host := "") (Or.inl (hw _ (List.mem_of_getElem? (i := 38) rfl))) Via.refl e0 S_cs (hb hby d_jdk_42m152_0) (pc' := 3) rfl (fun T1 X1 e1 => ?_)
  refine ow_if_eq X1 hx (zc.toInt) (hb hby d_jdk_42m152_3) rfl (by decide) (pt := 13) (by decide) (pf := 6) rfl (fun c3 => absurd c3 (by omega)) (fun c3 => ?_)
  refine ow_aloadN X1 hx (hb hby d_jdk_42m152_6) rfl rfl (pc' := 7) rfl ?_
  refine ow_getF X1 hx hZ hown (host := "") (Or.inl (hw _ (List.mem_of_getElem? (i := 22) rfl))) Via.refl e1 F_c (hb hby d_jdk_42m152_7) (pc' := 10) rfl (fun T2 X2 e2 => ?_)
  refine ow_goto X2 hx (hb hby d_jdk_42m152_10) (by decide) (pc' := 14) (by decide) ?_
  exact ow_retY X2 hx hret hlk (hb hby d_jdk_42m152_14) (by decide) (by decide) (z' := (0 : Int32)) (by decide) ⟨(0 : Int32), rfl, (show (0 : Int) = 0 from by omega), rfl, e2⟩
set_option maxRecDepth 65536 in
set_option maxHeartbeats 40000000 in
theorem rm_codU (l : Launch) (Z : State) (a0 : Array Value) (hw : ∀ d ∈ tables_1, d.before a0 Z = true) (ws : List Jvm.Cond) (o : Addr) (zc : Int32) (h0 : Heap) (S_cs : Sta Z h0 "java/lang/String" "COMPACT_STRINGS" "Z" (.int zc)) (F_c : Fld Z h0 o "java/lang/String" "coder" "B" (.int (1 : Int32))) (hz0 : ¬ zc.toInt = 0) :
    MetFree l (⟨"java/lang/String", "coder", "()B"⟩ : MethodName) (head1 (Jvm.Cond.code (⟨"java/lang/String", "coder", "()B"⟩ : MethodName) jdk_42_method_152_code 1 (some .byte) :: ws) ({ frames := 0, cells := 0, slots := 0, locals := 0 } : Room)) (fun a_ U_ => a_ = #[(.ref o)] ∧ Z.Warmed39 U_.vm ∧ U_.heap = h0) (fun _ _ _ _ _ => True) (fun _ U_ o_ U_' => ∃ v_ L_, o_ = .returned v_ ∧ (QI (fun z => z.toInt = 1) h0) v_ U_'.heap L_ ∧ FrameEnd U_ o_ U_' L_ 0 0) := by
  refine ow_body (plainFor_of_name pn_1) ?_
  intro p e s m below meth c T0 X0 hx hZ hby hml hown hnm hret hlk e0
  refine Ends.cast (ef_coder m o) ?_
  refine ow_getS X0 hx hZ hown (host := "") (Or.inl (hw _ (List.mem_of_getElem? (i := 38) rfl))) Via.refl e0 S_cs (hb hby d_jdk_42m152_0) (pc' := 3) rfl (fun T1 X1 e1 => ?_)
  refine ow_if_eq X1 hx (zc.toInt) (hb hby d_jdk_42m152_3) rfl (by decide) (pt := 13) (by decide) (pf := 6) rfl (fun c3 => absurd c3 (by omega)) (fun c3 => ?_)
  refine ow_aloadN X1 hx (hb hby d_jdk_42m152_6) rfl rfl (pc' := 7) rfl ?_
  refine ow_getF X1 hx hZ hown (host := "") (Or.inl (hw _ (List.mem_of_getElem? (i := 22) rfl))) Via.refl e1 F_c (hb hby d_jdk_42m152_7) (pc' := 10) rfl (fun T2 X2 e2 => ?_)
  refine ow_goto X2 hx (hb hby d_jdk_42m152_10) (by decide) (pc' := 14) (by decide) ?_
  exact ow_retY X2 hx hret hlk (hb hby d_jdk_42m152_14) (by decide) (by decide) (z' := (1 : Int32)) (by decide) ⟨(1 : Int32), rfl, (show (1 : Int) = 1 from by omega), rfl, e2⟩
set_option maxRecDepth 65536 in
set_option maxHeartbeats 40000000 in
theorem rm_codE (l : Launch) (Z : State) (a0 : Array Value) (hw : ∀ d ∈ tables_1, d.before a0 Z = true) (ws : List Jvm.Cond) (o : Addr) (zc : Int32) (h0 : Heap) (S_cs : Sta Z h0 "java/lang/String" "COMPACT_STRINGS" "Z" (.int zc)) (F_c : Fld Z h0 o "java/lang/String" "coder" "B" (.int (0 : Int32))) (hz0 : ¬ zc.toInt = 0) :
    MetFree l (⟨"java/lang/String", "coder", "()B"⟩ : MethodName) (head1 (Jvm.Cond.code (⟨"java/lang/String", "coder", "()B"⟩ : MethodName) jdk_42_method_152_code 1 (some .byte) :: ws) ({ frames := 0, cells := 0, slots := 0, locals := 0 } : Room)) (fun a_ U_ => a_ = #[(.ref o)] ∧ Z.Warmed39 U_.vm ∧ U_.heap = h0) (fun _ _ _ _ _ => True) (fun _ U_ o_ U_' => ∃ v_ L_, o_ = .returned v_ ∧ (QI (fun z => z.toInt = 0) h0) v_ U_'.heap L_ ∧ FrameEnd U_ o_ U_' L_ 0 0) := by
  refine ow_body (plainFor_of_name pn_1) ?_
  intro p e s m below meth c T0 X0 hx hZ hby hml hown hnm hret hlk e0
  refine Ends.cast (ef_coder m o) ?_
  refine ow_getS X0 hx hZ hown (host := "") (Or.inl (hw _ (List.mem_of_getElem? (i := 38) rfl))) Via.refl e0 S_cs (hb hby d_jdk_42m152_0) (pc' := 3) rfl (fun T1 X1 e1 => ?_)
  refine ow_if_eq X1 hx (zc.toInt) (hb hby d_jdk_42m152_3) rfl (by decide) (pt := 13) (by decide) (pf := 6) rfl (fun c3 => absurd c3 (by omega)) (fun c3 => ?_)
  refine ow_aloadN X1 hx (hb hby d_jdk_42m152_6) rfl rfl (pc' := 7) rfl ?_
  refine ow_getF X1 hx hZ hown (host := "") (Or.inl (hw _ (List.mem_of_getElem? (i := 22) rfl))) Via.refl e1 F_c (hb hby d_jdk_42m152_7) (pc' := 10) rfl (fun T2 X2 e2 => ?_)
  refine ow_goto X2 hx (hb hby d_jdk_42m152_10) (by decide) (pc' := 14) (by decide) ?_
  exact ow_retY X2 hx hret hlk (hb hby d_jdk_42m152_14) (by decide) (by decide) (z' := (0 : Int32)) (by decide) ⟨(0 : Int32), rfl, (show (0 : Int) = 0 from by omega), rfl, e2⟩
set_option maxRecDepth 65536 in
set_option maxHeartbeats 40000000 in
theorem rm_islL (l : Launch) (Z : State) (a0 : Array Value) (hw : ∀ d ∈ tables_1, d.before a0 Z = true) (ws : List Jvm.Cond) (o : Addr) (zc : Int32) (h0 : Heap) (S_cs : Sta Z h0 "java/lang/String" "COMPACT_STRINGS" "Z" (.int zc)) (F_c : Fld Z h0 o "java/lang/String" "coder" "B" (.int (0 : Int32))) (hz0 : ¬ zc.toInt = 0) :
    MetFree l (⟨"java/lang/String", "isLatin1", "()Z"⟩ : MethodName) (head1 (Jvm.Cond.code (⟨"java/lang/String", "isLatin1", "()Z"⟩ : MethodName) jdk_42_method_154_code 1 (some .boolean) :: ws) ({ frames := 0, cells := 0, slots := 0, locals := 0 } : Room)) (fun a_ U_ => a_ = #[(.ref o)] ∧ Z.Warmed39 U_.vm ∧ U_.heap = h0) (fun _ _ _ _ _ => True) (fun _ U_ o_ U_' => ∃ v_ L_, o_ = .returned v_ ∧ (QI (fun z => z.toInt = 1) h0) v_ U_'.heap L_ ∧ FrameEnd U_ o_ U_' L_ 0 0) := by
  refine ow_body (plainFor_of_name pn_1) ?_
  intro p e s m below meth c T0 X0 hx hZ hby hml hown hnm hret hlk e0
  refine Ends.cast (ef_isLatin1 m o) ?_
  refine ow_getS X0 hx hZ hown (host := "") (Or.inl (hw _ (List.mem_of_getElem? (i := 38) rfl))) Via.refl e0 S_cs (hb hby d_jdk_42m154_0) (pc' := 3) rfl (fun T1 X1 e1 => ?_)
  refine ow_if_eq X1 hx (zc.toInt) (hb hby d_jdk_42m154_3) rfl (by decide) (pt := 17) (by decide) (pf := 6) rfl (fun c3 => absurd c3 (by omega)) (fun c3 => ?_)
  refine ow_aloadN X1 hx (hb hby d_jdk_42m154_6) rfl rfl (pc' := 7) rfl ?_
  refine ow_getF X1 hx hZ hown (host := "") (Or.inl (hw _ (List.mem_of_getElem? (i := 22) rfl))) Via.refl e1 F_c (hb hby d_jdk_42m154_7) (pc' := 10) rfl (fun T2 X2 e2 => ?_)
  refine ow_ifN X2 hx (hb hby d_jdk_42m154_10) (by decide) (pc' := 13) rfl ?_
  refine ow_iconst X2 hx (z := (1 : Int32)) (hb hby d_jdk_42m154_13) rfl (pc' := 14) rfl ?_
  refine ow_goto X2 hx (hb hby d_jdk_42m154_14) (by decide) (pc' := 18) (by decide) ?_
  exact ow_retB X2 hx hret hlk (hb hby d_jdk_42m154_18) (by decide) (by decide) (z' := (1 : Int32)) rfl ⟨(1 : Int32), rfl, (show (1 : Int) = 1 from by omega), rfl, e2⟩
theorem d_jdk_42m154_17 : decode jdk_42_method_154_code 17 = .ok (.iconst 0, 1) := by decide +kernel
set_option maxRecDepth 65536 in
set_option maxHeartbeats 40000000 in
theorem rm_islU (l : Launch) (Z : State) (a0 : Array Value) (hw : ∀ d ∈ tables_1, d.before a0 Z = true) (ws : List Jvm.Cond) (o : Addr) (zc : Int32) (h0 : Heap) (S_cs : Sta Z h0 "java/lang/String" "COMPACT_STRINGS" "Z" (.int zc)) (F_c : Fld Z h0 o "java/lang/String" "coder" "B" (.int (1 : Int32))) (hz0 : ¬ zc.toInt = 0) :
    MetFree l (⟨"java/lang/String", "isLatin1", "()Z"⟩ : MethodName) (head1 (Jvm.Cond.code (⟨"java/lang/String", "isLatin1", "()Z"⟩ : MethodName) jdk_42_method_154_code 1 (some .boolean) :: ws) ({ frames := 0, cells := 0, slots := 0, locals := 0 } : Room)) (fun a_ U_ => a_ = #[(.ref o)] ∧ Z.Warmed39 U_.vm ∧ U_.heap = h0) (fun _ _ _ _ _ => True) (fun _ U_ o_ U_' => ∃ v_ L_, o_ = .returned v_ ∧ (QI (fun z => z.toInt = 0) h0) v_ U_'.heap L_ ∧ FrameEnd U_ o_ U_' L_ 0 0) := by
  refine ow_body (plainFor_of_name pn_1) ?_
  intro p e s m below meth c T0 X0 hx hZ hby hml hown hnm hret hlk e0
  refine Ends.cast (ef_isLatin1 m o) ?_
  refine ow_getS X0 hx hZ hown (host := "") (Or.inl (hw _ (List.mem_of_getElem? (i := 38) rfl))) Via.refl e0 S_cs (hb hby d_jdk_42m154_0) (pc' := 3) rfl (fun T1 X1 e1 => ?_)
  refine ow_if_eq X1 hx (zc.toInt) (hb hby d_jdk_42m154_3) rfl (by decide) (pt := 17) (by decide) (pf := 6) rfl (fun c3 => absurd c3 (by omega)) (fun c3 => ?_)
  refine ow_aloadN X1 hx (hb hby d_jdk_42m154_6) rfl rfl (pc' := 7) rfl ?_
  refine ow_getF X1 hx hZ hown (host := "") (Or.inl (hw _ (List.mem_of_getElem? (i := 22) rfl))) Via.refl e1 F_c (hb hby d_jdk_42m154_7) (pc' := 10) rfl (fun T2 X2 e2 => ?_)
  refine ow_ifY X2 hx (hb hby d_jdk_42m154_10) (by decide) (by decide) (pc' := 17) (by decide) ?_
  refine ow_iconst X2 hx (z := (0 : Int32)) (hb hby d_jdk_42m154_17) rfl (pc' := 18) rfl ?_
  exact ow_retB X2 hx hret hlk (hb hby d_jdk_42m154_18) (by decide) (by decide) (z' := (0 : Int32)) rfl ⟨(0 : Int32), rfl, (show (0 : Int) = 0 from by omega), rfl, e2⟩
set_option maxRecDepth 65536 in
set_option maxHeartbeats 40000000 in
theorem rm_islE (l : Launch) (Z : State) (a0 : Array Value) (hw : ∀ d ∈ tables_1, d.before a0 Z = true) (ws : List Jvm.Cond) (o : Addr) (zc : Int32) (h0 : Heap) (S_cs : Sta Z h0 "java/lang/String" "COMPACT_STRINGS" "Z" (.int zc)) (F_c : Fld Z h0 o "java/lang/String" "coder" "B" (.int (0 : Int32))) (hz0 : ¬ zc.toInt = 0) :
    MetFree l (⟨"java/lang/String", "isLatin1", "()Z"⟩ : MethodName) (head1 (Jvm.Cond.code (⟨"java/lang/String", "isLatin1", "()Z"⟩ : MethodName) jdk_42_method_154_code 1 (some .boolean) :: ws) ({ frames := 0, cells := 0, slots := 0, locals := 0 } : Room)) (fun a_ U_ => a_ = #[(.ref o)] ∧ Z.Warmed39 U_.vm ∧ U_.heap = h0) (fun _ _ _ _ _ => True) (fun _ U_ o_ U_' => ∃ v_ L_, o_ = .returned v_ ∧ (QI (fun z => z.toInt = 1) h0) v_ U_'.heap L_ ∧ FrameEnd U_ o_ U_' L_ 0 0) := by
  refine ow_body (plainFor_of_name pn_1) ?_
  intro p e s m below meth c T0 X0 hx hZ hby hml hown hnm hret hlk e0
  refine Ends.cast (ef_isLatin1 m o) ?_
  refine ow_getS X0 hx hZ hown (host := "") (Or.inl (hw _ (List.mem_of_getElem? (i := 38) rfl))) Via.refl e0 S_cs (hb hby d_jdk_42m154_0) (pc' := 3) rfl (fun T1 X1 e1 => ?_)
  refine ow_if_eq X1 hx (zc.toInt) (hb hby d_jdk_42m154_3) rfl (by decide) (pt := 17) (by decide) (pf := 6) rfl (fun c3 => absurd c3 (by omega)) (fun c3 => ?_)
  refine ow_aloadN X1 hx (hb hby d_jdk_42m154_6) rfl rfl (pc' := 7) rfl ?_
  refine ow_getF X1 hx hZ hown (host := "") (Or.inl (hw _ (List.mem_of_getElem? (i := 22) rfl))) Via.refl e1 F_c (hb hby d_jdk_42m154_7) (pc' := 10) rfl (fun T2 X2 e2 => ?_)
  refine ow_ifN X2 hx (hb hby d_jdk_42m154_10) (by decide) (pc' := 13) rfl ?_
  refine ow_iconst X2 hx (z := (1 : Int32)) (hb hby d_jdk_42m154_13) rfl (pc' := 14) rfl ?_
  refine ow_goto X2 hx (hb hby d_jdk_42m154_14) (by decide) (pc' := 18) (by decide) ?_
  exact ow_retB X2 hx hret hlk (hb hby d_jdk_42m154_18) (by decide) (by decide) (z' := (1 : Int32)) rfl ⟨(1 : Int32), rfl, (show (1 : Int) = 1 from by omega), rfl, e2⟩
theorem d_jdk_42m55_0 : decode jdk_42_method_55_code 0 = .ok (.aload_n 0, 1) := by decide +kernel
theorem d_jdk_42m55_1 : decode jdk_42_method_55_code 1 = .ok (.getfield 9, 3) := by decide +kernel
theorem d_jdk_42m55_4 : decode jdk_42_method_55_code 4 = .ok (.arraylength, 1) := by decide +kernel
theorem d_jdk_42m55_5 : decode jdk_42_method_55_code 5 = .ok (.ifCond .ne 7, 3) := by decide +kernel
theorem d_jdk_42m55_12 : decode jdk_42_method_55_code 12 = .ok (.iconst 0, 1) := by decide +kernel
theorem d_jdk_42m55_13 : decode jdk_42_method_55_code 13 = .ok (.ireturn, 1) := by decide +kernel
theorem ef_iseL (m : MethodId) (x0 : Addr) : entryFrame m #[(.ref x0)] 1 = mkF m 0 #[.val (.ref x0)] [] := by first | (simp [entryFrame, mkF, argsToLocals, Value.category]; done) | rfl
set_option maxRecDepth 65536 in
set_option maxHeartbeats 40000000 in
theorem rm_iseL (l : Launch) (Z : State) (a0 : Array Value) (hw : ∀ d ∈ tables_1, d.before a0 Z = true) (ws : List Jvm.Cond) (o : Addr) (oa : Addr) (ka : ClassId) (pm : Int32) (fb : Nat → Int32) (h0 : Heap) (F_v : Fld Z h0 o "java/lang/String" "value" "[B" (.ref oa)) (V_a : Arv Z h0 oa ka (.byte) pm (BL fb) (.int (0 : Int32))) (hm0 : 1 ≤ pm.toInt) :
    MetFree l (⟨"java/lang/String", "isEmpty", "()Z"⟩ : MethodName) (head1 (Jvm.Cond.code (⟨"java/lang/String", "isEmpty", "()Z"⟩ : MethodName) jdk_42_method_55_code 1 (some .boolean) :: ws) ({ frames := 0, cells := 0, slots := 0, locals := 0 } : Room)) (fun a_ U_ => a_ = #[(.ref o)] ∧ Z.Warmed39 U_.vm ∧ U_.heap = h0) (fun _ _ _ _ _ => True) (fun _ U_ o_ U_' => ∃ v_ L_, o_ = .returned v_ ∧ (QI (fun z => z.toInt = 0) h0) v_ U_'.heap L_ ∧ FrameEnd U_ o_ U_' L_ 0 0) := by
  refine ow_body (plainFor_of_name pn_1) ?_
  intro p e s m below meth c T0 X0 hx hZ hby hml hown hnm hret hlk e0
  refine Ends.cast (ef_iseL m o) ?_
  refine ow_aloadN X0 hx (hb hby d_jdk_42m55_0) rfl rfl (pc' := 1) rfl ?_
  refine ow_getF X0 hx hZ hown (host := "") (Or.inl (hw _ (List.mem_of_getElem? (i := 21) rfl))) Via.refl e0 F_v (hb hby d_jdk_42m55_1) (pc' := 4) rfl (fun T1 X1 e1 => ?_)
  refine ow_len X1 hx hZ e1 V_a (hb hby d_jdk_42m55_4) (pc' := 5) rfl ?_
  refine ow_if_ne X1 hx (pm.toInt) (hb hby d_jdk_42m55_5) rfl (by decide) (pt := 12) (by decide) (pf := 8) rfl (fun c5 => ?_) (fun c5 => absurd c5 (by omega))
  refine ow_iconst X1 hx (z := (0 : Int32)) (hb hby d_jdk_42m55_12) rfl (pc' := 13) rfl ?_
  exact ow_retB X1 hx hret hlk (hb hby d_jdk_42m55_13) (by decide) (by decide) (z' := (0 : Int32)) rfl ⟨(0 : Int32), rfl, (show (0 : Int) = 0 from by omega), rfl, e1⟩
set_option maxRecDepth 65536 in
set_option maxHeartbeats 40000000 in
theorem rm_iseU (l : Launch) (Z : State) (a0 : Array Value) (hw : ∀ d ∈ tables_1, d.before a0 Z = true) (ws : List Jvm.Cond) (o : Addr) (oa : Addr) (ka : ClassId) (pm : Int32) (fb : Nat → Int32) (h0 : Heap) (F_v : Fld Z h0 o "java/lang/String" "value" "[B" (.ref oa)) (V_a : Arv Z h0 oa ka (.byte) pm (BL fb) (.int (0 : Int32))) (hm0 : 1 ≤ pm.toInt) :
    MetFree l (⟨"java/lang/String", "isEmpty", "()Z"⟩ : MethodName) (head1 (Jvm.Cond.code (⟨"java/lang/String", "isEmpty", "()Z"⟩ : MethodName) jdk_42_method_55_code 1 (some .boolean) :: ws) ({ frames := 0, cells := 0, slots := 0, locals := 0 } : Room)) (fun a_ U_ => a_ = #[(.ref o)] ∧ Z.Warmed39 U_.vm ∧ U_.heap = h0) (fun _ _ _ _ _ => True) (fun _ U_ o_ U_' => ∃ v_ L_, o_ = .returned v_ ∧ (QI (fun z => z.toInt = 0) h0) v_ U_'.heap L_ ∧ FrameEnd U_ o_ U_' L_ 0 0) := by
  refine ow_body (plainFor_of_name pn_1) ?_
  intro p e s m below meth c T0 X0 hx hZ hby hml hown hnm hret hlk e0
  refine Ends.cast (ef_iseL m o) ?_
  refine ow_aloadN X0 hx (hb hby d_jdk_42m55_0) rfl rfl (pc' := 1) rfl ?_
  refine ow_getF X0 hx hZ hown (host := "") (Or.inl (hw _ (List.mem_of_getElem? (i := 21) rfl))) Via.refl e0 F_v (hb hby d_jdk_42m55_1) (pc' := 4) rfl (fun T1 X1 e1 => ?_)
  refine ow_len X1 hx hZ e1 V_a (hb hby d_jdk_42m55_4) (pc' := 5) rfl ?_
  refine ow_if_ne X1 hx (pm.toInt) (hb hby d_jdk_42m55_5) rfl (by decide) (pt := 12) (by decide) (pf := 8) rfl (fun c5 => ?_) (fun c5 => absurd c5 (by omega))
  refine ow_iconst X1 hx (z := (0 : Int32)) (hb hby d_jdk_42m55_12) rfl (pc' := 13) rfl ?_
  exact ow_retB X1 hx hret hlk (hb hby d_jdk_42m55_13) (by decide) (by decide) (z' := (0 : Int32)) rfl ⟨(0 : Int32), rfl, (show (0 : Int) = 0 from by omega), rfl, e1⟩
theorem d_jdk_42m55_8 : decode jdk_42_method_55_code 8 = .ok (.iconst 1, 1) := by decide +kernel
theorem d_jdk_42m55_9 : decode jdk_42_method_55_code 9 = .ok (.goto 4, 3) := by decide +kernel
set_option maxRecDepth 65536 in
set_option maxHeartbeats 40000000 in
theorem rm_iseE (l : Launch) (Z : State) (a0 : Array Value) (hw : ∀ d ∈ tables_1, d.before a0 Z = true) (ws : List Jvm.Cond) (o : Addr) (oa : Addr) (ka : ClassId) (h0 : Heap) (F_v : Fld Z h0 o "java/lang/String" "value" "[B" (.ref oa)) (V_a : Arv Z h0 oa ka (.byte) (0 : Int32) [] (.int (0 : Int32))) :
    MetFree l (⟨"java/lang/String", "isEmpty", "()Z"⟩ : MethodName) (head1 (Jvm.Cond.code (⟨"java/lang/String", "isEmpty", "()Z"⟩ : MethodName) jdk_42_method_55_code 1 (some .boolean) :: ws) ({ frames := 0, cells := 0, slots := 0, locals := 0 } : Room)) (fun a_ U_ => a_ = #[(.ref o)] ∧ Z.Warmed39 U_.vm ∧ U_.heap = h0) (fun _ _ _ _ _ => True) (fun _ U_ o_ U_' => ∃ v_ L_, o_ = .returned v_ ∧ (QI (fun z => z.toInt = 1) h0) v_ U_'.heap L_ ∧ FrameEnd U_ o_ U_' L_ 0 0) := by
  refine ow_body (plainFor_of_name pn_1) ?_
  intro p e s m below meth c T0 X0 hx hZ hby hml hown hnm hret hlk e0
  refine Ends.cast (ef_iseL m o) ?_
  refine ow_aloadN X0 hx (hb hby d_jdk_42m55_0) rfl rfl (pc' := 1) rfl ?_
  refine ow_getF X0 hx hZ hown (host := "") (Or.inl (hw _ (List.mem_of_getElem? (i := 21) rfl))) Via.refl e0 F_v (hb hby d_jdk_42m55_1) (pc' := 4) rfl (fun T1 X1 e1 => ?_)
  refine ow_len X1 hx hZ e1 V_a (hb hby d_jdk_42m55_4) (pc' := 5) rfl ?_
  refine ow_ifN X1 hx (hb hby d_jdk_42m55_5) (by decide) (pc' := 8) rfl ?_
  refine ow_iconst X1 hx (z := (1 : Int32)) (hb hby d_jdk_42m55_8) rfl (pc' := 9) rfl ?_
  refine ow_goto X1 hx (hb hby d_jdk_42m55_9) (by decide) (pc' := 13) (by decide) ?_
  exact ow_retB X1 hx hret hlk (hb hby d_jdk_42m55_13) (by decide) (by decide) (z' := (1 : Int32)) rfl ⟨(1 : Int32), rfl, (show (1 : Int) = 1 from by omega), rfl, e1⟩
set_option maxRecDepth 65536 in
set_option maxHeartbeats 40000000 in
theorem rm_lenL (l : Launch) (Z : State) (a0 : Array Value) (hw : ∀ d ∈ tables_1, d.before a0 Z = true) (ws : List Jvm.Cond) (o : Addr) (zc : Int32) (oa : Addr) (ka : ClassId) (pm : Int32) (fb : Nat → Int32) (f : Nat → Int32) (pn : Int32) (h0 : Heap) (S_cs : Sta Z h0 "java/lang/String" "COMPACT_STRINGS" "Z" (.int zc)) (hz0 : ¬ zc.toInt = 0) (E_o : Exa Z h0 o "java/lang/String") (F_c : Fld Z h0 o "java/lang/String" "coder" "B" (.int (0 : Int32))) (F_v : Fld Z h0 o "java/lang/String" "value" "[B" (.ref oa)) (V_a : Arv Z h0 oa ka (.byte) pm (BL fb) (.int (0 : Int32))) (h2 : pm.toInt = pn.toInt) (hn0 : 1 ≤ pn.toInt) (hn1 : pn.toInt ≤ 4) :
    MetFree l (⟨"java/lang/String", "length", "()I"⟩ : MethodName) (head1 (Jvm.Cond.code (⟨"java/lang/String", "length", "()I"⟩ : MethodName) jdk_42_method_54_code 1 (some .int) :: ws) ({ frames := 2, cells := 0, slots := 0, locals := 40 } : Room)) (fun a_ U_ => a_ = #[(.ref o)] ∧ Z.Warmed39 U_.vm ∧ U_.heap = h0) (fun _ _ _ _ _ => True) (fun _ U_ o_ U_' => ∃ v_ L_, o_ = .returned v_ ∧ (QI (fun z => z.toInt = pn.toInt) h0) v_ U_'.heap L_ ∧ FrameEnd U_ o_ U_' L_ 0 0) := by
  refine ow_body (plainFor_of_name pn_1) ?_
  intro p e s m below meth c T0 X0 hx hZ hby hml hown hnm hret hlk e0
  refine Ends.cast (ef_strLen m o) ?_
  refine ow_aloadN X0 hx (hb hby d_jdk_42m54_0) rfl rfl (pc' := 1) rfl ?_
  refine ow_getF X0 hx hZ hown (host := "") (Or.inl (hw _ (List.mem_of_getElem? (i := 21) rfl))) Via.refl e0 F_v (hb hby d_jdk_42m54_1) (pc' := 4) rfl (fun T1 X1 e1 => ?_)
  refine ow_len X1 hx hZ e1 V_a (hb hby d_jdk_42m54_4) (pc' := 5) rfl ?_
  refine ow_aloadN X1 hx (hb hby d_jdk_42m54_5) rfl rfl (pc' := 6) rfl ?_
  refine ow_callVPI X1 hx hZ rfl hown (hw _ (List.mem_of_getElem? (i := 58) rfl)) (hw _ (List.mem_of_getElem? (i := 59) rfl)) (hw _ (List.mem_of_getElem? (i := 61) rfl)) (hw _ (List.mem_of_getElem? (i := 60) rfl)) (hw _ (List.mem_of_getElem? (i := 4) rfl)) (hw _ (List.mem_of_getElem? (i := 62) rfl)) (by decide) (rm_codL l Z a0 hw [] o zc h0 S_cs F_c (by first | assumption | decide | omega)) e1 1 (by decide) (by decide) (by decide) (by decide) [] (by rw [hml]; rfl) pd_3 rfl E_o rfl rfl (Nat.le_of_eq rfl) (hb hby d_jdk_42m54_6) (pc' := 9) rfl (fun z2 T2 hz2 X2 e2 => ?_)
  have az2 : z2.toInt = 0 := hz2
  have rz2 := rng32 z2
  obtain rfl : z2 = (0 : Int32) := ow_eq (show z2.toInt = 0 from by omega)
  refine ow_ishr X2 hx (hb hby d_jdk_42m54_9) (pc' := 10) rfl (fun z3 hz3 => ?_)
  have az3 : z3.toInt = pm.toInt / 1 := by rw [hz3]; exact c_ishr pm (0 : Int32) 0 (by decide)
  have rz3 := rng32 z3
  exact ow_retI X2 hx hret hlk (hb hby d_jdk_42m54_10) (by decide) (by decide) ⟨z3, rfl, (show z3.toInt = pn.toInt from by omega), rfl, e2⟩
theorem d_jdk_42m56_0 : decode jdk_42_method_56_code 0 = .ok (.aload_n 0, 1) := by decide +kernel
theorem d_jdk_42m56_1 : decode jdk_42_method_56_code 1 = .ok (.invokevirtual 492, 3) := by decide +kernel
theorem d_jdk_42m56_4 : decode jdk_42_method_56_code 4 = .ok (.ifCond .eq 12, 3) := by decide +kernel
theorem d_jdk_42m56_7 : decode jdk_42_method_56_code 7 = .ok (.aload_n 0, 1) := by decide +kernel
theorem d_jdk_42m56_8 : decode jdk_42_method_56_code 8 = .ok (.getfield 9, 3) := by decide +kernel
theorem d_jdk_42m56_11 : decode jdk_42_method_56_code 11 = .ok (.iload_n 1, 1) := by decide +kernel
theorem d_jdk_42m56_12 : decode jdk_42_method_56_code 12 = .ok (.invokestatic 495, 3) := by decide +kernel
theorem d_jdk_42m56_15 : decode jdk_42_method_56_code 15 = .ok (.ireturn, 1) := by decide +kernel
theorem ef_chaL (m : MethodId) (x0 : Addr) (x1 : Int32) : entryFrame m #[(.ref x0), (.int x1)] 2 = mkF m 0 #[.val (.ref x0), .val (.int x1)] [] := by first | (simp [entryFrame, mkF, argsToLocals, Value.category]; done) | rfl
set_option maxRecDepth 65536 in
set_option maxHeartbeats 40000000 in
theorem rm_chaL (l : Launch) (Z : State) (a0 : Array Value) (hw : ∀ d ∈ tables_1, d.before a0 Z = true) (ws : List Jvm.Cond) (o : Addr) (pi : Int32) (zc : Int32) (oa : Addr) (ka : ClassId) (pm : Int32) (fb : Nat → Int32) (f : Nat → Int32) (pn : Int32) (wf : Value) (h0 : Heap) (S_cs : Sta Z h0 "java/lang/String" "COMPACT_STRINGS" "Z" (.int zc)) (hz0 : ¬ zc.toInt = 0) (E_o : Exa Z h0 o "java/lang/String") (F_c : Fld Z h0 o "java/lang/String" "coder" "B" (.int (0 : Int32))) (F_v : Fld Z h0 o "java/lang/String" "value" "[B" (.ref oa)) (V_a : Arv Z h0 oa ka (.byte) pm (BL fb) (.int (0 : Int32))) (S_ad : Sta Z h0 "java/lang/StringUTF16" "$assertionsDisabled" "Z" (.int (1 : Int32))) (S_hi : Sta Z h0 "java/lang/StringUTF16" "HI_BYTE_SHIFT" "I" (.int (0 : Int32))) (S_lo : Sta Z h0 "java/lang/StringUTF16" "LO_BYTE_SHIFT" "I" (.int (8 : Int32))) (S_f : Sta Z h0 "jdk/internal/util/Preconditions" "SIOOBE_FORMATTER" "Ljava/util/function/BiFunction;" wf) (hwf : wf = .null ∨ ∃ a, wf = .ref a) (h2 : pm.toInt = pn.toInt) (hL : LatF pn.toInt fb f) (hs : Sml f) (hn0 : 1 ≤ pn.toInt) (hn1 : pn.toInt ≤ 4) (hr : Rng f) (hi0 : 0 ≤ pi.toInt) (hi1 : pi.toInt < pn.toInt) :
    MetFree l (⟨"java/lang/String", "charAt", "(I)C"⟩ : MethodName) (head1 (Jvm.Cond.code (⟨"java/lang/String", "charAt", "(I)C"⟩ : MethodName) jdk_42_method_56_code 2 (some .char) :: ws) ({ frames := 5, cells := 0, slots := 0, locals := 100 } : Room)) (fun a_ U_ => a_ = #[(.ref o), (.int pi)] ∧ Z.Warmed39 U_.vm ∧ U_.heap = h0) (fun _ _ _ _ _ => True) (fun _ U_ o_ U_' => ∃ v_ L_, o_ = .returned v_ ∧ (QI (fun z => z.toInt = (f pi.toInt.toNat).toInt) h0) v_ U_'.heap L_ ∧ FrameEnd U_ o_ U_' L_ 0 0) := by
  refine ow_body (plainFor_of_name pn_1) ?_
  intro p e s m below meth c T0 X0 hx hZ hby hml hown hnm hret hlk e0
  refine Ends.cast (ef_chaL m o pi) ?_
  have r_pi := rng32 pi
  refine ow_aloadN X0 hx (hb hby d_jdk_42m56_0) rfl rfl (pc' := 1) rfl ?_
  refine ow_callVPI X0 hx hZ rfl hown (hw _ (List.mem_of_getElem? (i := 68) rfl)) (hw _ (List.mem_of_getElem? (i := 69) rfl)) (hw _ (List.mem_of_getElem? (i := 71) rfl)) (hw _ (List.mem_of_getElem? (i := 70) rfl)) (hw _ (List.mem_of_getElem? (i := 4) rfl)) (hw _ (List.mem_of_getElem? (i := 72) rfl)) (by decide) (rm_islL l Z a0 hw [] o zc h0 S_cs F_c (by first | assumption | decide | omega)) e0 0 (by decide) (by decide) (by decide) (by decide) [] (by rw [hml]; rfl) pd_4 rfl E_o rfl rfl (Nat.le_of_eq rfl) (hb hby d_jdk_42m56_1) (pc' := 4) rfl (fun z1 T1 hz1 X1 e1 => ?_)
  have az1 : z1.toInt = 1 := hz1
  have rz1 := rng32 z1
  refine ow_if_eq X1 hx (z1.toInt) (hb hby d_jdk_42m56_4) rfl (by decide) (pt := 16) (by decide) (pf := 7) rfl (fun c4 => absurd c4 (by omega)) (fun c4 => ?_)
  refine ow_aloadN X1 hx (hb hby d_jdk_42m56_7) rfl rfl (pc' := 8) rfl ?_
  refine ow_getF X1 hx hZ hown (host := "") (Or.inl (hw _ (List.mem_of_getElem? (i := 21) rfl))) Via.refl e1 F_v (hb hby d_jdk_42m56_8) (pc' := 11) rfl (fun T2 X2 e2 => ?_)
  refine ow_iloadN X2 hx (hb hby d_jdk_42m56_11) rfl (pc' := 12) rfl ?_
  refine ow_callPI X2 hx hZ hown (hw _ (List.mem_of_getElem? (i := 73) rfl)) (hw _ (List.mem_of_getElem? (i := 74) rfl)) (hw _ (List.mem_of_getElem? (i := 75) rfl)) (hw _ (List.mem_of_getElem? (i := 76) rfl)) (by decide) (rm_lca l Z a0 hw [] oa pi ka pm fb wf h0 V_a S_f (by first | assumption | decide | omega) (by first | assumption | decide | omega) (by first | assumption | decide | omega) (by first | assumption | decide | omega)) e2 0 (by decide) (by decide) (by decide) (by decide) [(.ref oa), (.int pi)] (by rw [hml]; rfl) pd_13 rfl rfl rfl (Nat.le_of_eq rfl) (hb hby d_jdk_42m56_12) (pc' := 15) rfl (fun z3 T3 hz3 X3 e3 => ?_)
  have az3 : z3.toInt = (fb pi.toInt.toNat).toInt % 256 := hz3
  have rz3 := rng32 z3
  exact ow_retC X3 hx hret hlk (hb hby d_jdk_42m56_15) (by decide) (by decide) (z' := z3) (ow_narC (by omega)) ⟨z3, rfl, (show z3.toInt = (f pi.toInt.toNat).toInt from by have qa_ := hL pi.toInt (by omega) (by omega); have qr_ := hr pi.toInt.toNat; have qs_ := hs pi.toInt.toNat; unfold Lo at qa_; omega), rfl, e3⟩
set_option maxRecDepth 65536 in
set_option maxHeartbeats 40000000 in
theorem rm_lenU (l : Launch) (Z : State) (a0 : Array Value) (hw : ∀ d ∈ tables_1, d.before a0 Z = true) (ws : List Jvm.Cond) (o : Addr) (zc : Int32) (oa : Addr) (ka : ClassId) (pm : Int32) (fb : Nat → Int32) (f : Nat → Int32) (pn : Int32) (h0 : Heap) (S_cs : Sta Z h0 "java/lang/String" "COMPACT_STRINGS" "Z" (.int zc)) (hz0 : ¬ zc.toInt = 0) (E_o : Exa Z h0 o "java/lang/String") (F_c : Fld Z h0 o "java/lang/String" "coder" "B" (.int (1 : Int32))) (F_v : Fld Z h0 o "java/lang/String" "value" "[B" (.ref oa)) (V_a : Arv Z h0 oa ka (.byte) pm (BL fb) (.int (0 : Int32))) (h2 : pm.toInt = 2 * pn.toInt) (hn0 : 1 ≤ pn.toInt) (hn1 : pn.toInt ≤ 4) :
    MetFree l (⟨"java/lang/String", "length", "()I"⟩ : MethodName) (head1 (Jvm.Cond.code (⟨"java/lang/String", "length", "()I"⟩ : MethodName) jdk_42_method_54_code 1 (some .int) :: ws) ({ frames := 2, cells := 0, slots := 0, locals := 40 } : Room)) (fun a_ U_ => a_ = #[(.ref o)] ∧ Z.Warmed39 U_.vm ∧ U_.heap = h0) (fun _ _ _ _ _ => True) (fun _ U_ o_ U_' => ∃ v_ L_, o_ = .returned v_ ∧ (QI (fun z => z.toInt = pn.toInt) h0) v_ U_'.heap L_ ∧ FrameEnd U_ o_ U_' L_ 0 0) := by
  refine ow_body (plainFor_of_name pn_1) ?_
  intro p e s m below meth c T0 X0 hx hZ hby hml hown hnm hret hlk e0
  refine Ends.cast (ef_strLen m o) ?_
  refine ow_aloadN X0 hx (hb hby d_jdk_42m54_0) rfl rfl (pc' := 1) rfl ?_
  refine ow_getF X0 hx hZ hown (host := "") (Or.inl (hw _ (List.mem_of_getElem? (i := 21) rfl))) Via.refl e0 F_v (hb hby d_jdk_42m54_1) (pc' := 4) rfl (fun T1 X1 e1 => ?_)
  refine ow_len X1 hx hZ e1 V_a (hb hby d_jdk_42m54_4) (pc' := 5) rfl ?_
  refine ow_aloadN X1 hx (hb hby d_jdk_42m54_5) rfl rfl (pc' := 6) rfl ?_
  refine ow_callVPI X1 hx hZ rfl hown (hw _ (List.mem_of_getElem? (i := 58) rfl)) (hw _ (List.mem_of_getElem? (i := 59) rfl)) (hw _ (List.mem_of_getElem? (i := 61) rfl)) (hw _ (List.mem_of_getElem? (i := 60) rfl)) (hw _ (List.mem_of_getElem? (i := 4) rfl)) (hw _ (List.mem_of_getElem? (i := 62) rfl)) (by decide) (rm_codU l Z a0 hw [] o zc h0 S_cs F_c (by first | assumption | decide | omega)) e1 1 (by decide) (by decide) (by decide) (by decide) [] (by rw [hml]; rfl) pd_3 rfl E_o rfl rfl (Nat.le_of_eq rfl) (hb hby d_jdk_42m54_6) (pc' := 9) rfl (fun z2 T2 hz2 X2 e2 => ?_)
  have az2 : z2.toInt = 1 := hz2
  have rz2 := rng32 z2
  obtain rfl : z2 = (1 : Int32) := ow_eq (show z2.toInt = 1 from by omega)
  refine ow_ishr X2 hx (hb hby d_jdk_42m54_9) (pc' := 10) rfl (fun z3 hz3 => ?_)
  have az3 : z3.toInt = pm.toInt / 2 := by rw [hz3]; exact c_ishr pm (1 : Int32) 1 (by decide)
  have rz3 := rng32 z3
  exact ow_retI X2 hx hret hlk (hb hby d_jdk_42m54_10) (by decide) (by decide) ⟨z3, rfl, (show z3.toInt = pn.toInt from by omega), rfl, e2⟩
theorem d_jdk_42m56_16 : decode jdk_42_method_56_code 16 = .ok (.aload_n 0, 1) := by decide +kernel
theorem d_jdk_42m56_17 : decode jdk_42_method_56_code 17 = .ok (.getfield 9, 3) := by decide +kernel
theorem d_jdk_42m56_20 : decode jdk_42_method_56_code 20 = .ok (.iload_n 1, 1) := by decide +kernel
theorem d_jdk_42m56_21 : decode jdk_42_method_56_code 21 = .ok (.invokestatic 498, 3) := by decide +kernel
theorem d_jdk_42m56_24 : decode jdk_42_method_56_code 24 = .ok (.ireturn, 1) := by decide +kernel
set_option maxRecDepth 65536 in
set_option maxHeartbeats 40000000 in
theorem rm_chaU (l : Launch) (Z : State) (a0 : Array Value) (hw : ∀ d ∈ tables_1, d.before a0 Z = true) (ws : List Jvm.Cond) (o : Addr) (pi : Int32) (zc : Int32) (oa : Addr) (ka : ClassId) (pm : Int32) (fb : Nat → Int32) (f : Nat → Int32) (pn : Int32) (wf : Value) (h0 : Heap) (S_cs : Sta Z h0 "java/lang/String" "COMPACT_STRINGS" "Z" (.int zc)) (hz0 : ¬ zc.toInt = 0) (E_o : Exa Z h0 o "java/lang/String") (F_c : Fld Z h0 o "java/lang/String" "coder" "B" (.int (1 : Int32))) (F_v : Fld Z h0 o "java/lang/String" "value" "[B" (.ref oa)) (V_a : Arv Z h0 oa ka (.byte) pm (BL fb) (.int (0 : Int32))) (S_ad : Sta Z h0 "java/lang/StringUTF16" "$assertionsDisabled" "Z" (.int (1 : Int32))) (S_hi : Sta Z h0 "java/lang/StringUTF16" "HI_BYTE_SHIFT" "I" (.int (0 : Int32))) (S_lo : Sta Z h0 "java/lang/StringUTF16" "LO_BYTE_SHIFT" "I" (.int (8 : Int32))) (S_f : Sta Z h0 "jdk/internal/util/Preconditions" "SIOOBE_FORMATTER" "Ljava/util/function/BiFunction;" wf) (hwf : wf = .null ∨ ∃ a, wf = .ref a) (h2 : pm.toInt = 2 * pn.toInt) (hU : UtfF pn.toInt fb f) (hn0 : 1 ≤ pn.toInt) (hn1 : pn.toInt ≤ 4) (hr : Rng f) (hi0 : 0 ≤ pi.toInt) (hi1 : pi.toInt < pn.toInt) :
    MetFree l (⟨"java/lang/String", "charAt", "(I)C"⟩ : MethodName) (head1 (Jvm.Cond.code (⟨"java/lang/String", "charAt", "(I)C"⟩ : MethodName) jdk_42_method_56_code 2 (some .char) :: ws) ({ frames := 5, cells := 0, slots := 0, locals := 100 } : Room)) (fun a_ U_ => a_ = #[(.ref o), (.int pi)] ∧ Z.Warmed39 U_.vm ∧ U_.heap = h0) (fun _ _ _ _ _ => True) (fun _ U_ o_ U_' => ∃ v_ L_, o_ = .returned v_ ∧ (QI (fun z => z.toInt = (f pi.toInt.toNat).toInt) h0) v_ U_'.heap L_ ∧ FrameEnd U_ o_ U_' L_ 0 0) := by
  refine ow_body (plainFor_of_name pn_1) ?_
  intro p e s m below meth c T0 X0 hx hZ hby hml hown hnm hret hlk e0
  refine Ends.cast (ef_chaL m o pi) ?_
  have r_pi := rng32 pi
  refine ow_aloadN X0 hx (hb hby d_jdk_42m56_0) rfl rfl (pc' := 1) rfl ?_
  refine ow_callVPI X0 hx hZ rfl hown (hw _ (List.mem_of_getElem? (i := 68) rfl)) (hw _ (List.mem_of_getElem? (i := 69) rfl)) (hw _ (List.mem_of_getElem? (i := 71) rfl)) (hw _ (List.mem_of_getElem? (i := 70) rfl)) (hw _ (List.mem_of_getElem? (i := 4) rfl)) (hw _ (List.mem_of_getElem? (i := 72) rfl)) (by decide) (rm_islU l Z a0 hw [] o zc h0 S_cs F_c (by first | assumption | decide | omega)) e0 0 (by decide) (by decide) (by decide) (by decide) [] (by rw [hml]; rfl) pd_4 rfl E_o rfl rfl (Nat.le_of_eq rfl) (hb hby d_jdk_42m56_1) (pc' := 4) rfl (fun z1 T1 hz1 X1 e1 => ?_)
  have az1 : z1.toInt = 0 := hz1
  have rz1 := rng32 z1
  refine ow_if_eq X1 hx (z1.toInt) (hb hby d_jdk_42m56_4) rfl (by decide) (pt := 16) (by decide) (pf := 7) rfl (fun c4 => ?_) (fun c4 => absurd c4 (by omega))
  refine ow_aloadN X1 hx (hb hby d_jdk_42m56_16) rfl rfl (pc' := 17) rfl ?_
  refine ow_getF X1 hx hZ hown (host := "") (Or.inl (hw _ (List.mem_of_getElem? (i := 21) rfl))) Via.refl e1 F_v (hb hby d_jdk_42m56_17) (pc' := 20) rfl (fun T2 X2 e2 => ?_)
  refine ow_iloadN X2 hx (hb hby d_jdk_42m56_20) rfl (pc' := 21) rfl ?_
  refine ow_callPI X2 hx hZ hown (hw _ (List.mem_of_getElem? (i := 140) rfl)) (hw _ (List.mem_of_getElem? (i := 141) rfl)) (hw _ (List.mem_of_getElem? (i := 41) rfl)) (hw _ (List.mem_of_getElem? (i := 142) rfl)) (by decide) (rm_uca l Z a0 hw [] oa pi ka pm fb wf h0 S_ad S_hi S_lo V_a S_f (by first | assumption | decide | omega) (by first | assumption | decide | omega) (by first | assumption | decide | omega) (by first | assumption | decide | omega)) e2 0 (by decide) (by decide) (by decide) (by decide) [(.ref oa), (.int pi)] (by rw [hml]; rfl) pd_13 rfl rfl rfl (Nat.le_of_eq rfl) (hb hby d_jdk_42m56_21) (pc' := 24) rfl (fun z3 T3 hz3 X3 e3 => ?_)
  have az3 : z3.toInt = (fb (2 * pi.toInt).toNat).toInt % 256 + 256 * ((fb (2 * pi.toInt + 1).toNat).toInt % 256) := hz3
  have rz3 := rng32 z3
  exact ow_retC X3 hx hret hlk (hb hby d_jdk_42m56_24) (by decide) (by decide) (z' := z3) (ow_narC (by omega)) ⟨z3, rfl, (show z3.toInt = (f pi.toInt.toNat).toInt from by have qa_ := hU pi.toInt (by omega) (by omega); have qr_ := hr pi.toInt.toNat; unfold Lo Hi at qa_; omega), rfl, e3⟩
theorem rm_iseS (l : Launch) (Z : State) (a0 : Array Value) (hw : ∀ d ∈ tables_1, d.before a0 Z = true) (ws : List Jvm.Cond) (o : Addr) (f : Nat → Int32) (pn : Int32) (h0 : Heap) (hS : StrIs Z h0 o pn f) (hn0 : 1 ≤ pn.toInt) (hn1 : pn.toInt ≤ 4) :
    MetFree l (⟨"java/lang/String", "isEmpty", "()Z"⟩ : MethodName) (head1 (Jvm.Cond.code (⟨"java/lang/String", "isEmpty", "()Z"⟩ : MethodName) jdk_42_method_55_code 1 (some .boolean) :: ws) ({ frames := 0, cells := 0, slots := 0, locals := 0 } : Room)) (fun a_ U_ => a_ = #[(.ref o)] ∧ Z.Warmed39 U_.vm ∧ U_.heap = h0) (fun _ _ _ _ _ => True) (fun _ U_ o_ U_' => ∃ v_ L_, o_ = .returned v_ ∧ (QI (fun z => z.toInt = 0) h0) v_ U_'.heap L_ ∧ FrameEnd U_ o_ U_' L_ 0 0) := by
  obtain ⟨oa, ka, pm, fb, F_v, V_a, q_⟩ := hS
  rcases q_ with ⟨F_c, h2, hL, hs⟩ | ⟨F_c, h2, hU⟩
  · exact rm_iseL l Z a0 hw ws o oa ka pm fb h0 F_v V_a (by omega)
  · exact rm_iseU l Z a0 hw ws o oa ka pm fb h0 F_v V_a (by omega)
theorem rm_lenS (l : Launch) (Z : State) (a0 : Array Value) (hw : ∀ d ∈ tables_1, d.before a0 Z = true) (ws : List Jvm.Cond) (o : Addr) (zc : Int32) (f : Nat → Int32) (pn : Int32) (h0 : Heap) (S_cs : Sta Z h0 "java/lang/String" "COMPACT_STRINGS" "Z" (.int zc)) (hz0 : ¬ zc.toInt = 0) (E_o : Exa Z h0 o "java/lang/String") (hS : StrIs Z h0 o pn f) (hn0 : 1 ≤ pn.toInt) (hn1 : pn.toInt ≤ 4) :
    MetFree l (⟨"java/lang/String", "length", "()I"⟩ : MethodName) (head1 (Jvm.Cond.code (⟨"java/lang/String", "length", "()I"⟩ : MethodName) jdk_42_method_54_code 1 (some .int) :: ws) ({ frames := 2, cells := 0, slots := 0, locals := 40 } : Room)) (fun a_ U_ => a_ = #[(.ref o)] ∧ Z.Warmed39 U_.vm ∧ U_.heap = h0) (fun _ _ _ _ _ => True) (fun _ U_ o_ U_' => ∃ v_ L_, o_ = .returned v_ ∧ (QI (fun z => z.toInt = pn.toInt) h0) v_ U_'.heap L_ ∧ FrameEnd U_ o_ U_' L_ 0 0) := by
  obtain ⟨oa, ka, pm, fb, F_v, V_a, q_⟩ := hS
  rcases q_ with ⟨F_c, h2, hL, hs⟩ | ⟨F_c, h2, hU⟩
  · exact rm_lenL l Z a0 hw ws o zc oa ka pm fb f pn h0 S_cs hz0 E_o F_c F_v V_a h2 hn0 hn1
  · exact rm_lenU l Z a0 hw ws o zc oa ka pm fb f pn h0 S_cs hz0 E_o F_c F_v V_a h2 hn0 hn1
theorem rm_chaS (l : Launch) (Z : State) (a0 : Array Value) (hw : ∀ d ∈ tables_1, d.before a0 Z = true) (ws : List Jvm.Cond) (o : Addr) (pi : Int32) (zc : Int32) (f : Nat → Int32) (pn : Int32) (wf : Value) (h0 : Heap) (S_cs : Sta Z h0 "java/lang/String" "COMPACT_STRINGS" "Z" (.int zc)) (hz0 : ¬ zc.toInt = 0) (E_o : Exa Z h0 o "java/lang/String") (hS : StrIs Z h0 o pn f) (S_ad : Sta Z h0 "java/lang/StringUTF16" "$assertionsDisabled" "Z" (.int (1 : Int32))) (S_hi : Sta Z h0 "java/lang/StringUTF16" "HI_BYTE_SHIFT" "I" (.int (0 : Int32))) (S_lo : Sta Z h0 "java/lang/StringUTF16" "LO_BYTE_SHIFT" "I" (.int (8 : Int32))) (S_f : Sta Z h0 "jdk/internal/util/Preconditions" "SIOOBE_FORMATTER" "Ljava/util/function/BiFunction;" wf) (hwf : wf = .null ∨ ∃ a, wf = .ref a) (hn0 : 1 ≤ pn.toInt) (hn1 : pn.toInt ≤ 4) (hr : Rng f) (hi0 : 0 ≤ pi.toInt) (hi1 : pi.toInt < pn.toInt) :
    MetFree l (⟨"java/lang/String", "charAt", "(I)C"⟩ : MethodName) (head1 (Jvm.Cond.code (⟨"java/lang/String", "charAt", "(I)C"⟩ : MethodName) jdk_42_method_56_code 2 (some .char) :: ws) ({ frames := 5, cells := 0, slots := 0, locals := 100 } : Room)) (fun a_ U_ => a_ = #[(.ref o), (.int pi)] ∧ Z.Warmed39 U_.vm ∧ U_.heap = h0) (fun _ _ _ _ _ => True) (fun _ U_ o_ U_' => ∃ v_ L_, o_ = .returned v_ ∧ (QI (fun z => z.toInt = (f pi.toInt.toNat).toInt) h0) v_ U_'.heap L_ ∧ FrameEnd U_ o_ U_' L_ 0 0) := by
  obtain ⟨oa, ka, pm, fb, F_v, V_a, q_⟩ := hS
  rcases q_ with ⟨F_c, h2, hL, hs⟩ | ⟨F_c, h2, hU⟩
  · exact rm_chaL l Z a0 hw ws o pi zc oa ka pm fb f pn wf h0 S_cs hz0 E_o F_c F_v V_a S_ad S_hi S_lo S_f hwf h2 hL hs hn0 hn1 hr hi0 hi1
  · exact rm_chaU l Z a0 hw ws o pi zc oa ka pm fb f pn wf h0 S_cs hz0 E_o F_c F_v V_a S_ad S_hi S_lo S_f hwf h2 hU hn0 hn1 hr hi0 hi1
theorem d_jdk_42m149_8 : decode jdk_42_method_149_code 8 = .ok (.aload_n 0, 1) := by decide +kernel
theorem d_jdk_42m149_9 : decode jdk_42_method_149_code 9 = .ok (.ldc 7, 2) := by decide +kernel
theorem d_jdk_42m149_11 : decode jdk_42_method_149_code 11 = .ok (.getfield 9, 3) := by decide +kernel
theorem d_jdk_42m149_14 : decode jdk_42_method_149_code 14 = .ok (.putfield 9, 3) := by decide +kernel
theorem d_jdk_42m149_17 : decode jdk_42_method_149_code 17 = .ok (.aload_n 0, 1) := by decide +kernel
theorem d_jdk_42m149_18 : decode jdk_42_method_149_code 18 = .ok (.ldc 7, 2) := by decide +kernel
theorem d_jdk_42m149_20 : decode jdk_42_method_149_code 20 = .ok (.getfield 15, 3) := by decide +kernel
theorem d_jdk_42m149_23 : decode jdk_42_method_149_code 23 = .ok (.putfield 15, 3) := by decide +kernel
theorem d_jdk_42m149_26 : decode jdk_42_method_149_code 26 = .ok (.return_, 1) := by decide +kernel
def Q_siE (Z : State) (o : Addr) (oc : Addr) (ps : Int32) (pn : Int32) (h0 : Heap) (n0 : Nat) (v : Option Value) (h : Heap) (L : List Loc) (vm : Vm) : Prop := ∃ (oL : Addr), ∃ (ot : Addr), ∃ (kt : ClassId), (v = none) ∧ (Fr n0 L) ∧ (Keep h0 h [o]) ∧ (Exa Z h o "java/lang/String") ∧ (Fld Z h o "java/lang/String" "coder" "B" (.int (0 : Int32))) ∧ (Fld Z h o "java/lang/String" "value" "[B" (.ref ot)) ∧ (Exa Z h oL "java/lang/String") ∧ (Fld Z h oL "java/lang/String" "coder" "B" (.int (0 : Int32))) ∧ (Fld Z h oL "java/lang/String" "value" "[B" (.ref ot)) ∧ (Arv Z h ot kt (.byte) (0 : Int32) [] (.int (0 : Int32))) ∧ (LT Z [""] [("java/lang/String", 7, oL)] vm)
set_option maxRecDepth 65536 in
set_option maxHeartbeats 40000000 in
theorem rm_siE (l : Launch) (Z : State) (a0 : Array Value) (hw : ∀ d ∈ tables_1, d.before a0 Z = true) (ws : List Jvm.Cond) (hcw : Jvm.Lit.compactW.before a0 Z = true) (hch : ∀ q ∈ consts_1, Jvm.Lit.constHeld Z q.1 q.2) (o : Addr) (oc : Addr) (ps : Int32) (pn : Int32) (h0 : Heap) (n0 : Nat) (Z0 : n0 ≤ h0.size) (hzk : ∀ (b : Addr) (cl : Cell), Z.heap[b]? = some cl → h0[b]? = some cl) (hzn : Z.heap.size ≤ n0) (E_o : Exa Z h0 o "java/lang/String") (F_c : Fld Z h0 o "java/lang/String" "coder" "B" (.int (0 : Int32))) (F_v : Fld Z h0 o "java/lang/String" "value" "[B" .null) (g_o : n0 ≤ o) (hpn : pn.toInt = 0) :
    MetFree l (⟨"java/lang/String", "<init>", "([CIILjava/lang/Void;)V"⟩ : MethodName) (head1 (Jvm.Cond.code (⟨"java/lang/String", "<init>", "([CIILjava/lang/Void;)V"⟩ : MethodName) jdk_42_method_149_code 6 none :: ws) ({ frames := 1, cells := 2, slots := 4, locals := 12 } : Room)) (fun a_ U_ => a_ = #[(.ref o), (.ref oc), (.int ps), (.int pn), .null] ∧ Z.Warmed39 U_.vm ∧ U_.heap = h0 ∧ LT Z [] [] U_.vm) (fun _ _ _ _ _ => True) (fun _ U_ o_ U_' => ∃ v_ L_, o_ = .returned v_ ∧ (Q_siE Z o oc ps pn h0 n0) v_ U_'.heap L_ U_'.vm ∧ ReturnedEndW U_ o_ U_' L_ 2 4) := by
  refine ow_bodyI (plainFor_of_name pn_1) ?_
  intro p e s m below meth c T0 X0 hx hZ hby hml hown hnm hret hlk e0 es hS0 hI0
  have N0 := Fr.nil n0
  refine Ends.cast (ef_siL m o oc ps pn) ?_
  have r_ps := rng32 ps
  have r_pn := rng32 pn
  refine ow_aloadN X0 hx (hb hby d_jdk_42m149_0) rfl rfl (pc' := 1) rfl ?_
  refine ow_init0 X0 hx hZ hown (hw _ (List.mem_of_getElem? (i := 12) rfl)) (hw _ (List.mem_of_getElem? (i := 13) rfl)) (hw _ (List.mem_of_getElem? (i := 14) rfl)) e0 0 (by decide) (by decide) (by rw [hml]; rfl) (Nat.le_of_eq rfl) (hb hby d_jdk_42m149_1) (pc' := 4) rfl (fun T1 X1 e1 => ?_)
  refine ow_iloadN X1 hx (hb hby d_jdk_42m149_4) rfl (pc' := 5) rfl ?_
  refine ow_if_ne X1 hx (pn.toInt) (hb hby d_jdk_42m149_5) rfl (by decide) (pt := 27) (by decide) (pf := 8) rfl (fun c5 => absurd c5 (by omega)) (fun c5 => ?_)
  refine ow_aloadN X1 hx (hb hby d_jdk_42m149_8) rfl rfl (pc' := 9) rfl ?_
  have wS2 : ∀ a ∈ Bundle.stringAtoms, a.before a0 Z = true := fun a ha => by
    simp only [Bundle.stringAtoms, Bundle.sN, List.mem_cons, List.not_mem_nil, or_false] at ha
    rcases ha with rfl | rfl | rfl | rfl | rfl | rfl | rfl
    · exact (hw _ (List.mem_of_getElem? (i := 4) rfl))
    · exact (hw _ (List.mem_of_getElem? (i := 3) rfl))
    · exact (hw _ (List.mem_of_getElem? (i := 16) rfl))
    · exact (hw _ (List.mem_of_getElem? (i := 17) rfl))
    · exact (hw _ (List.mem_of_getElem? (i := 18) rfl))
    · exact (hw _ (List.mem_of_getElem? (i := 19) rfl))
    · exact (hw _ (List.mem_of_getElem? (i := 20) rfl))
  refine ow_ldcI X1 hx hZ hown (hw _ (List.mem_of_getElem? (i := 15) rfl)) wS2 e1 hS0 (Nat.zero_le _) (Fr.nil _) (by rw [es]; exact hzk) hI0 (by decide) (hch _ (List.mem_of_getElem? (i := 1) rfl)) hcw (vs := []) (z := (0 : Int32)) ⟨by decide, by decide⟩ (by decide) (by decide) (hb hby d_jdk_42m149_9) 0 (by decide) (by decide) (by decide) (by decide) (pc' := 11) rfl (fun a2 T2 h2 k2 t2 kt2 X2 e2 E2 hS2 hk2 hZ hown Ea2 Fc2 Fv2 Va2 hI2 => ?_)
  have E_o_2 := E_o.ext E2
  have F_o_coder_2 := F_c.ext E2
  have F_o_value_2 := F_v.ext E2
  have Zs2 : n0 ≤ h2.size := Nat.le_trans Z0 E2.1
  have K2 := (Keep.refl h0 [o]).ext E2
  have nL3 : a2 ≠ o := Fld.ne Fv2 F_o_value_2 (fun q => nomatch q)
  have nT3 : o ≠ t2 := Exa.neArv E_o_2 Va2 (hw _ (List.mem_of_getElem? (i := 3) rfl))
  refine ow_getF X2 hx hZ hown (host := "") (Or.inl (hw _ (List.mem_of_getElem? (i := 21) rfl))) Via.refl e2 Fv2 (hb hby d_jdk_42m149_11) (pc' := 14) rfl (fun T4 X4 e4 => ?_)
  refine ow_putF X4 hx hZ hown (host := "") (Or.inl (hw _ (List.mem_of_getElem? (i := 21) rfl))) Via.refl e4 F_o_value_2 E_o_2 (Or.inr ⟨(hw _ (List.mem_of_getElem? (i := 17) rfl)), rfl, hnm⟩) (hw _ (List.mem_of_getElem? (i := 3) rfl)) (ty := (.array .byte)) (by decide) rfl rfl (hb hby d_jdk_42m149_14) (pc' := 17) rfl (fun T5 h5 X5 e5 W5 => ?_)
  have F_o_value_5 := F_o_value_2.same W5
  have E_o_5 := E_o_2.wr W5
  have F_o_coder_5 := F_o_coder_2.other W5 (Or.inr (slot_ne (Or.inr (hw _ (List.mem_of_getElem? (i := 18) rfl))) (Or.inr (hw _ (List.mem_of_getElem? (i := 17) rfl))) (by decide) (t := .byte) (t' := (.array .byte)) (by decide) (by decide)))
  have E_a2_5 := Ea2.wr W5
  have F_a2_coder_5 := Fc2.other W5 (Or.inl nL3)
  have F_a2_value_5 := Fv2.other W5 (Or.inl nL3)
  have V_t2_5 := Va2.other W5 (Ne.symm nT3)
  have Zs5 : n0 ≤ h5.size := Nat.le_trans Zs2 (Keep.of_wr W5).1
  have hks5 : k2 ≤ h5.size := Nat.le_trans hk2 (Keep.of_wr W5).1
  have K5 := K2.wr W5 (Or.inl (List.mem_of_getElem? (i := 0) rfl))
  have N5 := Fr.snoc X5 N0 g_o
  refine ow_aloadN X5 hx (hb hby d_jdk_42m149_17) rfl rfl (pc' := 18) rfl ?_
  have wS6 : ∀ a ∈ Bundle.stringAtoms, a.before a0 Z = true := fun a ha => by
    simp only [Bundle.stringAtoms, Bundle.sN, List.mem_cons, List.not_mem_nil, or_false] at ha
    rcases ha with rfl | rfl | rfl | rfl | rfl | rfl | rfl
    · exact (hw _ (List.mem_of_getElem? (i := 4) rfl))
    · exact (hw _ (List.mem_of_getElem? (i := 3) rfl))
    · exact (hw _ (List.mem_of_getElem? (i := 16) rfl))
    · exact (hw _ (List.mem_of_getElem? (i := 17) rfl))
    · exact (hw _ (List.mem_of_getElem? (i := 18) rfl))
    · exact (hw _ (List.mem_of_getElem? (i := 19) rfl))
    · exact (hw _ (List.mem_of_getElem? (i := 20) rfl))
  refine ow_ldcAgainI X5 hx hZ hown (hw _ (List.mem_of_getElem? (i := 15) rfl)) hI2 (List.mem_of_getElem? (i := 0) rfl) (hb hby d_jdk_42m149_18) (pc' := 20) rfl ?_
  refine ow_getF X5 hx hZ hown (host := "") (Or.inl (hw _ (List.mem_of_getElem? (i := 22) rfl))) Via.refl e5 F_a2_coder_5 (hb hby d_jdk_42m149_20) (pc' := 23) rfl (fun T7 X7 e7 => ?_)
  refine ow_putFN X7 hx hZ hown (hw _ (List.mem_of_getElem? (i := 22) rfl)) Via.refl e7 F_o_coder_5 E_o_5 (Or.inr ⟨(hw _ (List.mem_of_getElem? (i := 18) rfl)), rfl, hnm⟩) (hw _ (List.mem_of_getElem? (i := 3) rfl)) (ty := .byte) (v' := .int ((0 : Int32).toInt8.toInt32)) (by decide) rfl (fits_nar_byte _) (hb hby d_jdk_42m149_23) (pc' := 26) rfl (fun T8 h8 X8 e8 W8 => ?_)
  have F_o_coder_8 := F_o_coder_5.same W8
  have E_o_8 := E_o_5.wr W8
  have E_a2_8 := E_a2_5.wr W8
  have F_a2_coder_8 := F_a2_coder_5.other W8 (Or.inl nL3)
  have F_a2_value_8 := F_a2_value_5.other W8 (Or.inl nL3)
  have V_t2_8 := V_t2_5.other W8 (Ne.symm nT3)
  have F_o_value_8 := F_o_value_5.other W8 (Or.inr (slot_ne (Or.inr (hw _ (List.mem_of_getElem? (i := 17) rfl))) (Or.inr (hw _ (List.mem_of_getElem? (i := 18) rfl))) (by decide) (t := (.array .byte)) (t' := .byte) (by decide) (by decide)))
  have Zs8 : n0 ≤ h8.size := Nat.le_trans Zs5 (Keep.of_wr W8).1
  have hks8 : k2 ≤ h8.size := Nat.le_trans hks5 (Keep.of_wr W8).1
  have K8 := K5.wr W8 (Or.inl (List.mem_of_getElem? (i := 0) rfl))
  have N8 := Fr.snoc X8 N5 g_o
  have F_co : Fld Z h8 o "java/lang/String" "coder" "B" (.int (0 : Int32)) := by have q := F_o_coder_8; rw [show ((0 : Int32).toInt8.toInt32) = (0 : Int32) from by decide] at q; exact q
  exact ow_retVI X8 hx hret hlk (hb hby d_jdk_42m149_26) hS2 (by rw [e8]; exact hks8) (by decide) (by decide) (show Q_siE Z o oc ps pn h0 n0 _ T8.heap _ _ from by rw [e8]; exact ⟨a2, t2, kt2, rfl, N8, K8, E_o_8, F_co, F_o_value_8, E_a2_8, F_a2_coder_8, F_a2_value_8, V_t2_8, (LT.weaken (LT.warm hI2 _ X8.warmed) (by decide) (fun _ h => h))⟩)
def Q_sjE (Z : State) (o : Addr) (oc : Addr) (kc : ClassId) (h0 : Heap) (n0 : Nat) (v : Option Value) (h : Heap) (L : List Loc) (vm : Vm) : Prop := ∃ (oL : Addr), ∃ (ot : Addr), ∃ (kt : ClassId), (v = none) ∧ (Fr n0 L) ∧ (Keep h0 h [o]) ∧ (Exa Z h o "java/lang/String") ∧ (Fld Z h o "java/lang/String" "coder" "B" (.int (0 : Int32))) ∧ (Fld Z h o "java/lang/String" "value" "[B" (.ref ot)) ∧ (Exa Z h oL "java/lang/String") ∧ (Fld Z h oL "java/lang/String" "coder" "B" (.int (0 : Int32))) ∧ (Fld Z h oL "java/lang/String" "value" "[B" (.ref ot)) ∧ (Arv Z h ot kt (.byte) (0 : Int32) [] (.int (0 : Int32))) ∧ (LT Z [""] [("java/lang/String", 7, oL)] vm)
set_option maxRecDepth 65536 in
set_option maxHeartbeats 40000000 in
theorem rm_sjE (l : Launch) (Z : State) (a0 : Array Value) (hw : ∀ d ∈ tables_1, d.before a0 Z = true) (ws : List Jvm.Cond) (hcw : Jvm.Lit.compactW.before a0 Z = true) (hch : ∀ q ∈ consts_1, Jvm.Lit.constHeld Z q.1 q.2) (o : Addr) (oc : Addr) (kc : ClassId) (h0 : Heap) (n0 : Nat) (Z0 : n0 ≤ h0.size) (hzk : ∀ (b : Addr) (cl : Cell), Z.heap[b]? = some cl → h0[b]? = some cl) (hzn : Z.heap.size ≤ n0) (E_o : Exa Z h0 o "java/lang/String") (F_c : Fld Z h0 o "java/lang/String" "coder" "B" (.int (0 : Int32))) (F_v : Fld Z h0 o "java/lang/String" "value" "[B" .null) (g_o : n0 ≤ o) (V_c : Arv Z h0 oc kc (.char) (0 : Int32) [] (.int (0 : Int32))) (ne_o_oc : o ≠ oc) :
    MetFree l (⟨"java/lang/String", "<init>", "([C)V"⟩ : MethodName) (head1 (Jvm.Cond.code (⟨"java/lang/String", "<init>", "([C)V"⟩ : MethodName) jdk_42_method_3_code 2 none :: ws) ({ frames := 2, cells := 2, slots := 4, locals := 29 } : Room)) (fun a_ U_ => a_ = #[(.ref o), (.ref oc)] ∧ Z.Warmed39 U_.vm ∧ U_.heap = h0 ∧ LT Z [] [] U_.vm) (fun _ _ _ _ _ => True) (fun _ U_ o_ U_' => ∃ v_ L_, o_ = .returned v_ ∧ (Q_sjE Z o oc kc h0 n0) v_ U_'.heap L_ U_'.vm ∧ ReturnedEndW U_ o_ U_' L_ 2 4) := by
  refine ow_bodyI (plainFor_of_name pn_1) ?_
  intro p e s m below meth c T0 X0 hx hZ hby hml hown hnm hret hlk e0 es hS0 hI0
  have N0 := Fr.nil n0
  refine Ends.cast (ef_sjL m o oc) ?_
  refine ow_aloadN X0 hx (hb hby d_jdk_42m3_0) rfl rfl (pc' := 1) rfl ?_
  refine ow_aloadN X0 hx (hb hby d_jdk_42m3_1) rfl rfl (pc' := 2) rfl ?_
  refine ow_iconst X0 hx (z := (0 : Int32)) (hb hby d_jdk_42m3_2) rfl (pc' := 3) rfl ?_
  refine ow_aloadN X0 hx (hb hby d_jdk_42m3_3) rfl rfl (pc' := 4) rfl ?_
  refine ow_len X0 hx hZ e0 V_c (hb hby d_jdk_42m3_4) (pc' := 5) rfl ?_
  refine ow_aconstNull X0 hx (hb hby d_jdk_42m3_5) (pc' := 6) rfl ?_
  refine ow_callII X0 hx hZ rfl rfl hown (hw _ (List.mem_of_getElem? (i := 8) rfl)) (hw _ (List.mem_of_getElem? (i := 9) rfl)) (hw _ (List.mem_of_getElem? (i := 4) rfl)) (hw _ (List.mem_of_getElem? (i := 11) rfl)) (by decide) (rm_siE l Z a0 hw [] hcw hch o oc (0 : Int32) (0 : Int32) h0 n0 Z0 (ow_zk hzk hzn (Keep.refl h0 [o]) (allS g_o all0)) hzn E_o F_c F_v g_o (by first | assumption | decide | omega | (have q0_ : (0 : Int32).toInt = 0 := (by decide); omega))) (LT.warm hI0) hS0 (Nat.zero_le _) e0 0 (by decide) (by decide) (by decide) (by decide) [(.ref oc), (.int (0 : Int32)), (.int (0 : Int32)), .null] (by rw [hml]; rfl) pd_12 rfl rfl rfl (Nat.le_of_eq rfl) (hb hby d_jdk_42m3_6) (pc' := 9) rfl (fun v1 T1 L1 hQ1 X1 hS1 hZ hown => ?_)
  obtain ⟨b1, b1a, kt_1, rfl, Nc1, Kc1, P1_0, P1_1, P1_2, P1_3, P1_4, P1_5, P1_6, hI1⟩ := hQ1
  have V_oc_1 := V_c.keep Kc1 (ninS (Ne.symm ne_o_oc) nin0)
  have Zs1 : n0 ≤ T1.heap.size := Nat.le_trans Z0 Kc1.1
  have K1 := (Keep.refl h0 [o]).trans Kc1 (allS (Or.inl (List.mem_of_getElem? (i := 0) rfl)) all0)
  have N1 := Fr.app N0 Nc1
  show Ends _ _ _ _ T1 (mkF m 9 #[.val (.ref o), .val (.ref oc)] [])
  exact ow_retVI X1 hx hret hlk (hb hby d_jdk_42m3_9) hS1 (Nat.le_refl _) (by decide) (by decide) (show Q_sjE Z o oc kc h0 n0 _ T1.heap _ _ from ⟨b1, b1a, kt_1, rfl, N1, K1, P1_0, P1_1, P1_2, P1_3, P1_4, P1_5, P1_6, (LT.weaken (LT.warm hI1 _ X1.warmed) (by decide) (fun _ h => h))⟩)
theorem d_prog_41m7_0 : decode prog_41_method_7_code 0 = .ok (.iload_n 0, 1) := by decide +kernel
theorem d_prog_41m7_1 : decode prog_41_method_7_code 1 = .ok (.bipush 97, 2) := by decide +kernel
theorem d_prog_41m7_3 : decode prog_41_method_7_code 3 = .ok (.if_icmp .lt 9, 3) := by decide +kernel
theorem d_prog_41m7_6 : decode prog_41_method_7_code 6 = .ok (.iload_n 0, 1) := by decide +kernel
theorem d_prog_41m7_7 : decode prog_41_method_7_code 7 = .ok (.bipush 122, 2) := by decide +kernel
theorem d_prog_41m7_9 : decode prog_41_method_7_code 9 = .ok (.if_icmp .le 27, 3) := by decide +kernel
theorem d_prog_41m7_12 : decode prog_41_method_7_code 12 = .ok (.iload_n 0, 1) := by decide +kernel
theorem d_prog_41m7_13 : decode prog_41_method_7_code 13 = .ok (.bipush 65, 2) := by decide +kernel
theorem d_prog_41m7_15 : decode prog_41_method_7_code 15 = .ok (.if_icmp .lt 9, 3) := by decide +kernel
theorem d_prog_41m7_18 : decode prog_41_method_7_code 18 = .ok (.iload_n 0, 1) := by decide +kernel
theorem d_prog_41m7_19 : decode prog_41_method_7_code 19 = .ok (.bipush 90, 2) := by decide +kernel
theorem d_prog_41m7_21 : decode prog_41_method_7_code 21 = .ok (.if_icmp .le 15, 3) := by decide +kernel
theorem d_prog_41m7_24 : decode prog_41_method_7_code 24 = .ok (.iload_n 0, 1) := by decide +kernel
theorem d_prog_41m7_25 : decode prog_41_method_7_code 25 = .ok (.bipush 48, 2) := by decide +kernel
theorem d_prog_41m7_27 : decode prog_41_method_7_code 27 = .ok (.if_icmp .lt 13, 3) := by decide +kernel
theorem d_prog_41m7_30 : decode prog_41_method_7_code 30 = .ok (.iload_n 0, 1) := by decide +kernel
theorem d_prog_41m7_31 : decode prog_41_method_7_code 31 = .ok (.bipush 57, 2) := by decide +kernel
theorem d_prog_41m7_33 : decode prog_41_method_7_code 33 = .ok (.if_icmp .gt 7, 3) := by decide +kernel
theorem d_prog_41m7_36 : decode prog_41_method_7_code 36 = .ok (.iconst 1, 1) := by decide +kernel
theorem d_prog_41m7_37 : decode prog_41_method_7_code 37 = .ok (.goto 4, 3) := by decide +kernel
theorem d_prog_41m7_40 : decode prog_41_method_7_code 40 = .ok (.iconst 0, 1) := by decide +kernel
theorem d_prog_41m7_41 : decode prog_41_method_7_code 41 = .ok (.ireturn, 1) := by decide +kernel
theorem ef_alnum (m : MethodId) (x0 : Int32) : entryFrame m #[(.int x0)] 1 = mkF m 0 #[.val (.int x0)] [] := by first | (simp [entryFrame, mkF, argsToLocals, Value.category]; done) | rfl
theorem pn_4 : plainName "com/example/inchworm/inchworm/store/HttpSyntax" = true := by first | (simp [plainName, overriddenIn]; done) | decide +kernel
set_option maxRecDepth 65536 in
set_option maxHeartbeats 40000000 in
theorem rm_alnum (l : Launch) (Z : State) (a0 : Array Value) (hw : ∀ d ∈ tables_1, d.before a0 Z = true) (ws : List Jvm.Cond) (pc : Int32) (h0 : Heap) :
    MetFree l (⟨"com/example/inchworm/inchworm/store/HttpSyntax", "isAlphanumeric", "(C)Z"⟩ : MethodName) (head1 (Jvm.Cond.code (⟨"com/example/inchworm/inchworm/store/HttpSyntax", "isAlphanumeric", "(C)Z"⟩ : MethodName) prog_41_method_7_code 1 (some .boolean) :: ws) ({ frames := 0, cells := 0, slots := 0, locals := 0 } : Room)) (fun a_ U_ => a_ = #[(.int pc)] ∧ Z.Warmed39 U_.vm ∧ U_.heap = h0) (fun _ _ _ _ _ => True) (fun _ U_ o_ U_' => ∃ v_ L_, o_ = .returned v_ ∧ (QI (fun z => (((97 ≤ pc.toInt ∧ pc.toInt ≤ 122) ∨ (65 ≤ pc.toInt ∧ pc.toInt ≤ 90) ∨ (48 ≤ pc.toInt ∧ pc.toInt ≤ 57)) ∧ z.toInt = 1) ∨ (¬ ((97 ≤ pc.toInt ∧ pc.toInt ≤ 122) ∨ (65 ≤ pc.toInt ∧ pc.toInt ≤ 90) ∨ (48 ≤ pc.toInt ∧ pc.toInt ≤ 57)) ∧ z.toInt = 0)) h0) v_ U_'.heap L_ ∧ FrameEnd U_ o_ U_' L_ 0 0) := by
  refine ow_body (plainFor_of_name pn_4) ?_
  intro p e s m below meth c T0 X0 hx hZ hby hml hown hnm hret hlk e0
  refine Ends.cast (ef_alnum m pc) ?_
  have r_pc := rng32 pc
  refine ow_iloadN X0 hx (hb hby d_prog_41m7_0) rfl (pc' := 1) rfl ?_
  refine ow_bipush X0 hx (z := (97 : Int32)) (hb hby d_prog_41m7_1) rfl (pc' := 3) rfl ?_
  refine ow_icmp_lt X0 hx (pc.toInt) ((97 : Int)) (hb hby d_prog_41m7_3) rfl rfl (by decide) (pt := 12) (by decide) (pf := 6) rfl (fun c3 => ?_) (fun c3 => ?_)
  · refine ow_iloadN X0 hx (hb hby d_prog_41m7_12) rfl (pc' := 13) rfl ?_
    refine ow_bipush X0 hx (z := (65 : Int32)) (hb hby d_prog_41m7_13) rfl (pc' := 15) rfl ?_
    refine ow_icmp_lt X0 hx (pc.toInt) ((65 : Int)) (hb hby d_prog_41m7_15) rfl rfl (by decide) (pt := 24) (by decide) (pf := 18) rfl (fun c15 => ?_) (fun c15 => ?_)
    · refine ow_iloadN X0 hx (hb hby d_prog_41m7_24) rfl (pc' := 25) rfl ?_
      refine ow_bipush X0 hx (z := (48 : Int32)) (hb hby d_prog_41m7_25) rfl (pc' := 27) rfl ?_
      refine ow_icmp_lt X0 hx (pc.toInt) ((48 : Int)) (hb hby d_prog_41m7_27) rfl rfl (by decide) (pt := 40) (by decide) (pf := 30) rfl (fun c27 => ?_) (fun c27 => ?_)
      · refine ow_iconst X0 hx (z := (0 : Int32)) (hb hby d_prog_41m7_40) rfl (pc' := 41) rfl ?_
        exact ow_retB X0 hx hret hlk (hb hby d_prog_41m7_41) (by decide) (by decide) (z' := (0 : Int32)) rfl ⟨(0 : Int32), rfl, (show (((97 ≤ pc.toInt ∧ pc.toInt ≤ 122) ∨ (65 ≤ pc.toInt ∧ pc.toInt ≤ 90) ∨ (48 ≤ pc.toInt ∧ pc.toInt ≤ 57)) ∧ (0 : Int) = 1) ∨ (¬ ((97 ≤ pc.toInt ∧ pc.toInt ≤ 122) ∨ (65 ≤ pc.toInt ∧ pc.toInt ≤ 90) ∨ (48 ≤ pc.toInt ∧ pc.toInt ≤ 57)) ∧ (0 : Int) = 0) from by omega), rfl, e0⟩
      · refine ow_iloadN X0 hx (hb hby d_prog_41m7_30) rfl (pc' := 31) rfl ?_
        refine ow_bipush X0 hx (z := (57 : Int32)) (hb hby d_prog_41m7_31) rfl (pc' := 33) rfl ?_
        refine ow_icmp_gt X0 hx (pc.toInt) ((57 : Int)) (hb hby d_prog_41m7_33) rfl rfl (by decide) (pt := 40) (by decide) (pf := 36) rfl (fun c33 => ?_) (fun c33 => ?_)
        · refine ow_iconst X0 hx (z := (0 : Int32)) (hb hby d_prog_41m7_40) rfl (pc' := 41) rfl ?_
          exact ow_retB X0 hx hret hlk (hb hby d_prog_41m7_41) (by decide) (by decide) (z' := (0 : Int32)) rfl ⟨(0 : Int32), rfl, (show (((97 ≤ pc.toInt ∧ pc.toInt ≤ 122) ∨ (65 ≤ pc.toInt ∧ pc.toInt ≤ 90) ∨ (48 ≤ pc.toInt ∧ pc.toInt ≤ 57)) ∧ (0 : Int) = 1) ∨ (¬ ((97 ≤ pc.toInt ∧ pc.toInt ≤ 122) ∨ (65 ≤ pc.toInt ∧ pc.toInt ≤ 90) ∨ (48 ≤ pc.toInt ∧ pc.toInt ≤ 57)) ∧ (0 : Int) = 0) from by omega), rfl, e0⟩
        · refine ow_iconst X0 hx (z := (1 : Int32)) (hb hby d_prog_41m7_36) rfl (pc' := 37) rfl ?_
          refine ow_goto X0 hx (hb hby d_prog_41m7_37) (by decide) (pc' := 41) (by decide) ?_
          exact ow_retB X0 hx hret hlk (hb hby d_prog_41m7_41) (by decide) (by decide) (z' := (1 : Int32)) rfl ⟨(1 : Int32), rfl, (show (((97 ≤ pc.toInt ∧ pc.toInt ≤ 122) ∨ (65 ≤ pc.toInt ∧ pc.toInt ≤ 90) ∨ (48 ≤ pc.toInt ∧ pc.toInt ≤ 57)) ∧ (1 : Int) = 1) ∨ (¬ ((97 ≤ pc.toInt ∧ pc.toInt ≤ 122) ∨ (65 ≤ pc.toInt ∧ pc.toInt ≤ 90) ∨ (48 ≤ pc.toInt ∧ pc.toInt ≤ 57)) ∧ (1 : Int) = 0) from by omega), rfl, e0⟩
    · refine ow_iloadN X0 hx (hb hby d_prog_41m7_18) rfl (pc' := 19) rfl ?_
      refine ow_bipush X0 hx (z := (90 : Int32)) (hb hby d_prog_41m7_19) rfl (pc' := 21) rfl ?_
      refine ow_icmp_le X0 hx (pc.toInt) ((90 : Int)) (hb hby d_prog_41m7_21) rfl rfl (by decide) (pt := 36) (by decide) (pf := 24) rfl (fun c21 => ?_) (fun c21 => ?_)
      · refine ow_iconst X0 hx (z := (1 : Int32)) (hb hby d_prog_41m7_36) rfl (pc' := 37) rfl ?_
        refine ow_goto X0 hx (hb hby d_prog_41m7_37) (by decide) (pc' := 41) (by decide) ?_
        exact ow_retB X0 hx hret hlk (hb hby d_prog_41m7_41) (by decide) (by decide) (z' := (1 : Int32)) rfl ⟨(1 : Int32), rfl, (show (((97 ≤ pc.toInt ∧ pc.toInt ≤ 122) ∨ (65 ≤ pc.toInt ∧ pc.toInt ≤ 90) ∨ (48 ≤ pc.toInt ∧ pc.toInt ≤ 57)) ∧ (1 : Int) = 1) ∨ (¬ ((97 ≤ pc.toInt ∧ pc.toInt ≤ 122) ∨ (65 ≤ pc.toInt ∧ pc.toInt ≤ 90) ∨ (48 ≤ pc.toInt ∧ pc.toInt ≤ 57)) ∧ (1 : Int) = 0) from by omega), rfl, e0⟩
      · refine ow_iloadN X0 hx (hb hby d_prog_41m7_24) rfl (pc' := 25) rfl ?_
        refine ow_bipush X0 hx (z := (48 : Int32)) (hb hby d_prog_41m7_25) rfl (pc' := 27) rfl ?_
        refine ow_icmp_lt X0 hx (pc.toInt) ((48 : Int)) (hb hby d_prog_41m7_27) rfl rfl (by decide) (pt := 40) (by decide) (pf := 30) rfl (fun c27 => ?_) (fun c27 => ?_)
        · refine ow_iconst X0 hx (z := (0 : Int32)) (hb hby d_prog_41m7_40) rfl (pc' := 41) rfl ?_
          exact ow_retB X0 hx hret hlk (hb hby d_prog_41m7_41) (by decide) (by decide) (z' := (0 : Int32)) rfl ⟨(0 : Int32), rfl, (show (((97 ≤ pc.toInt ∧ pc.toInt ≤ 122) ∨ (65 ≤ pc.toInt ∧ pc.toInt ≤ 90) ∨ (48 ≤ pc.toInt ∧ pc.toInt ≤ 57)) ∧ (0 : Int) = 1) ∨ (¬ ((97 ≤ pc.toInt ∧ pc.toInt ≤ 122) ∨ (65 ≤ pc.toInt ∧ pc.toInt ≤ 90) ∨ (48 ≤ pc.toInt ∧ pc.toInt ≤ 57)) ∧ (0 : Int) = 0) from by omega), rfl, e0⟩
        · refine ow_iloadN X0 hx (hb hby d_prog_41m7_30) rfl (pc' := 31) rfl ?_
          refine ow_bipush X0 hx (z := (57 : Int32)) (hb hby d_prog_41m7_31) rfl (pc' := 33) rfl ?_
          refine ow_icmp_gt X0 hx (pc.toInt) ((57 : Int)) (hb hby d_prog_41m7_33) rfl rfl (by decide) (pt := 40) (by decide) (pf := 36) rfl (fun c33 => ?_) (fun c33 => ?_)
          · refine ow_iconst X0 hx (z := (0 : Int32)) (hb hby d_prog_41m7_40) rfl (pc' := 41) rfl ?_
            exact ow_retB X0 hx hret hlk (hb hby d_prog_41m7_41) (by decide) (by decide) (z' := (0 : Int32)) rfl ⟨(0 : Int32), rfl, (show (((97 ≤ pc.toInt ∧ pc.toInt ≤ 122) ∨ (65 ≤ pc.toInt ∧ pc.toInt ≤ 90) ∨ (48 ≤ pc.toInt ∧ pc.toInt ≤ 57)) ∧ (0 : Int) = 1) ∨ (¬ ((97 ≤ pc.toInt ∧ pc.toInt ≤ 122) ∨ (65 ≤ pc.toInt ∧ pc.toInt ≤ 90) ∨ (48 ≤ pc.toInt ∧ pc.toInt ≤ 57)) ∧ (0 : Int) = 0) from by omega), rfl, e0⟩
          · refine ow_iconst X0 hx (z := (1 : Int32)) (hb hby d_prog_41m7_36) rfl (pc' := 37) rfl ?_
            refine ow_goto X0 hx (hb hby d_prog_41m7_37) (by decide) (pc' := 41) (by decide) ?_
            exact ow_retB X0 hx hret hlk (hb hby d_prog_41m7_41) (by decide) (by decide) (z' := (1 : Int32)) rfl ⟨(1 : Int32), rfl, (show (((97 ≤ pc.toInt ∧ pc.toInt ≤ 122) ∨ (65 ≤ pc.toInt ∧ pc.toInt ≤ 90) ∨ (48 ≤ pc.toInt ∧ pc.toInt ≤ 57)) ∧ (1 : Int) = 1) ∨ (¬ ((97 ≤ pc.toInt ∧ pc.toInt ≤ 122) ∨ (65 ≤ pc.toInt ∧ pc.toInt ≤ 90) ∨ (48 ≤ pc.toInt ∧ pc.toInt ≤ 57)) ∧ (1 : Int) = 0) from by omega), rfl, e0⟩
  · refine ow_iloadN X0 hx (hb hby d_prog_41m7_6) rfl (pc' := 7) rfl ?_
    refine ow_bipush X0 hx (z := (122 : Int32)) (hb hby d_prog_41m7_7) rfl (pc' := 9) rfl ?_
    refine ow_icmp_le X0 hx (pc.toInt) ((122 : Int)) (hb hby d_prog_41m7_9) rfl rfl (by decide) (pt := 36) (by decide) (pf := 12) rfl (fun c9 => ?_) (fun c9 => ?_)
    · refine ow_iconst X0 hx (z := (1 : Int32)) (hb hby d_prog_41m7_36) rfl (pc' := 37) rfl ?_
      refine ow_goto X0 hx (hb hby d_prog_41m7_37) (by decide) (pc' := 41) (by decide) ?_
      exact ow_retB X0 hx hret hlk (hb hby d_prog_41m7_41) (by decide) (by decide) (z' := (1 : Int32)) rfl ⟨(1 : Int32), rfl, (show (((97 ≤ pc.toInt ∧ pc.toInt ≤ 122) ∨ (65 ≤ pc.toInt ∧ pc.toInt ≤ 90) ∨ (48 ≤ pc.toInt ∧ pc.toInt ≤ 57)) ∧ (1 : Int) = 1) ∨ (¬ ((97 ≤ pc.toInt ∧ pc.toInt ≤ 122) ∨ (65 ≤ pc.toInt ∧ pc.toInt ≤ 90) ∨ (48 ≤ pc.toInt ∧ pc.toInt ≤ 57)) ∧ (1 : Int) = 0) from by omega), rfl, e0⟩
    · refine ow_iloadN X0 hx (hb hby d_prog_41m7_12) rfl (pc' := 13) rfl ?_
      refine ow_bipush X0 hx (z := (65 : Int32)) (hb hby d_prog_41m7_13) rfl (pc' := 15) rfl ?_
      refine ow_icmp_lt X0 hx (pc.toInt) ((65 : Int)) (hb hby d_prog_41m7_15) rfl rfl (by decide) (pt := 24) (by decide) (pf := 18) rfl (fun c15 => ?_) (fun c15 => ?_)
      · refine ow_iloadN X0 hx (hb hby d_prog_41m7_24) rfl (pc' := 25) rfl ?_
        refine ow_bipush X0 hx (z := (48 : Int32)) (hb hby d_prog_41m7_25) rfl (pc' := 27) rfl ?_
        refine ow_icmp_lt X0 hx (pc.toInt) ((48 : Int)) (hb hby d_prog_41m7_27) rfl rfl (by decide) (pt := 40) (by decide) (pf := 30) rfl (fun c27 => ?_) (fun c27 => ?_)
        · refine ow_iconst X0 hx (z := (0 : Int32)) (hb hby d_prog_41m7_40) rfl (pc' := 41) rfl ?_
          exact ow_retB X0 hx hret hlk (hb hby d_prog_41m7_41) (by decide) (by decide) (z' := (0 : Int32)) rfl ⟨(0 : Int32), rfl, (show (((97 ≤ pc.toInt ∧ pc.toInt ≤ 122) ∨ (65 ≤ pc.toInt ∧ pc.toInt ≤ 90) ∨ (48 ≤ pc.toInt ∧ pc.toInt ≤ 57)) ∧ (0 : Int) = 1) ∨ (¬ ((97 ≤ pc.toInt ∧ pc.toInt ≤ 122) ∨ (65 ≤ pc.toInt ∧ pc.toInt ≤ 90) ∨ (48 ≤ pc.toInt ∧ pc.toInt ≤ 57)) ∧ (0 : Int) = 0) from by omega), rfl, e0⟩
        · refine ow_iloadN X0 hx (hb hby d_prog_41m7_30) rfl (pc' := 31) rfl ?_
          refine ow_bipush X0 hx (z := (57 : Int32)) (hb hby d_prog_41m7_31) rfl (pc' := 33) rfl ?_
          refine ow_icmp_gt X0 hx (pc.toInt) ((57 : Int)) (hb hby d_prog_41m7_33) rfl rfl (by decide) (pt := 40) (by decide) (pf := 36) rfl (fun c33 => ?_) (fun c33 => ?_)
          · refine ow_iconst X0 hx (z := (0 : Int32)) (hb hby d_prog_41m7_40) rfl (pc' := 41) rfl ?_
            exact ow_retB X0 hx hret hlk (hb hby d_prog_41m7_41) (by decide) (by decide) (z' := (0 : Int32)) rfl ⟨(0 : Int32), rfl, (show (((97 ≤ pc.toInt ∧ pc.toInt ≤ 122) ∨ (65 ≤ pc.toInt ∧ pc.toInt ≤ 90) ∨ (48 ≤ pc.toInt ∧ pc.toInt ≤ 57)) ∧ (0 : Int) = 1) ∨ (¬ ((97 ≤ pc.toInt ∧ pc.toInt ≤ 122) ∨ (65 ≤ pc.toInt ∧ pc.toInt ≤ 90) ∨ (48 ≤ pc.toInt ∧ pc.toInt ≤ 57)) ∧ (0 : Int) = 0) from by omega), rfl, e0⟩
          · refine ow_iconst X0 hx (z := (1 : Int32)) (hb hby d_prog_41m7_36) rfl (pc' := 37) rfl ?_
            refine ow_goto X0 hx (hb hby d_prog_41m7_37) (by decide) (pc' := 41) (by decide) ?_
            exact ow_retB X0 hx hret hlk (hb hby d_prog_41m7_41) (by decide) (by decide) (z' := (1 : Int32)) rfl ⟨(1 : Int32), rfl, (show (((97 ≤ pc.toInt ∧ pc.toInt ≤ 122) ∨ (65 ≤ pc.toInt ∧ pc.toInt ≤ 90) ∨ (48 ≤ pc.toInt ∧ pc.toInt ≤ 57)) ∧ (1 : Int) = 1) ∨ (¬ ((97 ≤ pc.toInt ∧ pc.toInt ≤ 122) ∨ (65 ≤ pc.toInt ∧ pc.toInt ≤ 90) ∨ (48 ≤ pc.toInt ∧ pc.toInt ≤ 57)) ∧ (1 : Int) = 0) from by omega), rfl, e0⟩
      · refine ow_iloadN X0 hx (hb hby d_prog_41m7_18) rfl (pc' := 19) rfl ?_
        refine ow_bipush X0 hx (z := (90 : Int32)) (hb hby d_prog_41m7_19) rfl (pc' := 21) rfl ?_
        refine ow_icmp_le X0 hx (pc.toInt) ((90 : Int)) (hb hby d_prog_41m7_21) rfl rfl (by decide) (pt := 36) (by decide) (pf := 24) rfl (fun c21 => ?_) (fun c21 => ?_)
        · refine ow_iconst X0 hx (z := (1 : Int32)) (hb hby d_prog_41m7_36) rfl (pc' := 37) rfl ?_
          refine ow_goto X0 hx (hb hby d_prog_41m7_37) (by decide) (pc' := 41) (by decide) ?_
          exact ow_retB X0 hx hret hlk (hb hby d_prog_41m7_41) (by decide) (by decide) (z' := (1 : Int32)) rfl ⟨(1 : Int32), rfl, (show (((97 ≤ pc.toInt ∧ pc.toInt ≤ 122) ∨ (65 ≤ pc.toInt ∧ pc.toInt ≤ 90) ∨ (48 ≤ pc.toInt ∧ pc.toInt ≤ 57)) ∧ (1 : Int) = 1) ∨ (¬ ((97 ≤ pc.toInt ∧ pc.toInt ≤ 122) ∨ (65 ≤ pc.toInt ∧ pc.toInt ≤ 90) ∨ (48 ≤ pc.toInt ∧ pc.toInt ≤ 57)) ∧ (1 : Int) = 0) from by omega), rfl, e0⟩
        · refine ow_iloadN X0 hx (hb hby d_prog_41m7_24) rfl (pc' := 25) rfl ?_
          refine ow_bipush X0 hx (z := (48 : Int32)) (hb hby d_prog_41m7_25) rfl (pc' := 27) rfl ?_
          refine ow_icmp_lt X0 hx (pc.toInt) ((48 : Int)) (hb hby d_prog_41m7_27) rfl rfl (by decide) (pt := 40) (by decide) (pf := 30) rfl (fun c27 => ?_) (fun c27 => ?_)
          · refine ow_iconst X0 hx (z := (0 : Int32)) (hb hby d_prog_41m7_40) rfl (pc' := 41) rfl ?_
            exact ow_retB X0 hx hret hlk (hb hby d_prog_41m7_41) (by decide) (by decide) (z' := (0 : Int32)) rfl ⟨(0 : Int32), rfl, (show (((97 ≤ pc.toInt ∧ pc.toInt ≤ 122) ∨ (65 ≤ pc.toInt ∧ pc.toInt ≤ 90) ∨ (48 ≤ pc.toInt ∧ pc.toInt ≤ 57)) ∧ (0 : Int) = 1) ∨ (¬ ((97 ≤ pc.toInt ∧ pc.toInt ≤ 122) ∨ (65 ≤ pc.toInt ∧ pc.toInt ≤ 90) ∨ (48 ≤ pc.toInt ∧ pc.toInt ≤ 57)) ∧ (0 : Int) = 0) from by omega), rfl, e0⟩
          · refine ow_iloadN X0 hx (hb hby d_prog_41m7_30) rfl (pc' := 31) rfl ?_
            refine ow_bipush X0 hx (z := (57 : Int32)) (hb hby d_prog_41m7_31) rfl (pc' := 33) rfl ?_
            refine ow_icmp_gt X0 hx (pc.toInt) ((57 : Int)) (hb hby d_prog_41m7_33) rfl rfl (by decide) (pt := 40) (by decide) (pf := 36) rfl (fun c33 => ?_) (fun c33 => ?_)
            · refine ow_iconst X0 hx (z := (0 : Int32)) (hb hby d_prog_41m7_40) rfl (pc' := 41) rfl ?_
              exact ow_retB X0 hx hret hlk (hb hby d_prog_41m7_41) (by decide) (by decide) (z' := (0 : Int32)) rfl ⟨(0 : Int32), rfl, (show (((97 ≤ pc.toInt ∧ pc.toInt ≤ 122) ∨ (65 ≤ pc.toInt ∧ pc.toInt ≤ 90) ∨ (48 ≤ pc.toInt ∧ pc.toInt ≤ 57)) ∧ (0 : Int) = 1) ∨ (¬ ((97 ≤ pc.toInt ∧ pc.toInt ≤ 122) ∨ (65 ≤ pc.toInt ∧ pc.toInt ≤ 90) ∨ (48 ≤ pc.toInt ∧ pc.toInt ≤ 57)) ∧ (0 : Int) = 0) from by omega), rfl, e0⟩
            · refine ow_iconst X0 hx (z := (1 : Int32)) (hb hby d_prog_41m7_36) rfl (pc' := 37) rfl ?_
              refine ow_goto X0 hx (hb hby d_prog_41m7_37) (by decide) (pc' := 41) (by decide) ?_
              exact ow_retB X0 hx hret hlk (hb hby d_prog_41m7_41) (by decide) (by decide) (z' := (1 : Int32)) rfl ⟨(1 : Int32), rfl, (show (((97 ≤ pc.toInt ∧ pc.toInt ≤ 122) ∨ (65 ≤ pc.toInt ∧ pc.toInt ≤ 90) ∨ (48 ≤ pc.toInt ∧ pc.toInt ≤ 57)) ∧ (1 : Int) = 1) ∨ (¬ ((97 ≤ pc.toInt ∧ pc.toInt ≤ 122) ∨ (65 ≤ pc.toInt ∧ pc.toInt ≤ 90) ∨ (48 ≤ pc.toInt ∧ pc.toInt ≤ 57)) ∧ (1 : Int) = 0) from by omega), rfl, e0⟩
theorem pd_18 : parseMethodDescriptor "(C)Z" = some ⟨[.char], some .boolean⟩ := by decide +kernel
theorem d_prog_41m4_0 : decode prog_41_method_4_code 0 = .ok (.iload_n 0, 1) := by decide +kernel
theorem d_prog_41m4_1 : decode prog_41_method_4_code 1 = .ok (.invokestatic 18, 3) := by decide +kernel
theorem d_prog_41m4_4 : decode prog_41_method_4_code 4 = .ok (.ifCond .ne 12, 3) := by decide +kernel
theorem d_prog_41m4_16 : decode prog_41_method_4_code 16 = .ok (.iconst 1, 1) := by decide +kernel
theorem d_prog_41m4_17 : decode prog_41_method_4_code 17 = .ok (.goto 4, 3) := by decide +kernel
theorem d_prog_41m4_21 : decode prog_41_method_4_code 21 = .ok (.ireturn, 1) := by decide +kernel
theorem ef_unA (m : MethodId) (x0 : Int32) : entryFrame m #[(.int x0)] 1 = mkF m 0 #[.val (.int x0)] [] := by first | (simp [entryFrame, mkF, argsToLocals, Value.category]; done) | rfl
def Q_unA (Z : State) (pc : Int32) (h0 : Heap) (n0 : Nat) (v : Option Value) (h : Heap) (L : List Loc) (vm : Vm) : Prop := ∃ (z : Int32), (v = some (.int z)) ∧ (Fr n0 L) ∧ (Keep h0 h []) ∧ (z.toInt = 1) ∧ (LT Z [] [] vm)
set_option maxRecDepth 65536 in
set_option maxHeartbeats 40000000 in
theorem rm_unA (l : Launch) (Z : State) (a0 : Array Value) (hw : ∀ d ∈ tables_1, d.before a0 Z = true) (ws : List Jvm.Cond) (hcw : Jvm.Lit.compactW.before a0 Z = true) (hch : ∀ q ∈ consts_1, Jvm.Lit.constHeld Z q.1 q.2) (pc : Int32) (h0 : Heap) (n0 : Nat) (Z0 : n0 ≤ h0.size) (hzk : ∀ (b : Addr) (cl : Cell), Z.heap[b]? = some cl → h0[b]? = some cl) (hzn : Z.heap.size ≤ n0) (ha : (97 ≤ pc.toInt ∧ pc.toInt ≤ 122) ∨ (65 ≤ pc.toInt ∧ pc.toInt ≤ 90) ∨ (48 ≤ pc.toInt ∧ pc.toInt ≤ 57)) :
    MetFree l (⟨"com/example/inchworm/inchworm/store/HttpSyntax", "isUnreserved", "(C)Z"⟩ : MethodName) (head1 (Jvm.Cond.code (⟨"com/example/inchworm/inchworm/store/HttpSyntax", "isUnreserved", "(C)Z"⟩ : MethodName) prog_41_method_4_code 1 (some .boolean) :: ws) ({ frames := 1, cells := 0, slots := 0, locals := 12 } : Room)) (fun a_ U_ => a_ = #[(.int pc)] ∧ Z.Warmed39 U_.vm ∧ U_.heap = h0 ∧ LT Z [] [] U_.vm) (fun _ _ _ _ _ => True) (fun _ U_ o_ U_' => ∃ v_ L_, o_ = .returned v_ ∧ (Q_unA Z pc h0 n0) v_ U_'.heap L_ U_'.vm ∧ ReturnedEndW U_ o_ U_' L_ 0 0) := by
  refine ow_bodyI (plainFor_of_name pn_4) ?_
  intro p e s m below meth c T0 X0 hx hZ hby hml hown hnm hret hlk e0 es hS0 hI0
  have N0 := Fr.nil n0
  refine Ends.cast (ef_unA m pc) ?_
  have r_pc := rng32 pc
  refine ow_iloadN X0 hx (hb hby d_prog_41m4_0) rfl (pc' := 1) rfl ?_
  refine ow_callPI X0 hx hZ hown (hw _ (List.mem_of_getElem? (i := 90) rfl)) (hw _ (List.mem_of_getElem? (i := 91) rfl)) (hw _ (List.mem_of_getElem? (i := 25) rfl)) (hw _ (List.mem_of_getElem? (i := 92) rfl)) (by decide) (rm_alnum l Z a0 hw [] pc h0 ) e0 0 (by decide) (by decide) (by decide) (by decide) [(.int pc)] (by rw [hml]; rfl) pd_18 rfl rfl rfl (Nat.le_of_eq rfl) (hb hby d_prog_41m4_1) (pc' := 4) rfl (fun z1 T1 hz1 X1 e1 => ?_)
  have az1 : (((97 ≤ pc.toInt ∧ pc.toInt ≤ 122) ∨ (65 ≤ pc.toInt ∧ pc.toInt ≤ 90) ∨ (48 ≤ pc.toInt ∧ pc.toInt ≤ 57)) ∧ z1.toInt = 1) ∨ (¬ ((97 ≤ pc.toInt ∧ pc.toInt ≤ 122) ∨ (65 ≤ pc.toInt ∧ pc.toInt ≤ 90) ∨ (48 ≤ pc.toInt ∧ pc.toInt ≤ 57)) ∧ z1.toInt = 0) := hz1
  have rz1 := rng32 z1
  refine ow_if_ne X1 hx (z1.toInt) (hb hby d_prog_41m4_4) rfl (by decide) (pt := 16) (by decide) (pf := 7) rfl (fun c4 => ?_) (fun c4 => absurd c4 (by omega))
  refine ow_iconst X1 hx (z := (1 : Int32)) (hb hby d_prog_41m4_16) rfl (pc' := 17) rfl ?_
  refine ow_goto X1 hx (hb hby d_prog_41m4_17) (by decide) (pc' := 21) (by decide) ?_
  exact ow_retBI X1 hx hret hlk (hb hby d_prog_41m4_21) hS0 (by rw [e1]; exact (Nat.zero_le _)) (by decide) (by decide) (z' := (1 : Int32)) rfl (show Q_unA Z pc h0 n0 _ T1.heap _ _ from by rw [e1]; exact ⟨(1 : Int32), rfl, N0, (Keep.refl h0 []), (show (1 : Int) = 1 from by (have q_ : (1 : Int32).toInt = 1 := (by decide)); omega), (LT.weaken (LT.warm hI0 _ X1.warmed) (by decide) (fun _ h => absurd h List.not_mem_nil))⟩)
theorem d_prog_41m4_7 : decode prog_41_method_4_code 7 = .ok (.ldc 22, 2) := by decide +kernel
theorem d_prog_41m4_9 : decode prog_41_method_4_code 9 = .ok (.iload_n 0, 1) := by decide +kernel
theorem d_prog_41m4_10 : decode prog_41_method_4_code 10 = .ok (.invokevirtual 24, 3) := by decide +kernel
theorem d_prog_41m4_13 : decode prog_41_method_4_code 13 = .ok (.ifCond .lt 7, 3) := by decide +kernel
theorem d_prog_41m4_20 : decode prog_41_method_4_code 20 = .ok (.iconst 0, 1) := by decide +kernel
def Q_unN (Z : State) (pc : Int32) (zc : Int32) (h0 : Heap) (n0 : Nat) (v : Option Value) (h : Heap) (L : List Loc) (vm : Vm) : Prop := ∃ (z : Int32), ∃ (oL : Addr), ∃ (ot : Addr), ∃ (kt : ClassId), (v = some (.int z)) ∧ (Fr n0 L) ∧ (Keep h0 h []) ∧ (((pc.toInt = 45 ∨ pc.toInt = 46 ∨ pc.toInt = 95 ∨ pc.toInt = 126) ∧ z.toInt = 1) ∨ (¬ (pc.toInt = 45 ∨ pc.toInt = 46 ∨ pc.toInt = 95 ∨ pc.toInt = 126) ∧ z.toInt = 0)) ∧ (Exa Z h oL "java/lang/String") ∧ (Fld Z h oL "java/lang/String" "coder" "B" (.int (0 : Int32))) ∧ (Fld Z h oL "java/lang/String" "value" "[B" (.ref ot)) ∧ (Arv Z h ot kt (.byte) (4 : Int32) [(.int (45 : Int32)), (.int (46 : Int32)), (.int (95 : Int32)), (.int (126 : Int32))] (.int (0 : Int32))) ∧ (LT Z ["-._~"] [("com/example/inchworm/inchworm/store/HttpSyntax", 22, oL)] vm)
set_option maxRecDepth 65536 in
set_option maxHeartbeats 40000000 in
theorem rm_unN (l : Launch) (Z : State) (a0 : Array Value) (hw : ∀ d ∈ tables_1, d.before a0 Z = true) (ws : List Jvm.Cond) (hcw : Jvm.Lit.compactW.before a0 Z = true) (hch : ∀ q ∈ consts_1, Jvm.Lit.constHeld Z q.1 q.2) (pc : Int32) (zc : Int32) (h0 : Heap) (n0 : Nat) (Z0 : n0 ≤ h0.size) (hzk : ∀ (b : Addr) (cl : Cell), Z.heap[b]? = some cl → h0[b]? = some cl) (hzn : Z.heap.size ≤ n0) (S_cs : Sta Z h0 "java/lang/String" "COMPACT_STRINGS" "Z" (.int zc)) (hz0 : ¬ zc.toInt = 0) (hn : ¬ ((97 ≤ pc.toInt ∧ pc.toInt ≤ 122) ∨ (65 ≤ pc.toInt ∧ pc.toInt ≤ 90) ∨ (48 ≤ pc.toInt ∧ pc.toInt ≤ 57))) (hc0 : 0 ≤ pc.toInt) (hc1 : pc.toInt ≤ 65535) :
    MetFree l (⟨"com/example/inchworm/inchworm/store/HttpSyntax", "isUnreserved", "(C)Z"⟩ : MethodName) (head1 (Jvm.Cond.code (⟨"com/example/inchworm/inchworm/store/HttpSyntax", "isUnreserved", "(C)Z"⟩ : MethodName) prog_41_method_4_code 1 (some .boolean) :: ws) ({ frames := 4, cells := 2, slots := 20, locals := 59 } : Room)) (fun a_ U_ => a_ = #[(.int pc)] ∧ Z.Warmed39 U_.vm ∧ U_.heap = h0 ∧ LT Z [] [] U_.vm) (fun _ _ _ _ _ => True) (fun _ U_ o_ U_' => ∃ v_ L_, o_ = .returned v_ ∧ (Q_unN Z pc zc h0 n0) v_ U_'.heap L_ U_'.vm ∧ ReturnedEndW U_ o_ U_' L_ 2 20) := by
  refine ow_bodyI (plainFor_of_name pn_4) ?_
  intro p e s m below meth c T0 X0 hx hZ hby hml hown hnm hret hlk e0 es hS0 hI0
  have N0 := Fr.nil n0
  refine Ends.cast (ef_unA m pc) ?_
  have r_pc := rng32 pc
  refine ow_iloadN X0 hx (hb hby d_prog_41m4_0) rfl (pc' := 1) rfl ?_
  refine ow_callPI X0 hx hZ hown (hw _ (List.mem_of_getElem? (i := 90) rfl)) (hw _ (List.mem_of_getElem? (i := 91) rfl)) (hw _ (List.mem_of_getElem? (i := 25) rfl)) (hw _ (List.mem_of_getElem? (i := 92) rfl)) (by decide) (rm_alnum l Z a0 hw [] pc h0 ) e0 0 (by decide) (by decide) (by decide) (by decide) [(.int pc)] (by rw [hml]; rfl) pd_18 rfl rfl rfl (Nat.le_of_eq rfl) (hb hby d_prog_41m4_1) (pc' := 4) rfl (fun z1 T1 hz1 X1 e1 => ?_)
  have az1 : (((97 ≤ pc.toInt ∧ pc.toInt ≤ 122) ∨ (65 ≤ pc.toInt ∧ pc.toInt ≤ 90) ∨ (48 ≤ pc.toInt ∧ pc.toInt ≤ 57)) ∧ z1.toInt = 1) ∨ (¬ ((97 ≤ pc.toInt ∧ pc.toInt ≤ 122) ∨ (65 ≤ pc.toInt ∧ pc.toInt ≤ 90) ∨ (48 ≤ pc.toInt ∧ pc.toInt ≤ 57)) ∧ z1.toInt = 0) := hz1
  have rz1 := rng32 z1
  refine ow_if_ne X1 hx (z1.toInt) (hb hby d_prog_41m4_4) rfl (by decide) (pt := 16) (by decide) (pf := 7) rfl (fun c4 => absurd c4 (by omega)) (fun c4 => ?_)
  have wS2 : ∀ a ∈ Bundle.stringAtoms, a.before a0 Z = true := fun a ha => by
    simp only [Bundle.stringAtoms, Bundle.sN, List.mem_cons, List.not_mem_nil, or_false] at ha
    rcases ha with rfl | rfl | rfl | rfl | rfl | rfl | rfl
    · exact (hw _ (List.mem_of_getElem? (i := 4) rfl))
    · exact (hw _ (List.mem_of_getElem? (i := 3) rfl))
    · exact (hw _ (List.mem_of_getElem? (i := 16) rfl))
    · exact (hw _ (List.mem_of_getElem? (i := 17) rfl))
    · exact (hw _ (List.mem_of_getElem? (i := 18) rfl))
    · exact (hw _ (List.mem_of_getElem? (i := 19) rfl))
    · exact (hw _ (List.mem_of_getElem? (i := 20) rfl))
  refine ow_ldcI X1 hx hZ hown (hw _ (List.mem_of_getElem? (i := 93) rfl)) wS2 e1 hS0 (Nat.zero_le _) (Fr.nil _) (by rw [es]; exact hzk) hI0 (by decide) (hch _ (List.mem_of_getElem? (i := 0) rfl)) hcw (vs := [(.int (45 : Int32)), (.int (46 : Int32)), (.int (95 : Int32)), (.int (126 : Int32))]) (z := (4 : Int32)) ⟨by decide, by decide⟩ (by decide) (by decide) (hb hby d_prog_41m4_7) 16 (by decide) (by decide) (by decide) (by decide) (pc' := 9) rfl (fun a2 T2 h2 k2 t2 kt2 X2 e2 E2 hS2 hk2 hZ hown Ea2 Fc2 Fv2 Va2 hI2 => ?_)
  have Zs2 : n0 ≤ h2.size := Nat.le_trans Z0 E2.1
  have K2 := (Keep.refl h0 []).ext E2
  refine ow_iloadN X2 hx (hb hby d_prog_41m4_9) rfl (pc' := 10) rfl ?_
  refine ow_callVPI X2 hx hZ rfl hown (hw _ (List.mem_of_getElem? (i := 94) rfl)) (hw _ (List.mem_of_getElem? (i := 95) rfl)) (hw _ (List.mem_of_getElem? (i := 97) rfl)) (hw _ (List.mem_of_getElem? (i := 96) rfl)) (hw _ (List.mem_of_getElem? (i := 4) rfl)) (hw _ (List.mem_of_getElem? (i := 98) rfl)) (by decide) (rm_ixI l Z a0 hw [] a2 pc zc t2 kt2 h2 (ow_staKeep S_cs K2 all0) Ea2 Fc2 Fv2 Va2 (by first | assumption | decide | omega) (by first | assumption | decide | omega)) e2 0 (by decide) (by decide) (by decide) (by decide) [(.int pc)] (by rw [hml]; rfl) pd_6 rfl Ea2 rfl rfl (Nat.le_of_eq rfl) (hb hby d_prog_41m4_10) (pc' := 13) rfl (fun z3 T3 hz3 X3 e3 => ?_)
  have az3 : ((pc.toInt = 45 ∨ pc.toInt = 46 ∨ pc.toInt = 95 ∨ pc.toInt = 126) ∧ 0 ≤ z3.toInt) ∨ (¬ (pc.toInt = 45 ∨ pc.toInt = 46 ∨ pc.toInt = 95 ∨ pc.toInt = 126) ∧ z3.toInt = -1) := hz3
  have rz3 := rng32 z3
  refine ow_if_lt X3 hx (z3.toInt) (hb hby d_prog_41m4_13) rfl (by decide) (pt := 20) (by decide) (pf := 16) rfl (fun c13 => ?_) (fun c13 => ?_)
  · refine ow_iconst X3 hx (z := (0 : Int32)) (hb hby d_prog_41m4_20) rfl (pc' := 21) rfl ?_
    exact ow_retBI X3 hx hret hlk (hb hby d_prog_41m4_21) hS2 (by rw [e3]; exact hk2) (by decide) (by decide) (z' := (0 : Int32)) rfl (show Q_unN Z pc zc h0 n0 _ T3.heap _ _ from by rw [e3]; exact ⟨(0 : Int32), a2, t2, kt2, rfl, N0, K2, (show ((pc.toInt = 45 ∨ pc.toInt = 46 ∨ pc.toInt = 95 ∨ pc.toInt = 126) ∧ (0 : Int) = 1) ∨ (¬ (pc.toInt = 45 ∨ pc.toInt = 46 ∨ pc.toInt = 95 ∨ pc.toInt = 126) ∧ (0 : Int) = 0) from by (have q_ : (0 : Int32).toInt = 0 := (by decide)); omega), Ea2, Fc2, Fv2, Va2, (LT.weaken (LT.warm hI2 _ X3.warmed) (by decide) (fun _ h => h))⟩)
  · refine ow_iconst X3 hx (z := (1 : Int32)) (hb hby d_prog_41m4_16) rfl (pc' := 17) rfl ?_
    refine ow_goto X3 hx (hb hby d_prog_41m4_17) (by decide) (pc' := 21) (by decide) ?_
    exact ow_retBI X3 hx hret hlk (hb hby d_prog_41m4_21) hS2 (by rw [e3]; exact hk2) (by decide) (by decide) (z' := (1 : Int32)) rfl (show Q_unN Z pc zc h0 n0 _ T3.heap _ _ from by rw [e3]; exact ⟨(1 : Int32), a2, t2, kt2, rfl, N0, K2, (show ((pc.toInt = 45 ∨ pc.toInt = 46 ∨ pc.toInt = 95 ∨ pc.toInt = 126) ∧ (1 : Int) = 1) ∨ (¬ (pc.toInt = 45 ∨ pc.toInt = 46 ∨ pc.toInt = 95 ∨ pc.toInt = 126) ∧ (1 : Int) = 0) from by (have q_ : (1 : Int32).toInt = 1 := (by decide)); omega), Ea2, Fc2, Fv2, Va2, (LT.weaken (LT.warm hI2 _ X3.warmed) (by decide) (fun _ h => h))⟩)
def Q_unB (Z : State) (pc : Int32) (zc : Int32) (oL : Addr) (ot : Addr) (kt : ClassId) (h0 : Heap) (n0 : Nat) (v : Option Value) (h : Heap) (L : List Loc) (vm : Vm) : Prop := ∃ (z : Int32), (v = some (.int z)) ∧ (Fr n0 L) ∧ (Keep h0 h []) ∧ ((((97 ≤ pc.toInt ∧ pc.toInt ≤ 122) ∨ (65 ≤ pc.toInt ∧ pc.toInt ≤ 90) ∨ (48 ≤ pc.toInt ∧ pc.toInt ≤ 57) ∨ pc.toInt = 45 ∨ pc.toInt = 46 ∨ pc.toInt = 95 ∨ pc.toInt = 126) ∧ z.toInt = 1) ∨ (¬ ((97 ≤ pc.toInt ∧ pc.toInt ≤ 122) ∨ (65 ≤ pc.toInt ∧ pc.toInt ≤ 90) ∨ (48 ≤ pc.toInt ∧ pc.toInt ≤ 57) ∨ pc.toInt = 45 ∨ pc.toInt = 46 ∨ pc.toInt = 95 ∨ pc.toInt = 126) ∧ z.toInt = 0)) ∧ (LT Z ["-._~"] [("com/example/inchworm/inchworm/store/HttpSyntax", 22, oL)] vm)
set_option maxRecDepth 65536 in
set_option maxHeartbeats 40000000 in
theorem rm_unB (l : Launch) (Z : State) (a0 : Array Value) (hw : ∀ d ∈ tables_1, d.before a0 Z = true) (ws : List Jvm.Cond) (hcw : Jvm.Lit.compactW.before a0 Z = true) (hch : ∀ q ∈ consts_1, Jvm.Lit.constHeld Z q.1 q.2) (pc : Int32) (zc : Int32) (oL : Addr) (ot : Addr) (kt : ClassId) (h0 : Heap) (n0 : Nat) (Z0 : n0 ≤ h0.size) (hzk : ∀ (b : Addr) (cl : Cell), Z.heap[b]? = some cl → h0[b]? = some cl) (hzn : Z.heap.size ≤ n0) (S_cs : Sta Z h0 "java/lang/String" "COMPACT_STRINGS" "Z" (.int zc)) (hz0 : ¬ zc.toInt = 0) (E_L : Exa Z h0 oL "java/lang/String") (F_Lc : Fld Z h0 oL "java/lang/String" "coder" "B" (.int (0 : Int32))) (F_Lv : Fld Z h0 oL "java/lang/String" "value" "[B" (.ref ot)) (V_t : Arv Z h0 ot kt (.byte) (4 : Int32) [(.int (45 : Int32)), (.int (46 : Int32)), (.int (95 : Int32)), (.int (126 : Int32))] (.int (0 : Int32))) (hc0 : 0 ≤ pc.toInt) (hc1 : pc.toInt ≤ 65535) :
    MetFree l (⟨"com/example/inchworm/inchworm/store/HttpSyntax", "isUnreserved", "(C)Z"⟩ : MethodName) (head1 (Jvm.Cond.code (⟨"com/example/inchworm/inchworm/store/HttpSyntax", "isUnreserved", "(C)Z"⟩ : MethodName) prog_41_method_4_code 1 (some .boolean) :: ws) ({ frames := 4, cells := 0, slots := 0, locals := 59 } : Room)) (fun a_ U_ => a_ = #[(.int pc)] ∧ Z.Warmed39 U_.vm ∧ U_.heap = h0 ∧ LT Z ["-._~"] [("com/example/inchworm/inchworm/store/HttpSyntax", 22, oL)] U_.vm) (fun _ _ _ _ _ => True) (fun _ U_ o_ U_' => ∃ v_ L_, o_ = .returned v_ ∧ (Q_unB Z pc zc oL ot kt h0 n0) v_ U_'.heap L_ U_'.vm ∧ ReturnedEndW U_ o_ U_' L_ 0 0) := by
  refine ow_bodyI (plainFor_of_name pn_4) ?_
  intro p e s m below meth c T0 X0 hx hZ hby hml hown hnm hret hlk e0 es hS0 hI0
  have N0 := Fr.nil n0
  refine Ends.cast (ef_unA m pc) ?_
  have r_pc := rng32 pc
  refine ow_iloadN X0 hx (hb hby d_prog_41m4_0) rfl (pc' := 1) rfl ?_
  refine ow_callPI X0 hx hZ hown (hw _ (List.mem_of_getElem? (i := 90) rfl)) (hw _ (List.mem_of_getElem? (i := 91) rfl)) (hw _ (List.mem_of_getElem? (i := 25) rfl)) (hw _ (List.mem_of_getElem? (i := 92) rfl)) (by decide) (rm_alnum l Z a0 hw [] pc h0 ) e0 0 (by decide) (by decide) (by decide) (by decide) [(.int pc)] (by rw [hml]; rfl) pd_18 rfl rfl rfl (Nat.le_of_eq rfl) (hb hby d_prog_41m4_1) (pc' := 4) rfl (fun z1 T1 hz1 X1 e1 => ?_)
  have az1 : (((97 ≤ pc.toInt ∧ pc.toInt ≤ 122) ∨ (65 ≤ pc.toInt ∧ pc.toInt ≤ 90) ∨ (48 ≤ pc.toInt ∧ pc.toInt ≤ 57)) ∧ z1.toInt = 1) ∨ (¬ ((97 ≤ pc.toInt ∧ pc.toInt ≤ 122) ∨ (65 ≤ pc.toInt ∧ pc.toInt ≤ 90) ∨ (48 ≤ pc.toInt ∧ pc.toInt ≤ 57)) ∧ z1.toInt = 0) := hz1
  have rz1 := rng32 z1
  refine ow_if_ne X1 hx (z1.toInt) (hb hby d_prog_41m4_4) rfl (by decide) (pt := 16) (by decide) (pf := 7) rfl (fun c4 => ?_) (fun c4 => ?_)
  · refine ow_iconst X1 hx (z := (1 : Int32)) (hb hby d_prog_41m4_16) rfl (pc' := 17) rfl ?_
    refine ow_goto X1 hx (hb hby d_prog_41m4_17) (by decide) (pc' := 21) (by decide) ?_
    exact ow_retBI X1 hx hret hlk (hb hby d_prog_41m4_21) hS0 (by rw [e1]; exact (Nat.zero_le _)) (by decide) (by decide) (z' := (1 : Int32)) rfl (show Q_unB Z pc zc oL ot kt h0 n0 _ T1.heap _ _ from by rw [e1]; exact ⟨(1 : Int32), rfl, N0, (Keep.refl h0 []), (show (((97 ≤ pc.toInt ∧ pc.toInt ≤ 122) ∨ (65 ≤ pc.toInt ∧ pc.toInt ≤ 90) ∨ (48 ≤ pc.toInt ∧ pc.toInt ≤ 57) ∨ pc.toInt = 45 ∨ pc.toInt = 46 ∨ pc.toInt = 95 ∨ pc.toInt = 126) ∧ (1 : Int) = 1) ∨ (¬ ((97 ≤ pc.toInt ∧ pc.toInt ≤ 122) ∨ (65 ≤ pc.toInt ∧ pc.toInt ≤ 90) ∨ (48 ≤ pc.toInt ∧ pc.toInt ≤ 57) ∨ pc.toInt = 45 ∨ pc.toInt = 46 ∨ pc.toInt = 95 ∨ pc.toInt = 126) ∧ (1 : Int) = 0) from by (have q_ : (1 : Int32).toInt = 1 := (by decide)); omega), (LT.weaken (LT.warm hI0 _ X1.warmed) (by decide) (fun _ h => h))⟩)
  · have wS2 : ∀ a ∈ Bundle.stringAtoms, a.before a0 Z = true := fun a ha => by
      simp only [Bundle.stringAtoms, Bundle.sN, List.mem_cons, List.not_mem_nil, or_false] at ha
      rcases ha with rfl | rfl | rfl | rfl | rfl | rfl | rfl
      · exact (hw _ (List.mem_of_getElem? (i := 4) rfl))
      · exact (hw _ (List.mem_of_getElem? (i := 3) rfl))
      · exact (hw _ (List.mem_of_getElem? (i := 16) rfl))
      · exact (hw _ (List.mem_of_getElem? (i := 17) rfl))
      · exact (hw _ (List.mem_of_getElem? (i := 18) rfl))
      · exact (hw _ (List.mem_of_getElem? (i := 19) rfl))
      · exact (hw _ (List.mem_of_getElem? (i := 20) rfl))
    refine ow_ldcAgainI X1 hx hZ hown (hw _ (List.mem_of_getElem? (i := 93) rfl)) hI0 (List.mem_of_getElem? (i := 0) rfl) (hb hby d_prog_41m4_7) (pc' := 9) rfl ?_
    refine ow_iloadN X1 hx (hb hby d_prog_41m4_9) rfl (pc' := 10) rfl ?_
    refine ow_callVPI X1 hx hZ rfl hown (hw _ (List.mem_of_getElem? (i := 94) rfl)) (hw _ (List.mem_of_getElem? (i := 95) rfl)) (hw _ (List.mem_of_getElem? (i := 97) rfl)) (hw _ (List.mem_of_getElem? (i := 96) rfl)) (hw _ (List.mem_of_getElem? (i := 4) rfl)) (hw _ (List.mem_of_getElem? (i := 98) rfl)) (by decide) (rm_ixI l Z a0 hw [] oL pc zc ot kt h0 S_cs E_L F_Lc F_Lv V_t (by first | assumption | decide | omega) (by first | assumption | decide | omega)) e1 0 (by decide) (by decide) (by decide) (by decide) [(.int pc)] (by rw [hml]; rfl) pd_6 rfl E_L rfl rfl (Nat.le_of_eq rfl) (hb hby d_prog_41m4_10) (pc' := 13) rfl (fun z3 T3 hz3 X3 e3 => ?_)
    have az3 : ((pc.toInt = 45 ∨ pc.toInt = 46 ∨ pc.toInt = 95 ∨ pc.toInt = 126) ∧ 0 ≤ z3.toInt) ∨ (¬ (pc.toInt = 45 ∨ pc.toInt = 46 ∨ pc.toInt = 95 ∨ pc.toInt = 126) ∧ z3.toInt = -1) := hz3
    have rz3 := rng32 z3
    refine ow_if_lt X3 hx (z3.toInt) (hb hby d_prog_41m4_13) rfl (by decide) (pt := 20) (by decide) (pf := 16) rfl (fun c13 => ?_) (fun c13 => ?_)
    · refine ow_iconst X3 hx (z := (0 : Int32)) (hb hby d_prog_41m4_20) rfl (pc' := 21) rfl ?_
      exact ow_retBI X3 hx hret hlk (hb hby d_prog_41m4_21) hS0 (by rw [e3]; exact (Nat.zero_le _)) (by decide) (by decide) (z' := (0 : Int32)) rfl (show Q_unB Z pc zc oL ot kt h0 n0 _ T3.heap _ _ from by rw [e3]; exact ⟨(0 : Int32), rfl, N0, (Keep.refl h0 []), (show (((97 ≤ pc.toInt ∧ pc.toInt ≤ 122) ∨ (65 ≤ pc.toInt ∧ pc.toInt ≤ 90) ∨ (48 ≤ pc.toInt ∧ pc.toInt ≤ 57) ∨ pc.toInt = 45 ∨ pc.toInt = 46 ∨ pc.toInt = 95 ∨ pc.toInt = 126) ∧ (0 : Int) = 1) ∨ (¬ ((97 ≤ pc.toInt ∧ pc.toInt ≤ 122) ∨ (65 ≤ pc.toInt ∧ pc.toInt ≤ 90) ∨ (48 ≤ pc.toInt ∧ pc.toInt ≤ 57) ∨ pc.toInt = 45 ∨ pc.toInt = 46 ∨ pc.toInt = 95 ∨ pc.toInt = 126) ∧ (0 : Int) = 0) from by (have q_ : (0 : Int32).toInt = 0 := (by decide)); omega), (LT.weaken (LT.warm hI0 _ X3.warmed) (by decide) (fun _ h => h))⟩)
    · refine ow_iconst X3 hx (z := (1 : Int32)) (hb hby d_prog_41m4_16) rfl (pc' := 17) rfl ?_
      refine ow_goto X3 hx (hb hby d_prog_41m4_17) (by decide) (pc' := 21) (by decide) ?_
      exact ow_retBI X3 hx hret hlk (hb hby d_prog_41m4_21) hS0 (by rw [e3]; exact (Nat.zero_le _)) (by decide) (by decide) (z' := (1 : Int32)) rfl (show Q_unB Z pc zc oL ot kt h0 n0 _ T3.heap _ _ from by rw [e3]; exact ⟨(1 : Int32), rfl, N0, (Keep.refl h0 []), (show (((97 ≤ pc.toInt ∧ pc.toInt ≤ 122) ∨ (65 ≤ pc.toInt ∧ pc.toInt ≤ 90) ∨ (48 ≤ pc.toInt ∧ pc.toInt ≤ 57) ∨ pc.toInt = 45 ∨ pc.toInt = 46 ∨ pc.toInt = 95 ∨ pc.toInt = 126) ∧ (1 : Int) = 1) ∨ (¬ ((97 ≤ pc.toInt ∧ pc.toInt ≤ 122) ∨ (65 ≤ pc.toInt ∧ pc.toInt ≤ 90) ∨ (48 ≤ pc.toInt ∧ pc.toInt ≤ 57) ∨ pc.toInt = 45 ∨ pc.toInt = 46 ∨ pc.toInt = 95 ∨ pc.toInt = 126) ∧ (1 : Int) = 0) from by (have q_ : (1 : Int32).toInt = 1 := (by decide)); omega), (LT.weaken (LT.warm hI0 _ X3.warmed) (by decide) (fun _ h => h))⟩)
theorem d_prog_41m6_0 : decode prog_41_method_6_code 0 = .ok (.aload_n 0, 1) := by decide +kernel
theorem d_prog_41m6_1 : decode prog_41_method_6_code 1 = .ok (.invokevirtual 32, 3) := by decide +kernel
theorem d_prog_41m6_4 : decode prog_41_method_6_code 4 = .ok (.ifCond .eq 5, 3) := by decide +kernel
theorem d_prog_41m6_7 : decode prog_41_method_6_code 7 = .ok (.iconst 0, 1) := by decide +kernel
theorem d_prog_41m6_8 : decode prog_41_method_6_code 8 = .ok (.ireturn, 1) := by decide +kernel
theorem ef_co0 (m : MethodId) (x0 : Addr) (x1 : Addr) : entryFrame m #[(.ref x0), (.ref x1)] 3 = mkF m 0 #[.val (.ref x0), .val (.ref x1), .unset] [] := by first | (simp [entryFrame, mkF, argsToLocals, Value.category]; done) | rfl
def Q_co0 (Z : State) (o : Addr) (fa : Addr) (oa : Addr) (ka : ClassId) (oL : Addr) (cK : ClassId) (h0 : Heap) (n0 : Nat) (v : Option Value) (h : Heap) (L : List Loc) (vm : Vm) : Prop := ∃ (z : Int32), (v = some (.int z)) ∧ (Fr n0 L) ∧ (Keep h0 h []) ∧ (z.toInt = 0)
set_option maxRecDepth 65536 in
set_option maxHeartbeats 40000000 in
theorem rm_co0 (l : Launch) (Z : State) (a0 : Array Value) (hw : ∀ d ∈ tables_1, d.before a0 Z = true) (ws : List Jvm.Cond) (hcw : Jvm.Lit.compactW.before a0 Z = true) (hch : ∀ q ∈ consts_1, Jvm.Lit.constHeld Z q.1 q.2) (o : Addr) (fa : Addr) (oa : Addr) (ka : ClassId) (oL : Addr) (cK : ClassId) (h0 : Heap) (n0 : Nat) (Z0 : n0 ≤ h0.size) (hzk : ∀ (b : Addr) (cl : Cell), Z.heap[b]? = some cl → h0[b]? = some cl) (hzn : Z.heap.size ≤ n0) (E_o : Exa Z h0 o "java/lang/String") (F_v : Fld Z h0 o "java/lang/String" "value" "[B" (.ref oa)) (V_a : Arv Z h0 oa ka (.byte) (0 : Int32) [] (.int (0 : Int32))) (hmd : LamKit.Made Z "com/example/inchworm/inchworm/store/HttpSyntax" ow_sh cK) (hfz : LamKit.FnAt Z.heap fa cK) :
    MetFree l (⟨"com/example/inchworm/inchworm/store/HttpSyntax", "consistsOf", "(Ljava/lang/String;Lcom/example/inchworm/inchworm/store/HttpSyntax$CharTest;)Z"⟩ : MethodName) (head1 (Jvm.Cond.code (⟨"com/example/inchworm/inchworm/store/HttpSyntax", "consistsOf", "(Ljava/lang/String;Lcom/example/inchworm/inchworm/store/HttpSyntax$CharTest;)Z"⟩ : MethodName) prog_41_method_6_code 3 (some .boolean) :: ws) ({ frames := 1, cells := 0, slots := 0, locals := 12 } : Room)) (fun a_ U_ => a_ = #[(.ref o), (.ref fa)] ∧ Z.Warmed39 U_.vm ∧ U_.heap = h0 ∧ LT Z [""] [("java/lang/String", 7, oL)] U_.vm) (fun _ _ _ _ _ => True) (fun _ U_ o_ U_' => ∃ v_ L_, o_ = .returned v_ ∧ (Q_co0 Z o fa oa ka oL cK h0 n0) v_ U_'.heap L_ U_'.vm ∧ ReturnedEndW U_ o_ U_' L_ 0 0) := by
  refine ow_bodyI (plainFor_of_name pn_4) ?_
  intro p e s m below meth c T0 X0 hx hZ hby hml hown hnm hret hlk e0 es hS0 hI0
  have N0 := Fr.nil n0
  refine Ends.cast (ef_co0 m o fa) ?_
  refine ow_aloadN X0 hx (hb hby d_prog_41m6_0) rfl rfl (pc' := 1) rfl ?_
  refine ow_callVPI X0 hx hZ rfl hown (hw _ (List.mem_of_getElem? (i := 33) rfl)) (hw _ (List.mem_of_getElem? (i := 34) rfl)) (hw _ (List.mem_of_getElem? (i := 36) rfl)) (hw _ (List.mem_of_getElem? (i := 35) rfl)) (hw _ (List.mem_of_getElem? (i := 4) rfl)) (hw _ (List.mem_of_getElem? (i := 37) rfl)) (by decide) (rm_iseE l Z a0 hw [] o oa ka h0 F_v V_a) e0 0 (by decide) (by decide) (by decide) (by decide) [] (by rw [hml]; rfl) pd_4 rfl E_o rfl rfl (Nat.le_of_eq rfl) (hb hby d_prog_41m6_1) (pc' := 4) rfl (fun z1 T1 hz1 X1 e1 => ?_)
  have az1 : z1.toInt = 1 := hz1
  have rz1 := rng32 z1
  refine ow_if_eq X1 hx (z1.toInt) (hb hby d_prog_41m6_4) rfl (by decide) (pt := 9) (by decide) (pf := 7) rfl (fun c4 => absurd c4 (by omega)) (fun c4 => ?_)
  refine ow_iconst X1 hx (z := (0 : Int32)) (hb hby d_prog_41m6_7) rfl (pc' := 8) rfl ?_
  exact ow_retBI X1 hx hret hlk (hb hby d_prog_41m6_8) hS0 (by rw [e1]; exact (Nat.zero_le _)) (by decide) (by decide) (z' := (0 : Int32)) rfl (show Q_co0 Z o fa oa ka oL cK h0 n0 _ T1.heap _ _ from by rw [e1]; exact ⟨(0 : Int32), rfl, N0, (Keep.refl h0 []), (show (0 : Int) = 0 from by decide)⟩)
theorem pd_19 : parseMethodDescriptor "(Ljava/lang/String;Lcom/example/inchworm/inchworm/store/HttpSyntax$CharTest;)Z" = some ⟨[(.object "java/lang/String"), (.object "com/example/inchworm/inchworm/store/HttpSyntax$CharTest")], some .boolean⟩ := by decide +kernel
theorem d_prog_41m3_0 : decode prog_41_method_3_code 0 = .ok (.aload_n 0, 1) := by decide +kernel
theorem d_prog_41m3_1 : decode prog_41_method_3_code 1 = .ok (.invokedynamic 17, 5) := by decide +kernel
theorem d_prog_41m3_6 : decode prog_41_method_3_code 6 = .ok (.invokestatic 11, 3) := by decide +kernel
theorem d_prog_41m3_9 : decode prog_41_method_3_code 9 = .ok (.ireturn, 1) := by decide +kernel
theorem ef_iu0 (m : MethodId) (x0 : Addr) : entryFrame m #[(.ref x0)] 1 = mkF m 0 #[.val (.ref x0)] [] := by first | (simp [entryFrame, mkF, argsToLocals, Value.category]; done) | rfl
def Q_iu0 (Z : State) (o : Addr) (oa : Addr) (ka : ClassId) (oL : Addr) (h0 : Heap) (n0 : Nat) (v : Option Value) (h : Heap) (L : List Loc) (vm : Vm) : Prop := ∃ (z : Int32), (v = some (.int z)) ∧ (Fr n0 L) ∧ (Keep h0 h []) ∧ (z.toInt = 0)
set_option maxRecDepth 65536 in
set_option maxHeartbeats 40000000 in
theorem rm_iu0 (l : Launch) (Z : State) (a0 : Array Value) (hw : ∀ d ∈ tables_1, d.before a0 Z = true) (ws : List Jvm.Cond) (hcw : Jvm.Lit.compactW.before a0 Z = true) (hch : ∀ q ∈ consts_1, Jvm.Lit.constHeld Z q.1 q.2) (o : Addr) (oa : Addr) (ka : ClassId) (oL : Addr) (h0 : Heap) (n0 : Nat) (Z0 : n0 ≤ h0.size) (hzk : ∀ (b : Addr) (cl : Cell), Z.heap[b]? = some cl → h0[b]? = some cl) (hzn : Z.heap.size ≤ n0) (E_o : Exa Z h0 o "java/lang/String") (F_v : Fld Z h0 o "java/lang/String" "value" "[B" (.ref oa)) (V_a : Arv Z h0 oa ka (.byte) (0 : Int32) [] (.int (0 : Int32))) :
    MetFree l (⟨"com/example/inchworm/inchworm/store/HttpSyntax", "isUnreserved", "(Ljava/lang/String;)Z"⟩ : MethodName) (head1 (Jvm.Cond.code (⟨"com/example/inchworm/inchworm/store/HttpSyntax", "isUnreserved", "(Ljava/lang/String;)Z"⟩ : MethodName) prog_41_method_3_code 1 (some .boolean) :: ws) ({ frames := 2, cells := 0, slots := 0, locals := 3073 } : Room)) (fun a_ U_ => a_ = #[(.ref o)] ∧ Z.Warmed39 U_.vm ∧ U_.heap = h0 ∧ LT Z [""] [("java/lang/String", 7, oL)] U_.vm) (fun _ _ _ _ _ => True) (fun _ U_ o_ U_' => ∃ v_ L_, o_ = .returned v_ ∧ (Q_iu0 Z o oa ka oL h0 n0) v_ U_'.heap L_ U_'.vm ∧ ReturnedEndW U_ o_ U_' L_ 0 0) := by
  refine ow_bodyIN (plainFor_of_name pn_4) ?_
  intro p e s m below meth c T0 X0 hx hZ hby hml hown hnm hret hlk e0 es hS0 hI0 hnmd
  have N0 := Fr.nil n0
  refine Ends.cast (ef_iu0 m o) ?_
  obtain ⟨fa, cK, mD, kD, i0, p0, hm1, hm2, hm3, hmd, hfz⟩ := ow_lamZ (hw _ (List.mem_of_getElem? (i := 27) rfl)) rfl
  have hmd : LamKit.Made Z "com/example/inchworm/inchworm/store/HttpSyntax" ow_sh cK := hmd
  refine ow_aloadN X0 hx (hb hby d_prog_41m3_0) rfl rfl (pc' := 1) rfl ?_
  refine ow_indy X0 hx hZ hnmd hm1 hm2 hm3 (by rw [hml]; rfl) (W := 1) (Nat.le_of_eq rfl) (by decide) (hb hby d_prog_41m3_1) (pc' := 6) rfl ?_
  refine ow_callSI X0 hx hZ hown (hw _ (List.mem_of_getElem? (i := 30) rfl)) (hw _ (List.mem_of_getElem? (i := 31) rfl)) (hw _ (List.mem_of_getElem? (i := 25) rfl)) (hw _ (List.mem_of_getElem? (i := 32) rfl)) (by decide) (rm_co0 l Z a0 hw [] hcw hch o fa oa ka oL cK h0 n0 Z0 (ow_zk hzk hzn (Keep.refl h0 []) all0) hzn E_o F_v V_a (by first | assumption | decide | omega) (by first | assumption | decide | omega)) (LT.warm hI0) hS0 (Nat.zero_le _) e0 0 (by decide) (by decide) (by decide) (by decide) [(.ref o), (.ref fa)] (by rw [hml]; rfl) pd_19 rfl rfl rfl (Nat.le_of_eq rfl) (hb hby d_prog_41m3_6) (pc' := 9) rfl (fun v1 T1 L1 hQ1 X1 hS1 hZ hown => ?_)
  obtain ⟨z_1, rfl, Nc1, Kc1, P1_0⟩ := hQ1
  have P1_0 : z_1.toInt = 0 := P1_0
  have Zs1 : n0 ≤ T1.heap.size := Nat.le_trans Z0 Kc1.1
  have K1 := (Keep.refl h0 []).trans Kc1 all0
  have N1 := Fr.app N0 Nc1
  show Ends _ _ _ _ T1 (mkF m 9 #[.val (.ref o)] [(.int z_1)])
  exact ow_retBI X1 hx hret hlk (hb hby d_prog_41m3_9) hS1 (Nat.le_refl _) (by decide) (by decide) (z' := z_1) (ow_nar1 (by exact Or.inl (ow_eq P1_0))) (show Q_iu0 Z o oa ka oL h0 n0 _ T1.heap _ _ from ⟨z_1, rfl, N1, K1, P1_0⟩)
theorem pd_20 : parseMethodDescriptor "(I)C" = some ⟨[.int], some .char⟩ := by decide +kernel
theorem d_prog_41m6_9 : decode prog_41_method_6_code 9 = .ok (.iconst 0, 1) := by decide +kernel
theorem d_prog_41m6_10 : decode prog_41_method_6_code 10 = .ok (.istore_n 2, 1) := by decide +kernel
theorem d_prog_41m6_11 : decode prog_41_method_6_code 11 = .ok (.iload_n 2, 1) := by decide +kernel
theorem d_prog_41m6_12 : decode prog_41_method_6_code 12 = .ok (.aload_n 0, 1) := by decide +kernel
theorem d_prog_41m6_13 : decode prog_41_method_6_code 13 = .ok (.invokevirtual 36, 3) := by decide +kernel
theorem d_prog_41m6_16 : decode prog_41_method_6_code 16 = .ok (.if_icmp .ge 25, 3) := by decide +kernel
theorem d_prog_41m6_19 : decode prog_41_method_6_code 19 = .ok (.aload_n 1, 1) := by decide +kernel
theorem d_prog_41m6_20 : decode prog_41_method_6_code 20 = .ok (.aload_n 0, 1) := by decide +kernel
theorem d_prog_41m6_21 : decode prog_41_method_6_code 21 = .ok (.iload_n 2, 1) := by decide +kernel
theorem d_prog_41m6_22 : decode prog_41_method_6_code 22 = .ok (.invokevirtual 40, 3) := by decide +kernel
theorem d_prog_41m6_25 : decode prog_41_method_6_code 25 = .ok (.invokeinterface 44 2, 5) := by decide +kernel
theorem d_prog_41m6_30 : decode prog_41_method_6_code 30 = .ok (.ifCond .ne 5, 3) := by decide +kernel
theorem d_prog_41m6_33 : decode prog_41_method_6_code 33 = .ok (.iconst 0, 1) := by decide +kernel
theorem d_prog_41m6_34 : decode prog_41_method_6_code 34 = .ok (.ireturn, 1) := by decide +kernel
theorem d_prog_41m6_35 : decode prog_41_method_6_code 35 = .ok (.iinc 2 1, 3) := by decide +kernel
theorem d_prog_41m6_38 : decode prog_41_method_6_code 38 = .ok (.goto (-27), 3) := by decide +kernel
theorem d_prog_41m6_41 : decode prog_41_method_6_code 41 = .ok (.iconst 1, 1) := by decide +kernel
theorem d_prog_41m6_42 : decode prog_41_method_6_code 42 = .ok (.ireturn, 1) := by decide +kernel
def Q_co1 (Z : State) (o : Addr) (fa : Addr) (zc : Int32) (f : Nat → Int32) (pn : Int32) (wf : Value) (cK : ClassId) (h0 : Heap) (n0 : Nat) (v : Option Value) (h : Heap) (L : List Loc) (vm : Vm) : Prop := ∃ (z : Int32), (v = some (.int z)) ∧ (Fr n0 L) ∧ (Keep h0 h []) ∧ (((OKc (f (0 : Int32).toInt.toNat).toInt) ∧ z.toInt = 1) ∨ (¬ (OKc (f (0 : Int32).toInt.toNat).toInt) ∧ z.toInt = 0))
set_option maxRecDepth 65536 in
set_option maxHeartbeats 40000000 in
theorem rm_co1 (l : Launch) (Z : State) (a0 : Array Value) (hw : ∀ d ∈ tables_1, d.before a0 Z = true) (ws : List Jvm.Cond) (hcw : Jvm.Lit.compactW.before a0 Z = true) (hch : ∀ q ∈ consts_1, Jvm.Lit.constHeld Z q.1 q.2) (o : Addr) (fa : Addr) (zc : Int32) (f : Nat → Int32) (pn : Int32) (wf : Value) (cK : ClassId) (h0 : Heap) (n0 : Nat) (Z0 : n0 ≤ h0.size) (hzk : ∀ (b : Addr) (cl : Cell), Z.heap[b]? = some cl → h0[b]? = some cl) (hzn : Z.heap.size ≤ n0) (S_cs : Sta Z h0 "java/lang/String" "COMPACT_STRINGS" "Z" (.int zc)) (hz0 : ¬ zc.toInt = 0) (E_o : Exa Z h0 o "java/lang/String") (hS : StrIs Z h0 o pn f) (S_ad : Sta Z h0 "java/lang/StringUTF16" "$assertionsDisabled" "Z" (.int (1 : Int32))) (S_hi : Sta Z h0 "java/lang/StringUTF16" "HI_BYTE_SHIFT" "I" (.int (0 : Int32))) (S_lo : Sta Z h0 "java/lang/StringUTF16" "LO_BYTE_SHIFT" "I" (.int (8 : Int32))) (S_f : Sta Z h0 "jdk/internal/util/Preconditions" "SIOOBE_FORMATTER" "Ljava/util/function/BiFunction;" wf) (hwf : wf = .null ∨ ∃ a, wf = .ref a) (hn0 : 1 ≤ pn.toInt) (hn1 : pn.toInt ≤ 4) (hr : Rng f) (hpn : pn.toInt = 1) (hmd : LamKit.Made Z "com/example/inchworm/inchworm/store/HttpSyntax" ow_sh cK) (hfz : LamKit.FnAt Z.heap fa cK) :
    MetFree l (⟨"com/example/inchworm/inchworm/store/HttpSyntax", "consistsOf", "(Ljava/lang/String;Lcom/example/inchworm/inchworm/store/HttpSyntax$CharTest;)Z"⟩ : MethodName) (head1 (Jvm.Cond.code (⟨"com/example/inchworm/inchworm/store/HttpSyntax", "consistsOf", "(Ljava/lang/String;Lcom/example/inchworm/inchworm/store/HttpSyntax$CharTest;)Z"⟩ : MethodName) prog_41_method_6_code 3 (some .boolean) :: ws) ({ frames := 6, cells := 2, slots := 20, locals := 114 } : Room)) (fun a_ U_ => a_ = #[(.ref o), (.ref fa)] ∧ Z.Warmed39 U_.vm ∧ U_.heap = h0 ∧ LT Z [] [] U_.vm) (fun _ _ _ _ _ => True) (fun _ U_ o_ U_' => ∃ v_ L_, o_ = .returned v_ ∧ (Q_co1 Z o fa zc f pn wf cK h0 n0) v_ U_'.heap L_ U_'.vm ∧ ReturnedEndW U_ o_ U_' L_ 2 20) := by
  refine ow_bodyI (plainFor_of_name pn_4) ?_
  intro p e s m below meth c T0 X0 hx hZ hby hml hown hnm hret hlk e0 es hS0 hI0
  have N0 := Fr.nil n0
  refine Ends.cast (ef_co0 m o fa) ?_
  refine ow_aloadN X0 hx (hb hby d_prog_41m6_0) rfl rfl (pc' := 1) rfl ?_
  refine ow_callVPI X0 hx hZ rfl hown (hw _ (List.mem_of_getElem? (i := 33) rfl)) (hw _ (List.mem_of_getElem? (i := 34) rfl)) (hw _ (List.mem_of_getElem? (i := 36) rfl)) (hw _ (List.mem_of_getElem? (i := 35) rfl)) (hw _ (List.mem_of_getElem? (i := 4) rfl)) (hw _ (List.mem_of_getElem? (i := 37) rfl)) (by decide) (rm_iseS l Z a0 hw [] o f pn h0 (by first | assumption | decide | omega) (by first | assumption | decide | omega) (by first | assumption | decide | omega)) e0 0 (by decide) (by decide) (by decide) (by decide) [] (by rw [hml]; rfl) pd_4 rfl E_o rfl rfl (Nat.le_of_eq rfl) (hb hby d_prog_41m6_1) (pc' := 4) rfl (fun z1 T1 hz1 X1 e1 => ?_)
  have az1 : z1.toInt = 0 := hz1
  have rz1 := rng32 z1
  refine ow_if_eq X1 hx (z1.toInt) (hb hby d_prog_41m6_4) rfl (by decide) (pt := 9) (by decide) (pf := 7) rfl (fun c4 => ?_) (fun c4 => absurd c4 (by omega))
  refine ow_iconst X1 hx (z := (0 : Int32)) (hb hby d_prog_41m6_9) rfl (pc' := 10) rfl ?_
  refine ow_istoreN X1 hx (Ls' := #[.val (.ref o), .val (.ref fa), .val (.int (0 : Int32))]) (hb hby d_prog_41m6_10) rfl (pc' := 11) rfl ?_
  refine ow_iloadN X1 hx (hb hby d_prog_41m6_11) rfl (pc' := 12) rfl ?_
  refine ow_aloadN X1 hx (hb hby d_prog_41m6_12) rfl rfl (pc' := 13) rfl ?_
  refine ow_callVPI X1 hx hZ rfl hown (hw _ (List.mem_of_getElem? (i := 53) rfl)) (hw _ (List.mem_of_getElem? (i := 54) rfl)) (hw _ (List.mem_of_getElem? (i := 56) rfl)) (hw _ (List.mem_of_getElem? (i := 55) rfl)) (hw _ (List.mem_of_getElem? (i := 4) rfl)) (hw _ (List.mem_of_getElem? (i := 57) rfl)) (by decide) (rm_lenS l Z a0 hw [] o zc f pn h0 S_cs (by first | assumption | decide | omega) E_o (by first | assumption | decide | omega) (by first | assumption | decide | omega) (by first | assumption | decide | omega)) e1 1 (by decide) (by decide) (by decide) (by decide) [] (by rw [hml]; rfl) pd_5 rfl E_o rfl rfl (Nat.le_of_eq rfl) (hb hby d_prog_41m6_13) (pc' := 16) rfl (fun z2 T2 hz2 X2 e2 => ?_)
  have az2 : z2.toInt = pn.toInt := hz2
  have rz2 := rng32 z2
  refine ow_icmp_ge X2 hx ((0 : Int)) (z2.toInt) (hb hby d_prog_41m6_16) rfl rfl (by decide) (pt := 41) (by decide) (pf := 19) rfl (fun c16 => absurd c16 (by omega)) (fun c16 => ?_)
  refine ow_aloadN X2 hx (hb hby d_prog_41m6_19) rfl rfl (pc' := 20) rfl ?_
  refine ow_aloadN X2 hx (hb hby d_prog_41m6_20) rfl rfl (pc' := 21) rfl ?_
  refine ow_iloadN X2 hx (hb hby d_prog_41m6_21) rfl (pc' := 22) rfl ?_
  refine ow_callVPI X2 hx hZ rfl hown (hw _ (List.mem_of_getElem? (i := 63) rfl)) (hw _ (List.mem_of_getElem? (i := 64) rfl)) (hw _ (List.mem_of_getElem? (i := 66) rfl)) (hw _ (List.mem_of_getElem? (i := 65) rfl)) (hw _ (List.mem_of_getElem? (i := 4) rfl)) (hw _ (List.mem_of_getElem? (i := 67) rfl)) (by decide) (rm_chaS l Z a0 hw [] o (0 : Int32) zc f pn wf h0 S_cs (by first | assumption | decide | omega | (have q0_ : (0 : Int32).toInt = 0 := (by decide); omega)) E_o (by first | assumption | decide | omega | (have q0_ : (0 : Int32).toInt = 0 := (by decide); omega)) S_ad S_hi S_lo S_f (by first | assumption | decide | omega | (have q0_ : (0 : Int32).toInt = 0 := (by decide); omega)) (by first | assumption | decide | omega | (have q0_ : (0 : Int32).toInt = 0 := (by decide); omega)) (by first | assumption | decide | omega | (have q0_ : (0 : Int32).toInt = 0 := (by decide); omega)) (by first | assumption | decide | omega | (have q0_ : (0 : Int32).toInt = 0 := (by decide); omega)) (by first | assumption | decide | omega | (have q0_ : (0 : Int32).toInt = 0 := (by decide); omega)) (by first | assumption | decide | omega | (have q0_ : (0 : Int32).toInt = 0 := (by decide); omega))) e2 1 (by decide) (by decide) (by decide) (by decide) [(.int (0 : Int32))] (by rw [hml]; rfl) pd_20 rfl E_o rfl rfl (Nat.le_of_eq rfl) (hb hby d_prog_41m6_22) (pc' := 25) rfl (fun z3 T3 hz3 X3 e3 => ?_)
  have az3 : z3.toInt = (f (0 : Int32).toInt.toNat).toInt := hz3
  have rz3 := rng32 z3
  have rr0 := hr (0 : Int32).toInt.toNat
  by_cases han : ((97 ≤ z3.toInt ∧ z3.toInt ≤ 122) ∨ (65 ≤ z3.toInt ∧ z3.toInt ≤ 90) ∨ (48 ≤ z3.toInt ∧ z3.toInt ≤ 57))
  · refine ow_callLam X3 hx hZ hown (hw _ (List.mem_of_getElem? (i := 85) rfl)) (hw _ (List.mem_of_getElem? (i := 86) rfl)) (hw _ (List.mem_of_getElem? (i := 87) rfl)) (hw _ (List.mem_of_getElem? (i := 88) rfl)) (hw _ (List.mem_of_getElem? (i := 25) rfl)) (hw _ (List.mem_of_getElem? (i := 89) rfl)) ⟨by decide +kernel, by decide +kernel, by decide +kernel⟩ ⟨by decide +kernel, by decide +kernel, by decide +kernel⟩ (by decide) (by decide) hmd (ow_fn hfz (ow_zk hzk hzn (Keep.refl h0 []) all0)) ow_fok ow_fd0 ow_fd1 ow_fd4 (rm_unA l Z a0 hw [] hcw hch z3 h0 n0 Z0 (ow_zk hzk hzn (Keep.refl h0 []) all0) hzn (by first | assumption | decide | omega)) (fun v_ h_ L_ vm_ q_ => by obtain ⟨z_, rfl, -, -, p_, -⟩ := q_; exact ⟨z_, rfl, ow_nar1 (by rcases (show z_.toInt = 0 ∨ z_.toInt = 1 from by omega) with w_ | w_; exact Or.inl (ow_eq w_); exact Or.inr (ow_eq w_))⟩) (LT.warm hI0) hS0 (Nat.zero_le _) e3 0 (by decide) (by decide) (by decide) (by decide) (by rw [hml]; rfl) pd_18 rfl pd_18 rfl (Nat.le_of_eq rfl) (hb hby d_prog_41m6_25) (pc' := 30) rfl (fun v4 T4 L4 hQ4 X4 hS4 hZ hown => ?_)
    obtain ⟨z_4, rfl, Nc4, Kc4, P4_0, hI4⟩ := hQ4
    have P4_0 : z_4.toInt = 1 := P4_0
    have Zs4 : n0 ≤ T4.heap.size := Nat.le_trans Z0 Kc4.1
    have K4 := (Keep.refl h0 []).trans Kc4 all0
    have N4 := Fr.app N0 Nc4
    show Ends _ _ _ _ T4 (mkF m 30 #[.val (.ref o), .val (.ref fa), .val (.int (0 : Int32))] [(.int z_4)])
    have hS5 := StrIs.keep hS K4
    have hO5 : (OKc (f (0 : Int32).toInt.toNat).toInt ∧ z_4.toInt = 1) ∨ (¬ OKc (f (0 : Int32).toInt.toNat).toInt ∧ z_4.toInt = 0) := by rw [← az3]; have p_ := P4_0; unfold OKc; omega
    refine ow_if_ne X4 hx (z_4.toInt) (hb hby d_prog_41m6_30) rfl (by decide) (pt := 35) (by decide) (pf := 33) rfl (fun c30 => ?_) (fun c30 => ?_)
    · have hk0 : OKc (f (0 : Int32).toInt.toNat).toInt := by rcases hO5 with q_ | q_; exact q_.1; exact absurd q_.2 (by omega)
      refine ow_iinc X4 hx (Ls' := #[.val (.ref o), .val (.ref fa), .val (.int (0 : Int32))]) (hb hby d_prog_41m6_35) rfl (fun z => rfl) (pc' := 38) rfl (fun z6 hz6 => ?_)
      obtain rfl : z6 = (1 : Int32) := hz6.trans (by decide)
      show Ends _ _ _ _ T4 (mkF m 38 #[.val (.ref o), .val (.ref fa), .val (.int (1 : Int32))] [])
      refine ow_goto X4 hx (hb hby d_prog_41m6_38) (by decide) (pc' := 11) (by decide) ?_
      refine ow_iloadN X4 hx (hb hby d_prog_41m6_11) rfl (pc' := 12) rfl ?_
      refine ow_aloadN X4 hx (hb hby d_prog_41m6_12) rfl rfl (pc' := 13) rfl ?_
      refine ow_callVPI X4 hx hZ rfl hown (hw _ (List.mem_of_getElem? (i := 53) rfl)) (hw _ (List.mem_of_getElem? (i := 54) rfl)) (hw _ (List.mem_of_getElem? (i := 56) rfl)) (hw _ (List.mem_of_getElem? (i := 55) rfl)) (hw _ (List.mem_of_getElem? (i := 4) rfl)) (hw _ (List.mem_of_getElem? (i := 57) rfl)) (by decide) (rm_lenS l Z a0 hw [] o zc f pn T4.heap (ow_staKeep S_cs K4 all0) (by first | assumption | decide | omega) (E_o.keep K4) (by first | assumption | decide | omega) (by first | assumption | decide | omega) (by first | assumption | decide | omega)) rfl 1 (by decide) (by decide) (by decide) (by decide) [] (by rw [hml]; rfl) pd_5 rfl (E_o.keep K4) rfl rfl (Nat.le_of_eq rfl) (hb hby d_prog_41m6_13) (pc' := 16) rfl (fun z7 T7 hz7 X7 e7 => ?_)
      have az7 : z7.toInt = pn.toInt := hz7
      have rz7 := rng32 z7
      refine ow_icmp_ge X7 hx ((1 : Int)) (z7.toInt) (hb hby d_prog_41m6_16) rfl rfl (by decide) (pt := 41) (by decide) (pf := 19) rfl (fun c16 => ?_) (fun c16 => absurd c16 (by omega))
      refine ow_iconst X7 hx (z := (1 : Int32)) (hb hby d_prog_41m6_41) rfl (pc' := 42) rfl ?_
      exact ow_retBI X7 hx hret hlk (hb hby d_prog_41m6_42) hS4 (by rw [e7]; exact (Nat.le_refl _)) (by decide) (by decide) (z' := (1 : Int32)) rfl (show Q_co1 Z o fa zc f pn wf cK h0 n0 _ T7.heap _ _ from by rw [e7]; exact ⟨(1 : Int32), rfl, N4, K4, (show ((OKc (f (0 : Int32).toInt.toNat).toInt) ∧ (1 : Int) = 1) ∨ (¬ (OKc (f (0 : Int32).toInt.toNat).toInt) ∧ (1 : Int) = 0) from Or.inl ⟨hk0, by decide⟩)⟩)
    · have hk0 : ¬ OKc (f (0 : Int32).toInt.toNat).toInt := by rcases hO5 with q_ | q_; exact absurd q_.2 (by omega); exact q_.1
      refine ow_iconst X4 hx (z := (0 : Int32)) (hb hby d_prog_41m6_33) rfl (pc' := 34) rfl ?_
      exact ow_retBI X4 hx hret hlk (hb hby d_prog_41m6_34) hS4 (Nat.le_refl _) (by decide) (by decide) (z' := (0 : Int32)) rfl (show Q_co1 Z o fa zc f pn wf cK h0 n0 _ T4.heap _ _ from ⟨(0 : Int32), rfl, N4, K4, (show ((OKc (f (0 : Int32).toInt.toNat).toInt) ∧ (0 : Int) = 1) ∨ (¬ (OKc (f (0 : Int32).toInt.toNat).toInt) ∧ (0 : Int) = 0) from Or.inr ⟨fun q_ => hk0 q_, by decide⟩)⟩)
  · refine ow_callLam X3 hx hZ hown (hw _ (List.mem_of_getElem? (i := 85) rfl)) (hw _ (List.mem_of_getElem? (i := 86) rfl)) (hw _ (List.mem_of_getElem? (i := 87) rfl)) (hw _ (List.mem_of_getElem? (i := 88) rfl)) (hw _ (List.mem_of_getElem? (i := 25) rfl)) (hw _ (List.mem_of_getElem? (i := 89) rfl)) ⟨by decide +kernel, by decide +kernel, by decide +kernel⟩ ⟨by decide +kernel, by decide +kernel, by decide +kernel⟩ (by decide) (by decide) hmd (ow_fn hfz (ow_zk hzk hzn (Keep.refl h0 []) all0)) ow_fok ow_fd0 ow_fd1 ow_fd4 (rm_unN l Z a0 hw [] hcw hch z3 zc h0 n0 Z0 (ow_zk hzk hzn (Keep.refl h0 []) all0) hzn S_cs (by first | assumption | decide | omega) (by first | assumption | decide | omega) (by first | assumption | decide | omega) (by first | assumption | decide | omega)) (fun v_ h_ L_ vm_ q_ => by obtain ⟨z_, oL_, ot_, kt_, rfl, -, -, p_, -, -, -, -, -⟩ := q_; exact ⟨z_, rfl, ow_nar1 (by rcases (show z_.toInt = 0 ∨ z_.toInt = 1 from by omega) with w_ | w_; exact Or.inl (ow_eq w_); exact Or.inr (ow_eq w_))⟩) (LT.warm hI0) hS0 (Nat.zero_le _) e3 0 (by decide) (by decide) (by decide) (by decide) (by rw [hml]; rfl) pd_18 rfl pd_18 rfl (Nat.le_of_eq rfl) (hb hby d_prog_41m6_25) (pc' := 30) rfl (fun v8 T8 L8 hQ8 X8 hS8 hZ hown => ?_)
    obtain ⟨z_8, b8a, b8b, kt_8, rfl, Nc8, Kc8, P8_0, P8_1, P8_2, P8_3, P8_4, hI8⟩ := hQ8
    have P8_0 : ((z3.toInt = 45 ∨ z3.toInt = 46 ∨ z3.toInt = 95 ∨ z3.toInt = 126) ∧ z_8.toInt = 1) ∨ (¬ (z3.toInt = 45 ∨ z3.toInt = 46 ∨ z3.toInt = 95 ∨ z3.toInt = 126) ∧ z_8.toInt = 0) := P8_0
    have Zs8 : n0 ≤ T8.heap.size := Nat.le_trans Z0 Kc8.1
    have K8 := (Keep.refl h0 []).trans Kc8 all0
    have N8 := Fr.app N0 Nc8
    show Ends _ _ _ _ T8 (mkF m 30 #[.val (.ref o), .val (.ref fa), .val (.int (0 : Int32))] [(.int z_8)])
    have hS9 := StrIs.keep hS K8
    have hO9 : (OKc (f (0 : Int32).toInt.toNat).toInt ∧ z_8.toInt = 1) ∨ (¬ OKc (f (0 : Int32).toInt.toNat).toInt ∧ z_8.toInt = 0) := by rw [← az3]; have p_ := P8_0; unfold OKc; omega
    refine ow_if_ne X8 hx (z_8.toInt) (hb hby d_prog_41m6_30) rfl (by decide) (pt := 35) (by decide) (pf := 33) rfl (fun c30 => ?_) (fun c30 => ?_)
    · have hk0 : OKc (f (0 : Int32).toInt.toNat).toInt := by rcases hO9 with q_ | q_; exact q_.1; exact absurd q_.2 (by omega)
      refine ow_iinc X8 hx (Ls' := #[.val (.ref o), .val (.ref fa), .val (.int (0 : Int32))]) (hb hby d_prog_41m6_35) rfl (fun z => rfl) (pc' := 38) rfl (fun z10 hz10 => ?_)
      obtain rfl : z10 = (1 : Int32) := hz10.trans (by decide)
      show Ends _ _ _ _ T8 (mkF m 38 #[.val (.ref o), .val (.ref fa), .val (.int (1 : Int32))] [])
      refine ow_goto X8 hx (hb hby d_prog_41m6_38) (by decide) (pc' := 11) (by decide) ?_
      refine ow_iloadN X8 hx (hb hby d_prog_41m6_11) rfl (pc' := 12) rfl ?_
      refine ow_aloadN X8 hx (hb hby d_prog_41m6_12) rfl rfl (pc' := 13) rfl ?_
      refine ow_callVPI X8 hx hZ rfl hown (hw _ (List.mem_of_getElem? (i := 53) rfl)) (hw _ (List.mem_of_getElem? (i := 54) rfl)) (hw _ (List.mem_of_getElem? (i := 56) rfl)) (hw _ (List.mem_of_getElem? (i := 55) rfl)) (hw _ (List.mem_of_getElem? (i := 4) rfl)) (hw _ (List.mem_of_getElem? (i := 57) rfl)) (by decide) (rm_lenS l Z a0 hw [] o zc f pn T8.heap (ow_staKeep S_cs K8 all0) (by first | assumption | decide | omega) (E_o.keep K8) (by first | assumption | decide | omega) (by first | assumption | decide | omega) (by first | assumption | decide | omega)) rfl 1 (by decide) (by decide) (by decide) (by decide) [] (by rw [hml]; rfl) pd_5 rfl (E_o.keep K8) rfl rfl (Nat.le_of_eq rfl) (hb hby d_prog_41m6_13) (pc' := 16) rfl (fun z11 T11 hz11 X11 e11 => ?_)
      have az11 : z11.toInt = pn.toInt := hz11
      have rz11 := rng32 z11
      refine ow_icmp_ge X11 hx ((1 : Int)) (z11.toInt) (hb hby d_prog_41m6_16) rfl rfl (by decide) (pt := 41) (by decide) (pf := 19) rfl (fun c16 => ?_) (fun c16 => absurd c16 (by omega))
      refine ow_iconst X11 hx (z := (1 : Int32)) (hb hby d_prog_41m6_41) rfl (pc' := 42) rfl ?_
      exact ow_retBI X11 hx hret hlk (hb hby d_prog_41m6_42) hS8 (by rw [e11]; exact (Nat.le_refl _)) (by decide) (by decide) (z' := (1 : Int32)) rfl (show Q_co1 Z o fa zc f pn wf cK h0 n0 _ T11.heap _ _ from by rw [e11]; exact ⟨(1 : Int32), rfl, N8, K8, (show ((OKc (f (0 : Int32).toInt.toNat).toInt) ∧ (1 : Int) = 1) ∨ (¬ (OKc (f (0 : Int32).toInt.toNat).toInt) ∧ (1 : Int) = 0) from Or.inl ⟨hk0, by decide⟩)⟩)
    · have hk0 : ¬ OKc (f (0 : Int32).toInt.toNat).toInt := by rcases hO9 with q_ | q_; exact absurd q_.2 (by omega); exact q_.1
      refine ow_iconst X8 hx (z := (0 : Int32)) (hb hby d_prog_41m6_33) rfl (pc' := 34) rfl ?_
      exact ow_retBI X8 hx hret hlk (hb hby d_prog_41m6_34) hS8 (Nat.le_refl _) (by decide) (by decide) (z' := (0 : Int32)) rfl (show Q_co1 Z o fa zc f pn wf cK h0 n0 _ T8.heap _ _ from ⟨(0 : Int32), rfl, N8, K8, (show ((OKc (f (0 : Int32).toInt.toNat).toInt) ∧ (0 : Int) = 1) ∨ (¬ (OKc (f (0 : Int32).toInt.toNat).toInt) ∧ (0 : Int) = 0) from Or.inr ⟨fun q_ => hk0 q_, by decide⟩)⟩)
def Q_iu1 (Z : State) (o : Addr) (zc : Int32) (f : Nat → Int32) (pn : Int32) (wf : Value) (h0 : Heap) (n0 : Nat) (v : Option Value) (h : Heap) (L : List Loc) (vm : Vm) : Prop := ∃ (z : Int32), (v = some (.int z)) ∧ (Fr n0 L) ∧ (Keep h0 h []) ∧ (((OKc (f (0 : Int32).toInt.toNat).toInt) ∧ z.toInt = 1) ∨ (¬ (OKc (f (0 : Int32).toInt.toNat).toInt) ∧ z.toInt = 0))
set_option maxRecDepth 65536 in
set_option maxHeartbeats 40000000 in
theorem rm_iu1 (l : Launch) (Z : State) (a0 : Array Value) (hw : ∀ d ∈ tables_1, d.before a0 Z = true) (ws : List Jvm.Cond) (hcw : Jvm.Lit.compactW.before a0 Z = true) (hch : ∀ q ∈ consts_1, Jvm.Lit.constHeld Z q.1 q.2) (o : Addr) (zc : Int32) (f : Nat → Int32) (pn : Int32) (wf : Value) (h0 : Heap) (n0 : Nat) (Z0 : n0 ≤ h0.size) (hzk : ∀ (b : Addr) (cl : Cell), Z.heap[b]? = some cl → h0[b]? = some cl) (hzn : Z.heap.size ≤ n0) (S_cs : Sta Z h0 "java/lang/String" "COMPACT_STRINGS" "Z" (.int zc)) (hz0 : ¬ zc.toInt = 0) (E_o : Exa Z h0 o "java/lang/String") (hS : StrIs Z h0 o pn f) (S_ad : Sta Z h0 "java/lang/StringUTF16" "$assertionsDisabled" "Z" (.int (1 : Int32))) (S_hi : Sta Z h0 "java/lang/StringUTF16" "HI_BYTE_SHIFT" "I" (.int (0 : Int32))) (S_lo : Sta Z h0 "java/lang/StringUTF16" "LO_BYTE_SHIFT" "I" (.int (8 : Int32))) (S_f : Sta Z h0 "jdk/internal/util/Preconditions" "SIOOBE_FORMATTER" "Ljava/util/function/BiFunction;" wf) (hwf : wf = .null ∨ ∃ a, wf = .ref a) (hn0 : 1 ≤ pn.toInt) (hn1 : pn.toInt ≤ 4) (hr : Rng f) (hpn : pn.toInt = 1) :
    MetFree l (⟨"com/example/inchworm/inchworm/store/HttpSyntax", "isUnreserved", "(Ljava/lang/String;)Z"⟩ : MethodName) (head1 (Jvm.Cond.code (⟨"com/example/inchworm/inchworm/store/HttpSyntax", "isUnreserved", "(Ljava/lang/String;)Z"⟩ : MethodName) prog_41_method_3_code 1 (some .boolean) :: ws) ({ frames := 7, cells := 2, slots := 20, locals := 3073 } : Room)) (fun a_ U_ => a_ = #[(.ref o)] ∧ Z.Warmed39 U_.vm ∧ U_.heap = h0 ∧ LT Z [] [] U_.vm) (fun _ _ _ _ _ => True) (fun _ U_ o_ U_' => ∃ v_ L_, o_ = .returned v_ ∧ (Q_iu1 Z o zc f pn wf h0 n0) v_ U_'.heap L_ U_'.vm ∧ ReturnedEndW U_ o_ U_' L_ 2 20) := by
  refine ow_bodyIN (plainFor_of_name pn_4) ?_
  intro p e s m below meth c T0 X0 hx hZ hby hml hown hnm hret hlk e0 es hS0 hI0 hnmd
  have N0 := Fr.nil n0
  refine Ends.cast (ef_iu0 m o) ?_
  obtain ⟨fa, cK, mD, kD, i0, p0, hm1, hm2, hm3, hmd, hfz⟩ := ow_lamZ (hw _ (List.mem_of_getElem? (i := 27) rfl)) rfl
  have hmd : LamKit.Made Z "com/example/inchworm/inchworm/store/HttpSyntax" ow_sh cK := hmd
  refine ow_aloadN X0 hx (hb hby d_prog_41m3_0) rfl rfl (pc' := 1) rfl ?_
  refine ow_indy X0 hx hZ hnmd hm1 hm2 hm3 (by rw [hml]; rfl) (W := 1) (Nat.le_of_eq rfl) (by decide) (hb hby d_prog_41m3_1) (pc' := 6) rfl ?_
  refine ow_callSI X0 hx hZ hown (hw _ (List.mem_of_getElem? (i := 30) rfl)) (hw _ (List.mem_of_getElem? (i := 31) rfl)) (hw _ (List.mem_of_getElem? (i := 25) rfl)) (hw _ (List.mem_of_getElem? (i := 32) rfl)) (by decide) (rm_co1 l Z a0 hw [] hcw hch o fa zc f pn wf cK h0 n0 Z0 (ow_zk hzk hzn (Keep.refl h0 []) all0) hzn S_cs (by first | assumption | decide | omega) E_o (by first | assumption | decide | omega) S_ad S_hi S_lo S_f (by first | assumption | decide | omega) (by first | assumption | decide | omega) (by first | assumption | decide | omega) (by first | assumption | decide | omega) (by first | assumption | decide | omega) (by first | assumption | decide | omega) (by first | assumption | decide | omega)) (LT.warm hI0) hS0 (Nat.zero_le _) e0 0 (by decide) (by decide) (by decide) (by decide) [(.ref o), (.ref fa)] (by rw [hml]; rfl) pd_19 rfl rfl rfl (Nat.le_of_eq rfl) (hb hby d_prog_41m3_6) (pc' := 9) rfl (fun v1 T1 L1 hQ1 X1 hS1 hZ hown => ?_)
  obtain ⟨z_1, rfl, Nc1, Kc1, P1_0⟩ := hQ1
  have P1_0 : ((OKc (f (0 : Int32).toInt.toNat).toInt) ∧ z_1.toInt = 1) ∨ (¬ (OKc (f (0 : Int32).toInt.toNat).toInt) ∧ z_1.toInt = 0) := P1_0
  have Zs1 : n0 ≤ T1.heap.size := Nat.le_trans Z0 Kc1.1
  have K1 := (Keep.refl h0 []).trans Kc1 all0
  have N1 := Fr.app N0 Nc1
  show Ends _ _ _ _ T1 (mkF m 9 #[.val (.ref o)] [(.int z_1)])
  exact ow_retBI X1 hx hret hlk (hb hby d_prog_41m3_9) hS1 (Nat.le_refl _) (by decide) (by decide) (z' := z_1) (ow_nar1 (by rcases P1_0 with q_ | q_; exact Or.inr (ow_eq q_.2); exact Or.inl (ow_eq q_.2))) (show Q_iu1 Z o zc f pn wf h0 n0 _ T1.heap _ _ from ⟨z_1, rfl, N1, K1, P1_0⟩)
def Q_co2 (Z : State) (o : Addr) (fa : Addr) (zc : Int32) (f : Nat → Int32) (pn : Int32) (wf : Value) (cK : ClassId) (h0 : Heap) (n0 : Nat) (v : Option Value) (h : Heap) (L : List Loc) (vm : Vm) : Prop := ∃ (z : Int32), (v = some (.int z)) ∧ (Fr n0 L) ∧ (Keep h0 h []) ∧ (((OKc (f (0 : Int32).toInt.toNat).toInt ∧ OKc (f (1 : Int32).toInt.toNat).toInt) ∧ z.toInt = 1) ∨ (¬ (OKc (f (0 : Int32).toInt.toNat).toInt ∧ OKc (f (1 : Int32).toInt.toNat).toInt) ∧ z.toInt = 0))
set_option maxRecDepth 65536 in
set_option maxHeartbeats 40000000 in
theorem rm_co2 (l : Launch) (Z : State) (a0 : Array Value) (hw : ∀ d ∈ tables_1, d.before a0 Z = true) (ws : List Jvm.Cond) (hcw : Jvm.Lit.compactW.before a0 Z = true) (hch : ∀ q ∈ consts_1, Jvm.Lit.constHeld Z q.1 q.2) (o : Addr) (fa : Addr) (zc : Int32) (f : Nat → Int32) (pn : Int32) (wf : Value) (cK : ClassId) (h0 : Heap) (n0 : Nat) (Z0 : n0 ≤ h0.size) (hzk : ∀ (b : Addr) (cl : Cell), Z.heap[b]? = some cl → h0[b]? = some cl) (hzn : Z.heap.size ≤ n0) (S_cs : Sta Z h0 "java/lang/String" "COMPACT_STRINGS" "Z" (.int zc)) (hz0 : ¬ zc.toInt = 0) (E_o : Exa Z h0 o "java/lang/String") (hS : StrIs Z h0 o pn f) (S_ad : Sta Z h0 "java/lang/StringUTF16" "$assertionsDisabled" "Z" (.int (1 : Int32))) (S_hi : Sta Z h0 "java/lang/StringUTF16" "HI_BYTE_SHIFT" "I" (.int (0 : Int32))) (S_lo : Sta Z h0 "java/lang/StringUTF16" "LO_BYTE_SHIFT" "I" (.int (8 : Int32))) (S_f : Sta Z h0 "jdk/internal/util/Preconditions" "SIOOBE_FORMATTER" "Ljava/util/function/BiFunction;" wf) (hwf : wf = .null ∨ ∃ a, wf = .ref a) (hn0 : 1 ≤ pn.toInt) (hn1 : pn.toInt ≤ 4) (hr : Rng f) (hpn : pn.toInt = 2) (hmd : LamKit.Made Z "com/example/inchworm/inchworm/store/HttpSyntax" ow_sh cK) (hfz : LamKit.FnAt Z.heap fa cK) :
    MetFree l (⟨"com/example/inchworm/inchworm/store/HttpSyntax", "consistsOf", "(Ljava/lang/String;Lcom/example/inchworm/inchworm/store/HttpSyntax$CharTest;)Z"⟩ : MethodName) (head1 (Jvm.Cond.code (⟨"com/example/inchworm/inchworm/store/HttpSyntax", "consistsOf", "(Ljava/lang/String;Lcom/example/inchworm/inchworm/store/HttpSyntax$CharTest;)Z"⟩ : MethodName) prog_41_method_6_code 3 (some .boolean) :: ws) ({ frames := 6, cells := 2, slots := 20, locals := 114 } : Room)) (fun a_ U_ => a_ = #[(.ref o), (.ref fa)] ∧ Z.Warmed39 U_.vm ∧ U_.heap = h0 ∧ LT Z [] [] U_.vm) (fun _ _ _ _ _ => True) (fun _ U_ o_ U_' => ∃ v_ L_, o_ = .returned v_ ∧ (Q_co2 Z o fa zc f pn wf cK h0 n0) v_ U_'.heap L_ U_'.vm ∧ ReturnedEndW U_ o_ U_' L_ 2 20) := by
  refine ow_bodyI (plainFor_of_name pn_4) ?_
  intro p e s m below meth c T0 X0 hx hZ hby hml hown hnm hret hlk e0 es hS0 hI0
  have N0 := Fr.nil n0
  refine Ends.cast (ef_co0 m o fa) ?_
  refine ow_aloadN X0 hx (hb hby d_prog_41m6_0) rfl rfl (pc' := 1) rfl ?_
  refine ow_callVPI X0 hx hZ rfl hown (hw _ (List.mem_of_getElem? (i := 33) rfl)) (hw _ (List.mem_of_getElem? (i := 34) rfl)) (hw _ (List.mem_of_getElem? (i := 36) rfl)) (hw _ (List.mem_of_getElem? (i := 35) rfl)) (hw _ (List.mem_of_getElem? (i := 4) rfl)) (hw _ (List.mem_of_getElem? (i := 37) rfl)) (by decide) (rm_iseS l Z a0 hw [] o f pn h0 (by first | assumption | decide | omega) (by first | assumption | decide | omega) (by first | assumption | decide | omega)) e0 0 (by decide) (by decide) (by decide) (by decide) [] (by rw [hml]; rfl) pd_4 rfl E_o rfl rfl (Nat.le_of_eq rfl) (hb hby d_prog_41m6_1) (pc' := 4) rfl (fun z1 T1 hz1 X1 e1 => ?_)
  have az1 : z1.toInt = 0 := hz1
  have rz1 := rng32 z1
  refine ow_if_eq X1 hx (z1.toInt) (hb hby d_prog_41m6_4) rfl (by decide) (pt := 9) (by decide) (pf := 7) rfl (fun c4 => ?_) (fun c4 => absurd c4 (by omega))
  refine ow_iconst X1 hx (z := (0 : Int32)) (hb hby d_prog_41m6_9) rfl (pc' := 10) rfl ?_
  refine ow_istoreN X1 hx (Ls' := #[.val (.ref o), .val (.ref fa), .val (.int (0 : Int32))]) (hb hby d_prog_41m6_10) rfl (pc' := 11) rfl ?_
  refine ow_iloadN X1 hx (hb hby d_prog_41m6_11) rfl (pc' := 12) rfl ?_
  refine ow_aloadN X1 hx (hb hby d_prog_41m6_12) rfl rfl (pc' := 13) rfl ?_
  refine ow_callVPI X1 hx hZ rfl hown (hw _ (List.mem_of_getElem? (i := 53) rfl)) (hw _ (List.mem_of_getElem? (i := 54) rfl)) (hw _ (List.mem_of_getElem? (i := 56) rfl)) (hw _ (List.mem_of_getElem? (i := 55) rfl)) (hw _ (List.mem_of_getElem? (i := 4) rfl)) (hw _ (List.mem_of_getElem? (i := 57) rfl)) (by decide) (rm_lenS l Z a0 hw [] o zc f pn h0 S_cs (by first | assumption | decide | omega) E_o (by first | assumption | decide | omega) (by first | assumption | decide | omega) (by first | assumption | decide | omega)) e1 1 (by decide) (by decide) (by decide) (by decide) [] (by rw [hml]; rfl) pd_5 rfl E_o rfl rfl (Nat.le_of_eq rfl) (hb hby d_prog_41m6_13) (pc' := 16) rfl (fun z2 T2 hz2 X2 e2 => ?_)
  have az2 : z2.toInt = pn.toInt := hz2
  have rz2 := rng32 z2
  refine ow_icmp_ge X2 hx ((0 : Int)) (z2.toInt) (hb hby d_prog_41m6_16) rfl rfl (by decide) (pt := 41) (by decide) (pf := 19) rfl (fun c16 => absurd c16 (by omega)) (fun c16 => ?_)
  refine ow_aloadN X2 hx (hb hby d_prog_41m6_19) rfl rfl (pc' := 20) rfl ?_
  refine ow_aloadN X2 hx (hb hby d_prog_41m6_20) rfl rfl (pc' := 21) rfl ?_
  refine ow_iloadN X2 hx (hb hby d_prog_41m6_21) rfl (pc' := 22) rfl ?_
  refine ow_callVPI X2 hx hZ rfl hown (hw _ (List.mem_of_getElem? (i := 63) rfl)) (hw _ (List.mem_of_getElem? (i := 64) rfl)) (hw _ (List.mem_of_getElem? (i := 66) rfl)) (hw _ (List.mem_of_getElem? (i := 65) rfl)) (hw _ (List.mem_of_getElem? (i := 4) rfl)) (hw _ (List.mem_of_getElem? (i := 67) rfl)) (by decide) (rm_chaS l Z a0 hw [] o (0 : Int32) zc f pn wf h0 S_cs (by first | assumption | decide | omega | (have q0_ : (0 : Int32).toInt = 0 := (by decide); omega)) E_o (by first | assumption | decide | omega | (have q0_ : (0 : Int32).toInt = 0 := (by decide); omega)) S_ad S_hi S_lo S_f (by first | assumption | decide | omega | (have q0_ : (0 : Int32).toInt = 0 := (by decide); omega)) (by first | assumption | decide | omega | (have q0_ : (0 : Int32).toInt = 0 := (by decide); omega)) (by first | assumption | decide | omega | (have q0_ : (0 : Int32).toInt = 0 := (by decide); omega)) (by first | assumption | decide | omega | (have q0_ : (0 : Int32).toInt = 0 := (by decide); omega)) (by first | assumption | decide | omega | (have q0_ : (0 : Int32).toInt = 0 := (by decide); omega)) (by first | assumption | decide | omega | (have q0_ : (0 : Int32).toInt = 0 := (by decide); omega))) e2 1 (by decide) (by decide) (by decide) (by decide) [(.int (0 : Int32))] (by rw [hml]; rfl) pd_20 rfl E_o rfl rfl (Nat.le_of_eq rfl) (hb hby d_prog_41m6_22) (pc' := 25) rfl (fun z3 T3 hz3 X3 e3 => ?_)
  have az3 : z3.toInt = (f (0 : Int32).toInt.toNat).toInt := hz3
  have rz3 := rng32 z3
  have rr0 := hr (0 : Int32).toInt.toNat
  by_cases han : ((97 ≤ z3.toInt ∧ z3.toInt ≤ 122) ∨ (65 ≤ z3.toInt ∧ z3.toInt ≤ 90) ∨ (48 ≤ z3.toInt ∧ z3.toInt ≤ 57))
  · refine ow_callLam X3 hx hZ hown (hw _ (List.mem_of_getElem? (i := 85) rfl)) (hw _ (List.mem_of_getElem? (i := 86) rfl)) (hw _ (List.mem_of_getElem? (i := 87) rfl)) (hw _ (List.mem_of_getElem? (i := 88) rfl)) (hw _ (List.mem_of_getElem? (i := 25) rfl)) (hw _ (List.mem_of_getElem? (i := 89) rfl)) ⟨by decide +kernel, by decide +kernel, by decide +kernel⟩ ⟨by decide +kernel, by decide +kernel, by decide +kernel⟩ (by decide) (by decide) hmd (ow_fn hfz (ow_zk hzk hzn (Keep.refl h0 []) all0)) ow_fok ow_fd0 ow_fd1 ow_fd4 (rm_unA l Z a0 hw [] hcw hch z3 h0 n0 Z0 (ow_zk hzk hzn (Keep.refl h0 []) all0) hzn (by first | assumption | decide | omega)) (fun v_ h_ L_ vm_ q_ => by obtain ⟨z_, rfl, -, -, p_, -⟩ := q_; exact ⟨z_, rfl, ow_nar1 (by rcases (show z_.toInt = 0 ∨ z_.toInt = 1 from by omega) with w_ | w_; exact Or.inl (ow_eq w_); exact Or.inr (ow_eq w_))⟩) (LT.warm hI0) hS0 (Nat.zero_le _) e3 0 (by decide) (by decide) (by decide) (by decide) (by rw [hml]; rfl) pd_18 rfl pd_18 rfl (Nat.le_of_eq rfl) (hb hby d_prog_41m6_25) (pc' := 30) rfl (fun v4 T4 L4 hQ4 X4 hS4 hZ hown => ?_)
    obtain ⟨z_4, rfl, Nc4, Kc4, P4_0, hI4⟩ := hQ4
    have P4_0 : z_4.toInt = 1 := P4_0
    have Zs4 : n0 ≤ T4.heap.size := Nat.le_trans Z0 Kc4.1
    have K4 := (Keep.refl h0 []).trans Kc4 all0
    have N4 := Fr.app N0 Nc4
    show Ends _ _ _ _ T4 (mkF m 30 #[.val (.ref o), .val (.ref fa), .val (.int (0 : Int32))] [(.int z_4)])
    have hS5 := StrIs.keep hS K4
    have hO5 : (OKc (f (0 : Int32).toInt.toNat).toInt ∧ z_4.toInt = 1) ∨ (¬ OKc (f (0 : Int32).toInt.toNat).toInt ∧ z_4.toInt = 0) := by rw [← az3]; have p_ := P4_0; unfold OKc; omega
    refine ow_if_ne X4 hx (z_4.toInt) (hb hby d_prog_41m6_30) rfl (by decide) (pt := 35) (by decide) (pf := 33) rfl (fun c30 => ?_) (fun c30 => ?_)
    · have hk0 : OKc (f (0 : Int32).toInt.toNat).toInt := by rcases hO5 with q_ | q_; exact q_.1; exact absurd q_.2 (by omega)
      refine ow_iinc X4 hx (Ls' := #[.val (.ref o), .val (.ref fa), .val (.int (0 : Int32))]) (hb hby d_prog_41m6_35) rfl (fun z => rfl) (pc' := 38) rfl (fun z6 hz6 => ?_)
      obtain rfl : z6 = (1 : Int32) := hz6.trans (by decide)
      show Ends _ _ _ _ T4 (mkF m 38 #[.val (.ref o), .val (.ref fa), .val (.int (1 : Int32))] [])
      refine ow_goto X4 hx (hb hby d_prog_41m6_38) (by decide) (pc' := 11) (by decide) ?_
      refine ow_iloadN X4 hx (hb hby d_prog_41m6_11) rfl (pc' := 12) rfl ?_
      refine ow_aloadN X4 hx (hb hby d_prog_41m6_12) rfl rfl (pc' := 13) rfl ?_
      refine ow_callVPI X4 hx hZ rfl hown (hw _ (List.mem_of_getElem? (i := 53) rfl)) (hw _ (List.mem_of_getElem? (i := 54) rfl)) (hw _ (List.mem_of_getElem? (i := 56) rfl)) (hw _ (List.mem_of_getElem? (i := 55) rfl)) (hw _ (List.mem_of_getElem? (i := 4) rfl)) (hw _ (List.mem_of_getElem? (i := 57) rfl)) (by decide) (rm_lenS l Z a0 hw [] o zc f pn T4.heap (ow_staKeep S_cs K4 all0) (by first | assumption | decide | omega) (E_o.keep K4) (by first | assumption | decide | omega) (by first | assumption | decide | omega) (by first | assumption | decide | omega)) rfl 1 (by decide) (by decide) (by decide) (by decide) [] (by rw [hml]; rfl) pd_5 rfl (E_o.keep K4) rfl rfl (Nat.le_of_eq rfl) (hb hby d_prog_41m6_13) (pc' := 16) rfl (fun z7 T7 hz7 X7 e7 => ?_)
      have az7 : z7.toInt = pn.toInt := hz7
      have rz7 := rng32 z7
      refine ow_icmp_ge X7 hx ((1 : Int)) (z7.toInt) (hb hby d_prog_41m6_16) rfl rfl (by decide) (pt := 41) (by decide) (pf := 19) rfl (fun c16 => absurd c16 (by omega)) (fun c16 => ?_)
      refine ow_aloadN X7 hx (hb hby d_prog_41m6_19) rfl rfl (pc' := 20) rfl ?_
      refine ow_aloadN X7 hx (hb hby d_prog_41m6_20) rfl rfl (pc' := 21) rfl ?_
      refine ow_iloadN X7 hx (hb hby d_prog_41m6_21) rfl (pc' := 22) rfl ?_
      refine ow_callVPI X7 hx hZ rfl hown (hw _ (List.mem_of_getElem? (i := 63) rfl)) (hw _ (List.mem_of_getElem? (i := 64) rfl)) (hw _ (List.mem_of_getElem? (i := 66) rfl)) (hw _ (List.mem_of_getElem? (i := 65) rfl)) (hw _ (List.mem_of_getElem? (i := 4) rfl)) (hw _ (List.mem_of_getElem? (i := 67) rfl)) (by decide) (rm_chaS l Z a0 hw [] o (1 : Int32) zc f pn wf T4.heap (ow_staKeep S_cs K4 all0) (by first | assumption | decide | omega | (have q0_ : (1 : Int32).toInt = 1 := (by decide); omega)) (E_o.keep K4) (by first | assumption | decide | omega | (have q0_ : (1 : Int32).toInt = 1 := (by decide); omega)) (ow_staKeep S_ad K4 all0) (ow_staKeep S_hi K4 all0) (ow_staKeep S_lo K4 all0) (ow_staKeep S_f K4 all0) (by first | assumption | decide | omega | (have q0_ : (1 : Int32).toInt = 1 := (by decide); omega)) (by first | assumption | decide | omega | (have q0_ : (1 : Int32).toInt = 1 := (by decide); omega)) (by first | assumption | decide | omega | (have q0_ : (1 : Int32).toInt = 1 := (by decide); omega)) (by first | assumption | decide | omega | (have q0_ : (1 : Int32).toInt = 1 := (by decide); omega)) (by first | assumption | decide | omega | (have q0_ : (1 : Int32).toInt = 1 := (by decide); omega)) (by first | assumption | decide | omega | (have q0_ : (1 : Int32).toInt = 1 := (by decide); omega))) e7 1 (by decide) (by decide) (by decide) (by decide) [(.int (1 : Int32))] (by rw [hml]; rfl) pd_20 rfl (E_o.keep K4) rfl rfl (Nat.le_of_eq rfl) (hb hby d_prog_41m6_22) (pc' := 25) rfl (fun z8 T8 hz8 X8 e8 => ?_)
      have az8 : z8.toInt = (f (1 : Int32).toInt.toNat).toInt := hz8
      have rz8 := rng32 z8
      have rr1 := hr (1 : Int32).toInt.toNat
      by_cases han : ((97 ≤ z8.toInt ∧ z8.toInt ≤ 122) ∨ (65 ≤ z8.toInt ∧ z8.toInt ≤ 90) ∨ (48 ≤ z8.toInt ∧ z8.toInt ≤ 57))
      · refine ow_callLam X8 hx hZ hown (hw _ (List.mem_of_getElem? (i := 85) rfl)) (hw _ (List.mem_of_getElem? (i := 86) rfl)) (hw _ (List.mem_of_getElem? (i := 87) rfl)) (hw _ (List.mem_of_getElem? (i := 88) rfl)) (hw _ (List.mem_of_getElem? (i := 25) rfl)) (hw _ (List.mem_of_getElem? (i := 89) rfl)) ⟨by decide +kernel, by decide +kernel, by decide +kernel⟩ ⟨by decide +kernel, by decide +kernel, by decide +kernel⟩ (by decide) (by decide) hmd (ow_fn hfz (ow_zk hzk hzn K4 all0)) ow_fok ow_fd0 ow_fd1 ow_fd4 (rm_unA l Z a0 hw [] hcw hch z8 T4.heap n0 Zs4 (ow_zk hzk hzn K4 all0) hzn (by first | assumption | decide | omega)) (fun v_ h_ L_ vm_ q_ => by obtain ⟨z_, rfl, -, -, p_, -⟩ := q_; exact ⟨z_, rfl, ow_nar1 (by rcases (show z_.toInt = 0 ∨ z_.toInt = 1 from by omega) with w_ | w_; exact Or.inl (ow_eq w_); exact Or.inr (ow_eq w_))⟩) (LT.warm hI4) hS4 (Nat.le_refl _) e8 0 (by decide) (by decide) (by decide) (by decide) (by rw [hml]; rfl) pd_18 rfl pd_18 rfl (Nat.le_of_eq rfl) (hb hby d_prog_41m6_25) (pc' := 30) rfl (fun v9 T9 L9 hQ9 X9 hS9 hZ hown => ?_)
        obtain ⟨z_9, rfl, Nc9, Kc9, P9_0, hI9⟩ := hQ9
        have P9_0 : z_9.toInt = 1 := P9_0
        have Zs9 : n0 ≤ T9.heap.size := Nat.le_trans Zs4 Kc9.1
        have K9 := K4.trans Kc9 all0
        have N9 := Fr.app N4 Nc9
        show Ends _ _ _ _ T9 (mkF m 30 #[.val (.ref o), .val (.ref fa), .val (.int (1 : Int32))] [(.int z_9)])
        have hS10 := StrIs.keep hS K9
        have hO10 : (OKc (f (1 : Int32).toInt.toNat).toInt ∧ z_9.toInt = 1) ∨ (¬ OKc (f (1 : Int32).toInt.toNat).toInt ∧ z_9.toInt = 0) := by rw [← az8]; have p_ := P9_0; unfold OKc; omega
        refine ow_if_ne X9 hx (z_9.toInt) (hb hby d_prog_41m6_30) rfl (by decide) (pt := 35) (by decide) (pf := 33) rfl (fun c30 => ?_) (fun c30 => ?_)
        · have hk1 : OKc (f (1 : Int32).toInt.toNat).toInt := by rcases hO10 with q_ | q_; exact q_.1; exact absurd q_.2 (by omega)
          refine ow_iinc X9 hx (Ls' := #[.val (.ref o), .val (.ref fa), .val (.int (1 : Int32))]) (hb hby d_prog_41m6_35) rfl (fun z => rfl) (pc' := 38) rfl (fun z11 hz11 => ?_)
          obtain rfl : z11 = (2 : Int32) := hz11.trans (by decide)
          show Ends _ _ _ _ T9 (mkF m 38 #[.val (.ref o), .val (.ref fa), .val (.int (2 : Int32))] [])
          refine ow_goto X9 hx (hb hby d_prog_41m6_38) (by decide) (pc' := 11) (by decide) ?_
          refine ow_iloadN X9 hx (hb hby d_prog_41m6_11) rfl (pc' := 12) rfl ?_
          refine ow_aloadN X9 hx (hb hby d_prog_41m6_12) rfl rfl (pc' := 13) rfl ?_
          refine ow_callVPI X9 hx hZ rfl hown (hw _ (List.mem_of_getElem? (i := 53) rfl)) (hw _ (List.mem_of_getElem? (i := 54) rfl)) (hw _ (List.mem_of_getElem? (i := 56) rfl)) (hw _ (List.mem_of_getElem? (i := 55) rfl)) (hw _ (List.mem_of_getElem? (i := 4) rfl)) (hw _ (List.mem_of_getElem? (i := 57) rfl)) (by decide) (rm_lenS l Z a0 hw [] o zc f pn T9.heap (ow_staKeep S_cs K9 all0) (by first | assumption | decide | omega) (E_o.keep K9) (by first | assumption | decide | omega) (by first | assumption | decide | omega) (by first | assumption | decide | omega)) rfl 1 (by decide) (by decide) (by decide) (by decide) [] (by rw [hml]; rfl) pd_5 rfl (E_o.keep K9) rfl rfl (Nat.le_of_eq rfl) (hb hby d_prog_41m6_13) (pc' := 16) rfl (fun z12 T12 hz12 X12 e12 => ?_)
          have az12 : z12.toInt = pn.toInt := hz12
          have rz12 := rng32 z12
          refine ow_icmp_ge X12 hx ((2 : Int)) (z12.toInt) (hb hby d_prog_41m6_16) rfl rfl (by decide) (pt := 41) (by decide) (pf := 19) rfl (fun c16 => ?_) (fun c16 => absurd c16 (by omega))
          refine ow_iconst X12 hx (z := (1 : Int32)) (hb hby d_prog_41m6_41) rfl (pc' := 42) rfl ?_
          exact ow_retBI X12 hx hret hlk (hb hby d_prog_41m6_42) hS9 (by rw [e12]; exact (Nat.le_refl _)) (by decide) (by decide) (z' := (1 : Int32)) rfl (show Q_co2 Z o fa zc f pn wf cK h0 n0 _ T12.heap _ _ from by rw [e12]; exact ⟨(1 : Int32), rfl, N9, K9, (show ((OKc (f (0 : Int32).toInt.toNat).toInt ∧ OKc (f (1 : Int32).toInt.toNat).toInt) ∧ (1 : Int) = 1) ∨ (¬ (OKc (f (0 : Int32).toInt.toNat).toInt ∧ OKc (f (1 : Int32).toInt.toNat).toInt) ∧ (1 : Int) = 0) from Or.inl ⟨⟨hk0, hk1⟩, by decide⟩)⟩)
        · have hk1 : ¬ OKc (f (1 : Int32).toInt.toNat).toInt := by rcases hO10 with q_ | q_; exact absurd q_.2 (by omega); exact q_.1
          refine ow_iconst X9 hx (z := (0 : Int32)) (hb hby d_prog_41m6_33) rfl (pc' := 34) rfl ?_
          exact ow_retBI X9 hx hret hlk (hb hby d_prog_41m6_34) hS9 (Nat.le_refl _) (by decide) (by decide) (z' := (0 : Int32)) rfl (show Q_co2 Z o fa zc f pn wf cK h0 n0 _ T9.heap _ _ from ⟨(0 : Int32), rfl, N9, K9, (show ((OKc (f (0 : Int32).toInt.toNat).toInt ∧ OKc (f (1 : Int32).toInt.toNat).toInt) ∧ (0 : Int) = 1) ∨ (¬ (OKc (f (0 : Int32).toInt.toNat).toInt ∧ OKc (f (1 : Int32).toInt.toNat).toInt) ∧ (0 : Int) = 0) from Or.inr ⟨fun q_ => hk1 q_.2, by decide⟩)⟩)
      · refine ow_callLam X8 hx hZ hown (hw _ (List.mem_of_getElem? (i := 85) rfl)) (hw _ (List.mem_of_getElem? (i := 86) rfl)) (hw _ (List.mem_of_getElem? (i := 87) rfl)) (hw _ (List.mem_of_getElem? (i := 88) rfl)) (hw _ (List.mem_of_getElem? (i := 25) rfl)) (hw _ (List.mem_of_getElem? (i := 89) rfl)) ⟨by decide +kernel, by decide +kernel, by decide +kernel⟩ ⟨by decide +kernel, by decide +kernel, by decide +kernel⟩ (by decide) (by decide) hmd (ow_fn hfz (ow_zk hzk hzn K4 all0)) ow_fok ow_fd0 ow_fd1 ow_fd4 (rm_unN l Z a0 hw [] hcw hch z8 zc T4.heap n0 Zs4 (ow_zk hzk hzn K4 all0) hzn (ow_staKeep S_cs K4 all0) (by first | assumption | decide | omega) (by first | assumption | decide | omega) (by first | assumption | decide | omega) (by first | assumption | decide | omega)) (fun v_ h_ L_ vm_ q_ => by obtain ⟨z_, oL_, ot_, kt_, rfl, -, -, p_, -, -, -, -, -⟩ := q_; exact ⟨z_, rfl, ow_nar1 (by rcases (show z_.toInt = 0 ∨ z_.toInt = 1 from by omega) with w_ | w_; exact Or.inl (ow_eq w_); exact Or.inr (ow_eq w_))⟩) (LT.warm hI4) hS4 (Nat.le_refl _) e8 0 (by decide) (by decide) (by decide) (by decide) (by rw [hml]; rfl) pd_18 rfl pd_18 rfl (Nat.le_of_eq rfl) (hb hby d_prog_41m6_25) (pc' := 30) rfl (fun v13 T13 L13 hQ13 X13 hS13 hZ hown => ?_)
        obtain ⟨z_13, b13a, b13b, kt_13, rfl, Nc13, Kc13, P13_0, P13_1, P13_2, P13_3, P13_4, hI13⟩ := hQ13
        have P13_0 : ((z8.toInt = 45 ∨ z8.toInt = 46 ∨ z8.toInt = 95 ∨ z8.toInt = 126) ∧ z_13.toInt = 1) ∨ (¬ (z8.toInt = 45 ∨ z8.toInt = 46 ∨ z8.toInt = 95 ∨ z8.toInt = 126) ∧ z_13.toInt = 0) := P13_0
        have Zs13 : n0 ≤ T13.heap.size := Nat.le_trans Zs4 Kc13.1
        have K13 := K4.trans Kc13 all0
        have N13 := Fr.app N4 Nc13
        show Ends _ _ _ _ T13 (mkF m 30 #[.val (.ref o), .val (.ref fa), .val (.int (1 : Int32))] [(.int z_13)])
        have hS14 := StrIs.keep hS K13
        have hO14 : (OKc (f (1 : Int32).toInt.toNat).toInt ∧ z_13.toInt = 1) ∨ (¬ OKc (f (1 : Int32).toInt.toNat).toInt ∧ z_13.toInt = 0) := by rw [← az8]; have p_ := P13_0; unfold OKc; omega
        refine ow_if_ne X13 hx (z_13.toInt) (hb hby d_prog_41m6_30) rfl (by decide) (pt := 35) (by decide) (pf := 33) rfl (fun c30 => ?_) (fun c30 => ?_)
        · have hk1 : OKc (f (1 : Int32).toInt.toNat).toInt := by rcases hO14 with q_ | q_; exact q_.1; exact absurd q_.2 (by omega)
          refine ow_iinc X13 hx (Ls' := #[.val (.ref o), .val (.ref fa), .val (.int (1 : Int32))]) (hb hby d_prog_41m6_35) rfl (fun z => rfl) (pc' := 38) rfl (fun z15 hz15 => ?_)
          obtain rfl : z15 = (2 : Int32) := hz15.trans (by decide)
          show Ends _ _ _ _ T13 (mkF m 38 #[.val (.ref o), .val (.ref fa), .val (.int (2 : Int32))] [])
          refine ow_goto X13 hx (hb hby d_prog_41m6_38) (by decide) (pc' := 11) (by decide) ?_
          refine ow_iloadN X13 hx (hb hby d_prog_41m6_11) rfl (pc' := 12) rfl ?_
          refine ow_aloadN X13 hx (hb hby d_prog_41m6_12) rfl rfl (pc' := 13) rfl ?_
          refine ow_callVPI X13 hx hZ rfl hown (hw _ (List.mem_of_getElem? (i := 53) rfl)) (hw _ (List.mem_of_getElem? (i := 54) rfl)) (hw _ (List.mem_of_getElem? (i := 56) rfl)) (hw _ (List.mem_of_getElem? (i := 55) rfl)) (hw _ (List.mem_of_getElem? (i := 4) rfl)) (hw _ (List.mem_of_getElem? (i := 57) rfl)) (by decide) (rm_lenS l Z a0 hw [] o zc f pn T13.heap (ow_staKeep S_cs K13 all0) (by first | assumption | decide | omega) (E_o.keep K13) (by first | assumption | decide | omega) (by first | assumption | decide | omega) (by first | assumption | decide | omega)) rfl 1 (by decide) (by decide) (by decide) (by decide) [] (by rw [hml]; rfl) pd_5 rfl (E_o.keep K13) rfl rfl (Nat.le_of_eq rfl) (hb hby d_prog_41m6_13) (pc' := 16) rfl (fun z16 T16 hz16 X16 e16 => ?_)
          have az16 : z16.toInt = pn.toInt := hz16
          have rz16 := rng32 z16
          refine ow_icmp_ge X16 hx ((2 : Int)) (z16.toInt) (hb hby d_prog_41m6_16) rfl rfl (by decide) (pt := 41) (by decide) (pf := 19) rfl (fun c16 => ?_) (fun c16 => absurd c16 (by omega))
          refine ow_iconst X16 hx (z := (1 : Int32)) (hb hby d_prog_41m6_41) rfl (pc' := 42) rfl ?_
          exact ow_retBI X16 hx hret hlk (hb hby d_prog_41m6_42) hS13 (by rw [e16]; exact (Nat.le_refl _)) (by decide) (by decide) (z' := (1 : Int32)) rfl (show Q_co2 Z o fa zc f pn wf cK h0 n0 _ T16.heap _ _ from by rw [e16]; exact ⟨(1 : Int32), rfl, N13, K13, (show ((OKc (f (0 : Int32).toInt.toNat).toInt ∧ OKc (f (1 : Int32).toInt.toNat).toInt) ∧ (1 : Int) = 1) ∨ (¬ (OKc (f (0 : Int32).toInt.toNat).toInt ∧ OKc (f (1 : Int32).toInt.toNat).toInt) ∧ (1 : Int) = 0) from Or.inl ⟨⟨hk0, hk1⟩, by decide⟩)⟩)
        · have hk1 : ¬ OKc (f (1 : Int32).toInt.toNat).toInt := by rcases hO14 with q_ | q_; exact absurd q_.2 (by omega); exact q_.1
          refine ow_iconst X13 hx (z := (0 : Int32)) (hb hby d_prog_41m6_33) rfl (pc' := 34) rfl ?_
          exact ow_retBI X13 hx hret hlk (hb hby d_prog_41m6_34) hS13 (Nat.le_refl _) (by decide) (by decide) (z' := (0 : Int32)) rfl (show Q_co2 Z o fa zc f pn wf cK h0 n0 _ T13.heap _ _ from ⟨(0 : Int32), rfl, N13, K13, (show ((OKc (f (0 : Int32).toInt.toNat).toInt ∧ OKc (f (1 : Int32).toInt.toNat).toInt) ∧ (0 : Int) = 1) ∨ (¬ (OKc (f (0 : Int32).toInt.toNat).toInt ∧ OKc (f (1 : Int32).toInt.toNat).toInt) ∧ (0 : Int) = 0) from Or.inr ⟨fun q_ => hk1 q_.2, by decide⟩)⟩)
    · have hk0 : ¬ OKc (f (0 : Int32).toInt.toNat).toInt := by rcases hO5 with q_ | q_; exact absurd q_.2 (by omega); exact q_.1
      refine ow_iconst X4 hx (z := (0 : Int32)) (hb hby d_prog_41m6_33) rfl (pc' := 34) rfl ?_
      exact ow_retBI X4 hx hret hlk (hb hby d_prog_41m6_34) hS4 (Nat.le_refl _) (by decide) (by decide) (z' := (0 : Int32)) rfl (show Q_co2 Z o fa zc f pn wf cK h0 n0 _ T4.heap _ _ from ⟨(0 : Int32), rfl, N4, K4, (show ((OKc (f (0 : Int32).toInt.toNat).toInt ∧ OKc (f (1 : Int32).toInt.toNat).toInt) ∧ (0 : Int) = 1) ∨ (¬ (OKc (f (0 : Int32).toInt.toNat).toInt ∧ OKc (f (1 : Int32).toInt.toNat).toInt) ∧ (0 : Int) = 0) from Or.inr ⟨fun q_ => hk0 q_.1, by decide⟩)⟩)
  · refine ow_callLam X3 hx hZ hown (hw _ (List.mem_of_getElem? (i := 85) rfl)) (hw _ (List.mem_of_getElem? (i := 86) rfl)) (hw _ (List.mem_of_getElem? (i := 87) rfl)) (hw _ (List.mem_of_getElem? (i := 88) rfl)) (hw _ (List.mem_of_getElem? (i := 25) rfl)) (hw _ (List.mem_of_getElem? (i := 89) rfl)) ⟨by decide +kernel, by decide +kernel, by decide +kernel⟩ ⟨by decide +kernel, by decide +kernel, by decide +kernel⟩ (by decide) (by decide) hmd (ow_fn hfz (ow_zk hzk hzn (Keep.refl h0 []) all0)) ow_fok ow_fd0 ow_fd1 ow_fd4 (rm_unN l Z a0 hw [] hcw hch z3 zc h0 n0 Z0 (ow_zk hzk hzn (Keep.refl h0 []) all0) hzn S_cs (by first | assumption | decide | omega) (by first | assumption | decide | omega) (by first | assumption | decide | omega) (by first | assumption | decide | omega)) (fun v_ h_ L_ vm_ q_ => by obtain ⟨z_, oL_, ot_, kt_, rfl, -, -, p_, -, -, -, -, -⟩ := q_; exact ⟨z_, rfl, ow_nar1 (by rcases (show z_.toInt = 0 ∨ z_.toInt = 1 from by omega) with w_ | w_; exact Or.inl (ow_eq w_); exact Or.inr (ow_eq w_))⟩) (LT.warm hI0) hS0 (Nat.zero_le _) e3 0 (by decide) (by decide) (by decide) (by decide) (by rw [hml]; rfl) pd_18 rfl pd_18 rfl (Nat.le_of_eq rfl) (hb hby d_prog_41m6_25) (pc' := 30) rfl (fun v17 T17 L17 hQ17 X17 hS17 hZ hown => ?_)
    obtain ⟨z_17, b17a, b17b, kt_17, rfl, Nc17, Kc17, P17_0, P17_1, P17_2, P17_3, P17_4, hI17⟩ := hQ17
    have P17_0 : ((z3.toInt = 45 ∨ z3.toInt = 46 ∨ z3.toInt = 95 ∨ z3.toInt = 126) ∧ z_17.toInt = 1) ∨ (¬ (z3.toInt = 45 ∨ z3.toInt = 46 ∨ z3.toInt = 95 ∨ z3.toInt = 126) ∧ z_17.toInt = 0) := P17_0
    have Zs17 : n0 ≤ T17.heap.size := Nat.le_trans Z0 Kc17.1
    have K17 := (Keep.refl h0 []).trans Kc17 all0
    have N17 := Fr.app N0 Nc17
    show Ends _ _ _ _ T17 (mkF m 30 #[.val (.ref o), .val (.ref fa), .val (.int (0 : Int32))] [(.int z_17)])
    have hS18 := StrIs.keep hS K17
    have hO18 : (OKc (f (0 : Int32).toInt.toNat).toInt ∧ z_17.toInt = 1) ∨ (¬ OKc (f (0 : Int32).toInt.toNat).toInt ∧ z_17.toInt = 0) := by rw [← az3]; have p_ := P17_0; unfold OKc; omega
    refine ow_if_ne X17 hx (z_17.toInt) (hb hby d_prog_41m6_30) rfl (by decide) (pt := 35) (by decide) (pf := 33) rfl (fun c30 => ?_) (fun c30 => ?_)
    · have hk0 : OKc (f (0 : Int32).toInt.toNat).toInt := by rcases hO18 with q_ | q_; exact q_.1; exact absurd q_.2 (by omega)
      refine ow_iinc X17 hx (Ls' := #[.val (.ref o), .val (.ref fa), .val (.int (0 : Int32))]) (hb hby d_prog_41m6_35) rfl (fun z => rfl) (pc' := 38) rfl (fun z19 hz19 => ?_)
      obtain rfl : z19 = (1 : Int32) := hz19.trans (by decide)
      show Ends _ _ _ _ T17 (mkF m 38 #[.val (.ref o), .val (.ref fa), .val (.int (1 : Int32))] [])
      refine ow_goto X17 hx (hb hby d_prog_41m6_38) (by decide) (pc' := 11) (by decide) ?_
      refine ow_iloadN X17 hx (hb hby d_prog_41m6_11) rfl (pc' := 12) rfl ?_
      refine ow_aloadN X17 hx (hb hby d_prog_41m6_12) rfl rfl (pc' := 13) rfl ?_
      refine ow_callVPI X17 hx hZ rfl hown (hw _ (List.mem_of_getElem? (i := 53) rfl)) (hw _ (List.mem_of_getElem? (i := 54) rfl)) (hw _ (List.mem_of_getElem? (i := 56) rfl)) (hw _ (List.mem_of_getElem? (i := 55) rfl)) (hw _ (List.mem_of_getElem? (i := 4) rfl)) (hw _ (List.mem_of_getElem? (i := 57) rfl)) (by decide) (rm_lenS l Z a0 hw [] o zc f pn T17.heap (ow_staKeep S_cs K17 all0) (by first | assumption | decide | omega) (E_o.keep K17) (by first | assumption | decide | omega) (by first | assumption | decide | omega) (by first | assumption | decide | omega)) rfl 1 (by decide) (by decide) (by decide) (by decide) [] (by rw [hml]; rfl) pd_5 rfl (E_o.keep K17) rfl rfl (Nat.le_of_eq rfl) (hb hby d_prog_41m6_13) (pc' := 16) rfl (fun z20 T20 hz20 X20 e20 => ?_)
      have az20 : z20.toInt = pn.toInt := hz20
      have rz20 := rng32 z20
      refine ow_icmp_ge X20 hx ((1 : Int)) (z20.toInt) (hb hby d_prog_41m6_16) rfl rfl (by decide) (pt := 41) (by decide) (pf := 19) rfl (fun c16 => absurd c16 (by omega)) (fun c16 => ?_)
      refine ow_aloadN X20 hx (hb hby d_prog_41m6_19) rfl rfl (pc' := 20) rfl ?_
      refine ow_aloadN X20 hx (hb hby d_prog_41m6_20) rfl rfl (pc' := 21) rfl ?_
      refine ow_iloadN X20 hx (hb hby d_prog_41m6_21) rfl (pc' := 22) rfl ?_
      refine ow_callVPI X20 hx hZ rfl hown (hw _ (List.mem_of_getElem? (i := 63) rfl)) (hw _ (List.mem_of_getElem? (i := 64) rfl)) (hw _ (List.mem_of_getElem? (i := 66) rfl)) (hw _ (List.mem_of_getElem? (i := 65) rfl)) (hw _ (List.mem_of_getElem? (i := 4) rfl)) (hw _ (List.mem_of_getElem? (i := 67) rfl)) (by decide) (rm_chaS l Z a0 hw [] o (1 : Int32) zc f pn wf T17.heap (ow_staKeep S_cs K17 all0) (by first | assumption | decide | omega | (have q0_ : (1 : Int32).toInt = 1 := (by decide); omega)) (E_o.keep K17) (by first | assumption | decide | omega | (have q0_ : (1 : Int32).toInt = 1 := (by decide); omega)) (ow_staKeep S_ad K17 all0) (ow_staKeep S_hi K17 all0) (ow_staKeep S_lo K17 all0) (ow_staKeep S_f K17 all0) (by first | assumption | decide | omega | (have q0_ : (1 : Int32).toInt = 1 := (by decide); omega)) (by first | assumption | decide | omega | (have q0_ : (1 : Int32).toInt = 1 := (by decide); omega)) (by first | assumption | decide | omega | (have q0_ : (1 : Int32).toInt = 1 := (by decide); omega)) (by first | assumption | decide | omega | (have q0_ : (1 : Int32).toInt = 1 := (by decide); omega)) (by first | assumption | decide | omega | (have q0_ : (1 : Int32).toInt = 1 := (by decide); omega)) (by first | assumption | decide | omega | (have q0_ : (1 : Int32).toInt = 1 := (by decide); omega))) e20 1 (by decide) (by decide) (by decide) (by decide) [(.int (1 : Int32))] (by rw [hml]; rfl) pd_20 rfl (E_o.keep K17) rfl rfl (Nat.le_of_eq rfl) (hb hby d_prog_41m6_22) (pc' := 25) rfl (fun z21 T21 hz21 X21 e21 => ?_)
      have az21 : z21.toInt = (f (1 : Int32).toInt.toNat).toInt := hz21
      have rz21 := rng32 z21
      have rr1 := hr (1 : Int32).toInt.toNat
      refine ow_callLam X21 hx hZ hown (hw _ (List.mem_of_getElem? (i := 85) rfl)) (hw _ (List.mem_of_getElem? (i := 86) rfl)) (hw _ (List.mem_of_getElem? (i := 87) rfl)) (hw _ (List.mem_of_getElem? (i := 88) rfl)) (hw _ (List.mem_of_getElem? (i := 25) rfl)) (hw _ (List.mem_of_getElem? (i := 89) rfl)) ⟨by decide +kernel, by decide +kernel, by decide +kernel⟩ ⟨by decide +kernel, by decide +kernel, by decide +kernel⟩ (by decide) (by decide) hmd (ow_fn hfz (ow_zk hzk hzn K17 all0)) ow_fok ow_fd0 ow_fd1 ow_fd4 (rm_unB l Z a0 hw [] hcw hch z21 zc b17a b17b kt_17 T17.heap n0 Zs17 (ow_zk hzk hzn K17 all0) hzn (ow_staKeep S_cs K17 all0) (by first | assumption | decide | omega) P17_1 P17_2 P17_3 P17_4 (by first | assumption | decide | omega) (by first | assumption | decide | omega)) (fun v_ h_ L_ vm_ q_ => by obtain ⟨z_, rfl, -, -, p_, -⟩ := q_; exact ⟨z_, rfl, ow_nar1 (by rcases (show z_.toInt = 0 ∨ z_.toInt = 1 from by omega) with w_ | w_; exact Or.inl (ow_eq w_); exact Or.inr (ow_eq w_))⟩) (LT.warm hI17) hS17 (Nat.le_refl _) e21 0 (by decide) (by decide) (by decide) (by decide) (by rw [hml]; rfl) pd_18 rfl pd_18 rfl (Nat.le_of_eq rfl) (hb hby d_prog_41m6_25) (pc' := 30) rfl (fun v22 T22 L22 hQ22 X22 hS22 hZ hown => ?_)
      obtain ⟨z_22, rfl, Nc22, Kc22, P22_0, hI22⟩ := hQ22
      have P22_0 : (((97 ≤ z21.toInt ∧ z21.toInt ≤ 122) ∨ (65 ≤ z21.toInt ∧ z21.toInt ≤ 90) ∨ (48 ≤ z21.toInt ∧ z21.toInt ≤ 57) ∨ z21.toInt = 45 ∨ z21.toInt = 46 ∨ z21.toInt = 95 ∨ z21.toInt = 126) ∧ z_22.toInt = 1) ∨ (¬ ((97 ≤ z21.toInt ∧ z21.toInt ≤ 122) ∨ (65 ≤ z21.toInt ∧ z21.toInt ≤ 90) ∨ (48 ≤ z21.toInt ∧ z21.toInt ≤ 57) ∨ z21.toInt = 45 ∨ z21.toInt = 46 ∨ z21.toInt = 95 ∨ z21.toInt = 126) ∧ z_22.toInt = 0) := P22_0
      have E_b17a_22 := P17_1.keep Kc22
      have F_b17a_coder_22 := P17_2.keep Kc22 nin0
      have F_b17a_value_22 := P17_3.keep Kc22 nin0
      have V_b17b_22 := P17_4.keep Kc22 nin0
      have Zs22 : n0 ≤ T22.heap.size := Nat.le_trans Zs17 Kc22.1
      have K22 := K17.trans Kc22 all0
      have N22 := Fr.app N17 Nc22
      show Ends _ _ _ _ T22 (mkF m 30 #[.val (.ref o), .val (.ref fa), .val (.int (1 : Int32))] [(.int z_22)])
      have hS23 := StrIs.keep hS K22
      have hO23 : (OKc (f (1 : Int32).toInt.toNat).toInt ∧ z_22.toInt = 1) ∨ (¬ OKc (f (1 : Int32).toInt.toNat).toInt ∧ z_22.toInt = 0) := by rw [← az21]; have p_ := P22_0; unfold OKc; omega
      refine ow_if_ne X22 hx (z_22.toInt) (hb hby d_prog_41m6_30) rfl (by decide) (pt := 35) (by decide) (pf := 33) rfl (fun c30 => ?_) (fun c30 => ?_)
      · have hk1 : OKc (f (1 : Int32).toInt.toNat).toInt := by rcases hO23 with q_ | q_; exact q_.1; exact absurd q_.2 (by omega)
        refine ow_iinc X22 hx (Ls' := #[.val (.ref o), .val (.ref fa), .val (.int (1 : Int32))]) (hb hby d_prog_41m6_35) rfl (fun z => rfl) (pc' := 38) rfl (fun z24 hz24 => ?_)
        obtain rfl : z24 = (2 : Int32) := hz24.trans (by decide)
        show Ends _ _ _ _ T22 (mkF m 38 #[.val (.ref o), .val (.ref fa), .val (.int (2 : Int32))] [])
        refine ow_goto X22 hx (hb hby d_prog_41m6_38) (by decide) (pc' := 11) (by decide) ?_
        refine ow_iloadN X22 hx (hb hby d_prog_41m6_11) rfl (pc' := 12) rfl ?_
        refine ow_aloadN X22 hx (hb hby d_prog_41m6_12) rfl rfl (pc' := 13) rfl ?_
        refine ow_callVPI X22 hx hZ rfl hown (hw _ (List.mem_of_getElem? (i := 53) rfl)) (hw _ (List.mem_of_getElem? (i := 54) rfl)) (hw _ (List.mem_of_getElem? (i := 56) rfl)) (hw _ (List.mem_of_getElem? (i := 55) rfl)) (hw _ (List.mem_of_getElem? (i := 4) rfl)) (hw _ (List.mem_of_getElem? (i := 57) rfl)) (by decide) (rm_lenS l Z a0 hw [] o zc f pn T22.heap (ow_staKeep S_cs K22 all0) (by first | assumption | decide | omega) (E_o.keep K22) (by first | assumption | decide | omega) (by first | assumption | decide | omega) (by first | assumption | decide | omega)) rfl 1 (by decide) (by decide) (by decide) (by decide) [] (by rw [hml]; rfl) pd_5 rfl (E_o.keep K22) rfl rfl (Nat.le_of_eq rfl) (hb hby d_prog_41m6_13) (pc' := 16) rfl (fun z25 T25 hz25 X25 e25 => ?_)
        have az25 : z25.toInt = pn.toInt := hz25
        have rz25 := rng32 z25
        refine ow_icmp_ge X25 hx ((2 : Int)) (z25.toInt) (hb hby d_prog_41m6_16) rfl rfl (by decide) (pt := 41) (by decide) (pf := 19) rfl (fun c16 => ?_) (fun c16 => absurd c16 (by omega))
        refine ow_iconst X25 hx (z := (1 : Int32)) (hb hby d_prog_41m6_41) rfl (pc' := 42) rfl ?_
        exact ow_retBI X25 hx hret hlk (hb hby d_prog_41m6_42) hS22 (by rw [e25]; exact (Nat.le_refl _)) (by decide) (by decide) (z' := (1 : Int32)) rfl (show Q_co2 Z o fa zc f pn wf cK h0 n0 _ T25.heap _ _ from by rw [e25]; exact ⟨(1 : Int32), rfl, N22, K22, (show ((OKc (f (0 : Int32).toInt.toNat).toInt ∧ OKc (f (1 : Int32).toInt.toNat).toInt) ∧ (1 : Int) = 1) ∨ (¬ (OKc (f (0 : Int32).toInt.toNat).toInt ∧ OKc (f (1 : Int32).toInt.toNat).toInt) ∧ (1 : Int) = 0) from Or.inl ⟨⟨hk0, hk1⟩, by decide⟩)⟩)
      · have hk1 : ¬ OKc (f (1 : Int32).toInt.toNat).toInt := by rcases hO23 with q_ | q_; exact absurd q_.2 (by omega); exact q_.1
        refine ow_iconst X22 hx (z := (0 : Int32)) (hb hby d_prog_41m6_33) rfl (pc' := 34) rfl ?_
        exact ow_retBI X22 hx hret hlk (hb hby d_prog_41m6_34) hS22 (Nat.le_refl _) (by decide) (by decide) (z' := (0 : Int32)) rfl (show Q_co2 Z o fa zc f pn wf cK h0 n0 _ T22.heap _ _ from ⟨(0 : Int32), rfl, N22, K22, (show ((OKc (f (0 : Int32).toInt.toNat).toInt ∧ OKc (f (1 : Int32).toInt.toNat).toInt) ∧ (0 : Int) = 1) ∨ (¬ (OKc (f (0 : Int32).toInt.toNat).toInt ∧ OKc (f (1 : Int32).toInt.toNat).toInt) ∧ (0 : Int) = 0) from Or.inr ⟨fun q_ => hk1 q_.2, by decide⟩)⟩)
    · have hk0 : ¬ OKc (f (0 : Int32).toInt.toNat).toInt := by rcases hO18 with q_ | q_; exact absurd q_.2 (by omega); exact q_.1
      refine ow_iconst X17 hx (z := (0 : Int32)) (hb hby d_prog_41m6_33) rfl (pc' := 34) rfl ?_
      exact ow_retBI X17 hx hret hlk (hb hby d_prog_41m6_34) hS17 (Nat.le_refl _) (by decide) (by decide) (z' := (0 : Int32)) rfl (show Q_co2 Z o fa zc f pn wf cK h0 n0 _ T17.heap _ _ from ⟨(0 : Int32), rfl, N17, K17, (show ((OKc (f (0 : Int32).toInt.toNat).toInt ∧ OKc (f (1 : Int32).toInt.toNat).toInt) ∧ (0 : Int) = 1) ∨ (¬ (OKc (f (0 : Int32).toInt.toNat).toInt ∧ OKc (f (1 : Int32).toInt.toNat).toInt) ∧ (0 : Int) = 0) from Or.inr ⟨fun q_ => hk0 q_.1, by decide⟩)⟩)
def Q_iu2 (Z : State) (o : Addr) (zc : Int32) (f : Nat → Int32) (pn : Int32) (wf : Value) (h0 : Heap) (n0 : Nat) (v : Option Value) (h : Heap) (L : List Loc) (vm : Vm) : Prop := ∃ (z : Int32), (v = some (.int z)) ∧ (Fr n0 L) ∧ (Keep h0 h []) ∧ (((OKc (f (0 : Int32).toInt.toNat).toInt ∧ OKc (f (1 : Int32).toInt.toNat).toInt) ∧ z.toInt = 1) ∨ (¬ (OKc (f (0 : Int32).toInt.toNat).toInt ∧ OKc (f (1 : Int32).toInt.toNat).toInt) ∧ z.toInt = 0))
set_option maxRecDepth 65536 in
set_option maxHeartbeats 40000000 in
theorem rm_iu2 (l : Launch) (Z : State) (a0 : Array Value) (hw : ∀ d ∈ tables_1, d.before a0 Z = true) (ws : List Jvm.Cond) (hcw : Jvm.Lit.compactW.before a0 Z = true) (hch : ∀ q ∈ consts_1, Jvm.Lit.constHeld Z q.1 q.2) (o : Addr) (zc : Int32) (f : Nat → Int32) (pn : Int32) (wf : Value) (h0 : Heap) (n0 : Nat) (Z0 : n0 ≤ h0.size) (hzk : ∀ (b : Addr) (cl : Cell), Z.heap[b]? = some cl → h0[b]? = some cl) (hzn : Z.heap.size ≤ n0) (S_cs : Sta Z h0 "java/lang/String" "COMPACT_STRINGS" "Z" (.int zc)) (hz0 : ¬ zc.toInt = 0) (E_o : Exa Z h0 o "java/lang/String") (hS : StrIs Z h0 o pn f) (S_ad : Sta Z h0 "java/lang/StringUTF16" "$assertionsDisabled" "Z" (.int (1 : Int32))) (S_hi : Sta Z h0 "java/lang/StringUTF16" "HI_BYTE_SHIFT" "I" (.int (0 : Int32))) (S_lo : Sta Z h0 "java/lang/StringUTF16" "LO_BYTE_SHIFT" "I" (.int (8 : Int32))) (S_f : Sta Z h0 "jdk/internal/util/Preconditions" "SIOOBE_FORMATTER" "Ljava/util/function/BiFunction;" wf) (hwf : wf = .null ∨ ∃ a, wf = .ref a) (hn0 : 1 ≤ pn.toInt) (hn1 : pn.toInt ≤ 4) (hr : Rng f) (hpn : pn.toInt = 2) :
    MetFree l (⟨"com/example/inchworm/inchworm/store/HttpSyntax", "isUnreserved", "(Ljava/lang/String;)Z"⟩ : MethodName) (head1 (Jvm.Cond.code (⟨"com/example/inchworm/inchworm/store/HttpSyntax", "isUnreserved", "(Ljava/lang/String;)Z"⟩ : MethodName) prog_41_method_3_code 1 (some .boolean) :: ws) ({ frames := 7, cells := 2, slots := 20, locals := 3073 } : Room)) (fun a_ U_ => a_ = #[(.ref o)] ∧ Z.Warmed39 U_.vm ∧ U_.heap = h0 ∧ LT Z [] [] U_.vm) (fun _ _ _ _ _ => True) (fun _ U_ o_ U_' => ∃ v_ L_, o_ = .returned v_ ∧ (Q_iu2 Z o zc f pn wf h0 n0) v_ U_'.heap L_ U_'.vm ∧ ReturnedEndW U_ o_ U_' L_ 2 20) := by
  refine ow_bodyIN (plainFor_of_name pn_4) ?_
  intro p e s m below meth c T0 X0 hx hZ hby hml hown hnm hret hlk e0 es hS0 hI0 hnmd
  have N0 := Fr.nil n0
  refine Ends.cast (ef_iu0 m o) ?_
  obtain ⟨fa, cK, mD, kD, i0, p0, hm1, hm2, hm3, hmd, hfz⟩ := ow_lamZ (hw _ (List.mem_of_getElem? (i := 27) rfl)) rfl
  have hmd : LamKit.Made Z "com/example/inchworm/inchworm/store/HttpSyntax" ow_sh cK := hmd
  refine ow_aloadN X0 hx (hb hby d_prog_41m3_0) rfl rfl (pc' := 1) rfl ?_
  refine ow_indy X0 hx hZ hnmd hm1 hm2 hm3 (by rw [hml]; rfl) (W := 1) (Nat.le_of_eq rfl) (by decide) (hb hby d_prog_41m3_1) (pc' := 6) rfl ?_
  refine ow_callSI X0 hx hZ hown (hw _ (List.mem_of_getElem? (i := 30) rfl)) (hw _ (List.mem_of_getElem? (i := 31) rfl)) (hw _ (List.mem_of_getElem? (i := 25) rfl)) (hw _ (List.mem_of_getElem? (i := 32) rfl)) (by decide) (rm_co2 l Z a0 hw [] hcw hch o fa zc f pn wf cK h0 n0 Z0 (ow_zk hzk hzn (Keep.refl h0 []) all0) hzn S_cs (by first | assumption | decide | omega) E_o (by first | assumption | decide | omega) S_ad S_hi S_lo S_f (by first | assumption | decide | omega) (by first | assumption | decide | omega) (by first | assumption | decide | omega) (by first | assumption | decide | omega) (by first | assumption | decide | omega) (by first | assumption | decide | omega) (by first | assumption | decide | omega)) (LT.warm hI0) hS0 (Nat.zero_le _) e0 0 (by decide) (by decide) (by decide) (by decide) [(.ref o), (.ref fa)] (by rw [hml]; rfl) pd_19 rfl rfl rfl (Nat.le_of_eq rfl) (hb hby d_prog_41m3_6) (pc' := 9) rfl (fun v1 T1 L1 hQ1 X1 hS1 hZ hown => ?_)
  obtain ⟨z_1, rfl, Nc1, Kc1, P1_0⟩ := hQ1
  have P1_0 : ((OKc (f (0 : Int32).toInt.toNat).toInt ∧ OKc (f (1 : Int32).toInt.toNat).toInt) ∧ z_1.toInt = 1) ∨ (¬ (OKc (f (0 : Int32).toInt.toNat).toInt ∧ OKc (f (1 : Int32).toInt.toNat).toInt) ∧ z_1.toInt = 0) := P1_0
  have Zs1 : n0 ≤ T1.heap.size := Nat.le_trans Z0 Kc1.1
  have K1 := (Keep.refl h0 []).trans Kc1 all0
  have N1 := Fr.app N0 Nc1
  show Ends _ _ _ _ T1 (mkF m 9 #[.val (.ref o)] [(.int z_1)])
  exact ow_retBI X1 hx hret hlk (hb hby d_prog_41m3_9) hS1 (Nat.le_refl _) (by decide) (by decide) (z' := z_1) (ow_nar1 (by rcases P1_0 with q_ | q_; exact Or.inr (ow_eq q_.2); exact Or.inl (ow_eq q_.2))) (show Q_iu2 Z o zc f pn wf h0 n0 _ T1.heap _ _ from ⟨z_1, rfl, N1, K1, P1_0⟩)
def Q_co3 (Z : State) (o : Addr) (fa : Addr) (zc : Int32) (f : Nat → Int32) (pn : Int32) (wf : Value) (cK : ClassId) (h0 : Heap) (n0 : Nat) (v : Option Value) (h : Heap) (L : List Loc) (vm : Vm) : Prop := ∃ (z : Int32), (v = some (.int z)) ∧ (Fr n0 L) ∧ (Keep h0 h []) ∧ (((OKc (f (0 : Int32).toInt.toNat).toInt ∧ OKc (f (1 : Int32).toInt.toNat).toInt ∧ OKc (f (2 : Int32).toInt.toNat).toInt) ∧ z.toInt = 1) ∨ (¬ (OKc (f (0 : Int32).toInt.toNat).toInt ∧ OKc (f (1 : Int32).toInt.toNat).toInt ∧ OKc (f (2 : Int32).toInt.toNat).toInt) ∧ z.toInt = 0))
set_option maxRecDepth 65536 in
set_option maxHeartbeats 40000000 in
theorem rm_co3 (l : Launch) (Z : State) (a0 : Array Value) (hw : ∀ d ∈ tables_1, d.before a0 Z = true) (ws : List Jvm.Cond) (hcw : Jvm.Lit.compactW.before a0 Z = true) (hch : ∀ q ∈ consts_1, Jvm.Lit.constHeld Z q.1 q.2) (o : Addr) (fa : Addr) (zc : Int32) (f : Nat → Int32) (pn : Int32) (wf : Value) (cK : ClassId) (h0 : Heap) (n0 : Nat) (Z0 : n0 ≤ h0.size) (hzk : ∀ (b : Addr) (cl : Cell), Z.heap[b]? = some cl → h0[b]? = some cl) (hzn : Z.heap.size ≤ n0) (S_cs : Sta Z h0 "java/lang/String" "COMPACT_STRINGS" "Z" (.int zc)) (hz0 : ¬ zc.toInt = 0) (E_o : Exa Z h0 o "java/lang/String") (hS : StrIs Z h0 o pn f) (S_ad : Sta Z h0 "java/lang/StringUTF16" "$assertionsDisabled" "Z" (.int (1 : Int32))) (S_hi : Sta Z h0 "java/lang/StringUTF16" "HI_BYTE_SHIFT" "I" (.int (0 : Int32))) (S_lo : Sta Z h0 "java/lang/StringUTF16" "LO_BYTE_SHIFT" "I" (.int (8 : Int32))) (S_f : Sta Z h0 "jdk/internal/util/Preconditions" "SIOOBE_FORMATTER" "Ljava/util/function/BiFunction;" wf) (hwf : wf = .null ∨ ∃ a, wf = .ref a) (hn0 : 1 ≤ pn.toInt) (hn1 : pn.toInt ≤ 4) (hr : Rng f) (hpn : pn.toInt = 3) (hmd : LamKit.Made Z "com/example/inchworm/inchworm/store/HttpSyntax" ow_sh cK) (hfz : LamKit.FnAt Z.heap fa cK) :
    MetFree l (⟨"com/example/inchworm/inchworm/store/HttpSyntax", "consistsOf", "(Ljava/lang/String;Lcom/example/inchworm/inchworm/store/HttpSyntax$CharTest;)Z"⟩ : MethodName) (head1 (Jvm.Cond.code (⟨"com/example/inchworm/inchworm/store/HttpSyntax", "consistsOf", "(Ljava/lang/String;Lcom/example/inchworm/inchworm/store/HttpSyntax$CharTest;)Z"⟩ : MethodName) prog_41_method_6_code 3 (some .boolean) :: ws) ({ frames := 6, cells := 2, slots := 20, locals := 114 } : Room)) (fun a_ U_ => a_ = #[(.ref o), (.ref fa)] ∧ Z.Warmed39 U_.vm ∧ U_.heap = h0 ∧ LT Z [] [] U_.vm) (fun _ _ _ _ _ => True) (fun _ U_ o_ U_' => ∃ v_ L_, o_ = .returned v_ ∧ (Q_co3 Z o fa zc f pn wf cK h0 n0) v_ U_'.heap L_ U_'.vm ∧ ReturnedEndW U_ o_ U_' L_ 2 20) := by
  refine ow_bodyI (plainFor_of_name pn_4) ?_
  intro p e s m below meth c T0 X0 hx hZ hby hml hown hnm hret hlk e0 es hS0 hI0
  have N0 := Fr.nil n0
  refine Ends.cast (ef_co0 m o fa) ?_
  refine ow_aloadN X0 hx (hb hby d_prog_41m6_0) rfl rfl (pc' := 1) rfl ?_
  refine ow_callVPI X0 hx hZ rfl hown (hw _ (List.mem_of_getElem? (i := 33) rfl)) (hw _ (List.mem_of_getElem? (i := 34) rfl)) (hw _ (List.mem_of_getElem? (i := 36) rfl)) (hw _ (List.mem_of_getElem? (i := 35) rfl)) (hw _ (List.mem_of_getElem? (i := 4) rfl)) (hw _ (List.mem_of_getElem? (i := 37) rfl)) (by decide) (rm_iseS l Z a0 hw [] o f pn h0 (by first | assumption | decide | omega) (by first | assumption | decide | omega) (by first | assumption | decide | omega)) e0 0 (by decide) (by decide) (by decide) (by decide) [] (by rw [hml]; rfl) pd_4 rfl E_o rfl rfl (Nat.le_of_eq rfl) (hb hby d_prog_41m6_1) (pc' := 4) rfl (fun z1 T1 hz1 X1 e1 => ?_)
  have az1 : z1.toInt = 0 := hz1
  have rz1 := rng32 z1
  refine ow_if_eq X1 hx (z1.toInt) (hb hby d_prog_41m6_4) rfl (by decide) (pt := 9) (by decide) (pf := 7) rfl (fun c4 => ?_) (fun c4 => absurd c4 (by omega))
  refine ow_iconst X1 hx (z := (0 : Int32)) (hb hby d_prog_41m6_9) rfl (pc' := 10) rfl ?_
  refine ow_istoreN X1 hx (Ls' := #[.val (.ref o), .val (.ref fa), .val (.int (0 : Int32))]) (hb hby d_prog_41m6_10) rfl (pc' := 11) rfl ?_
  refine ow_iloadN X1 hx (hb hby d_prog_41m6_11) rfl (pc' := 12) rfl ?_
  refine ow_aloadN X1 hx (hb hby d_prog_41m6_12) rfl rfl (pc' := 13) rfl ?_
  refine ow_callVPI X1 hx hZ rfl hown (hw _ (List.mem_of_getElem? (i := 53) rfl)) (hw _ (List.mem_of_getElem? (i := 54) rfl)) (hw _ (List.mem_of_getElem? (i := 56) rfl)) (hw _ (List.mem_of_getElem? (i := 55) rfl)) (hw _ (List.mem_of_getElem? (i := 4) rfl)) (hw _ (List.mem_of_getElem? (i := 57) rfl)) (by decide) (rm_lenS l Z a0 hw [] o zc f pn h0 S_cs (by first | assumption | decide | omega) E_o (by first | assumption | decide | omega) (by first | assumption | decide | omega) (by first | assumption | decide | omega)) e1 1 (by decide) (by decide) (by decide) (by decide) [] (by rw [hml]; rfl) pd_5 rfl E_o rfl rfl (Nat.le_of_eq rfl) (hb hby d_prog_41m6_13) (pc' := 16) rfl (fun z2 T2 hz2 X2 e2 => ?_)
  have az2 : z2.toInt = pn.toInt := hz2
  have rz2 := rng32 z2
  refine ow_icmp_ge X2 hx ((0 : Int)) (z2.toInt) (hb hby d_prog_41m6_16) rfl rfl (by decide) (pt := 41) (by decide) (pf := 19) rfl (fun c16 => absurd c16 (by omega)) (fun c16 => ?_)
  refine ow_aloadN X2 hx (hb hby d_prog_41m6_19) rfl rfl (pc' := 20) rfl ?_
  refine ow_aloadN X2 hx (hb hby d_prog_41m6_20) rfl rfl (pc' := 21) rfl ?_
  refine ow_iloadN X2 hx (hb hby d_prog_41m6_21) rfl (pc' := 22) rfl ?_
  refine ow_callVPI X2 hx hZ rfl hown (hw _ (List.mem_of_getElem? (i := 63) rfl)) (hw _ (List.mem_of_getElem? (i := 64) rfl)) (hw _ (List.mem_of_getElem? (i := 66) rfl)) (hw _ (List.mem_of_getElem? (i := 65) rfl)) (hw _ (List.mem_of_getElem? (i := 4) rfl)) (hw _ (List.mem_of_getElem? (i := 67) rfl)) (by decide) (rm_chaS l Z a0 hw [] o (0 : Int32) zc f pn wf h0 S_cs (by first | assumption | decide | omega | (have q0_ : (0 : Int32).toInt = 0 := (by decide); omega)) E_o (by first | assumption | decide | omega | (have q0_ : (0 : Int32).toInt = 0 := (by decide); omega)) S_ad S_hi S_lo S_f (by first | assumption | decide | omega | (have q0_ : (0 : Int32).toInt = 0 := (by decide); omega)) (by first | assumption | decide | omega | (have q0_ : (0 : Int32).toInt = 0 := (by decide); omega)) (by first | assumption | decide | omega | (have q0_ : (0 : Int32).toInt = 0 := (by decide); omega)) (by first | assumption | decide | omega | (have q0_ : (0 : Int32).toInt = 0 := (by decide); omega)) (by first | assumption | decide | omega | (have q0_ : (0 : Int32).toInt = 0 := (by decide); omega)) (by first | assumption | decide | omega | (have q0_ : (0 : Int32).toInt = 0 := (by decide); omega))) e2 1 (by decide) (by decide) (by decide) (by decide) [(.int (0 : Int32))] (by rw [hml]; rfl) pd_20 rfl E_o rfl rfl (Nat.le_of_eq rfl) (hb hby d_prog_41m6_22) (pc' := 25) rfl (fun z3 T3 hz3 X3 e3 => ?_)
  have az3 : z3.toInt = (f (0 : Int32).toInt.toNat).toInt := hz3
  have rz3 := rng32 z3
  have rr0 := hr (0 : Int32).toInt.toNat
  by_cases han : ((97 ≤ z3.toInt ∧ z3.toInt ≤ 122) ∨ (65 ≤ z3.toInt ∧ z3.toInt ≤ 90) ∨ (48 ≤ z3.toInt ∧ z3.toInt ≤ 57))
  · refine ow_callLam X3 hx hZ hown (hw _ (List.mem_of_getElem? (i := 85) rfl)) (hw _ (List.mem_of_getElem? (i := 86) rfl)) (hw _ (List.mem_of_getElem? (i := 87) rfl)) (hw _ (List.mem_of_getElem? (i := 88) rfl)) (hw _ (List.mem_of_getElem? (i := 25) rfl)) (hw _ (List.mem_of_getElem? (i := 89) rfl)) ⟨by decide +kernel, by decide +kernel, by decide +kernel⟩ ⟨by decide +kernel, by decide +kernel, by decide +kernel⟩ (by decide) (by decide) hmd (ow_fn hfz (ow_zk hzk hzn (Keep.refl h0 []) all0)) ow_fok ow_fd0 ow_fd1 ow_fd4 (rm_unA l Z a0 hw [] hcw hch z3 h0 n0 Z0 (ow_zk hzk hzn (Keep.refl h0 []) all0) hzn (by first | assumption | decide | omega)) (fun v_ h_ L_ vm_ q_ => by obtain ⟨z_, rfl, -, -, p_, -⟩ := q_; exact ⟨z_, rfl, ow_nar1 (by rcases (show z_.toInt = 0 ∨ z_.toInt = 1 from by omega) with w_ | w_; exact Or.inl (ow_eq w_); exact Or.inr (ow_eq w_))⟩) (LT.warm hI0) hS0 (Nat.zero_le _) e3 0 (by decide) (by decide) (by decide) (by decide) (by rw [hml]; rfl) pd_18 rfl pd_18 rfl (Nat.le_of_eq rfl) (hb hby d_prog_41m6_25) (pc' := 30) rfl (fun v4 T4 L4 hQ4 X4 hS4 hZ hown => ?_)
    obtain ⟨z_4, rfl, Nc4, Kc4, P4_0, hI4⟩ := hQ4
    have P4_0 : z_4.toInt = 1 := P4_0
    have Zs4 : n0 ≤ T4.heap.size := Nat.le_trans Z0 Kc4.1
    have K4 := (Keep.refl h0 []).trans Kc4 all0
    have N4 := Fr.app N0 Nc4
    show Ends _ _ _ _ T4 (mkF m 30 #[.val (.ref o), .val (.ref fa), .val (.int (0 : Int32))] [(.int z_4)])
    have hS5 := StrIs.keep hS K4
    have hO5 : (OKc (f (0 : Int32).toInt.toNat).toInt ∧ z_4.toInt = 1) ∨ (¬ OKc (f (0 : Int32).toInt.toNat).toInt ∧ z_4.toInt = 0) := by rw [← az3]; have p_ := P4_0; unfold OKc; omega
    refine ow_if_ne X4 hx (z_4.toInt) (hb hby d_prog_41m6_30) rfl (by decide) (pt := 35) (by decide) (pf := 33) rfl (fun c30 => ?_) (fun c30 => ?_)
    · have hk0 : OKc (f (0 : Int32).toInt.toNat).toInt := by rcases hO5 with q_ | q_; exact q_.1; exact absurd q_.2 (by omega)
      refine ow_iinc X4 hx (Ls' := #[.val (.ref o), .val (.ref fa), .val (.int (0 : Int32))]) (hb hby d_prog_41m6_35) rfl (fun z => rfl) (pc' := 38) rfl (fun z6 hz6 => ?_)
      obtain rfl : z6 = (1 : Int32) := hz6.trans (by decide)
      show Ends _ _ _ _ T4 (mkF m 38 #[.val (.ref o), .val (.ref fa), .val (.int (1 : Int32))] [])
      refine ow_goto X4 hx (hb hby d_prog_41m6_38) (by decide) (pc' := 11) (by decide) ?_
      refine ow_iloadN X4 hx (hb hby d_prog_41m6_11) rfl (pc' := 12) rfl ?_
      refine ow_aloadN X4 hx (hb hby d_prog_41m6_12) rfl rfl (pc' := 13) rfl ?_
      refine ow_callVPI X4 hx hZ rfl hown (hw _ (List.mem_of_getElem? (i := 53) rfl)) (hw _ (List.mem_of_getElem? (i := 54) rfl)) (hw _ (List.mem_of_getElem? (i := 56) rfl)) (hw _ (List.mem_of_getElem? (i := 55) rfl)) (hw _ (List.mem_of_getElem? (i := 4) rfl)) (hw _ (List.mem_of_getElem? (i := 57) rfl)) (by decide) (rm_lenS l Z a0 hw [] o zc f pn T4.heap (ow_staKeep S_cs K4 all0) (by first | assumption | decide | omega) (E_o.keep K4) (by first | assumption | decide | omega) (by first | assumption | decide | omega) (by first | assumption | decide | omega)) rfl 1 (by decide) (by decide) (by decide) (by decide) [] (by rw [hml]; rfl) pd_5 rfl (E_o.keep K4) rfl rfl (Nat.le_of_eq rfl) (hb hby d_prog_41m6_13) (pc' := 16) rfl (fun z7 T7 hz7 X7 e7 => ?_)
      have az7 : z7.toInt = pn.toInt := hz7
      have rz7 := rng32 z7
      refine ow_icmp_ge X7 hx ((1 : Int)) (z7.toInt) (hb hby d_prog_41m6_16) rfl rfl (by decide) (pt := 41) (by decide) (pf := 19) rfl (fun c16 => absurd c16 (by omega)) (fun c16 => ?_)
      refine ow_aloadN X7 hx (hb hby d_prog_41m6_19) rfl rfl (pc' := 20) rfl ?_
      refine ow_aloadN X7 hx (hb hby d_prog_41m6_20) rfl rfl (pc' := 21) rfl ?_
      refine ow_iloadN X7 hx (hb hby d_prog_41m6_21) rfl (pc' := 22) rfl ?_
      refine ow_callVPI X7 hx hZ rfl hown (hw _ (List.mem_of_getElem? (i := 63) rfl)) (hw _ (List.mem_of_getElem? (i := 64) rfl)) (hw _ (List.mem_of_getElem? (i := 66) rfl)) (hw _ (List.mem_of_getElem? (i := 65) rfl)) (hw _ (List.mem_of_getElem? (i := 4) rfl)) (hw _ (List.mem_of_getElem? (i := 67) rfl)) (by decide) (rm_chaS l Z a0 hw [] o (1 : Int32) zc f pn wf T4.heap (ow_staKeep S_cs K4 all0) (by first | assumption | decide | omega | (have q0_ : (1 : Int32).toInt = 1 := (by decide); omega)) (E_o.keep K4) (by first | assumption | decide | omega | (have q0_ : (1 : Int32).toInt = 1 := (by decide); omega)) (ow_staKeep S_ad K4 all0) (ow_staKeep S_hi K4 all0) (ow_staKeep S_lo K4 all0) (ow_staKeep S_f K4 all0) (by first | assumption | decide | omega | (have q0_ : (1 : Int32).toInt = 1 := (by decide); omega)) (by first | assumption | decide | omega | (have q0_ : (1 : Int32).toInt = 1 := (by decide); omega)) (by first | assumption | decide | omega | (have q0_ : (1 : Int32).toInt = 1 := (by decide); omega)) (by first | assumption | decide | omega | (have q0_ : (1 : Int32).toInt = 1 := (by decide); omega)) (by first | assumption | decide | omega | (have q0_ : (1 : Int32).toInt = 1 := (by decide); omega)) (by first | assumption | decide | omega | (have q0_ : (1 : Int32).toInt = 1 := (by decide); omega))) e7 1 (by decide) (by decide) (by decide) (by decide) [(.int (1 : Int32))] (by rw [hml]; rfl) pd_20 rfl (E_o.keep K4) rfl rfl (Nat.le_of_eq rfl) (hb hby d_prog_41m6_22) (pc' := 25) rfl (fun z8 T8 hz8 X8 e8 => ?_)
      have az8 : z8.toInt = (f (1 : Int32).toInt.toNat).toInt := hz8
      have rz8 := rng32 z8
      have rr1 := hr (1 : Int32).toInt.toNat
      by_cases han : ((97 ≤ z8.toInt ∧ z8.toInt ≤ 122) ∨ (65 ≤ z8.toInt ∧ z8.toInt ≤ 90) ∨ (48 ≤ z8.toInt ∧ z8.toInt ≤ 57))
      · refine ow_callLam X8 hx hZ hown (hw _ (List.mem_of_getElem? (i := 85) rfl)) (hw _ (List.mem_of_getElem? (i := 86) rfl)) (hw _ (List.mem_of_getElem? (i := 87) rfl)) (hw _ (List.mem_of_getElem? (i := 88) rfl)) (hw _ (List.mem_of_getElem? (i := 25) rfl)) (hw _ (List.mem_of_getElem? (i := 89) rfl)) ⟨by decide +kernel, by decide +kernel, by decide +kernel⟩ ⟨by decide +kernel, by decide +kernel, by decide +kernel⟩ (by decide) (by decide) hmd (ow_fn hfz (ow_zk hzk hzn K4 all0)) ow_fok ow_fd0 ow_fd1 ow_fd4 (rm_unA l Z a0 hw [] hcw hch z8 T4.heap n0 Zs4 (ow_zk hzk hzn K4 all0) hzn (by first | assumption | decide | omega)) (fun v_ h_ L_ vm_ q_ => by obtain ⟨z_, rfl, -, -, p_, -⟩ := q_; exact ⟨z_, rfl, ow_nar1 (by rcases (show z_.toInt = 0 ∨ z_.toInt = 1 from by omega) with w_ | w_; exact Or.inl (ow_eq w_); exact Or.inr (ow_eq w_))⟩) (LT.warm hI4) hS4 (Nat.le_refl _) e8 0 (by decide) (by decide) (by decide) (by decide) (by rw [hml]; rfl) pd_18 rfl pd_18 rfl (Nat.le_of_eq rfl) (hb hby d_prog_41m6_25) (pc' := 30) rfl (fun v9 T9 L9 hQ9 X9 hS9 hZ hown => ?_)
        obtain ⟨z_9, rfl, Nc9, Kc9, P9_0, hI9⟩ := hQ9
        have P9_0 : z_9.toInt = 1 := P9_0
        have Zs9 : n0 ≤ T9.heap.size := Nat.le_trans Zs4 Kc9.1
        have K9 := K4.trans Kc9 all0
        have N9 := Fr.app N4 Nc9
        show Ends _ _ _ _ T9 (mkF m 30 #[.val (.ref o), .val (.ref fa), .val (.int (1 : Int32))] [(.int z_9)])
        have hS10 := StrIs.keep hS K9
        have hO10 : (OKc (f (1 : Int32).toInt.toNat).toInt ∧ z_9.toInt = 1) ∨ (¬ OKc (f (1 : Int32).toInt.toNat).toInt ∧ z_9.toInt = 0) := by rw [← az8]; have p_ := P9_0; unfold OKc; omega
        refine ow_if_ne X9 hx (z_9.toInt) (hb hby d_prog_41m6_30) rfl (by decide) (pt := 35) (by decide) (pf := 33) rfl (fun c30 => ?_) (fun c30 => ?_)
        · have hk1 : OKc (f (1 : Int32).toInt.toNat).toInt := by rcases hO10 with q_ | q_; exact q_.1; exact absurd q_.2 (by omega)
          refine ow_iinc X9 hx (Ls' := #[.val (.ref o), .val (.ref fa), .val (.int (1 : Int32))]) (hb hby d_prog_41m6_35) rfl (fun z => rfl) (pc' := 38) rfl (fun z11 hz11 => ?_)
          obtain rfl : z11 = (2 : Int32) := hz11.trans (by decide)
          show Ends _ _ _ _ T9 (mkF m 38 #[.val (.ref o), .val (.ref fa), .val (.int (2 : Int32))] [])
          refine ow_goto X9 hx (hb hby d_prog_41m6_38) (by decide) (pc' := 11) (by decide) ?_
          refine ow_iloadN X9 hx (hb hby d_prog_41m6_11) rfl (pc' := 12) rfl ?_
          refine ow_aloadN X9 hx (hb hby d_prog_41m6_12) rfl rfl (pc' := 13) rfl ?_
          refine ow_callVPI X9 hx hZ rfl hown (hw _ (List.mem_of_getElem? (i := 53) rfl)) (hw _ (List.mem_of_getElem? (i := 54) rfl)) (hw _ (List.mem_of_getElem? (i := 56) rfl)) (hw _ (List.mem_of_getElem? (i := 55) rfl)) (hw _ (List.mem_of_getElem? (i := 4) rfl)) (hw _ (List.mem_of_getElem? (i := 57) rfl)) (by decide) (rm_lenS l Z a0 hw [] o zc f pn T9.heap (ow_staKeep S_cs K9 all0) (by first | assumption | decide | omega) (E_o.keep K9) (by first | assumption | decide | omega) (by first | assumption | decide | omega) (by first | assumption | decide | omega)) rfl 1 (by decide) (by decide) (by decide) (by decide) [] (by rw [hml]; rfl) pd_5 rfl (E_o.keep K9) rfl rfl (Nat.le_of_eq rfl) (hb hby d_prog_41m6_13) (pc' := 16) rfl (fun z12 T12 hz12 X12 e12 => ?_)
          have az12 : z12.toInt = pn.toInt := hz12
          have rz12 := rng32 z12
          refine ow_icmp_ge X12 hx ((2 : Int)) (z12.toInt) (hb hby d_prog_41m6_16) rfl rfl (by decide) (pt := 41) (by decide) (pf := 19) rfl (fun c16 => absurd c16 (by omega)) (fun c16 => ?_)
          refine ow_aloadN X12 hx (hb hby d_prog_41m6_19) rfl rfl (pc' := 20) rfl ?_
          refine ow_aloadN X12 hx (hb hby d_prog_41m6_20) rfl rfl (pc' := 21) rfl ?_
          refine ow_iloadN X12 hx (hb hby d_prog_41m6_21) rfl (pc' := 22) rfl ?_
          refine ow_callVPI X12 hx hZ rfl hown (hw _ (List.mem_of_getElem? (i := 63) rfl)) (hw _ (List.mem_of_getElem? (i := 64) rfl)) (hw _ (List.mem_of_getElem? (i := 66) rfl)) (hw _ (List.mem_of_getElem? (i := 65) rfl)) (hw _ (List.mem_of_getElem? (i := 4) rfl)) (hw _ (List.mem_of_getElem? (i := 67) rfl)) (by decide) (rm_chaS l Z a0 hw [] o (2 : Int32) zc f pn wf T9.heap (ow_staKeep S_cs K9 all0) (by first | assumption | decide | omega | (have q0_ : (2 : Int32).toInt = 2 := (by decide); omega)) (E_o.keep K9) (by first | assumption | decide | omega | (have q0_ : (2 : Int32).toInt = 2 := (by decide); omega)) (ow_staKeep S_ad K9 all0) (ow_staKeep S_hi K9 all0) (ow_staKeep S_lo K9 all0) (ow_staKeep S_f K9 all0) (by first | assumption | decide | omega | (have q0_ : (2 : Int32).toInt = 2 := (by decide); omega)) (by first | assumption | decide | omega | (have q0_ : (2 : Int32).toInt = 2 := (by decide); omega)) (by first | assumption | decide | omega | (have q0_ : (2 : Int32).toInt = 2 := (by decide); omega)) (by first | assumption | decide | omega | (have q0_ : (2 : Int32).toInt = 2 := (by decide); omega)) (by first | assumption | decide | omega | (have q0_ : (2 : Int32).toInt = 2 := (by decide); omega)) (by first | assumption | decide | omega | (have q0_ : (2 : Int32).toInt = 2 := (by decide); omega))) e12 1 (by decide) (by decide) (by decide) (by decide) [(.int (2 : Int32))] (by rw [hml]; rfl) pd_20 rfl (E_o.keep K9) rfl rfl (Nat.le_of_eq rfl) (hb hby d_prog_41m6_22) (pc' := 25) rfl (fun z13 T13 hz13 X13 e13 => ?_)
          have az13 : z13.toInt = (f (2 : Int32).toInt.toNat).toInt := hz13
          have rz13 := rng32 z13
          have rr2 := hr (2 : Int32).toInt.toNat
          by_cases han : ((97 ≤ z13.toInt ∧ z13.toInt ≤ 122) ∨ (65 ≤ z13.toInt ∧ z13.toInt ≤ 90) ∨ (48 ≤ z13.toInt ∧ z13.toInt ≤ 57))
          · refine ow_callLam X13 hx hZ hown (hw _ (List.mem_of_getElem? (i := 85) rfl)) (hw _ (List.mem_of_getElem? (i := 86) rfl)) (hw _ (List.mem_of_getElem? (i := 87) rfl)) (hw _ (List.mem_of_getElem? (i := 88) rfl)) (hw _ (List.mem_of_getElem? (i := 25) rfl)) (hw _ (List.mem_of_getElem? (i := 89) rfl)) ⟨by decide +kernel, by decide +kernel, by decide +kernel⟩ ⟨by decide +kernel, by decide +kernel, by decide +kernel⟩ (by decide) (by decide) hmd (ow_fn hfz (ow_zk hzk hzn K9 all0)) ow_fok ow_fd0 ow_fd1 ow_fd4 (rm_unA l Z a0 hw [] hcw hch z13 T9.heap n0 Zs9 (ow_zk hzk hzn K9 all0) hzn (by first | assumption | decide | omega)) (fun v_ h_ L_ vm_ q_ => by obtain ⟨z_, rfl, -, -, p_, -⟩ := q_; exact ⟨z_, rfl, ow_nar1 (by rcases (show z_.toInt = 0 ∨ z_.toInt = 1 from by omega) with w_ | w_; exact Or.inl (ow_eq w_); exact Or.inr (ow_eq w_))⟩) (LT.warm hI9) hS9 (Nat.le_refl _) e13 0 (by decide) (by decide) (by decide) (by decide) (by rw [hml]; rfl) pd_18 rfl pd_18 rfl (Nat.le_of_eq rfl) (hb hby d_prog_41m6_25) (pc' := 30) rfl (fun v14 T14 L14 hQ14 X14 hS14 hZ hown => ?_)
            obtain ⟨z_14, rfl, Nc14, Kc14, P14_0, hI14⟩ := hQ14
            have P14_0 : z_14.toInt = 1 := P14_0
            have Zs14 : n0 ≤ T14.heap.size := Nat.le_trans Zs9 Kc14.1
            have K14 := K9.trans Kc14 all0
            have N14 := Fr.app N9 Nc14
            show Ends _ _ _ _ T14 (mkF m 30 #[.val (.ref o), .val (.ref fa), .val (.int (2 : Int32))] [(.int z_14)])
            have hS15 := StrIs.keep hS K14
            have hO15 : (OKc (f (2 : Int32).toInt.toNat).toInt ∧ z_14.toInt = 1) ∨ (¬ OKc (f (2 : Int32).toInt.toNat).toInt ∧ z_14.toInt = 0) := by rw [← az13]; have p_ := P14_0; unfold OKc; omega
            refine ow_if_ne X14 hx (z_14.toInt) (hb hby d_prog_41m6_30) rfl (by decide) (pt := 35) (by decide) (pf := 33) rfl (fun c30 => ?_) (fun c30 => ?_)
            · have hk2 : OKc (f (2 : Int32).toInt.toNat).toInt := by rcases hO15 with q_ | q_; exact q_.1; exact absurd q_.2 (by omega)
              refine ow_iinc X14 hx (Ls' := #[.val (.ref o), .val (.ref fa), .val (.int (2 : Int32))]) (hb hby d_prog_41m6_35) rfl (fun z => rfl) (pc' := 38) rfl (fun z16 hz16 => ?_)
              obtain rfl : z16 = (3 : Int32) := hz16.trans (by decide)
              show Ends _ _ _ _ T14 (mkF m 38 #[.val (.ref o), .val (.ref fa), .val (.int (3 : Int32))] [])
              refine ow_goto X14 hx (hb hby d_prog_41m6_38) (by decide) (pc' := 11) (by decide) ?_
              refine ow_iloadN X14 hx (hb hby d_prog_41m6_11) rfl (pc' := 12) rfl ?_
              refine ow_aloadN X14 hx (hb hby d_prog_41m6_12) rfl rfl (pc' := 13) rfl ?_
              refine ow_callVPI X14 hx hZ rfl hown (hw _ (List.mem_of_getElem? (i := 53) rfl)) (hw _ (List.mem_of_getElem? (i := 54) rfl)) (hw _ (List.mem_of_getElem? (i := 56) rfl)) (hw _ (List.mem_of_getElem? (i := 55) rfl)) (hw _ (List.mem_of_getElem? (i := 4) rfl)) (hw _ (List.mem_of_getElem? (i := 57) rfl)) (by decide) (rm_lenS l Z a0 hw [] o zc f pn T14.heap (ow_staKeep S_cs K14 all0) (by first | assumption | decide | omega) (E_o.keep K14) (by first | assumption | decide | omega) (by first | assumption | decide | omega) (by first | assumption | decide | omega)) rfl 1 (by decide) (by decide) (by decide) (by decide) [] (by rw [hml]; rfl) pd_5 rfl (E_o.keep K14) rfl rfl (Nat.le_of_eq rfl) (hb hby d_prog_41m6_13) (pc' := 16) rfl (fun z17 T17 hz17 X17 e17 => ?_)
              have az17 : z17.toInt = pn.toInt := hz17
              have rz17 := rng32 z17
              refine ow_icmp_ge X17 hx ((3 : Int)) (z17.toInt) (hb hby d_prog_41m6_16) rfl rfl (by decide) (pt := 41) (by decide) (pf := 19) rfl (fun c16 => ?_) (fun c16 => absurd c16 (by omega))
              refine ow_iconst X17 hx (z := (1 : Int32)) (hb hby d_prog_41m6_41) rfl (pc' := 42) rfl ?_
              exact ow_retBI X17 hx hret hlk (hb hby d_prog_41m6_42) hS14 (by rw [e17]; exact (Nat.le_refl _)) (by decide) (by decide) (z' := (1 : Int32)) rfl (show Q_co3 Z o fa zc f pn wf cK h0 n0 _ T17.heap _ _ from by rw [e17]; exact ⟨(1 : Int32), rfl, N14, K14, (show ((OKc (f (0 : Int32).toInt.toNat).toInt ∧ OKc (f (1 : Int32).toInt.toNat).toInt ∧ OKc (f (2 : Int32).toInt.toNat).toInt) ∧ (1 : Int) = 1) ∨ (¬ (OKc (f (0 : Int32).toInt.toNat).toInt ∧ OKc (f (1 : Int32).toInt.toNat).toInt ∧ OKc (f (2 : Int32).toInt.toNat).toInt) ∧ (1 : Int) = 0) from Or.inl ⟨⟨hk0, hk1, hk2⟩, by decide⟩)⟩)
            · have hk2 : ¬ OKc (f (2 : Int32).toInt.toNat).toInt := by rcases hO15 with q_ | q_; exact absurd q_.2 (by omega); exact q_.1
              refine ow_iconst X14 hx (z := (0 : Int32)) (hb hby d_prog_41m6_33) rfl (pc' := 34) rfl ?_
              exact ow_retBI X14 hx hret hlk (hb hby d_prog_41m6_34) hS14 (Nat.le_refl _) (by decide) (by decide) (z' := (0 : Int32)) rfl (show Q_co3 Z o fa zc f pn wf cK h0 n0 _ T14.heap _ _ from ⟨(0 : Int32), rfl, N14, K14, (show ((OKc (f (0 : Int32).toInt.toNat).toInt ∧ OKc (f (1 : Int32).toInt.toNat).toInt ∧ OKc (f (2 : Int32).toInt.toNat).toInt) ∧ (0 : Int) = 1) ∨ (¬ (OKc (f (0 : Int32).toInt.toNat).toInt ∧ OKc (f (1 : Int32).toInt.toNat).toInt ∧ OKc (f (2 : Int32).toInt.toNat).toInt) ∧ (0 : Int) = 0) from Or.inr ⟨fun q_ => hk2 q_.2.2, by decide⟩)⟩)
          · refine ow_callLam X13 hx hZ hown (hw _ (List.mem_of_getElem? (i := 85) rfl)) (hw _ (List.mem_of_getElem? (i := 86) rfl)) (hw _ (List.mem_of_getElem? (i := 87) rfl)) (hw _ (List.mem_of_getElem? (i := 88) rfl)) (hw _ (List.mem_of_getElem? (i := 25) rfl)) (hw _ (List.mem_of_getElem? (i := 89) rfl)) ⟨by decide +kernel, by decide +kernel, by decide +kernel⟩ ⟨by decide +kernel, by decide +kernel, by decide +kernel⟩ (by decide) (by decide) hmd (ow_fn hfz (ow_zk hzk hzn K9 all0)) ow_fok ow_fd0 ow_fd1 ow_fd4 (rm_unN l Z a0 hw [] hcw hch z13 zc T9.heap n0 Zs9 (ow_zk hzk hzn K9 all0) hzn (ow_staKeep S_cs K9 all0) (by first | assumption | decide | omega) (by first | assumption | decide | omega) (by first | assumption | decide | omega) (by first | assumption | decide | omega)) (fun v_ h_ L_ vm_ q_ => by obtain ⟨z_, oL_, ot_, kt_, rfl, -, -, p_, -, -, -, -, -⟩ := q_; exact ⟨z_, rfl, ow_nar1 (by rcases (show z_.toInt = 0 ∨ z_.toInt = 1 from by omega) with w_ | w_; exact Or.inl (ow_eq w_); exact Or.inr (ow_eq w_))⟩) (LT.warm hI9) hS9 (Nat.le_refl _) e13 0 (by decide) (by decide) (by decide) (by decide) (by rw [hml]; rfl) pd_18 rfl pd_18 rfl (Nat.le_of_eq rfl) (hb hby d_prog_41m6_25) (pc' := 30) rfl (fun v18 T18 L18 hQ18 X18 hS18 hZ hown => ?_)
            obtain ⟨z_18, b18a, b18b, kt_18, rfl, Nc18, Kc18, P18_0, P18_1, P18_2, P18_3, P18_4, hI18⟩ := hQ18
            have P18_0 : ((z13.toInt = 45 ∨ z13.toInt = 46 ∨ z13.toInt = 95 ∨ z13.toInt = 126) ∧ z_18.toInt = 1) ∨ (¬ (z13.toInt = 45 ∨ z13.toInt = 46 ∨ z13.toInt = 95 ∨ z13.toInt = 126) ∧ z_18.toInt = 0) := P18_0
            have Zs18 : n0 ≤ T18.heap.size := Nat.le_trans Zs9 Kc18.1
            have K18 := K9.trans Kc18 all0
            have N18 := Fr.app N9 Nc18
            show Ends _ _ _ _ T18 (mkF m 30 #[.val (.ref o), .val (.ref fa), .val (.int (2 : Int32))] [(.int z_18)])
            have hS19 := StrIs.keep hS K18
            have hO19 : (OKc (f (2 : Int32).toInt.toNat).toInt ∧ z_18.toInt = 1) ∨ (¬ OKc (f (2 : Int32).toInt.toNat).toInt ∧ z_18.toInt = 0) := by rw [← az13]; have p_ := P18_0; unfold OKc; omega
            refine ow_if_ne X18 hx (z_18.toInt) (hb hby d_prog_41m6_30) rfl (by decide) (pt := 35) (by decide) (pf := 33) rfl (fun c30 => ?_) (fun c30 => ?_)
            · have hk2 : OKc (f (2 : Int32).toInt.toNat).toInt := by rcases hO19 with q_ | q_; exact q_.1; exact absurd q_.2 (by omega)
              refine ow_iinc X18 hx (Ls' := #[.val (.ref o), .val (.ref fa), .val (.int (2 : Int32))]) (hb hby d_prog_41m6_35) rfl (fun z => rfl) (pc' := 38) rfl (fun z20 hz20 => ?_)
              obtain rfl : z20 = (3 : Int32) := hz20.trans (by decide)
              show Ends _ _ _ _ T18 (mkF m 38 #[.val (.ref o), .val (.ref fa), .val (.int (3 : Int32))] [])
              refine ow_goto X18 hx (hb hby d_prog_41m6_38) (by decide) (pc' := 11) (by decide) ?_
              refine ow_iloadN X18 hx (hb hby d_prog_41m6_11) rfl (pc' := 12) rfl ?_
              refine ow_aloadN X18 hx (hb hby d_prog_41m6_12) rfl rfl (pc' := 13) rfl ?_
              refine ow_callVPI X18 hx hZ rfl hown (hw _ (List.mem_of_getElem? (i := 53) rfl)) (hw _ (List.mem_of_getElem? (i := 54) rfl)) (hw _ (List.mem_of_getElem? (i := 56) rfl)) (hw _ (List.mem_of_getElem? (i := 55) rfl)) (hw _ (List.mem_of_getElem? (i := 4) rfl)) (hw _ (List.mem_of_getElem? (i := 57) rfl)) (by decide) (rm_lenS l Z a0 hw [] o zc f pn T18.heap (ow_staKeep S_cs K18 all0) (by first | assumption | decide | omega) (E_o.keep K18) (by first | assumption | decide | omega) (by first | assumption | decide | omega) (by first | assumption | decide | omega)) rfl 1 (by decide) (by decide) (by decide) (by decide) [] (by rw [hml]; rfl) pd_5 rfl (E_o.keep K18) rfl rfl (Nat.le_of_eq rfl) (hb hby d_prog_41m6_13) (pc' := 16) rfl (fun z21 T21 hz21 X21 e21 => ?_)
              have az21 : z21.toInt = pn.toInt := hz21
              have rz21 := rng32 z21
              refine ow_icmp_ge X21 hx ((3 : Int)) (z21.toInt) (hb hby d_prog_41m6_16) rfl rfl (by decide) (pt := 41) (by decide) (pf := 19) rfl (fun c16 => ?_) (fun c16 => absurd c16 (by omega))
              refine ow_iconst X21 hx (z := (1 : Int32)) (hb hby d_prog_41m6_41) rfl (pc' := 42) rfl ?_
              exact ow_retBI X21 hx hret hlk (hb hby d_prog_41m6_42) hS18 (by rw [e21]; exact (Nat.le_refl _)) (by decide) (by decide) (z' := (1 : Int32)) rfl (show Q_co3 Z o fa zc f pn wf cK h0 n0 _ T21.heap _ _ from by rw [e21]; exact ⟨(1 : Int32), rfl, N18, K18, (show ((OKc (f (0 : Int32).toInt.toNat).toInt ∧ OKc (f (1 : Int32).toInt.toNat).toInt ∧ OKc (f (2 : Int32).toInt.toNat).toInt) ∧ (1 : Int) = 1) ∨ (¬ (OKc (f (0 : Int32).toInt.toNat).toInt ∧ OKc (f (1 : Int32).toInt.toNat).toInt ∧ OKc (f (2 : Int32).toInt.toNat).toInt) ∧ (1 : Int) = 0) from Or.inl ⟨⟨hk0, hk1, hk2⟩, by decide⟩)⟩)
            · have hk2 : ¬ OKc (f (2 : Int32).toInt.toNat).toInt := by rcases hO19 with q_ | q_; exact absurd q_.2 (by omega); exact q_.1
              refine ow_iconst X18 hx (z := (0 : Int32)) (hb hby d_prog_41m6_33) rfl (pc' := 34) rfl ?_
              exact ow_retBI X18 hx hret hlk (hb hby d_prog_41m6_34) hS18 (Nat.le_refl _) (by decide) (by decide) (z' := (0 : Int32)) rfl (show Q_co3 Z o fa zc f pn wf cK h0 n0 _ T18.heap _ _ from ⟨(0 : Int32), rfl, N18, K18, (show ((OKc (f (0 : Int32).toInt.toNat).toInt ∧ OKc (f (1 : Int32).toInt.toNat).toInt ∧ OKc (f (2 : Int32).toInt.toNat).toInt) ∧ (0 : Int) = 1) ∨ (¬ (OKc (f (0 : Int32).toInt.toNat).toInt ∧ OKc (f (1 : Int32).toInt.toNat).toInt ∧ OKc (f (2 : Int32).toInt.toNat).toInt) ∧ (0 : Int) = 0) from Or.inr ⟨fun q_ => hk2 q_.2.2, by decide⟩)⟩)
        · have hk1 : ¬ OKc (f (1 : Int32).toInt.toNat).toInt := by rcases hO10 with q_ | q_; exact absurd q_.2 (by omega); exact q_.1
          refine ow_iconst X9 hx (z := (0 : Int32)) (hb hby d_prog_41m6_33) rfl (pc' := 34) rfl ?_
          exact ow_retBI X9 hx hret hlk (hb hby d_prog_41m6_34) hS9 (Nat.le_refl _) (by decide) (by decide) (z' := (0 : Int32)) rfl (show Q_co3 Z o fa zc f pn wf cK h0 n0 _ T9.heap _ _ from ⟨(0 : Int32), rfl, N9, K9, (show ((OKc (f (0 : Int32).toInt.toNat).toInt ∧ OKc (f (1 : Int32).toInt.toNat).toInt ∧ OKc (f (2 : Int32).toInt.toNat).toInt) ∧ (0 : Int) = 1) ∨ (¬ (OKc (f (0 : Int32).toInt.toNat).toInt ∧ OKc (f (1 : Int32).toInt.toNat).toInt ∧ OKc (f (2 : Int32).toInt.toNat).toInt) ∧ (0 : Int) = 0) from Or.inr ⟨fun q_ => hk1 q_.2.1, by decide⟩)⟩)
      · refine ow_callLam X8 hx hZ hown (hw _ (List.mem_of_getElem? (i := 85) rfl)) (hw _ (List.mem_of_getElem? (i := 86) rfl)) (hw _ (List.mem_of_getElem? (i := 87) rfl)) (hw _ (List.mem_of_getElem? (i := 88) rfl)) (hw _ (List.mem_of_getElem? (i := 25) rfl)) (hw _ (List.mem_of_getElem? (i := 89) rfl)) ⟨by decide +kernel, by decide +kernel, by decide +kernel⟩ ⟨by decide +kernel, by decide +kernel, by decide +kernel⟩ (by decide) (by decide) hmd (ow_fn hfz (ow_zk hzk hzn K4 all0)) ow_fok ow_fd0 ow_fd1 ow_fd4 (rm_unN l Z a0 hw [] hcw hch z8 zc T4.heap n0 Zs4 (ow_zk hzk hzn K4 all0) hzn (ow_staKeep S_cs K4 all0) (by first | assumption | decide | omega) (by first | assumption | decide | omega) (by first | assumption | decide | omega) (by first | assumption | decide | omega)) (fun v_ h_ L_ vm_ q_ => by obtain ⟨z_, oL_, ot_, kt_, rfl, -, -, p_, -, -, -, -, -⟩ := q_; exact ⟨z_, rfl, ow_nar1 (by rcases (show z_.toInt = 0 ∨ z_.toInt = 1 from by omega) with w_ | w_; exact Or.inl (ow_eq w_); exact Or.inr (ow_eq w_))⟩) (LT.warm hI4) hS4 (Nat.le_refl _) e8 0 (by decide) (by decide) (by decide) (by decide) (by rw [hml]; rfl) pd_18 rfl pd_18 rfl (Nat.le_of_eq rfl) (hb hby d_prog_41m6_25) (pc' := 30) rfl (fun v22 T22 L22 hQ22 X22 hS22 hZ hown => ?_)
        obtain ⟨z_22, b22a, b22b, kt_22, rfl, Nc22, Kc22, P22_0, P22_1, P22_2, P22_3, P22_4, hI22⟩ := hQ22
        have P22_0 : ((z8.toInt = 45 ∨ z8.toInt = 46 ∨ z8.toInt = 95 ∨ z8.toInt = 126) ∧ z_22.toInt = 1) ∨ (¬ (z8.toInt = 45 ∨ z8.toInt = 46 ∨ z8.toInt = 95 ∨ z8.toInt = 126) ∧ z_22.toInt = 0) := P22_0
        have Zs22 : n0 ≤ T22.heap.size := Nat.le_trans Zs4 Kc22.1
        have K22 := K4.trans Kc22 all0
        have N22 := Fr.app N4 Nc22
        show Ends _ _ _ _ T22 (mkF m 30 #[.val (.ref o), .val (.ref fa), .val (.int (1 : Int32))] [(.int z_22)])
        have hS23 := StrIs.keep hS K22
        have hO23 : (OKc (f (1 : Int32).toInt.toNat).toInt ∧ z_22.toInt = 1) ∨ (¬ OKc (f (1 : Int32).toInt.toNat).toInt ∧ z_22.toInt = 0) := by rw [← az8]; have p_ := P22_0; unfold OKc; omega
        refine ow_if_ne X22 hx (z_22.toInt) (hb hby d_prog_41m6_30) rfl (by decide) (pt := 35) (by decide) (pf := 33) rfl (fun c30 => ?_) (fun c30 => ?_)
        · have hk1 : OKc (f (1 : Int32).toInt.toNat).toInt := by rcases hO23 with q_ | q_; exact q_.1; exact absurd q_.2 (by omega)
          refine ow_iinc X22 hx (Ls' := #[.val (.ref o), .val (.ref fa), .val (.int (1 : Int32))]) (hb hby d_prog_41m6_35) rfl (fun z => rfl) (pc' := 38) rfl (fun z24 hz24 => ?_)
          obtain rfl : z24 = (2 : Int32) := hz24.trans (by decide)
          show Ends _ _ _ _ T22 (mkF m 38 #[.val (.ref o), .val (.ref fa), .val (.int (2 : Int32))] [])
          refine ow_goto X22 hx (hb hby d_prog_41m6_38) (by decide) (pc' := 11) (by decide) ?_
          refine ow_iloadN X22 hx (hb hby d_prog_41m6_11) rfl (pc' := 12) rfl ?_
          refine ow_aloadN X22 hx (hb hby d_prog_41m6_12) rfl rfl (pc' := 13) rfl ?_
          refine ow_callVPI X22 hx hZ rfl hown (hw _ (List.mem_of_getElem? (i := 53) rfl)) (hw _ (List.mem_of_getElem? (i := 54) rfl)) (hw _ (List.mem_of_getElem? (i := 56) rfl)) (hw _ (List.mem_of_getElem? (i := 55) rfl)) (hw _ (List.mem_of_getElem? (i := 4) rfl)) (hw _ (List.mem_of_getElem? (i := 57) rfl)) (by decide) (rm_lenS l Z a0 hw [] o zc f pn T22.heap (ow_staKeep S_cs K22 all0) (by first | assumption | decide | omega) (E_o.keep K22) (by first | assumption | decide | omega) (by first | assumption | decide | omega) (by first | assumption | decide | omega)) rfl 1 (by decide) (by decide) (by decide) (by decide) [] (by rw [hml]; rfl) pd_5 rfl (E_o.keep K22) rfl rfl (Nat.le_of_eq rfl) (hb hby d_prog_41m6_13) (pc' := 16) rfl (fun z25 T25 hz25 X25 e25 => ?_)
          have az25 : z25.toInt = pn.toInt := hz25
          have rz25 := rng32 z25
          refine ow_icmp_ge X25 hx ((2 : Int)) (z25.toInt) (hb hby d_prog_41m6_16) rfl rfl (by decide) (pt := 41) (by decide) (pf := 19) rfl (fun c16 => absurd c16 (by omega)) (fun c16 => ?_)
          refine ow_aloadN X25 hx (hb hby d_prog_41m6_19) rfl rfl (pc' := 20) rfl ?_
          refine ow_aloadN X25 hx (hb hby d_prog_41m6_20) rfl rfl (pc' := 21) rfl ?_
          refine ow_iloadN X25 hx (hb hby d_prog_41m6_21) rfl (pc' := 22) rfl ?_
          refine ow_callVPI X25 hx hZ rfl hown (hw _ (List.mem_of_getElem? (i := 63) rfl)) (hw _ (List.mem_of_getElem? (i := 64) rfl)) (hw _ (List.mem_of_getElem? (i := 66) rfl)) (hw _ (List.mem_of_getElem? (i := 65) rfl)) (hw _ (List.mem_of_getElem? (i := 4) rfl)) (hw _ (List.mem_of_getElem? (i := 67) rfl)) (by decide) (rm_chaS l Z a0 hw [] o (2 : Int32) zc f pn wf T22.heap (ow_staKeep S_cs K22 all0) (by first | assumption | decide | omega | (have q0_ : (2 : Int32).toInt = 2 := (by decide); omega)) (E_o.keep K22) (by first | assumption | decide | omega | (have q0_ : (2 : Int32).toInt = 2 := (by decide); omega)) (ow_staKeep S_ad K22 all0) (ow_staKeep S_hi K22 all0) (ow_staKeep S_lo K22 all0) (ow_staKeep S_f K22 all0) (by first | assumption | decide | omega | (have q0_ : (2 : Int32).toInt = 2 := (by decide); omega)) (by first | assumption | decide | omega | (have q0_ : (2 : Int32).toInt = 2 := (by decide); omega)) (by first | assumption | decide | omega | (have q0_ : (2 : Int32).toInt = 2 := (by decide); omega)) (by first | assumption | decide | omega | (have q0_ : (2 : Int32).toInt = 2 := (by decide); omega)) (by first | assumption | decide | omega | (have q0_ : (2 : Int32).toInt = 2 := (by decide); omega)) (by first | assumption | decide | omega | (have q0_ : (2 : Int32).toInt = 2 := (by decide); omega))) e25 1 (by decide) (by decide) (by decide) (by decide) [(.int (2 : Int32))] (by rw [hml]; rfl) pd_20 rfl (E_o.keep K22) rfl rfl (Nat.le_of_eq rfl) (hb hby d_prog_41m6_22) (pc' := 25) rfl (fun z26 T26 hz26 X26 e26 => ?_)
          have az26 : z26.toInt = (f (2 : Int32).toInt.toNat).toInt := hz26
          have rz26 := rng32 z26
          have rr2 := hr (2 : Int32).toInt.toNat
          refine ow_callLam X26 hx hZ hown (hw _ (List.mem_of_getElem? (i := 85) rfl)) (hw _ (List.mem_of_getElem? (i := 86) rfl)) (hw _ (List.mem_of_getElem? (i := 87) rfl)) (hw _ (List.mem_of_getElem? (i := 88) rfl)) (hw _ (List.mem_of_getElem? (i := 25) rfl)) (hw _ (List.mem_of_getElem? (i := 89) rfl)) ⟨by decide +kernel, by decide +kernel, by decide +kernel⟩ ⟨by decide +kernel, by decide +kernel, by decide +kernel⟩ (by decide) (by decide) hmd (ow_fn hfz (ow_zk hzk hzn K22 all0)) ow_fok ow_fd0 ow_fd1 ow_fd4 (rm_unB l Z a0 hw [] hcw hch z26 zc b22a b22b kt_22 T22.heap n0 Zs22 (ow_zk hzk hzn K22 all0) hzn (ow_staKeep S_cs K22 all0) (by first | assumption | decide | omega) P22_1 P22_2 P22_3 P22_4 (by first | assumption | decide | omega) (by first | assumption | decide | omega)) (fun v_ h_ L_ vm_ q_ => by obtain ⟨z_, rfl, -, -, p_, -⟩ := q_; exact ⟨z_, rfl, ow_nar1 (by rcases (show z_.toInt = 0 ∨ z_.toInt = 1 from by omega) with w_ | w_; exact Or.inl (ow_eq w_); exact Or.inr (ow_eq w_))⟩) (LT.warm hI22) hS22 (Nat.le_refl _) e26 0 (by decide) (by decide) (by decide) (by decide) (by rw [hml]; rfl) pd_18 rfl pd_18 rfl (Nat.le_of_eq rfl) (hb hby d_prog_41m6_25) (pc' := 30) rfl (fun v27 T27 L27 hQ27 X27 hS27 hZ hown => ?_)
          obtain ⟨z_27, rfl, Nc27, Kc27, P27_0, hI27⟩ := hQ27
          have P27_0 : (((97 ≤ z26.toInt ∧ z26.toInt ≤ 122) ∨ (65 ≤ z26.toInt ∧ z26.toInt ≤ 90) ∨ (48 ≤ z26.toInt ∧ z26.toInt ≤ 57) ∨ z26.toInt = 45 ∨ z26.toInt = 46 ∨ z26.toInt = 95 ∨ z26.toInt = 126) ∧ z_27.toInt = 1) ∨ (¬ ((97 ≤ z26.toInt ∧ z26.toInt ≤ 122) ∨ (65 ≤ z26.toInt ∧ z26.toInt ≤ 90) ∨ (48 ≤ z26.toInt ∧ z26.toInt ≤ 57) ∨ z26.toInt = 45 ∨ z26.toInt = 46 ∨ z26.toInt = 95 ∨ z26.toInt = 126) ∧ z_27.toInt = 0) := P27_0
          have E_b22a_27 := P22_1.keep Kc27
          have F_b22a_coder_27 := P22_2.keep Kc27 nin0
          have F_b22a_value_27 := P22_3.keep Kc27 nin0
          have V_b22b_27 := P22_4.keep Kc27 nin0
          have Zs27 : n0 ≤ T27.heap.size := Nat.le_trans Zs22 Kc27.1
          have K27 := K22.trans Kc27 all0
          have N27 := Fr.app N22 Nc27
          show Ends _ _ _ _ T27 (mkF m 30 #[.val (.ref o), .val (.ref fa), .val (.int (2 : Int32))] [(.int z_27)])
          have hS28 := StrIs.keep hS K27
          have hO28 : (OKc (f (2 : Int32).toInt.toNat).toInt ∧ z_27.toInt = 1) ∨ (¬ OKc (f (2 : Int32).toInt.toNat).toInt ∧ z_27.toInt = 0) := by rw [← az26]; have p_ := P27_0; unfold OKc; omega
          refine ow_if_ne X27 hx (z_27.toInt) (hb hby d_prog_41m6_30) rfl (by decide) (pt := 35) (by decide) (pf := 33) rfl (fun c30 => ?_) (fun c30 => ?_)
          · have hk2 : OKc (f (2 : Int32).toInt.toNat).toInt := by rcases hO28 with q_ | q_; exact q_.1; exact absurd q_.2 (by omega)
            refine ow_iinc X27 hx (Ls' := #[.val (.ref o), .val (.ref fa), .val (.int (2 : Int32))]) (hb hby d_prog_41m6_35) rfl (fun z => rfl) (pc' := 38) rfl (fun z29 hz29 => ?_)
            obtain rfl : z29 = (3 : Int32) := hz29.trans (by decide)
            show Ends _ _ _ _ T27 (mkF m 38 #[.val (.ref o), .val (.ref fa), .val (.int (3 : Int32))] [])
            refine ow_goto X27 hx (hb hby d_prog_41m6_38) (by decide) (pc' := 11) (by decide) ?_
            refine ow_iloadN X27 hx (hb hby d_prog_41m6_11) rfl (pc' := 12) rfl ?_
            refine ow_aloadN X27 hx (hb hby d_prog_41m6_12) rfl rfl (pc' := 13) rfl ?_
            refine ow_callVPI X27 hx hZ rfl hown (hw _ (List.mem_of_getElem? (i := 53) rfl)) (hw _ (List.mem_of_getElem? (i := 54) rfl)) (hw _ (List.mem_of_getElem? (i := 56) rfl)) (hw _ (List.mem_of_getElem? (i := 55) rfl)) (hw _ (List.mem_of_getElem? (i := 4) rfl)) (hw _ (List.mem_of_getElem? (i := 57) rfl)) (by decide) (rm_lenS l Z a0 hw [] o zc f pn T27.heap (ow_staKeep S_cs K27 all0) (by first | assumption | decide | omega) (E_o.keep K27) (by first | assumption | decide | omega) (by first | assumption | decide | omega) (by first | assumption | decide | omega)) rfl 1 (by decide) (by decide) (by decide) (by decide) [] (by rw [hml]; rfl) pd_5 rfl (E_o.keep K27) rfl rfl (Nat.le_of_eq rfl) (hb hby d_prog_41m6_13) (pc' := 16) rfl (fun z30 T30 hz30 X30 e30 => ?_)
            have az30 : z30.toInt = pn.toInt := hz30
            have rz30 := rng32 z30
            refine ow_icmp_ge X30 hx ((3 : Int)) (z30.toInt) (hb hby d_prog_41m6_16) rfl rfl (by decide) (pt := 41) (by decide) (pf := 19) rfl (fun c16 => ?_) (fun c16 => absurd c16 (by omega))
            refine ow_iconst X30 hx (z := (1 : Int32)) (hb hby d_prog_41m6_41) rfl (pc' := 42) rfl ?_
            exact ow_retBI X30 hx hret hlk (hb hby d_prog_41m6_42) hS27 (by rw [e30]; exact (Nat.le_refl _)) (by decide) (by decide) (z' := (1 : Int32)) rfl (show Q_co3 Z o fa zc f pn wf cK h0 n0 _ T30.heap _ _ from by rw [e30]; exact ⟨(1 : Int32), rfl, N27, K27, (show ((OKc (f (0 : Int32).toInt.toNat).toInt ∧ OKc (f (1 : Int32).toInt.toNat).toInt ∧ OKc (f (2 : Int32).toInt.toNat).toInt) ∧ (1 : Int) = 1) ∨ (¬ (OKc (f (0 : Int32).toInt.toNat).toInt ∧ OKc (f (1 : Int32).toInt.toNat).toInt ∧ OKc (f (2 : Int32).toInt.toNat).toInt) ∧ (1 : Int) = 0) from Or.inl ⟨⟨hk0, hk1, hk2⟩, by decide⟩)⟩)
          · have hk2 : ¬ OKc (f (2 : Int32).toInt.toNat).toInt := by rcases hO28 with q_ | q_; exact absurd q_.2 (by omega); exact q_.1
            refine ow_iconst X27 hx (z := (0 : Int32)) (hb hby d_prog_41m6_33) rfl (pc' := 34) rfl ?_
            exact ow_retBI X27 hx hret hlk (hb hby d_prog_41m6_34) hS27 (Nat.le_refl _) (by decide) (by decide) (z' := (0 : Int32)) rfl (show Q_co3 Z o fa zc f pn wf cK h0 n0 _ T27.heap _ _ from ⟨(0 : Int32), rfl, N27, K27, (show ((OKc (f (0 : Int32).toInt.toNat).toInt ∧ OKc (f (1 : Int32).toInt.toNat).toInt ∧ OKc (f (2 : Int32).toInt.toNat).toInt) ∧ (0 : Int) = 1) ∨ (¬ (OKc (f (0 : Int32).toInt.toNat).toInt ∧ OKc (f (1 : Int32).toInt.toNat).toInt ∧ OKc (f (2 : Int32).toInt.toNat).toInt) ∧ (0 : Int) = 0) from Or.inr ⟨fun q_ => hk2 q_.2.2, by decide⟩)⟩)
        · have hk1 : ¬ OKc (f (1 : Int32).toInt.toNat).toInt := by rcases hO23 with q_ | q_; exact absurd q_.2 (by omega); exact q_.1
          refine ow_iconst X22 hx (z := (0 : Int32)) (hb hby d_prog_41m6_33) rfl (pc' := 34) rfl ?_
          exact ow_retBI X22 hx hret hlk (hb hby d_prog_41m6_34) hS22 (Nat.le_refl _) (by decide) (by decide) (z' := (0 : Int32)) rfl (show Q_co3 Z o fa zc f pn wf cK h0 n0 _ T22.heap _ _ from ⟨(0 : Int32), rfl, N22, K22, (show ((OKc (f (0 : Int32).toInt.toNat).toInt ∧ OKc (f (1 : Int32).toInt.toNat).toInt ∧ OKc (f (2 : Int32).toInt.toNat).toInt) ∧ (0 : Int) = 1) ∨ (¬ (OKc (f (0 : Int32).toInt.toNat).toInt ∧ OKc (f (1 : Int32).toInt.toNat).toInt ∧ OKc (f (2 : Int32).toInt.toNat).toInt) ∧ (0 : Int) = 0) from Or.inr ⟨fun q_ => hk1 q_.2.1, by decide⟩)⟩)
    · have hk0 : ¬ OKc (f (0 : Int32).toInt.toNat).toInt := by rcases hO5 with q_ | q_; exact absurd q_.2 (by omega); exact q_.1
      refine ow_iconst X4 hx (z := (0 : Int32)) (hb hby d_prog_41m6_33) rfl (pc' := 34) rfl ?_
      exact ow_retBI X4 hx hret hlk (hb hby d_prog_41m6_34) hS4 (Nat.le_refl _) (by decide) (by decide) (z' := (0 : Int32)) rfl (show Q_co3 Z o fa zc f pn wf cK h0 n0 _ T4.heap _ _ from ⟨(0 : Int32), rfl, N4, K4, (show ((OKc (f (0 : Int32).toInt.toNat).toInt ∧ OKc (f (1 : Int32).toInt.toNat).toInt ∧ OKc (f (2 : Int32).toInt.toNat).toInt) ∧ (0 : Int) = 1) ∨ (¬ (OKc (f (0 : Int32).toInt.toNat).toInt ∧ OKc (f (1 : Int32).toInt.toNat).toInt ∧ OKc (f (2 : Int32).toInt.toNat).toInt) ∧ (0 : Int) = 0) from Or.inr ⟨fun q_ => hk0 q_.1, by decide⟩)⟩)
  · refine ow_callLam X3 hx hZ hown (hw _ (List.mem_of_getElem? (i := 85) rfl)) (hw _ (List.mem_of_getElem? (i := 86) rfl)) (hw _ (List.mem_of_getElem? (i := 87) rfl)) (hw _ (List.mem_of_getElem? (i := 88) rfl)) (hw _ (List.mem_of_getElem? (i := 25) rfl)) (hw _ (List.mem_of_getElem? (i := 89) rfl)) ⟨by decide +kernel, by decide +kernel, by decide +kernel⟩ ⟨by decide +kernel, by decide +kernel, by decide +kernel⟩ (by decide) (by decide) hmd (ow_fn hfz (ow_zk hzk hzn (Keep.refl h0 []) all0)) ow_fok ow_fd0 ow_fd1 ow_fd4 (rm_unN l Z a0 hw [] hcw hch z3 zc h0 n0 Z0 (ow_zk hzk hzn (Keep.refl h0 []) all0) hzn S_cs (by first | assumption | decide | omega) (by first | assumption | decide | omega) (by first | assumption | decide | omega) (by first | assumption | decide | omega)) (fun v_ h_ L_ vm_ q_ => by obtain ⟨z_, oL_, ot_, kt_, rfl, -, -, p_, -, -, -, -, -⟩ := q_; exact ⟨z_, rfl, ow_nar1 (by rcases (show z_.toInt = 0 ∨ z_.toInt = 1 from by omega) with w_ | w_; exact Or.inl (ow_eq w_); exact Or.inr (ow_eq w_))⟩) (LT.warm hI0) hS0 (Nat.zero_le _) e3 0 (by decide) (by decide) (by decide) (by decide) (by rw [hml]; rfl) pd_18 rfl pd_18 rfl (Nat.le_of_eq rfl) (hb hby d_prog_41m6_25) (pc' := 30) rfl (fun v31 T31 L31 hQ31 X31 hS31 hZ hown => ?_)
    obtain ⟨z_31, b31a, b31b, kt_31, rfl, Nc31, Kc31, P31_0, P31_1, P31_2, P31_3, P31_4, hI31⟩ := hQ31
    have P31_0 : ((z3.toInt = 45 ∨ z3.toInt = 46 ∨ z3.toInt = 95 ∨ z3.toInt = 126) ∧ z_31.toInt = 1) ∨ (¬ (z3.toInt = 45 ∨ z3.toInt = 46 ∨ z3.toInt = 95 ∨ z3.toInt = 126) ∧ z_31.toInt = 0) := P31_0
    have Zs31 : n0 ≤ T31.heap.size := Nat.le_trans Z0 Kc31.1
    have K31 := (Keep.refl h0 []).trans Kc31 all0
    have N31 := Fr.app N0 Nc31
    show Ends _ _ _ _ T31 (mkF m 30 #[.val (.ref o), .val (.ref fa), .val (.int (0 : Int32))] [(.int z_31)])
    have hS32 := StrIs.keep hS K31
    have hO32 : (OKc (f (0 : Int32).toInt.toNat).toInt ∧ z_31.toInt = 1) ∨ (¬ OKc (f (0 : Int32).toInt.toNat).toInt ∧ z_31.toInt = 0) := by rw [← az3]; have p_ := P31_0; unfold OKc; omega
    refine ow_if_ne X31 hx (z_31.toInt) (hb hby d_prog_41m6_30) rfl (by decide) (pt := 35) (by decide) (pf := 33) rfl (fun c30 => ?_) (fun c30 => ?_)
    · have hk0 : OKc (f (0 : Int32).toInt.toNat).toInt := by rcases hO32 with q_ | q_; exact q_.1; exact absurd q_.2 (by omega)
      refine ow_iinc X31 hx (Ls' := #[.val (.ref o), .val (.ref fa), .val (.int (0 : Int32))]) (hb hby d_prog_41m6_35) rfl (fun z => rfl) (pc' := 38) rfl (fun z33 hz33 => ?_)
      obtain rfl : z33 = (1 : Int32) := hz33.trans (by decide)
      show Ends _ _ _ _ T31 (mkF m 38 #[.val (.ref o), .val (.ref fa), .val (.int (1 : Int32))] [])
      refine ow_goto X31 hx (hb hby d_prog_41m6_38) (by decide) (pc' := 11) (by decide) ?_
      refine ow_iloadN X31 hx (hb hby d_prog_41m6_11) rfl (pc' := 12) rfl ?_
      refine ow_aloadN X31 hx (hb hby d_prog_41m6_12) rfl rfl (pc' := 13) rfl ?_
      refine ow_callVPI X31 hx hZ rfl hown (hw _ (List.mem_of_getElem? (i := 53) rfl)) (hw _ (List.mem_of_getElem? (i := 54) rfl)) (hw _ (List.mem_of_getElem? (i := 56) rfl)) (hw _ (List.mem_of_getElem? (i := 55) rfl)) (hw _ (List.mem_of_getElem? (i := 4) rfl)) (hw _ (List.mem_of_getElem? (i := 57) rfl)) (by decide) (rm_lenS l Z a0 hw [] o zc f pn T31.heap (ow_staKeep S_cs K31 all0) (by first | assumption | decide | omega) (E_o.keep K31) (by first | assumption | decide | omega) (by first | assumption | decide | omega) (by first | assumption | decide | omega)) rfl 1 (by decide) (by decide) (by decide) (by decide) [] (by rw [hml]; rfl) pd_5 rfl (E_o.keep K31) rfl rfl (Nat.le_of_eq rfl) (hb hby d_prog_41m6_13) (pc' := 16) rfl (fun z34 T34 hz34 X34 e34 => ?_)
      have az34 : z34.toInt = pn.toInt := hz34
      have rz34 := rng32 z34
      refine ow_icmp_ge X34 hx ((1 : Int)) (z34.toInt) (hb hby d_prog_41m6_16) rfl rfl (by decide) (pt := 41) (by decide) (pf := 19) rfl (fun c16 => absurd c16 (by omega)) (fun c16 => ?_)
      refine ow_aloadN X34 hx (hb hby d_prog_41m6_19) rfl rfl (pc' := 20) rfl ?_
      refine ow_aloadN X34 hx (hb hby d_prog_41m6_20) rfl rfl (pc' := 21) rfl ?_
      refine ow_iloadN X34 hx (hb hby d_prog_41m6_21) rfl (pc' := 22) rfl ?_
      refine ow_callVPI X34 hx hZ rfl hown (hw _ (List.mem_of_getElem? (i := 63) rfl)) (hw _ (List.mem_of_getElem? (i := 64) rfl)) (hw _ (List.mem_of_getElem? (i := 66) rfl)) (hw _ (List.mem_of_getElem? (i := 65) rfl)) (hw _ (List.mem_of_getElem? (i := 4) rfl)) (hw _ (List.mem_of_getElem? (i := 67) rfl)) (by decide) (rm_chaS l Z a0 hw [] o (1 : Int32) zc f pn wf T31.heap (ow_staKeep S_cs K31 all0) (by first | assumption | decide | omega | (have q0_ : (1 : Int32).toInt = 1 := (by decide); omega)) (E_o.keep K31) (by first | assumption | decide | omega | (have q0_ : (1 : Int32).toInt = 1 := (by decide); omega)) (ow_staKeep S_ad K31 all0) (ow_staKeep S_hi K31 all0) (ow_staKeep S_lo K31 all0) (ow_staKeep S_f K31 all0) (by first | assumption | decide | omega | (have q0_ : (1 : Int32).toInt = 1 := (by decide); omega)) (by first | assumption | decide | omega | (have q0_ : (1 : Int32).toInt = 1 := (by decide); omega)) (by first | assumption | decide | omega | (have q0_ : (1 : Int32).toInt = 1 := (by decide); omega)) (by first | assumption | decide | omega | (have q0_ : (1 : Int32).toInt = 1 := (by decide); omega)) (by first | assumption | decide | omega | (have q0_ : (1 : Int32).toInt = 1 := (by decide); omega)) (by first | assumption | decide | omega | (have q0_ : (1 : Int32).toInt = 1 := (by decide); omega))) e34 1 (by decide) (by decide) (by decide) (by decide) [(.int (1 : Int32))] (by rw [hml]; rfl) pd_20 rfl (E_o.keep K31) rfl rfl (Nat.le_of_eq rfl) (hb hby d_prog_41m6_22) (pc' := 25) rfl (fun z35 T35 hz35 X35 e35 => ?_)
      have az35 : z35.toInt = (f (1 : Int32).toInt.toNat).toInt := hz35
      have rz35 := rng32 z35
      have rr1 := hr (1 : Int32).toInt.toNat
      refine ow_callLam X35 hx hZ hown (hw _ (List.mem_of_getElem? (i := 85) rfl)) (hw _ (List.mem_of_getElem? (i := 86) rfl)) (hw _ (List.mem_of_getElem? (i := 87) rfl)) (hw _ (List.mem_of_getElem? (i := 88) rfl)) (hw _ (List.mem_of_getElem? (i := 25) rfl)) (hw _ (List.mem_of_getElem? (i := 89) rfl)) ⟨by decide +kernel, by decide +kernel, by decide +kernel⟩ ⟨by decide +kernel, by decide +kernel, by decide +kernel⟩ (by decide) (by decide) hmd (ow_fn hfz (ow_zk hzk hzn K31 all0)) ow_fok ow_fd0 ow_fd1 ow_fd4 (rm_unB l Z a0 hw [] hcw hch z35 zc b31a b31b kt_31 T31.heap n0 Zs31 (ow_zk hzk hzn K31 all0) hzn (ow_staKeep S_cs K31 all0) (by first | assumption | decide | omega) P31_1 P31_2 P31_3 P31_4 (by first | assumption | decide | omega) (by first | assumption | decide | omega)) (fun v_ h_ L_ vm_ q_ => by obtain ⟨z_, rfl, -, -, p_, -⟩ := q_; exact ⟨z_, rfl, ow_nar1 (by rcases (show z_.toInt = 0 ∨ z_.toInt = 1 from by omega) with w_ | w_; exact Or.inl (ow_eq w_); exact Or.inr (ow_eq w_))⟩) (LT.warm hI31) hS31 (Nat.le_refl _) e35 0 (by decide) (by decide) (by decide) (by decide) (by rw [hml]; rfl) pd_18 rfl pd_18 rfl (Nat.le_of_eq rfl) (hb hby d_prog_41m6_25) (pc' := 30) rfl (fun v36 T36 L36 hQ36 X36 hS36 hZ hown => ?_)
      obtain ⟨z_36, rfl, Nc36, Kc36, P36_0, hI36⟩ := hQ36
      have P36_0 : (((97 ≤ z35.toInt ∧ z35.toInt ≤ 122) ∨ (65 ≤ z35.toInt ∧ z35.toInt ≤ 90) ∨ (48 ≤ z35.toInt ∧ z35.toInt ≤ 57) ∨ z35.toInt = 45 ∨ z35.toInt = 46 ∨ z35.toInt = 95 ∨ z35.toInt = 126) ∧ z_36.toInt = 1) ∨ (¬ ((97 ≤ z35.toInt ∧ z35.toInt ≤ 122) ∨ (65 ≤ z35.toInt ∧ z35.toInt ≤ 90) ∨ (48 ≤ z35.toInt ∧ z35.toInt ≤ 57) ∨ z35.toInt = 45 ∨ z35.toInt = 46 ∨ z35.toInt = 95 ∨ z35.toInt = 126) ∧ z_36.toInt = 0) := P36_0
      have E_b31a_36 := P31_1.keep Kc36
      have F_b31a_coder_36 := P31_2.keep Kc36 nin0
      have F_b31a_value_36 := P31_3.keep Kc36 nin0
      have V_b31b_36 := P31_4.keep Kc36 nin0
      have Zs36 : n0 ≤ T36.heap.size := Nat.le_trans Zs31 Kc36.1
      have K36 := K31.trans Kc36 all0
      have N36 := Fr.app N31 Nc36
      show Ends _ _ _ _ T36 (mkF m 30 #[.val (.ref o), .val (.ref fa), .val (.int (1 : Int32))] [(.int z_36)])
      have hS37 := StrIs.keep hS K36
      have hO37 : (OKc (f (1 : Int32).toInt.toNat).toInt ∧ z_36.toInt = 1) ∨ (¬ OKc (f (1 : Int32).toInt.toNat).toInt ∧ z_36.toInt = 0) := by rw [← az35]; have p_ := P36_0; unfold OKc; omega
      refine ow_if_ne X36 hx (z_36.toInt) (hb hby d_prog_41m6_30) rfl (by decide) (pt := 35) (by decide) (pf := 33) rfl (fun c30 => ?_) (fun c30 => ?_)
      · have hk1 : OKc (f (1 : Int32).toInt.toNat).toInt := by rcases hO37 with q_ | q_; exact q_.1; exact absurd q_.2 (by omega)
        refine ow_iinc X36 hx (Ls' := #[.val (.ref o), .val (.ref fa), .val (.int (1 : Int32))]) (hb hby d_prog_41m6_35) rfl (fun z => rfl) (pc' := 38) rfl (fun z38 hz38 => ?_)
        obtain rfl : z38 = (2 : Int32) := hz38.trans (by decide)
        show Ends _ _ _ _ T36 (mkF m 38 #[.val (.ref o), .val (.ref fa), .val (.int (2 : Int32))] [])
        refine ow_goto X36 hx (hb hby d_prog_41m6_38) (by decide) (pc' := 11) (by decide) ?_
        refine ow_iloadN X36 hx (hb hby d_prog_41m6_11) rfl (pc' := 12) rfl ?_
        refine ow_aloadN X36 hx (hb hby d_prog_41m6_12) rfl rfl (pc' := 13) rfl ?_
        refine ow_callVPI X36 hx hZ rfl hown (hw _ (List.mem_of_getElem? (i := 53) rfl)) (hw _ (List.mem_of_getElem? (i := 54) rfl)) (hw _ (List.mem_of_getElem? (i := 56) rfl)) (hw _ (List.mem_of_getElem? (i := 55) rfl)) (hw _ (List.mem_of_getElem? (i := 4) rfl)) (hw _ (List.mem_of_getElem? (i := 57) rfl)) (by decide) (rm_lenS l Z a0 hw [] o zc f pn T36.heap (ow_staKeep S_cs K36 all0) (by first | assumption | decide | omega) (E_o.keep K36) (by first | assumption | decide | omega) (by first | assumption | decide | omega) (by first | assumption | decide | omega)) rfl 1 (by decide) (by decide) (by decide) (by decide) [] (by rw [hml]; rfl) pd_5 rfl (E_o.keep K36) rfl rfl (Nat.le_of_eq rfl) (hb hby d_prog_41m6_13) (pc' := 16) rfl (fun z39 T39 hz39 X39 e39 => ?_)
        have az39 : z39.toInt = pn.toInt := hz39
        have rz39 := rng32 z39
        refine ow_icmp_ge X39 hx ((2 : Int)) (z39.toInt) (hb hby d_prog_41m6_16) rfl rfl (by decide) (pt := 41) (by decide) (pf := 19) rfl (fun c16 => absurd c16 (by omega)) (fun c16 => ?_)
        refine ow_aloadN X39 hx (hb hby d_prog_41m6_19) rfl rfl (pc' := 20) rfl ?_
        refine ow_aloadN X39 hx (hb hby d_prog_41m6_20) rfl rfl (pc' := 21) rfl ?_
        refine ow_iloadN X39 hx (hb hby d_prog_41m6_21) rfl (pc' := 22) rfl ?_
        refine ow_callVPI X39 hx hZ rfl hown (hw _ (List.mem_of_getElem? (i := 63) rfl)) (hw _ (List.mem_of_getElem? (i := 64) rfl)) (hw _ (List.mem_of_getElem? (i := 66) rfl)) (hw _ (List.mem_of_getElem? (i := 65) rfl)) (hw _ (List.mem_of_getElem? (i := 4) rfl)) (hw _ (List.mem_of_getElem? (i := 67) rfl)) (by decide) (rm_chaS l Z a0 hw [] o (2 : Int32) zc f pn wf T36.heap (ow_staKeep S_cs K36 all0) (by first | assumption | decide | omega | (have q0_ : (2 : Int32).toInt = 2 := (by decide); omega)) (E_o.keep K36) (by first | assumption | decide | omega | (have q0_ : (2 : Int32).toInt = 2 := (by decide); omega)) (ow_staKeep S_ad K36 all0) (ow_staKeep S_hi K36 all0) (ow_staKeep S_lo K36 all0) (ow_staKeep S_f K36 all0) (by first | assumption | decide | omega | (have q0_ : (2 : Int32).toInt = 2 := (by decide); omega)) (by first | assumption | decide | omega | (have q0_ : (2 : Int32).toInt = 2 := (by decide); omega)) (by first | assumption | decide | omega | (have q0_ : (2 : Int32).toInt = 2 := (by decide); omega)) (by first | assumption | decide | omega | (have q0_ : (2 : Int32).toInt = 2 := (by decide); omega)) (by first | assumption | decide | omega | (have q0_ : (2 : Int32).toInt = 2 := (by decide); omega)) (by first | assumption | decide | omega | (have q0_ : (2 : Int32).toInt = 2 := (by decide); omega))) e39 1 (by decide) (by decide) (by decide) (by decide) [(.int (2 : Int32))] (by rw [hml]; rfl) pd_20 rfl (E_o.keep K36) rfl rfl (Nat.le_of_eq rfl) (hb hby d_prog_41m6_22) (pc' := 25) rfl (fun z40 T40 hz40 X40 e40 => ?_)
        have az40 : z40.toInt = (f (2 : Int32).toInt.toNat).toInt := hz40
        have rz40 := rng32 z40
        have rr2 := hr (2 : Int32).toInt.toNat
        refine ow_callLam X40 hx hZ hown (hw _ (List.mem_of_getElem? (i := 85) rfl)) (hw _ (List.mem_of_getElem? (i := 86) rfl)) (hw _ (List.mem_of_getElem? (i := 87) rfl)) (hw _ (List.mem_of_getElem? (i := 88) rfl)) (hw _ (List.mem_of_getElem? (i := 25) rfl)) (hw _ (List.mem_of_getElem? (i := 89) rfl)) ⟨by decide +kernel, by decide +kernel, by decide +kernel⟩ ⟨by decide +kernel, by decide +kernel, by decide +kernel⟩ (by decide) (by decide) hmd (ow_fn hfz (ow_zk hzk hzn K36 all0)) ow_fok ow_fd0 ow_fd1 ow_fd4 (rm_unB l Z a0 hw [] hcw hch z40 zc b31a b31b kt_31 T36.heap n0 Zs36 (ow_zk hzk hzn K36 all0) hzn (ow_staKeep S_cs K36 all0) (by first | assumption | decide | omega) E_b31a_36 F_b31a_coder_36 F_b31a_value_36 V_b31b_36 (by first | assumption | decide | omega) (by first | assumption | decide | omega)) (fun v_ h_ L_ vm_ q_ => by obtain ⟨z_, rfl, -, -, p_, -⟩ := q_; exact ⟨z_, rfl, ow_nar1 (by rcases (show z_.toInt = 0 ∨ z_.toInt = 1 from by omega) with w_ | w_; exact Or.inl (ow_eq w_); exact Or.inr (ow_eq w_))⟩) (LT.warm hI36) hS36 (Nat.le_refl _) e40 0 (by decide) (by decide) (by decide) (by decide) (by rw [hml]; rfl) pd_18 rfl pd_18 rfl (Nat.le_of_eq rfl) (hb hby d_prog_41m6_25) (pc' := 30) rfl (fun v41 T41 L41 hQ41 X41 hS41 hZ hown => ?_)
        obtain ⟨z_41, rfl, Nc41, Kc41, P41_0, hI41⟩ := hQ41
        have P41_0 : (((97 ≤ z40.toInt ∧ z40.toInt ≤ 122) ∨ (65 ≤ z40.toInt ∧ z40.toInt ≤ 90) ∨ (48 ≤ z40.toInt ∧ z40.toInt ≤ 57) ∨ z40.toInt = 45 ∨ z40.toInt = 46 ∨ z40.toInt = 95 ∨ z40.toInt = 126) ∧ z_41.toInt = 1) ∨ (¬ ((97 ≤ z40.toInt ∧ z40.toInt ≤ 122) ∨ (65 ≤ z40.toInt ∧ z40.toInt ≤ 90) ∨ (48 ≤ z40.toInt ∧ z40.toInt ≤ 57) ∨ z40.toInt = 45 ∨ z40.toInt = 46 ∨ z40.toInt = 95 ∨ z40.toInt = 126) ∧ z_41.toInt = 0) := P41_0
        have E_b31a_41 := E_b31a_36.keep Kc41
        have F_b31a_coder_41 := F_b31a_coder_36.keep Kc41 nin0
        have F_b31a_value_41 := F_b31a_value_36.keep Kc41 nin0
        have V_b31b_41 := V_b31b_36.keep Kc41 nin0
        have Zs41 : n0 ≤ T41.heap.size := Nat.le_trans Zs36 Kc41.1
        have K41 := K36.trans Kc41 all0
        have N41 := Fr.app N36 Nc41
        show Ends _ _ _ _ T41 (mkF m 30 #[.val (.ref o), .val (.ref fa), .val (.int (2 : Int32))] [(.int z_41)])
        have hS42 := StrIs.keep hS K41
        have hO42 : (OKc (f (2 : Int32).toInt.toNat).toInt ∧ z_41.toInt = 1) ∨ (¬ OKc (f (2 : Int32).toInt.toNat).toInt ∧ z_41.toInt = 0) := by rw [← az40]; have p_ := P41_0; unfold OKc; omega
        refine ow_if_ne X41 hx (z_41.toInt) (hb hby d_prog_41m6_30) rfl (by decide) (pt := 35) (by decide) (pf := 33) rfl (fun c30 => ?_) (fun c30 => ?_)
        · have hk2 : OKc (f (2 : Int32).toInt.toNat).toInt := by rcases hO42 with q_ | q_; exact q_.1; exact absurd q_.2 (by omega)
          refine ow_iinc X41 hx (Ls' := #[.val (.ref o), .val (.ref fa), .val (.int (2 : Int32))]) (hb hby d_prog_41m6_35) rfl (fun z => rfl) (pc' := 38) rfl (fun z43 hz43 => ?_)
          obtain rfl : z43 = (3 : Int32) := hz43.trans (by decide)
          show Ends _ _ _ _ T41 (mkF m 38 #[.val (.ref o), .val (.ref fa), .val (.int (3 : Int32))] [])
          refine ow_goto X41 hx (hb hby d_prog_41m6_38) (by decide) (pc' := 11) (by decide) ?_
          refine ow_iloadN X41 hx (hb hby d_prog_41m6_11) rfl (pc' := 12) rfl ?_
          refine ow_aloadN X41 hx (hb hby d_prog_41m6_12) rfl rfl (pc' := 13) rfl ?_
          refine ow_callVPI X41 hx hZ rfl hown (hw _ (List.mem_of_getElem? (i := 53) rfl)) (hw _ (List.mem_of_getElem? (i := 54) rfl)) (hw _ (List.mem_of_getElem? (i := 56) rfl)) (hw _ (List.mem_of_getElem? (i := 55) rfl)) (hw _ (List.mem_of_getElem? (i := 4) rfl)) (hw _ (List.mem_of_getElem? (i := 57) rfl)) (by decide) (rm_lenS l Z a0 hw [] o zc f pn T41.heap (ow_staKeep S_cs K41 all0) (by first | assumption | decide | omega) (E_o.keep K41) (by first | assumption | decide | omega) (by first | assumption | decide | omega) (by first | assumption | decide | omega)) rfl 1 (by decide) (by decide) (by decide) (by decide) [] (by rw [hml]; rfl) pd_5 rfl (E_o.keep K41) rfl rfl (Nat.le_of_eq rfl) (hb hby d_prog_41m6_13) (pc' := 16) rfl (fun z44 T44 hz44 X44 e44 => ?_)
          have az44 : z44.toInt = pn.toInt := hz44
          have rz44 := rng32 z44
          refine ow_icmp_ge X44 hx ((3 : Int)) (z44.toInt) (hb hby d_prog_41m6_16) rfl rfl (by decide) (pt := 41) (by decide) (pf := 19) rfl (fun c16 => ?_) (fun c16 => absurd c16 (by omega))
          refine ow_iconst X44 hx (z := (1 : Int32)) (hb hby d_prog_41m6_41) rfl (pc' := 42) rfl ?_
          exact ow_retBI X44 hx hret hlk (hb hby d_prog_41m6_42) hS41 (by rw [e44]; exact (Nat.le_refl _)) (by decide) (by decide) (z' := (1 : Int32)) rfl (show Q_co3 Z o fa zc f pn wf cK h0 n0 _ T44.heap _ _ from by rw [e44]; exact ⟨(1 : Int32), rfl, N41, K41, (show ((OKc (f (0 : Int32).toInt.toNat).toInt ∧ OKc (f (1 : Int32).toInt.toNat).toInt ∧ OKc (f (2 : Int32).toInt.toNat).toInt) ∧ (1 : Int) = 1) ∨ (¬ (OKc (f (0 : Int32).toInt.toNat).toInt ∧ OKc (f (1 : Int32).toInt.toNat).toInt ∧ OKc (f (2 : Int32).toInt.toNat).toInt) ∧ (1 : Int) = 0) from Or.inl ⟨⟨hk0, hk1, hk2⟩, by decide⟩)⟩)
        · have hk2 : ¬ OKc (f (2 : Int32).toInt.toNat).toInt := by rcases hO42 with q_ | q_; exact absurd q_.2 (by omega); exact q_.1
          refine ow_iconst X41 hx (z := (0 : Int32)) (hb hby d_prog_41m6_33) rfl (pc' := 34) rfl ?_
          exact ow_retBI X41 hx hret hlk (hb hby d_prog_41m6_34) hS41 (Nat.le_refl _) (by decide) (by decide) (z' := (0 : Int32)) rfl (show Q_co3 Z o fa zc f pn wf cK h0 n0 _ T41.heap _ _ from ⟨(0 : Int32), rfl, N41, K41, (show ((OKc (f (0 : Int32).toInt.toNat).toInt ∧ OKc (f (1 : Int32).toInt.toNat).toInt ∧ OKc (f (2 : Int32).toInt.toNat).toInt) ∧ (0 : Int) = 1) ∨ (¬ (OKc (f (0 : Int32).toInt.toNat).toInt ∧ OKc (f (1 : Int32).toInt.toNat).toInt ∧ OKc (f (2 : Int32).toInt.toNat).toInt) ∧ (0 : Int) = 0) from Or.inr ⟨fun q_ => hk2 q_.2.2, by decide⟩)⟩)
      · have hk1 : ¬ OKc (f (1 : Int32).toInt.toNat).toInt := by rcases hO37 with q_ | q_; exact absurd q_.2 (by omega); exact q_.1
        refine ow_iconst X36 hx (z := (0 : Int32)) (hb hby d_prog_41m6_33) rfl (pc' := 34) rfl ?_
        exact ow_retBI X36 hx hret hlk (hb hby d_prog_41m6_34) hS36 (Nat.le_refl _) (by decide) (by decide) (z' := (0 : Int32)) rfl (show Q_co3 Z o fa zc f pn wf cK h0 n0 _ T36.heap _ _ from ⟨(0 : Int32), rfl, N36, K36, (show ((OKc (f (0 : Int32).toInt.toNat).toInt ∧ OKc (f (1 : Int32).toInt.toNat).toInt ∧ OKc (f (2 : Int32).toInt.toNat).toInt) ∧ (0 : Int) = 1) ∨ (¬ (OKc (f (0 : Int32).toInt.toNat).toInt ∧ OKc (f (1 : Int32).toInt.toNat).toInt ∧ OKc (f (2 : Int32).toInt.toNat).toInt) ∧ (0 : Int) = 0) from Or.inr ⟨fun q_ => hk1 q_.2.1, by decide⟩)⟩)
    · have hk0 : ¬ OKc (f (0 : Int32).toInt.toNat).toInt := by rcases hO32 with q_ | q_; exact absurd q_.2 (by omega); exact q_.1
      refine ow_iconst X31 hx (z := (0 : Int32)) (hb hby d_prog_41m6_33) rfl (pc' := 34) rfl ?_
      exact ow_retBI X31 hx hret hlk (hb hby d_prog_41m6_34) hS31 (Nat.le_refl _) (by decide) (by decide) (z' := (0 : Int32)) rfl (show Q_co3 Z o fa zc f pn wf cK h0 n0 _ T31.heap _ _ from ⟨(0 : Int32), rfl, N31, K31, (show ((OKc (f (0 : Int32).toInt.toNat).toInt ∧ OKc (f (1 : Int32).toInt.toNat).toInt ∧ OKc (f (2 : Int32).toInt.toNat).toInt) ∧ (0 : Int) = 1) ∨ (¬ (OKc (f (0 : Int32).toInt.toNat).toInt ∧ OKc (f (1 : Int32).toInt.toNat).toInt ∧ OKc (f (2 : Int32).toInt.toNat).toInt) ∧ (0 : Int) = 0) from Or.inr ⟨fun q_ => hk0 q_.1, by decide⟩)⟩)
def Q_iu3 (Z : State) (o : Addr) (zc : Int32) (f : Nat → Int32) (pn : Int32) (wf : Value) (h0 : Heap) (n0 : Nat) (v : Option Value) (h : Heap) (L : List Loc) (vm : Vm) : Prop := ∃ (z : Int32), (v = some (.int z)) ∧ (Fr n0 L) ∧ (Keep h0 h []) ∧ (((OKc (f (0 : Int32).toInt.toNat).toInt ∧ OKc (f (1 : Int32).toInt.toNat).toInt ∧ OKc (f (2 : Int32).toInt.toNat).toInt) ∧ z.toInt = 1) ∨ (¬ (OKc (f (0 : Int32).toInt.toNat).toInt ∧ OKc (f (1 : Int32).toInt.toNat).toInt ∧ OKc (f (2 : Int32).toInt.toNat).toInt) ∧ z.toInt = 0))
set_option maxRecDepth 65536 in
set_option maxHeartbeats 40000000 in
theorem rm_iu3 (l : Launch) (Z : State) (a0 : Array Value) (hw : ∀ d ∈ tables_1, d.before a0 Z = true) (ws : List Jvm.Cond) (hcw : Jvm.Lit.compactW.before a0 Z = true) (hch : ∀ q ∈ consts_1, Jvm.Lit.constHeld Z q.1 q.2) (o : Addr) (zc : Int32) (f : Nat → Int32) (pn : Int32) (wf : Value) (h0 : Heap) (n0 : Nat) (Z0 : n0 ≤ h0.size) (hzk : ∀ (b : Addr) (cl : Cell), Z.heap[b]? = some cl → h0[b]? = some cl) (hzn : Z.heap.size ≤ n0) (S_cs : Sta Z h0 "java/lang/String" "COMPACT_STRINGS" "Z" (.int zc)) (hz0 : ¬ zc.toInt = 0) (E_o : Exa Z h0 o "java/lang/String") (hS : StrIs Z h0 o pn f) (S_ad : Sta Z h0 "java/lang/StringUTF16" "$assertionsDisabled" "Z" (.int (1 : Int32))) (S_hi : Sta Z h0 "java/lang/StringUTF16" "HI_BYTE_SHIFT" "I" (.int (0 : Int32))) (S_lo : Sta Z h0 "java/lang/StringUTF16" "LO_BYTE_SHIFT" "I" (.int (8 : Int32))) (S_f : Sta Z h0 "jdk/internal/util/Preconditions" "SIOOBE_FORMATTER" "Ljava/util/function/BiFunction;" wf) (hwf : wf = .null ∨ ∃ a, wf = .ref a) (hn0 : 1 ≤ pn.toInt) (hn1 : pn.toInt ≤ 4) (hr : Rng f) (hpn : pn.toInt = 3) :
    MetFree l (⟨"com/example/inchworm/inchworm/store/HttpSyntax", "isUnreserved", "(Ljava/lang/String;)Z"⟩ : MethodName) (head1 (Jvm.Cond.code (⟨"com/example/inchworm/inchworm/store/HttpSyntax", "isUnreserved", "(Ljava/lang/String;)Z"⟩ : MethodName) prog_41_method_3_code 1 (some .boolean) :: ws) ({ frames := 7, cells := 2, slots := 20, locals := 3073 } : Room)) (fun a_ U_ => a_ = #[(.ref o)] ∧ Z.Warmed39 U_.vm ∧ U_.heap = h0 ∧ LT Z [] [] U_.vm) (fun _ _ _ _ _ => True) (fun _ U_ o_ U_' => ∃ v_ L_, o_ = .returned v_ ∧ (Q_iu3 Z o zc f pn wf h0 n0) v_ U_'.heap L_ U_'.vm ∧ ReturnedEndW U_ o_ U_' L_ 2 20) := by
  refine ow_bodyIN (plainFor_of_name pn_4) ?_
  intro p e s m below meth c T0 X0 hx hZ hby hml hown hnm hret hlk e0 es hS0 hI0 hnmd
  have N0 := Fr.nil n0
  refine Ends.cast (ef_iu0 m o) ?_
  obtain ⟨fa, cK, mD, kD, i0, p0, hm1, hm2, hm3, hmd, hfz⟩ := ow_lamZ (hw _ (List.mem_of_getElem? (i := 27) rfl)) rfl
  have hmd : LamKit.Made Z "com/example/inchworm/inchworm/store/HttpSyntax" ow_sh cK := hmd
  refine ow_aloadN X0 hx (hb hby d_prog_41m3_0) rfl rfl (pc' := 1) rfl ?_
  refine ow_indy X0 hx hZ hnmd hm1 hm2 hm3 (by rw [hml]; rfl) (W := 1) (Nat.le_of_eq rfl) (by decide) (hb hby d_prog_41m3_1) (pc' := 6) rfl ?_
  refine ow_callSI X0 hx hZ hown (hw _ (List.mem_of_getElem? (i := 30) rfl)) (hw _ (List.mem_of_getElem? (i := 31) rfl)) (hw _ (List.mem_of_getElem? (i := 25) rfl)) (hw _ (List.mem_of_getElem? (i := 32) rfl)) (by decide) (rm_co3 l Z a0 hw [] hcw hch o fa zc f pn wf cK h0 n0 Z0 (ow_zk hzk hzn (Keep.refl h0 []) all0) hzn S_cs (by first | assumption | decide | omega) E_o (by first | assumption | decide | omega) S_ad S_hi S_lo S_f (by first | assumption | decide | omega) (by first | assumption | decide | omega) (by first | assumption | decide | omega) (by first | assumption | decide | omega) (by first | assumption | decide | omega) (by first | assumption | decide | omega) (by first | assumption | decide | omega)) (LT.warm hI0) hS0 (Nat.zero_le _) e0 0 (by decide) (by decide) (by decide) (by decide) [(.ref o), (.ref fa)] (by rw [hml]; rfl) pd_19 rfl rfl rfl (Nat.le_of_eq rfl) (hb hby d_prog_41m3_6) (pc' := 9) rfl (fun v1 T1 L1 hQ1 X1 hS1 hZ hown => ?_)
  obtain ⟨z_1, rfl, Nc1, Kc1, P1_0⟩ := hQ1
  have P1_0 : ((OKc (f (0 : Int32).toInt.toNat).toInt ∧ OKc (f (1 : Int32).toInt.toNat).toInt ∧ OKc (f (2 : Int32).toInt.toNat).toInt) ∧ z_1.toInt = 1) ∨ (¬ (OKc (f (0 : Int32).toInt.toNat).toInt ∧ OKc (f (1 : Int32).toInt.toNat).toInt ∧ OKc (f (2 : Int32).toInt.toNat).toInt) ∧ z_1.toInt = 0) := P1_0
  have Zs1 : n0 ≤ T1.heap.size := Nat.le_trans Z0 Kc1.1
  have K1 := (Keep.refl h0 []).trans Kc1 all0
  have N1 := Fr.app N0 Nc1
  show Ends _ _ _ _ T1 (mkF m 9 #[.val (.ref o)] [(.int z_1)])
  exact ow_retBI X1 hx hret hlk (hb hby d_prog_41m3_9) hS1 (Nat.le_refl _) (by decide) (by decide) (z' := z_1) (ow_nar1 (by rcases P1_0 with q_ | q_; exact Or.inr (ow_eq q_.2); exact Or.inl (ow_eq q_.2))) (show Q_iu3 Z o zc f pn wf h0 n0 _ T1.heap _ _ from ⟨z_1, rfl, N1, K1, P1_0⟩)
def Q_co4 (Z : State) (o : Addr) (fa : Addr) (zc : Int32) (f : Nat → Int32) (pn : Int32) (wf : Value) (cK : ClassId) (h0 : Heap) (n0 : Nat) (v : Option Value) (h : Heap) (L : List Loc) (vm : Vm) : Prop := ∃ (z : Int32), (v = some (.int z)) ∧ (Fr n0 L) ∧ (Keep h0 h []) ∧ (((OKc (f (0 : Int32).toInt.toNat).toInt ∧ OKc (f (1 : Int32).toInt.toNat).toInt ∧ OKc (f (2 : Int32).toInt.toNat).toInt ∧ OKc (f (3 : Int32).toInt.toNat).toInt) ∧ z.toInt = 1) ∨ (¬ (OKc (f (0 : Int32).toInt.toNat).toInt ∧ OKc (f (1 : Int32).toInt.toNat).toInt ∧ OKc (f (2 : Int32).toInt.toNat).toInt ∧ OKc (f (3 : Int32).toInt.toNat).toInt) ∧ z.toInt = 0))
set_option maxRecDepth 65536 in
set_option maxHeartbeats 40000000 in
theorem rm_co4 (l : Launch) (Z : State) (a0 : Array Value) (hw : ∀ d ∈ tables_1, d.before a0 Z = true) (ws : List Jvm.Cond) (hcw : Jvm.Lit.compactW.before a0 Z = true) (hch : ∀ q ∈ consts_1, Jvm.Lit.constHeld Z q.1 q.2) (o : Addr) (fa : Addr) (zc : Int32) (f : Nat → Int32) (pn : Int32) (wf : Value) (cK : ClassId) (h0 : Heap) (n0 : Nat) (Z0 : n0 ≤ h0.size) (hzk : ∀ (b : Addr) (cl : Cell), Z.heap[b]? = some cl → h0[b]? = some cl) (hzn : Z.heap.size ≤ n0) (S_cs : Sta Z h0 "java/lang/String" "COMPACT_STRINGS" "Z" (.int zc)) (hz0 : ¬ zc.toInt = 0) (E_o : Exa Z h0 o "java/lang/String") (hS : StrIs Z h0 o pn f) (S_ad : Sta Z h0 "java/lang/StringUTF16" "$assertionsDisabled" "Z" (.int (1 : Int32))) (S_hi : Sta Z h0 "java/lang/StringUTF16" "HI_BYTE_SHIFT" "I" (.int (0 : Int32))) (S_lo : Sta Z h0 "java/lang/StringUTF16" "LO_BYTE_SHIFT" "I" (.int (8 : Int32))) (S_f : Sta Z h0 "jdk/internal/util/Preconditions" "SIOOBE_FORMATTER" "Ljava/util/function/BiFunction;" wf) (hwf : wf = .null ∨ ∃ a, wf = .ref a) (hn0 : 1 ≤ pn.toInt) (hn1 : pn.toInt ≤ 4) (hr : Rng f) (hpn : pn.toInt = 4) (hmd : LamKit.Made Z "com/example/inchworm/inchworm/store/HttpSyntax" ow_sh cK) (hfz : LamKit.FnAt Z.heap fa cK) :
    MetFree l (⟨"com/example/inchworm/inchworm/store/HttpSyntax", "consistsOf", "(Ljava/lang/String;Lcom/example/inchworm/inchworm/store/HttpSyntax$CharTest;)Z"⟩ : MethodName) (head1 (Jvm.Cond.code (⟨"com/example/inchworm/inchworm/store/HttpSyntax", "consistsOf", "(Ljava/lang/String;Lcom/example/inchworm/inchworm/store/HttpSyntax$CharTest;)Z"⟩ : MethodName) prog_41_method_6_code 3 (some .boolean) :: ws) ({ frames := 6, cells := 2, slots := 20, locals := 114 } : Room)) (fun a_ U_ => a_ = #[(.ref o), (.ref fa)] ∧ Z.Warmed39 U_.vm ∧ U_.heap = h0 ∧ LT Z [] [] U_.vm) (fun _ _ _ _ _ => True) (fun _ U_ o_ U_' => ∃ v_ L_, o_ = .returned v_ ∧ (Q_co4 Z o fa zc f pn wf cK h0 n0) v_ U_'.heap L_ U_'.vm ∧ ReturnedEndW U_ o_ U_' L_ 2 20) := by
  refine ow_bodyI (plainFor_of_name pn_4) ?_
  intro p e s m below meth c T0 X0 hx hZ hby hml hown hnm hret hlk e0 es hS0 hI0
  have N0 := Fr.nil n0
  refine Ends.cast (ef_co0 m o fa) ?_
  refine ow_aloadN X0 hx (hb hby d_prog_41m6_0) rfl rfl (pc' := 1) rfl ?_
  refine ow_callVPI X0 hx hZ rfl hown (hw _ (List.mem_of_getElem? (i := 33) rfl)) (hw _ (List.mem_of_getElem? (i := 34) rfl)) (hw _ (List.mem_of_getElem? (i := 36) rfl)) (hw _ (List.mem_of_getElem? (i := 35) rfl)) (hw _ (List.mem_of_getElem? (i := 4) rfl)) (hw _ (List.mem_of_getElem? (i := 37) rfl)) (by decide) (rm_iseS l Z a0 hw [] o f pn h0 (by first | assumption | decide | omega) (by first | assumption | decide | omega) (by first | assumption | decide | omega)) e0 0 (by decide) (by decide) (by decide) (by decide) [] (by rw [hml]; rfl) pd_4 rfl E_o rfl rfl (Nat.le_of_eq rfl) (hb hby d_prog_41m6_1) (pc' := 4) rfl (fun z1 T1 hz1 X1 e1 => ?_)
  have az1 : z1.toInt = 0 := hz1
  have rz1 := rng32 z1
  refine ow_if_eq X1 hx (z1.toInt) (hb hby d_prog_41m6_4) rfl (by decide) (pt := 9) (by decide) (pf := 7) rfl (fun c4 => ?_) (fun c4 => absurd c4 (by omega))
  refine ow_iconst X1 hx (z := (0 : Int32)) (hb hby d_prog_41m6_9) rfl (pc' := 10) rfl ?_
  refine ow_istoreN X1 hx (Ls' := #[.val (.ref o), .val (.ref fa), .val (.int (0 : Int32))]) (hb hby d_prog_41m6_10) rfl (pc' := 11) rfl ?_
  refine ow_iloadN X1 hx (hb hby d_prog_41m6_11) rfl (pc' := 12) rfl ?_
  refine ow_aloadN X1 hx (hb hby d_prog_41m6_12) rfl rfl (pc' := 13) rfl ?_
  refine ow_callVPI X1 hx hZ rfl hown (hw _ (List.mem_of_getElem? (i := 53) rfl)) (hw _ (List.mem_of_getElem? (i := 54) rfl)) (hw _ (List.mem_of_getElem? (i := 56) rfl)) (hw _ (List.mem_of_getElem? (i := 55) rfl)) (hw _ (List.mem_of_getElem? (i := 4) rfl)) (hw _ (List.mem_of_getElem? (i := 57) rfl)) (by decide) (rm_lenS l Z a0 hw [] o zc f pn h0 S_cs (by first | assumption | decide | omega) E_o (by first | assumption | decide | omega) (by first | assumption | decide | omega) (by first | assumption | decide | omega)) e1 1 (by decide) (by decide) (by decide) (by decide) [] (by rw [hml]; rfl) pd_5 rfl E_o rfl rfl (Nat.le_of_eq rfl) (hb hby d_prog_41m6_13) (pc' := 16) rfl (fun z2 T2 hz2 X2 e2 => ?_)
  have az2 : z2.toInt = pn.toInt := hz2
  have rz2 := rng32 z2
  refine ow_icmp_ge X2 hx ((0 : Int)) (z2.toInt) (hb hby d_prog_41m6_16) rfl rfl (by decide) (pt := 41) (by decide) (pf := 19) rfl (fun c16 => absurd c16 (by omega)) (fun c16 => ?_)
  refine ow_aloadN X2 hx (hb hby d_prog_41m6_19) rfl rfl (pc' := 20) rfl ?_
  refine ow_aloadN X2 hx (hb hby d_prog_41m6_20) rfl rfl (pc' := 21) rfl ?_
  refine ow_iloadN X2 hx (hb hby d_prog_41m6_21) rfl (pc' := 22) rfl ?_
  refine ow_callVPI X2 hx hZ rfl hown (hw _ (List.mem_of_getElem? (i := 63) rfl)) (hw _ (List.mem_of_getElem? (i := 64) rfl)) (hw _ (List.mem_of_getElem? (i := 66) rfl)) (hw _ (List.mem_of_getElem? (i := 65) rfl)) (hw _ (List.mem_of_getElem? (i := 4) rfl)) (hw _ (List.mem_of_getElem? (i := 67) rfl)) (by decide) (rm_chaS l Z a0 hw [] o (0 : Int32) zc f pn wf h0 S_cs (by first | assumption | decide | omega | (have q0_ : (0 : Int32).toInt = 0 := (by decide); omega)) E_o (by first | assumption | decide | omega | (have q0_ : (0 : Int32).toInt = 0 := (by decide); omega)) S_ad S_hi S_lo S_f (by first | assumption | decide | omega | (have q0_ : (0 : Int32).toInt = 0 := (by decide); omega)) (by first | assumption | decide | omega | (have q0_ : (0 : Int32).toInt = 0 := (by decide); omega)) (by first | assumption | decide | omega | (have q0_ : (0 : Int32).toInt = 0 := (by decide); omega)) (by first | assumption | decide | omega | (have q0_ : (0 : Int32).toInt = 0 := (by decide); omega)) (by first | assumption | decide | omega | (have q0_ : (0 : Int32).toInt = 0 := (by decide); omega)) (by first | assumption | decide | omega | (have q0_ : (0 : Int32).toInt = 0 := (by decide); omega))) e2 1 (by decide) (by decide) (by decide) (by decide) [(.int (0 : Int32))] (by rw [hml]; rfl) pd_20 rfl E_o rfl rfl (Nat.le_of_eq rfl) (hb hby d_prog_41m6_22) (pc' := 25) rfl (fun z3 T3 hz3 X3 e3 => ?_)
  have az3 : z3.toInt = (f (0 : Int32).toInt.toNat).toInt := hz3
  have rz3 := rng32 z3
  have rr0 := hr (0 : Int32).toInt.toNat
  by_cases han : ((97 ≤ z3.toInt ∧ z3.toInt ≤ 122) ∨ (65 ≤ z3.toInt ∧ z3.toInt ≤ 90) ∨ (48 ≤ z3.toInt ∧ z3.toInt ≤ 57))
  · refine ow_callLam X3 hx hZ hown (hw _ (List.mem_of_getElem? (i := 85) rfl)) (hw _ (List.mem_of_getElem? (i := 86) rfl)) (hw _ (List.mem_of_getElem? (i := 87) rfl)) (hw _ (List.mem_of_getElem? (i := 88) rfl)) (hw _ (List.mem_of_getElem? (i := 25) rfl)) (hw _ (List.mem_of_getElem? (i := 89) rfl)) ⟨by decide +kernel, by decide +kernel, by decide +kernel⟩ ⟨by decide +kernel, by decide +kernel, by decide +kernel⟩ (by decide) (by decide) hmd (ow_fn hfz (ow_zk hzk hzn (Keep.refl h0 []) all0)) ow_fok ow_fd0 ow_fd1 ow_fd4 (rm_unA l Z a0 hw [] hcw hch z3 h0 n0 Z0 (ow_zk hzk hzn (Keep.refl h0 []) all0) hzn (by first | assumption | decide | omega)) (fun v_ h_ L_ vm_ q_ => by obtain ⟨z_, rfl, -, -, p_, -⟩ := q_; exact ⟨z_, rfl, ow_nar1 (by rcases (show z_.toInt = 0 ∨ z_.toInt = 1 from by omega) with w_ | w_; exact Or.inl (ow_eq w_); exact Or.inr (ow_eq w_))⟩) (LT.warm hI0) hS0 (Nat.zero_le _) e3 0 (by decide) (by decide) (by decide) (by decide) (by rw [hml]; rfl) pd_18 rfl pd_18 rfl (Nat.le_of_eq rfl) (hb hby d_prog_41m6_25) (pc' := 30) rfl (fun v4 T4 L4 hQ4 X4 hS4 hZ hown => ?_)
    obtain ⟨z_4, rfl, Nc4, Kc4, P4_0, hI4⟩ := hQ4
    have P4_0 : z_4.toInt = 1 := P4_0
    have Zs4 : n0 ≤ T4.heap.size := Nat.le_trans Z0 Kc4.1
    have K4 := (Keep.refl h0 []).trans Kc4 all0
    have N4 := Fr.app N0 Nc4
    show Ends _ _ _ _ T4 (mkF m 30 #[.val (.ref o), .val (.ref fa), .val (.int (0 : Int32))] [(.int z_4)])
    have hS5 := StrIs.keep hS K4
    have hO5 : (OKc (f (0 : Int32).toInt.toNat).toInt ∧ z_4.toInt = 1) ∨ (¬ OKc (f (0 : Int32).toInt.toNat).toInt ∧ z_4.toInt = 0) := by rw [← az3]; have p_ := P4_0; unfold OKc; omega
    refine ow_if_ne X4 hx (z_4.toInt) (hb hby d_prog_41m6_30) rfl (by decide) (pt := 35) (by decide) (pf := 33) rfl (fun c30 => ?_) (fun c30 => ?_)
    · have hk0 : OKc (f (0 : Int32).toInt.toNat).toInt := by rcases hO5 with q_ | q_; exact q_.1; exact absurd q_.2 (by omega)
      refine ow_iinc X4 hx (Ls' := #[.val (.ref o), .val (.ref fa), .val (.int (0 : Int32))]) (hb hby d_prog_41m6_35) rfl (fun z => rfl) (pc' := 38) rfl (fun z6 hz6 => ?_)
      obtain rfl : z6 = (1 : Int32) := hz6.trans (by decide)
      show Ends _ _ _ _ T4 (mkF m 38 #[.val (.ref o), .val (.ref fa), .val (.int (1 : Int32))] [])
      refine ow_goto X4 hx (hb hby d_prog_41m6_38) (by decide) (pc' := 11) (by decide) ?_
      refine ow_iloadN X4 hx (hb hby d_prog_41m6_11) rfl (pc' := 12) rfl ?_
      refine ow_aloadN X4 hx (hb hby d_prog_41m6_12) rfl rfl (pc' := 13) rfl ?_
      refine ow_callVPI X4 hx hZ rfl hown (hw _ (List.mem_of_getElem? (i := 53) rfl)) (hw _ (List.mem_of_getElem? (i := 54) rfl)) (hw _ (List.mem_of_getElem? (i := 56) rfl)) (hw _ (List.mem_of_getElem? (i := 55) rfl)) (hw _ (List.mem_of_getElem? (i := 4) rfl)) (hw _ (List.mem_of_getElem? (i := 57) rfl)) (by decide) (rm_lenS l Z a0 hw [] o zc f pn T4.heap (ow_staKeep S_cs K4 all0) (by first | assumption | decide | omega) (E_o.keep K4) (by first | assumption | decide | omega) (by first | assumption | decide | omega) (by first | assumption | decide | omega)) rfl 1 (by decide) (by decide) (by decide) (by decide) [] (by rw [hml]; rfl) pd_5 rfl (E_o.keep K4) rfl rfl (Nat.le_of_eq rfl) (hb hby d_prog_41m6_13) (pc' := 16) rfl (fun z7 T7 hz7 X7 e7 => ?_)
      have az7 : z7.toInt = pn.toInt := hz7
      have rz7 := rng32 z7
      refine ow_icmp_ge X7 hx ((1 : Int)) (z7.toInt) (hb hby d_prog_41m6_16) rfl rfl (by decide) (pt := 41) (by decide) (pf := 19) rfl (fun c16 => absurd c16 (by omega)) (fun c16 => ?_)
      refine ow_aloadN X7 hx (hb hby d_prog_41m6_19) rfl rfl (pc' := 20) rfl ?_
      refine ow_aloadN X7 hx (hb hby d_prog_41m6_20) rfl rfl (pc' := 21) rfl ?_
      refine ow_iloadN X7 hx (hb hby d_prog_41m6_21) rfl (pc' := 22) rfl ?_
      refine ow_callVPI X7 hx hZ rfl hown (hw _ (List.mem_of_getElem? (i := 63) rfl)) (hw _ (List.mem_of_getElem? (i := 64) rfl)) (hw _ (List.mem_of_getElem? (i := 66) rfl)) (hw _ (List.mem_of_getElem? (i := 65) rfl)) (hw _ (List.mem_of_getElem? (i := 4) rfl)) (hw _ (List.mem_of_getElem? (i := 67) rfl)) (by decide) (rm_chaS l Z a0 hw [] o (1 : Int32) zc f pn wf T4.heap (ow_staKeep S_cs K4 all0) (by first | assumption | decide | omega | (have q0_ : (1 : Int32).toInt = 1 := (by decide); omega)) (E_o.keep K4) (by first | assumption | decide | omega | (have q0_ : (1 : Int32).toInt = 1 := (by decide); omega)) (ow_staKeep S_ad K4 all0) (ow_staKeep S_hi K4 all0) (ow_staKeep S_lo K4 all0) (ow_staKeep S_f K4 all0) (by first | assumption | decide | omega | (have q0_ : (1 : Int32).toInt = 1 := (by decide); omega)) (by first | assumption | decide | omega | (have q0_ : (1 : Int32).toInt = 1 := (by decide); omega)) (by first | assumption | decide | omega | (have q0_ : (1 : Int32).toInt = 1 := (by decide); omega)) (by first | assumption | decide | omega | (have q0_ : (1 : Int32).toInt = 1 := (by decide); omega)) (by first | assumption | decide | omega | (have q0_ : (1 : Int32).toInt = 1 := (by decide); omega)) (by first | assumption | decide | omega | (have q0_ : (1 : Int32).toInt = 1 := (by decide); omega))) e7 1 (by decide) (by decide) (by decide) (by decide) [(.int (1 : Int32))] (by rw [hml]; rfl) pd_20 rfl (E_o.keep K4) rfl rfl (Nat.le_of_eq rfl) (hb hby d_prog_41m6_22) (pc' := 25) rfl (fun z8 T8 hz8 X8 e8 => ?_)
      have az8 : z8.toInt = (f (1 : Int32).toInt.toNat).toInt := hz8
      have rz8 := rng32 z8
      have rr1 := hr (1 : Int32).toInt.toNat
      by_cases han : ((97 ≤ z8.toInt ∧ z8.toInt ≤ 122) ∨ (65 ≤ z8.toInt ∧ z8.toInt ≤ 90) ∨ (48 ≤ z8.toInt ∧ z8.toInt ≤ 57))
      · refine ow_callLam X8 hx hZ hown (hw _ (List.mem_of_getElem? (i := 85) rfl)) (hw _ (List.mem_of_getElem? (i := 86) rfl)) (hw _ (List.mem_of_getElem? (i := 87) rfl)) (hw _ (List.mem_of_getElem? (i := 88) rfl)) (hw _ (List.mem_of_getElem? (i := 25) rfl)) (hw _ (List.mem_of_getElem? (i := 89) rfl)) ⟨by decide +kernel, by decide +kernel, by decide +kernel⟩ ⟨by decide +kernel, by decide +kernel, by decide +kernel⟩ (by decide) (by decide) hmd (ow_fn hfz (ow_zk hzk hzn K4 all0)) ow_fok ow_fd0 ow_fd1 ow_fd4 (rm_unA l Z a0 hw [] hcw hch z8 T4.heap n0 Zs4 (ow_zk hzk hzn K4 all0) hzn (by first | assumption | decide | omega)) (fun v_ h_ L_ vm_ q_ => by obtain ⟨z_, rfl, -, -, p_, -⟩ := q_; exact ⟨z_, rfl, ow_nar1 (by rcases (show z_.toInt = 0 ∨ z_.toInt = 1 from by omega) with w_ | w_; exact Or.inl (ow_eq w_); exact Or.inr (ow_eq w_))⟩) (LT.warm hI4) hS4 (Nat.le_refl _) e8 0 (by decide) (by decide) (by decide) (by decide) (by rw [hml]; rfl) pd_18 rfl pd_18 rfl (Nat.le_of_eq rfl) (hb hby d_prog_41m6_25) (pc' := 30) rfl (fun v9 T9 L9 hQ9 X9 hS9 hZ hown => ?_)
        obtain ⟨z_9, rfl, Nc9, Kc9, P9_0, hI9⟩ := hQ9
        have P9_0 : z_9.toInt = 1 := P9_0
        have Zs9 : n0 ≤ T9.heap.size := Nat.le_trans Zs4 Kc9.1
        have K9 := K4.trans Kc9 all0
        have N9 := Fr.app N4 Nc9
        show Ends _ _ _ _ T9 (mkF m 30 #[.val (.ref o), .val (.ref fa), .val (.int (1 : Int32))] [(.int z_9)])
        have hS10 := StrIs.keep hS K9
        have hO10 : (OKc (f (1 : Int32).toInt.toNat).toInt ∧ z_9.toInt = 1) ∨ (¬ OKc (f (1 : Int32).toInt.toNat).toInt ∧ z_9.toInt = 0) := by rw [← az8]; have p_ := P9_0; unfold OKc; omega
        refine ow_if_ne X9 hx (z_9.toInt) (hb hby d_prog_41m6_30) rfl (by decide) (pt := 35) (by decide) (pf := 33) rfl (fun c30 => ?_) (fun c30 => ?_)
        · have hk1 : OKc (f (1 : Int32).toInt.toNat).toInt := by rcases hO10 with q_ | q_; exact q_.1; exact absurd q_.2 (by omega)
          refine ow_iinc X9 hx (Ls' := #[.val (.ref o), .val (.ref fa), .val (.int (1 : Int32))]) (hb hby d_prog_41m6_35) rfl (fun z => rfl) (pc' := 38) rfl (fun z11 hz11 => ?_)
          obtain rfl : z11 = (2 : Int32) := hz11.trans (by decide)
          show Ends _ _ _ _ T9 (mkF m 38 #[.val (.ref o), .val (.ref fa), .val (.int (2 : Int32))] [])
          refine ow_goto X9 hx (hb hby d_prog_41m6_38) (by decide) (pc' := 11) (by decide) ?_
          refine ow_iloadN X9 hx (hb hby d_prog_41m6_11) rfl (pc' := 12) rfl ?_
          refine ow_aloadN X9 hx (hb hby d_prog_41m6_12) rfl rfl (pc' := 13) rfl ?_
          refine ow_callVPI X9 hx hZ rfl hown (hw _ (List.mem_of_getElem? (i := 53) rfl)) (hw _ (List.mem_of_getElem? (i := 54) rfl)) (hw _ (List.mem_of_getElem? (i := 56) rfl)) (hw _ (List.mem_of_getElem? (i := 55) rfl)) (hw _ (List.mem_of_getElem? (i := 4) rfl)) (hw _ (List.mem_of_getElem? (i := 57) rfl)) (by decide) (rm_lenS l Z a0 hw [] o zc f pn T9.heap (ow_staKeep S_cs K9 all0) (by first | assumption | decide | omega) (E_o.keep K9) (by first | assumption | decide | omega) (by first | assumption | decide | omega) (by first | assumption | decide | omega)) rfl 1 (by decide) (by decide) (by decide) (by decide) [] (by rw [hml]; rfl) pd_5 rfl (E_o.keep K9) rfl rfl (Nat.le_of_eq rfl) (hb hby d_prog_41m6_13) (pc' := 16) rfl (fun z12 T12 hz12 X12 e12 => ?_)
          have az12 : z12.toInt = pn.toInt := hz12
          have rz12 := rng32 z12
          refine ow_icmp_ge X12 hx ((2 : Int)) (z12.toInt) (hb hby d_prog_41m6_16) rfl rfl (by decide) (pt := 41) (by decide) (pf := 19) rfl (fun c16 => absurd c16 (by omega)) (fun c16 => ?_)
          refine ow_aloadN X12 hx (hb hby d_prog_41m6_19) rfl rfl (pc' := 20) rfl ?_
          refine ow_aloadN X12 hx (hb hby d_prog_41m6_20) rfl rfl (pc' := 21) rfl ?_
          refine ow_iloadN X12 hx (hb hby d_prog_41m6_21) rfl (pc' := 22) rfl ?_
          refine ow_callVPI X12 hx hZ rfl hown (hw _ (List.mem_of_getElem? (i := 63) rfl)) (hw _ (List.mem_of_getElem? (i := 64) rfl)) (hw _ (List.mem_of_getElem? (i := 66) rfl)) (hw _ (List.mem_of_getElem? (i := 65) rfl)) (hw _ (List.mem_of_getElem? (i := 4) rfl)) (hw _ (List.mem_of_getElem? (i := 67) rfl)) (by decide) (rm_chaS l Z a0 hw [] o (2 : Int32) zc f pn wf T9.heap (ow_staKeep S_cs K9 all0) (by first | assumption | decide | omega | (have q0_ : (2 : Int32).toInt = 2 := (by decide); omega)) (E_o.keep K9) (by first | assumption | decide | omega | (have q0_ : (2 : Int32).toInt = 2 := (by decide); omega)) (ow_staKeep S_ad K9 all0) (ow_staKeep S_hi K9 all0) (ow_staKeep S_lo K9 all0) (ow_staKeep S_f K9 all0) (by first | assumption | decide | omega | (have q0_ : (2 : Int32).toInt = 2 := (by decide); omega)) (by first | assumption | decide | omega | (have q0_ : (2 : Int32).toInt = 2 := (by decide); omega)) (by first | assumption | decide | omega | (have q0_ : (2 : Int32).toInt = 2 := (by decide); omega)) (by first | assumption | decide | omega | (have q0_ : (2 : Int32).toInt = 2 := (by decide); omega)) (by first | assumption | decide | omega | (have q0_ : (2 : Int32).toInt = 2 := (by decide); omega)) (by first | assumption | decide | omega | (have q0_ : (2 : Int32).toInt = 2 := (by decide); omega))) e12 1 (by decide) (by decide) (by decide) (by decide) [(.int (2 : Int32))] (by rw [hml]; rfl) pd_20 rfl (E_o.keep K9) rfl rfl (Nat.le_of_eq rfl) (hb hby d_prog_41m6_22) (pc' := 25) rfl (fun z13 T13 hz13 X13 e13 => ?_)
          have az13 : z13.toInt = (f (2 : Int32).toInt.toNat).toInt := hz13
          have rz13 := rng32 z13
          have rr2 := hr (2 : Int32).toInt.toNat
          by_cases han : ((97 ≤ z13.toInt ∧ z13.toInt ≤ 122) ∨ (65 ≤ z13.toInt ∧ z13.toInt ≤ 90) ∨ (48 ≤ z13.toInt ∧ z13.toInt ≤ 57))
          · refine ow_callLam X13 hx hZ hown (hw _ (List.mem_of_getElem? (i := 85) rfl)) (hw _ (List.mem_of_getElem? (i := 86) rfl)) (hw _ (List.mem_of_getElem? (i := 87) rfl)) (hw _ (List.mem_of_getElem? (i := 88) rfl)) (hw _ (List.mem_of_getElem? (i := 25) rfl)) (hw _ (List.mem_of_getElem? (i := 89) rfl)) ⟨by decide +kernel, by decide +kernel, by decide +kernel⟩ ⟨by decide +kernel, by decide +kernel, by decide +kernel⟩ (by decide) (by decide) hmd (ow_fn hfz (ow_zk hzk hzn K9 all0)) ow_fok ow_fd0 ow_fd1 ow_fd4 (rm_unA l Z a0 hw [] hcw hch z13 T9.heap n0 Zs9 (ow_zk hzk hzn K9 all0) hzn (by first | assumption | decide | omega)) (fun v_ h_ L_ vm_ q_ => by obtain ⟨z_, rfl, -, -, p_, -⟩ := q_; exact ⟨z_, rfl, ow_nar1 (by rcases (show z_.toInt = 0 ∨ z_.toInt = 1 from by omega) with w_ | w_; exact Or.inl (ow_eq w_); exact Or.inr (ow_eq w_))⟩) (LT.warm hI9) hS9 (Nat.le_refl _) e13 0 (by decide) (by decide) (by decide) (by decide) (by rw [hml]; rfl) pd_18 rfl pd_18 rfl (Nat.le_of_eq rfl) (hb hby d_prog_41m6_25) (pc' := 30) rfl (fun v14 T14 L14 hQ14 X14 hS14 hZ hown => ?_)
            obtain ⟨z_14, rfl, Nc14, Kc14, P14_0, hI14⟩ := hQ14
            have P14_0 : z_14.toInt = 1 := P14_0
            have Zs14 : n0 ≤ T14.heap.size := Nat.le_trans Zs9 Kc14.1
            have K14 := K9.trans Kc14 all0
            have N14 := Fr.app N9 Nc14
            show Ends _ _ _ _ T14 (mkF m 30 #[.val (.ref o), .val (.ref fa), .val (.int (2 : Int32))] [(.int z_14)])
            have hS15 := StrIs.keep hS K14
            have hO15 : (OKc (f (2 : Int32).toInt.toNat).toInt ∧ z_14.toInt = 1) ∨ (¬ OKc (f (2 : Int32).toInt.toNat).toInt ∧ z_14.toInt = 0) := by rw [← az13]; have p_ := P14_0; unfold OKc; omega
            refine ow_if_ne X14 hx (z_14.toInt) (hb hby d_prog_41m6_30) rfl (by decide) (pt := 35) (by decide) (pf := 33) rfl (fun c30 => ?_) (fun c30 => ?_)
            · have hk2 : OKc (f (2 : Int32).toInt.toNat).toInt := by rcases hO15 with q_ | q_; exact q_.1; exact absurd q_.2 (by omega)
              refine ow_iinc X14 hx (Ls' := #[.val (.ref o), .val (.ref fa), .val (.int (2 : Int32))]) (hb hby d_prog_41m6_35) rfl (fun z => rfl) (pc' := 38) rfl (fun z16 hz16 => ?_)
              obtain rfl : z16 = (3 : Int32) := hz16.trans (by decide)
              show Ends _ _ _ _ T14 (mkF m 38 #[.val (.ref o), .val (.ref fa), .val (.int (3 : Int32))] [])
              refine ow_goto X14 hx (hb hby d_prog_41m6_38) (by decide) (pc' := 11) (by decide) ?_
              refine ow_iloadN X14 hx (hb hby d_prog_41m6_11) rfl (pc' := 12) rfl ?_
              refine ow_aloadN X14 hx (hb hby d_prog_41m6_12) rfl rfl (pc' := 13) rfl ?_
              refine ow_callVPI X14 hx hZ rfl hown (hw _ (List.mem_of_getElem? (i := 53) rfl)) (hw _ (List.mem_of_getElem? (i := 54) rfl)) (hw _ (List.mem_of_getElem? (i := 56) rfl)) (hw _ (List.mem_of_getElem? (i := 55) rfl)) (hw _ (List.mem_of_getElem? (i := 4) rfl)) (hw _ (List.mem_of_getElem? (i := 57) rfl)) (by decide) (rm_lenS l Z a0 hw [] o zc f pn T14.heap (ow_staKeep S_cs K14 all0) (by first | assumption | decide | omega) (E_o.keep K14) (by first | assumption | decide | omega) (by first | assumption | decide | omega) (by first | assumption | decide | omega)) rfl 1 (by decide) (by decide) (by decide) (by decide) [] (by rw [hml]; rfl) pd_5 rfl (E_o.keep K14) rfl rfl (Nat.le_of_eq rfl) (hb hby d_prog_41m6_13) (pc' := 16) rfl (fun z17 T17 hz17 X17 e17 => ?_)
              have az17 : z17.toInt = pn.toInt := hz17
              have rz17 := rng32 z17
              refine ow_icmp_ge X17 hx ((3 : Int)) (z17.toInt) (hb hby d_prog_41m6_16) rfl rfl (by decide) (pt := 41) (by decide) (pf := 19) rfl (fun c16 => absurd c16 (by omega)) (fun c16 => ?_)
              refine ow_aloadN X17 hx (hb hby d_prog_41m6_19) rfl rfl (pc' := 20) rfl ?_
              refine ow_aloadN X17 hx (hb hby d_prog_41m6_20) rfl rfl (pc' := 21) rfl ?_
              refine ow_iloadN X17 hx (hb hby d_prog_41m6_21) rfl (pc' := 22) rfl ?_
              refine ow_callVPI X17 hx hZ rfl hown (hw _ (List.mem_of_getElem? (i := 63) rfl)) (hw _ (List.mem_of_getElem? (i := 64) rfl)) (hw _ (List.mem_of_getElem? (i := 66) rfl)) (hw _ (List.mem_of_getElem? (i := 65) rfl)) (hw _ (List.mem_of_getElem? (i := 4) rfl)) (hw _ (List.mem_of_getElem? (i := 67) rfl)) (by decide) (rm_chaS l Z a0 hw [] o (3 : Int32) zc f pn wf T14.heap (ow_staKeep S_cs K14 all0) (by first | assumption | decide | omega | (have q0_ : (3 : Int32).toInt = 3 := (by decide); omega)) (E_o.keep K14) (by first | assumption | decide | omega | (have q0_ : (3 : Int32).toInt = 3 := (by decide); omega)) (ow_staKeep S_ad K14 all0) (ow_staKeep S_hi K14 all0) (ow_staKeep S_lo K14 all0) (ow_staKeep S_f K14 all0) (by first | assumption | decide | omega | (have q0_ : (3 : Int32).toInt = 3 := (by decide); omega)) (by first | assumption | decide | omega | (have q0_ : (3 : Int32).toInt = 3 := (by decide); omega)) (by first | assumption | decide | omega | (have q0_ : (3 : Int32).toInt = 3 := (by decide); omega)) (by first | assumption | decide | omega | (have q0_ : (3 : Int32).toInt = 3 := (by decide); omega)) (by first | assumption | decide | omega | (have q0_ : (3 : Int32).toInt = 3 := (by decide); omega)) (by first | assumption | decide | omega | (have q0_ : (3 : Int32).toInt = 3 := (by decide); omega))) e17 1 (by decide) (by decide) (by decide) (by decide) [(.int (3 : Int32))] (by rw [hml]; rfl) pd_20 rfl (E_o.keep K14) rfl rfl (Nat.le_of_eq rfl) (hb hby d_prog_41m6_22) (pc' := 25) rfl (fun z18 T18 hz18 X18 e18 => ?_)
              have az18 : z18.toInt = (f (3 : Int32).toInt.toNat).toInt := hz18
              have rz18 := rng32 z18
              have rr3 := hr (3 : Int32).toInt.toNat
              by_cases han : ((97 ≤ z18.toInt ∧ z18.toInt ≤ 122) ∨ (65 ≤ z18.toInt ∧ z18.toInt ≤ 90) ∨ (48 ≤ z18.toInt ∧ z18.toInt ≤ 57))
              · refine ow_callLam X18 hx hZ hown (hw _ (List.mem_of_getElem? (i := 85) rfl)) (hw _ (List.mem_of_getElem? (i := 86) rfl)) (hw _ (List.mem_of_getElem? (i := 87) rfl)) (hw _ (List.mem_of_getElem? (i := 88) rfl)) (hw _ (List.mem_of_getElem? (i := 25) rfl)) (hw _ (List.mem_of_getElem? (i := 89) rfl)) ⟨by decide +kernel, by decide +kernel, by decide +kernel⟩ ⟨by decide +kernel, by decide +kernel, by decide +kernel⟩ (by decide) (by decide) hmd (ow_fn hfz (ow_zk hzk hzn K14 all0)) ow_fok ow_fd0 ow_fd1 ow_fd4 (rm_unA l Z a0 hw [] hcw hch z18 T14.heap n0 Zs14 (ow_zk hzk hzn K14 all0) hzn (by first | assumption | decide | omega)) (fun v_ h_ L_ vm_ q_ => by obtain ⟨z_, rfl, -, -, p_, -⟩ := q_; exact ⟨z_, rfl, ow_nar1 (by rcases (show z_.toInt = 0 ∨ z_.toInt = 1 from by omega) with w_ | w_; exact Or.inl (ow_eq w_); exact Or.inr (ow_eq w_))⟩) (LT.warm hI14) hS14 (Nat.le_refl _) e18 0 (by decide) (by decide) (by decide) (by decide) (by rw [hml]; rfl) pd_18 rfl pd_18 rfl (Nat.le_of_eq rfl) (hb hby d_prog_41m6_25) (pc' := 30) rfl (fun v19 T19 L19 hQ19 X19 hS19 hZ hown => ?_)
                obtain ⟨z_19, rfl, Nc19, Kc19, P19_0, hI19⟩ := hQ19
                have P19_0 : z_19.toInt = 1 := P19_0
                have Zs19 : n0 ≤ T19.heap.size := Nat.le_trans Zs14 Kc19.1
                have K19 := K14.trans Kc19 all0
                have N19 := Fr.app N14 Nc19
                show Ends _ _ _ _ T19 (mkF m 30 #[.val (.ref o), .val (.ref fa), .val (.int (3 : Int32))] [(.int z_19)])
                have hS20 := StrIs.keep hS K19
                have hO20 : (OKc (f (3 : Int32).toInt.toNat).toInt ∧ z_19.toInt = 1) ∨ (¬ OKc (f (3 : Int32).toInt.toNat).toInt ∧ z_19.toInt = 0) := by rw [← az18]; have p_ := P19_0; unfold OKc; omega
                refine ow_if_ne X19 hx (z_19.toInt) (hb hby d_prog_41m6_30) rfl (by decide) (pt := 35) (by decide) (pf := 33) rfl (fun c30 => ?_) (fun c30 => ?_)
                · have hk3 : OKc (f (3 : Int32).toInt.toNat).toInt := by rcases hO20 with q_ | q_; exact q_.1; exact absurd q_.2 (by omega)
                  refine ow_iinc X19 hx (Ls' := #[.val (.ref o), .val (.ref fa), .val (.int (3 : Int32))]) (hb hby d_prog_41m6_35) rfl (fun z => rfl) (pc' := 38) rfl (fun z21 hz21 => ?_)
                  obtain rfl : z21 = (4 : Int32) := hz21.trans (by decide)
                  show Ends _ _ _ _ T19 (mkF m 38 #[.val (.ref o), .val (.ref fa), .val (.int (4 : Int32))] [])
                  refine ow_goto X19 hx (hb hby d_prog_41m6_38) (by decide) (pc' := 11) (by decide) ?_
                  refine ow_iloadN X19 hx (hb hby d_prog_41m6_11) rfl (pc' := 12) rfl ?_
                  refine ow_aloadN X19 hx (hb hby d_prog_41m6_12) rfl rfl (pc' := 13) rfl ?_
                  refine ow_callVPI X19 hx hZ rfl hown (hw _ (List.mem_of_getElem? (i := 53) rfl)) (hw _ (List.mem_of_getElem? (i := 54) rfl)) (hw _ (List.mem_of_getElem? (i := 56) rfl)) (hw _ (List.mem_of_getElem? (i := 55) rfl)) (hw _ (List.mem_of_getElem? (i := 4) rfl)) (hw _ (List.mem_of_getElem? (i := 57) rfl)) (by decide) (rm_lenS l Z a0 hw [] o zc f pn T19.heap (ow_staKeep S_cs K19 all0) (by first | assumption | decide | omega) (E_o.keep K19) (by first | assumption | decide | omega) (by first | assumption | decide | omega) (by first | assumption | decide | omega)) rfl 1 (by decide) (by decide) (by decide) (by decide) [] (by rw [hml]; rfl) pd_5 rfl (E_o.keep K19) rfl rfl (Nat.le_of_eq rfl) (hb hby d_prog_41m6_13) (pc' := 16) rfl (fun z22 T22 hz22 X22 e22 => ?_)
                  have az22 : z22.toInt = pn.toInt := hz22
                  have rz22 := rng32 z22
                  refine ow_icmp_ge X22 hx ((4 : Int)) (z22.toInt) (hb hby d_prog_41m6_16) rfl rfl (by decide) (pt := 41) (by decide) (pf := 19) rfl (fun c16 => ?_) (fun c16 => absurd c16 (by omega))
                  refine ow_iconst X22 hx (z := (1 : Int32)) (hb hby d_prog_41m6_41) rfl (pc' := 42) rfl ?_
                  exact ow_retBI X22 hx hret hlk (hb hby d_prog_41m6_42) hS19 (by rw [e22]; exact (Nat.le_refl _)) (by decide) (by decide) (z' := (1 : Int32)) rfl (show Q_co4 Z o fa zc f pn wf cK h0 n0 _ T22.heap _ _ from by rw [e22]; exact ⟨(1 : Int32), rfl, N19, K19, (show ((OKc (f (0 : Int32).toInt.toNat).toInt ∧ OKc (f (1 : Int32).toInt.toNat).toInt ∧ OKc (f (2 : Int32).toInt.toNat).toInt ∧ OKc (f (3 : Int32).toInt.toNat).toInt) ∧ (1 : Int) = 1) ∨ (¬ (OKc (f (0 : Int32).toInt.toNat).toInt ∧ OKc (f (1 : Int32).toInt.toNat).toInt ∧ OKc (f (2 : Int32).toInt.toNat).toInt ∧ OKc (f (3 : Int32).toInt.toNat).toInt) ∧ (1 : Int) = 0) from Or.inl ⟨⟨hk0, hk1, hk2, hk3⟩, by decide⟩)⟩)
                · have hk3 : ¬ OKc (f (3 : Int32).toInt.toNat).toInt := by rcases hO20 with q_ | q_; exact absurd q_.2 (by omega); exact q_.1
                  refine ow_iconst X19 hx (z := (0 : Int32)) (hb hby d_prog_41m6_33) rfl (pc' := 34) rfl ?_
                  exact ow_retBI X19 hx hret hlk (hb hby d_prog_41m6_34) hS19 (Nat.le_refl _) (by decide) (by decide) (z' := (0 : Int32)) rfl (show Q_co4 Z o fa zc f pn wf cK h0 n0 _ T19.heap _ _ from ⟨(0 : Int32), rfl, N19, K19, (show ((OKc (f (0 : Int32).toInt.toNat).toInt ∧ OKc (f (1 : Int32).toInt.toNat).toInt ∧ OKc (f (2 : Int32).toInt.toNat).toInt ∧ OKc (f (3 : Int32).toInt.toNat).toInt) ∧ (0 : Int) = 1) ∨ (¬ (OKc (f (0 : Int32).toInt.toNat).toInt ∧ OKc (f (1 : Int32).toInt.toNat).toInt ∧ OKc (f (2 : Int32).toInt.toNat).toInt ∧ OKc (f (3 : Int32).toInt.toNat).toInt) ∧ (0 : Int) = 0) from Or.inr ⟨fun q_ => hk3 q_.2.2.2, by decide⟩)⟩)
              · refine ow_callLam X18 hx hZ hown (hw _ (List.mem_of_getElem? (i := 85) rfl)) (hw _ (List.mem_of_getElem? (i := 86) rfl)) (hw _ (List.mem_of_getElem? (i := 87) rfl)) (hw _ (List.mem_of_getElem? (i := 88) rfl)) (hw _ (List.mem_of_getElem? (i := 25) rfl)) (hw _ (List.mem_of_getElem? (i := 89) rfl)) ⟨by decide +kernel, by decide +kernel, by decide +kernel⟩ ⟨by decide +kernel, by decide +kernel, by decide +kernel⟩ (by decide) (by decide) hmd (ow_fn hfz (ow_zk hzk hzn K14 all0)) ow_fok ow_fd0 ow_fd1 ow_fd4 (rm_unN l Z a0 hw [] hcw hch z18 zc T14.heap n0 Zs14 (ow_zk hzk hzn K14 all0) hzn (ow_staKeep S_cs K14 all0) (by first | assumption | decide | omega) (by first | assumption | decide | omega) (by first | assumption | decide | omega) (by first | assumption | decide | omega)) (fun v_ h_ L_ vm_ q_ => by obtain ⟨z_, oL_, ot_, kt_, rfl, -, -, p_, -, -, -, -, -⟩ := q_; exact ⟨z_, rfl, ow_nar1 (by rcases (show z_.toInt = 0 ∨ z_.toInt = 1 from by omega) with w_ | w_; exact Or.inl (ow_eq w_); exact Or.inr (ow_eq w_))⟩) (LT.warm hI14) hS14 (Nat.le_refl _) e18 0 (by decide) (by decide) (by decide) (by decide) (by rw [hml]; rfl) pd_18 rfl pd_18 rfl (Nat.le_of_eq rfl) (hb hby d_prog_41m6_25) (pc' := 30) rfl (fun v23 T23 L23 hQ23 X23 hS23 hZ hown => ?_)
                obtain ⟨z_23, b23a, b23b, kt_23, rfl, Nc23, Kc23, P23_0, P23_1, P23_2, P23_3, P23_4, hI23⟩ := hQ23
                have P23_0 : ((z18.toInt = 45 ∨ z18.toInt = 46 ∨ z18.toInt = 95 ∨ z18.toInt = 126) ∧ z_23.toInt = 1) ∨ (¬ (z18.toInt = 45 ∨ z18.toInt = 46 ∨ z18.toInt = 95 ∨ z18.toInt = 126) ∧ z_23.toInt = 0) := P23_0
                have Zs23 : n0 ≤ T23.heap.size := Nat.le_trans Zs14 Kc23.1
                have K23 := K14.trans Kc23 all0
                have N23 := Fr.app N14 Nc23
                show Ends _ _ _ _ T23 (mkF m 30 #[.val (.ref o), .val (.ref fa), .val (.int (3 : Int32))] [(.int z_23)])
                have hS24 := StrIs.keep hS K23
                have hO24 : (OKc (f (3 : Int32).toInt.toNat).toInt ∧ z_23.toInt = 1) ∨ (¬ OKc (f (3 : Int32).toInt.toNat).toInt ∧ z_23.toInt = 0) := by rw [← az18]; have p_ := P23_0; unfold OKc; omega
                refine ow_if_ne X23 hx (z_23.toInt) (hb hby d_prog_41m6_30) rfl (by decide) (pt := 35) (by decide) (pf := 33) rfl (fun c30 => ?_) (fun c30 => ?_)
                · have hk3 : OKc (f (3 : Int32).toInt.toNat).toInt := by rcases hO24 with q_ | q_; exact q_.1; exact absurd q_.2 (by omega)
                  refine ow_iinc X23 hx (Ls' := #[.val (.ref o), .val (.ref fa), .val (.int (3 : Int32))]) (hb hby d_prog_41m6_35) rfl (fun z => rfl) (pc' := 38) rfl (fun z25 hz25 => ?_)
                  obtain rfl : z25 = (4 : Int32) := hz25.trans (by decide)
                  show Ends _ _ _ _ T23 (mkF m 38 #[.val (.ref o), .val (.ref fa), .val (.int (4 : Int32))] [])
                  refine ow_goto X23 hx (hb hby d_prog_41m6_38) (by decide) (pc' := 11) (by decide) ?_
                  refine ow_iloadN X23 hx (hb hby d_prog_41m6_11) rfl (pc' := 12) rfl ?_
                  refine ow_aloadN X23 hx (hb hby d_prog_41m6_12) rfl rfl (pc' := 13) rfl ?_
                  refine ow_callVPI X23 hx hZ rfl hown (hw _ (List.mem_of_getElem? (i := 53) rfl)) (hw _ (List.mem_of_getElem? (i := 54) rfl)) (hw _ (List.mem_of_getElem? (i := 56) rfl)) (hw _ (List.mem_of_getElem? (i := 55) rfl)) (hw _ (List.mem_of_getElem? (i := 4) rfl)) (hw _ (List.mem_of_getElem? (i := 57) rfl)) (by decide) (rm_lenS l Z a0 hw [] o zc f pn T23.heap (ow_staKeep S_cs K23 all0) (by first | assumption | decide | omega) (E_o.keep K23) (by first | assumption | decide | omega) (by first | assumption | decide | omega) (by first | assumption | decide | omega)) rfl 1 (by decide) (by decide) (by decide) (by decide) [] (by rw [hml]; rfl) pd_5 rfl (E_o.keep K23) rfl rfl (Nat.le_of_eq rfl) (hb hby d_prog_41m6_13) (pc' := 16) rfl (fun z26 T26 hz26 X26 e26 => ?_)
                  have az26 : z26.toInt = pn.toInt := hz26
                  have rz26 := rng32 z26
                  refine ow_icmp_ge X26 hx ((4 : Int)) (z26.toInt) (hb hby d_prog_41m6_16) rfl rfl (by decide) (pt := 41) (by decide) (pf := 19) rfl (fun c16 => ?_) (fun c16 => absurd c16 (by omega))
                  refine ow_iconst X26 hx (z := (1 : Int32)) (hb hby d_prog_41m6_41) rfl (pc' := 42) rfl ?_
                  exact ow_retBI X26 hx hret hlk (hb hby d_prog_41m6_42) hS23 (by rw [e26]; exact (Nat.le_refl _)) (by decide) (by decide) (z' := (1 : Int32)) rfl (show Q_co4 Z o fa zc f pn wf cK h0 n0 _ T26.heap _ _ from by rw [e26]; exact ⟨(1 : Int32), rfl, N23, K23, (show ((OKc (f (0 : Int32).toInt.toNat).toInt ∧ OKc (f (1 : Int32).toInt.toNat).toInt ∧ OKc (f (2 : Int32).toInt.toNat).toInt ∧ OKc (f (3 : Int32).toInt.toNat).toInt) ∧ (1 : Int) = 1) ∨ (¬ (OKc (f (0 : Int32).toInt.toNat).toInt ∧ OKc (f (1 : Int32).toInt.toNat).toInt ∧ OKc (f (2 : Int32).toInt.toNat).toInt ∧ OKc (f (3 : Int32).toInt.toNat).toInt) ∧ (1 : Int) = 0) from Or.inl ⟨⟨hk0, hk1, hk2, hk3⟩, by decide⟩)⟩)
                · have hk3 : ¬ OKc (f (3 : Int32).toInt.toNat).toInt := by rcases hO24 with q_ | q_; exact absurd q_.2 (by omega); exact q_.1
                  refine ow_iconst X23 hx (z := (0 : Int32)) (hb hby d_prog_41m6_33) rfl (pc' := 34) rfl ?_
                  exact ow_retBI X23 hx hret hlk (hb hby d_prog_41m6_34) hS23 (Nat.le_refl _) (by decide) (by decide) (z' := (0 : Int32)) rfl (show Q_co4 Z o fa zc f pn wf cK h0 n0 _ T23.heap _ _ from ⟨(0 : Int32), rfl, N23, K23, (show ((OKc (f (0 : Int32).toInt.toNat).toInt ∧ OKc (f (1 : Int32).toInt.toNat).toInt ∧ OKc (f (2 : Int32).toInt.toNat).toInt ∧ OKc (f (3 : Int32).toInt.toNat).toInt) ∧ (0 : Int) = 1) ∨ (¬ (OKc (f (0 : Int32).toInt.toNat).toInt ∧ OKc (f (1 : Int32).toInt.toNat).toInt ∧ OKc (f (2 : Int32).toInt.toNat).toInt ∧ OKc (f (3 : Int32).toInt.toNat).toInt) ∧ (0 : Int) = 0) from Or.inr ⟨fun q_ => hk3 q_.2.2.2, by decide⟩)⟩)
            · have hk2 : ¬ OKc (f (2 : Int32).toInt.toNat).toInt := by rcases hO15 with q_ | q_; exact absurd q_.2 (by omega); exact q_.1
              refine ow_iconst X14 hx (z := (0 : Int32)) (hb hby d_prog_41m6_33) rfl (pc' := 34) rfl ?_
              exact ow_retBI X14 hx hret hlk (hb hby d_prog_41m6_34) hS14 (Nat.le_refl _) (by decide) (by decide) (z' := (0 : Int32)) rfl (show Q_co4 Z o fa zc f pn wf cK h0 n0 _ T14.heap _ _ from ⟨(0 : Int32), rfl, N14, K14, (show ((OKc (f (0 : Int32).toInt.toNat).toInt ∧ OKc (f (1 : Int32).toInt.toNat).toInt ∧ OKc (f (2 : Int32).toInt.toNat).toInt ∧ OKc (f (3 : Int32).toInt.toNat).toInt) ∧ (0 : Int) = 1) ∨ (¬ (OKc (f (0 : Int32).toInt.toNat).toInt ∧ OKc (f (1 : Int32).toInt.toNat).toInt ∧ OKc (f (2 : Int32).toInt.toNat).toInt ∧ OKc (f (3 : Int32).toInt.toNat).toInt) ∧ (0 : Int) = 0) from Or.inr ⟨fun q_ => hk2 q_.2.2.1, by decide⟩)⟩)
          · refine ow_callLam X13 hx hZ hown (hw _ (List.mem_of_getElem? (i := 85) rfl)) (hw _ (List.mem_of_getElem? (i := 86) rfl)) (hw _ (List.mem_of_getElem? (i := 87) rfl)) (hw _ (List.mem_of_getElem? (i := 88) rfl)) (hw _ (List.mem_of_getElem? (i := 25) rfl)) (hw _ (List.mem_of_getElem? (i := 89) rfl)) ⟨by decide +kernel, by decide +kernel, by decide +kernel⟩ ⟨by decide +kernel, by decide +kernel, by decide +kernel⟩ (by decide) (by decide) hmd (ow_fn hfz (ow_zk hzk hzn K9 all0)) ow_fok ow_fd0 ow_fd1 ow_fd4 (rm_unN l Z a0 hw [] hcw hch z13 zc T9.heap n0 Zs9 (ow_zk hzk hzn K9 all0) hzn (ow_staKeep S_cs K9 all0) (by first | assumption | decide | omega) (by first | assumption | decide | omega) (by first | assumption | decide | omega) (by first | assumption | decide | omega)) (fun v_ h_ L_ vm_ q_ => by obtain ⟨z_, oL_, ot_, kt_, rfl, -, -, p_, -, -, -, -, -⟩ := q_; exact ⟨z_, rfl, ow_nar1 (by rcases (show z_.toInt = 0 ∨ z_.toInt = 1 from by omega) with w_ | w_; exact Or.inl (ow_eq w_); exact Or.inr (ow_eq w_))⟩) (LT.warm hI9) hS9 (Nat.le_refl _) e13 0 (by decide) (by decide) (by decide) (by decide) (by rw [hml]; rfl) pd_18 rfl pd_18 rfl (Nat.le_of_eq rfl) (hb hby d_prog_41m6_25) (pc' := 30) rfl (fun v27 T27 L27 hQ27 X27 hS27 hZ hown => ?_)
            obtain ⟨z_27, b27a, b27b, kt_27, rfl, Nc27, Kc27, P27_0, P27_1, P27_2, P27_3, P27_4, hI27⟩ := hQ27
            have P27_0 : ((z13.toInt = 45 ∨ z13.toInt = 46 ∨ z13.toInt = 95 ∨ z13.toInt = 126) ∧ z_27.toInt = 1) ∨ (¬ (z13.toInt = 45 ∨ z13.toInt = 46 ∨ z13.toInt = 95 ∨ z13.toInt = 126) ∧ z_27.toInt = 0) := P27_0
            have Zs27 : n0 ≤ T27.heap.size := Nat.le_trans Zs9 Kc27.1
            have K27 := K9.trans Kc27 all0
            have N27 := Fr.app N9 Nc27
            show Ends _ _ _ _ T27 (mkF m 30 #[.val (.ref o), .val (.ref fa), .val (.int (2 : Int32))] [(.int z_27)])
            have hS28 := StrIs.keep hS K27
            have hO28 : (OKc (f (2 : Int32).toInt.toNat).toInt ∧ z_27.toInt = 1) ∨ (¬ OKc (f (2 : Int32).toInt.toNat).toInt ∧ z_27.toInt = 0) := by rw [← az13]; have p_ := P27_0; unfold OKc; omega
            refine ow_if_ne X27 hx (z_27.toInt) (hb hby d_prog_41m6_30) rfl (by decide) (pt := 35) (by decide) (pf := 33) rfl (fun c30 => ?_) (fun c30 => ?_)
            · have hk2 : OKc (f (2 : Int32).toInt.toNat).toInt := by rcases hO28 with q_ | q_; exact q_.1; exact absurd q_.2 (by omega)
              refine ow_iinc X27 hx (Ls' := #[.val (.ref o), .val (.ref fa), .val (.int (2 : Int32))]) (hb hby d_prog_41m6_35) rfl (fun z => rfl) (pc' := 38) rfl (fun z29 hz29 => ?_)
              obtain rfl : z29 = (3 : Int32) := hz29.trans (by decide)
              show Ends _ _ _ _ T27 (mkF m 38 #[.val (.ref o), .val (.ref fa), .val (.int (3 : Int32))] [])
              refine ow_goto X27 hx (hb hby d_prog_41m6_38) (by decide) (pc' := 11) (by decide) ?_
              refine ow_iloadN X27 hx (hb hby d_prog_41m6_11) rfl (pc' := 12) rfl ?_
              refine ow_aloadN X27 hx (hb hby d_prog_41m6_12) rfl rfl (pc' := 13) rfl ?_
              refine ow_callVPI X27 hx hZ rfl hown (hw _ (List.mem_of_getElem? (i := 53) rfl)) (hw _ (List.mem_of_getElem? (i := 54) rfl)) (hw _ (List.mem_of_getElem? (i := 56) rfl)) (hw _ (List.mem_of_getElem? (i := 55) rfl)) (hw _ (List.mem_of_getElem? (i := 4) rfl)) (hw _ (List.mem_of_getElem? (i := 57) rfl)) (by decide) (rm_lenS l Z a0 hw [] o zc f pn T27.heap (ow_staKeep S_cs K27 all0) (by first | assumption | decide | omega) (E_o.keep K27) (by first | assumption | decide | omega) (by first | assumption | decide | omega) (by first | assumption | decide | omega)) rfl 1 (by decide) (by decide) (by decide) (by decide) [] (by rw [hml]; rfl) pd_5 rfl (E_o.keep K27) rfl rfl (Nat.le_of_eq rfl) (hb hby d_prog_41m6_13) (pc' := 16) rfl (fun z30 T30 hz30 X30 e30 => ?_)
              have az30 : z30.toInt = pn.toInt := hz30
              have rz30 := rng32 z30
              refine ow_icmp_ge X30 hx ((3 : Int)) (z30.toInt) (hb hby d_prog_41m6_16) rfl rfl (by decide) (pt := 41) (by decide) (pf := 19) rfl (fun c16 => absurd c16 (by omega)) (fun c16 => ?_)
              refine ow_aloadN X30 hx (hb hby d_prog_41m6_19) rfl rfl (pc' := 20) rfl ?_
              refine ow_aloadN X30 hx (hb hby d_prog_41m6_20) rfl rfl (pc' := 21) rfl ?_
              refine ow_iloadN X30 hx (hb hby d_prog_41m6_21) rfl (pc' := 22) rfl ?_
              refine ow_callVPI X30 hx hZ rfl hown (hw _ (List.mem_of_getElem? (i := 63) rfl)) (hw _ (List.mem_of_getElem? (i := 64) rfl)) (hw _ (List.mem_of_getElem? (i := 66) rfl)) (hw _ (List.mem_of_getElem? (i := 65) rfl)) (hw _ (List.mem_of_getElem? (i := 4) rfl)) (hw _ (List.mem_of_getElem? (i := 67) rfl)) (by decide) (rm_chaS l Z a0 hw [] o (3 : Int32) zc f pn wf T27.heap (ow_staKeep S_cs K27 all0) (by first | assumption | decide | omega | (have q0_ : (3 : Int32).toInt = 3 := (by decide); omega)) (E_o.keep K27) (by first | assumption | decide | omega | (have q0_ : (3 : Int32).toInt = 3 := (by decide); omega)) (ow_staKeep S_ad K27 all0) (ow_staKeep S_hi K27 all0) (ow_staKeep S_lo K27 all0) (ow_staKeep S_f K27 all0) (by first | assumption | decide | omega | (have q0_ : (3 : Int32).toInt = 3 := (by decide); omega)) (by first | assumption | decide | omega | (have q0_ : (3 : Int32).toInt = 3 := (by decide); omega)) (by first | assumption | decide | omega | (have q0_ : (3 : Int32).toInt = 3 := (by decide); omega)) (by first | assumption | decide | omega | (have q0_ : (3 : Int32).toInt = 3 := (by decide); omega)) (by first | assumption | decide | omega | (have q0_ : (3 : Int32).toInt = 3 := (by decide); omega)) (by first | assumption | decide | omega | (have q0_ : (3 : Int32).toInt = 3 := (by decide); omega))) e30 1 (by decide) (by decide) (by decide) (by decide) [(.int (3 : Int32))] (by rw [hml]; rfl) pd_20 rfl (E_o.keep K27) rfl rfl (Nat.le_of_eq rfl) (hb hby d_prog_41m6_22) (pc' := 25) rfl (fun z31 T31 hz31 X31 e31 => ?_)
              have az31 : z31.toInt = (f (3 : Int32).toInt.toNat).toInt := hz31
              have rz31 := rng32 z31
              have rr3 := hr (3 : Int32).toInt.toNat
              refine ow_callLam X31 hx hZ hown (hw _ (List.mem_of_getElem? (i := 85) rfl)) (hw _ (List.mem_of_getElem? (i := 86) rfl)) (hw _ (List.mem_of_getElem? (i := 87) rfl)) (hw _ (List.mem_of_getElem? (i := 88) rfl)) (hw _ (List.mem_of_getElem? (i := 25) rfl)) (hw _ (List.mem_of_getElem? (i := 89) rfl)) ⟨by decide +kernel, by decide +kernel, by decide +kernel⟩ ⟨by decide +kernel, by decide +kernel, by decide +kernel⟩ (by decide) (by decide) hmd (ow_fn hfz (ow_zk hzk hzn K27 all0)) ow_fok ow_fd0 ow_fd1 ow_fd4 (rm_unB l Z a0 hw [] hcw hch z31 zc b27a b27b kt_27 T27.heap n0 Zs27 (ow_zk hzk hzn K27 all0) hzn (ow_staKeep S_cs K27 all0) (by first | assumption | decide | omega) P27_1 P27_2 P27_3 P27_4 (by first | assumption | decide | omega) (by first | assumption | decide | omega)) (fun v_ h_ L_ vm_ q_ => by obtain ⟨z_, rfl, -, -, p_, -⟩ := q_; exact ⟨z_, rfl, ow_nar1 (by rcases (show z_.toInt = 0 ∨ z_.toInt = 1 from by omega) with w_ | w_; exact Or.inl (ow_eq w_); exact Or.inr (ow_eq w_))⟩) (LT.warm hI27) hS27 (Nat.le_refl _) e31 0 (by decide) (by decide) (by decide) (by decide) (by rw [hml]; rfl) pd_18 rfl pd_18 rfl (Nat.le_of_eq rfl) (hb hby d_prog_41m6_25) (pc' := 30) rfl (fun v32 T32 L32 hQ32 X32 hS32 hZ hown => ?_)
              obtain ⟨z_32, rfl, Nc32, Kc32, P32_0, hI32⟩ := hQ32
              have P32_0 : (((97 ≤ z31.toInt ∧ z31.toInt ≤ 122) ∨ (65 ≤ z31.toInt ∧ z31.toInt ≤ 90) ∨ (48 ≤ z31.toInt ∧ z31.toInt ≤ 57) ∨ z31.toInt = 45 ∨ z31.toInt = 46 ∨ z31.toInt = 95 ∨ z31.toInt = 126) ∧ z_32.toInt = 1) ∨ (¬ ((97 ≤ z31.toInt ∧ z31.toInt ≤ 122) ∨ (65 ≤ z31.toInt ∧ z31.toInt ≤ 90) ∨ (48 ≤ z31.toInt ∧ z31.toInt ≤ 57) ∨ z31.toInt = 45 ∨ z31.toInt = 46 ∨ z31.toInt = 95 ∨ z31.toInt = 126) ∧ z_32.toInt = 0) := P32_0
              have E_b27a_32 := P27_1.keep Kc32
              have F_b27a_coder_32 := P27_2.keep Kc32 nin0
              have F_b27a_value_32 := P27_3.keep Kc32 nin0
              have V_b27b_32 := P27_4.keep Kc32 nin0
              have Zs32 : n0 ≤ T32.heap.size := Nat.le_trans Zs27 Kc32.1
              have K32 := K27.trans Kc32 all0
              have N32 := Fr.app N27 Nc32
              show Ends _ _ _ _ T32 (mkF m 30 #[.val (.ref o), .val (.ref fa), .val (.int (3 : Int32))] [(.int z_32)])
              have hS33 := StrIs.keep hS K32
              have hO33 : (OKc (f (3 : Int32).toInt.toNat).toInt ∧ z_32.toInt = 1) ∨ (¬ OKc (f (3 : Int32).toInt.toNat).toInt ∧ z_32.toInt = 0) := by rw [← az31]; have p_ := P32_0; unfold OKc; omega
              refine ow_if_ne X32 hx (z_32.toInt) (hb hby d_prog_41m6_30) rfl (by decide) (pt := 35) (by decide) (pf := 33) rfl (fun c30 => ?_) (fun c30 => ?_)
              · have hk3 : OKc (f (3 : Int32).toInt.toNat).toInt := by rcases hO33 with q_ | q_; exact q_.1; exact absurd q_.2 (by omega)
                refine ow_iinc X32 hx (Ls' := #[.val (.ref o), .val (.ref fa), .val (.int (3 : Int32))]) (hb hby d_prog_41m6_35) rfl (fun z => rfl) (pc' := 38) rfl (fun z34 hz34 => ?_)
                obtain rfl : z34 = (4 : Int32) := hz34.trans (by decide)
                show Ends _ _ _ _ T32 (mkF m 38 #[.val (.ref o), .val (.ref fa), .val (.int (4 : Int32))] [])
                refine ow_goto X32 hx (hb hby d_prog_41m6_38) (by decide) (pc' := 11) (by decide) ?_
                refine ow_iloadN X32 hx (hb hby d_prog_41m6_11) rfl (pc' := 12) rfl ?_
                refine ow_aloadN X32 hx (hb hby d_prog_41m6_12) rfl rfl (pc' := 13) rfl ?_
                refine ow_callVPI X32 hx hZ rfl hown (hw _ (List.mem_of_getElem? (i := 53) rfl)) (hw _ (List.mem_of_getElem? (i := 54) rfl)) (hw _ (List.mem_of_getElem? (i := 56) rfl)) (hw _ (List.mem_of_getElem? (i := 55) rfl)) (hw _ (List.mem_of_getElem? (i := 4) rfl)) (hw _ (List.mem_of_getElem? (i := 57) rfl)) (by decide) (rm_lenS l Z a0 hw [] o zc f pn T32.heap (ow_staKeep S_cs K32 all0) (by first | assumption | decide | omega) (E_o.keep K32) (by first | assumption | decide | omega) (by first | assumption | decide | omega) (by first | assumption | decide | omega)) rfl 1 (by decide) (by decide) (by decide) (by decide) [] (by rw [hml]; rfl) pd_5 rfl (E_o.keep K32) rfl rfl (Nat.le_of_eq rfl) (hb hby d_prog_41m6_13) (pc' := 16) rfl (fun z35 T35 hz35 X35 e35 => ?_)
                have az35 : z35.toInt = pn.toInt := hz35
                have rz35 := rng32 z35
                refine ow_icmp_ge X35 hx ((4 : Int)) (z35.toInt) (hb hby d_prog_41m6_16) rfl rfl (by decide) (pt := 41) (by decide) (pf := 19) rfl (fun c16 => ?_) (fun c16 => absurd c16 (by omega))
                refine ow_iconst X35 hx (z := (1 : Int32)) (hb hby d_prog_41m6_41) rfl (pc' := 42) rfl ?_
                exact ow_retBI X35 hx hret hlk (hb hby d_prog_41m6_42) hS32 (by rw [e35]; exact (Nat.le_refl _)) (by decide) (by decide) (z' := (1 : Int32)) rfl (show Q_co4 Z o fa zc f pn wf cK h0 n0 _ T35.heap _ _ from by rw [e35]; exact ⟨(1 : Int32), rfl, N32, K32, (show ((OKc (f (0 : Int32).toInt.toNat).toInt ∧ OKc (f (1 : Int32).toInt.toNat).toInt ∧ OKc (f (2 : Int32).toInt.toNat).toInt ∧ OKc (f (3 : Int32).toInt.toNat).toInt) ∧ (1 : Int) = 1) ∨ (¬ (OKc (f (0 : Int32).toInt.toNat).toInt ∧ OKc (f (1 : Int32).toInt.toNat).toInt ∧ OKc (f (2 : Int32).toInt.toNat).toInt ∧ OKc (f (3 : Int32).toInt.toNat).toInt) ∧ (1 : Int) = 0) from Or.inl ⟨⟨hk0, hk1, hk2, hk3⟩, by decide⟩)⟩)
              · have hk3 : ¬ OKc (f (3 : Int32).toInt.toNat).toInt := by rcases hO33 with q_ | q_; exact absurd q_.2 (by omega); exact q_.1
                refine ow_iconst X32 hx (z := (0 : Int32)) (hb hby d_prog_41m6_33) rfl (pc' := 34) rfl ?_
                exact ow_retBI X32 hx hret hlk (hb hby d_prog_41m6_34) hS32 (Nat.le_refl _) (by decide) (by decide) (z' := (0 : Int32)) rfl (show Q_co4 Z o fa zc f pn wf cK h0 n0 _ T32.heap _ _ from ⟨(0 : Int32), rfl, N32, K32, (show ((OKc (f (0 : Int32).toInt.toNat).toInt ∧ OKc (f (1 : Int32).toInt.toNat).toInt ∧ OKc (f (2 : Int32).toInt.toNat).toInt ∧ OKc (f (3 : Int32).toInt.toNat).toInt) ∧ (0 : Int) = 1) ∨ (¬ (OKc (f (0 : Int32).toInt.toNat).toInt ∧ OKc (f (1 : Int32).toInt.toNat).toInt ∧ OKc (f (2 : Int32).toInt.toNat).toInt ∧ OKc (f (3 : Int32).toInt.toNat).toInt) ∧ (0 : Int) = 0) from Or.inr ⟨fun q_ => hk3 q_.2.2.2, by decide⟩)⟩)
            · have hk2 : ¬ OKc (f (2 : Int32).toInt.toNat).toInt := by rcases hO28 with q_ | q_; exact absurd q_.2 (by omega); exact q_.1
              refine ow_iconst X27 hx (z := (0 : Int32)) (hb hby d_prog_41m6_33) rfl (pc' := 34) rfl ?_
              exact ow_retBI X27 hx hret hlk (hb hby d_prog_41m6_34) hS27 (Nat.le_refl _) (by decide) (by decide) (z' := (0 : Int32)) rfl (show Q_co4 Z o fa zc f pn wf cK h0 n0 _ T27.heap _ _ from ⟨(0 : Int32), rfl, N27, K27, (show ((OKc (f (0 : Int32).toInt.toNat).toInt ∧ OKc (f (1 : Int32).toInt.toNat).toInt ∧ OKc (f (2 : Int32).toInt.toNat).toInt ∧ OKc (f (3 : Int32).toInt.toNat).toInt) ∧ (0 : Int) = 1) ∨ (¬ (OKc (f (0 : Int32).toInt.toNat).toInt ∧ OKc (f (1 : Int32).toInt.toNat).toInt ∧ OKc (f (2 : Int32).toInt.toNat).toInt ∧ OKc (f (3 : Int32).toInt.toNat).toInt) ∧ (0 : Int) = 0) from Or.inr ⟨fun q_ => hk2 q_.2.2.1, by decide⟩)⟩)
        · have hk1 : ¬ OKc (f (1 : Int32).toInt.toNat).toInt := by rcases hO10 with q_ | q_; exact absurd q_.2 (by omega); exact q_.1
          refine ow_iconst X9 hx (z := (0 : Int32)) (hb hby d_prog_41m6_33) rfl (pc' := 34) rfl ?_
          exact ow_retBI X9 hx hret hlk (hb hby d_prog_41m6_34) hS9 (Nat.le_refl _) (by decide) (by decide) (z' := (0 : Int32)) rfl (show Q_co4 Z o fa zc f pn wf cK h0 n0 _ T9.heap _ _ from ⟨(0 : Int32), rfl, N9, K9, (show ((OKc (f (0 : Int32).toInt.toNat).toInt ∧ OKc (f (1 : Int32).toInt.toNat).toInt ∧ OKc (f (2 : Int32).toInt.toNat).toInt ∧ OKc (f (3 : Int32).toInt.toNat).toInt) ∧ (0 : Int) = 1) ∨ (¬ (OKc (f (0 : Int32).toInt.toNat).toInt ∧ OKc (f (1 : Int32).toInt.toNat).toInt ∧ OKc (f (2 : Int32).toInt.toNat).toInt ∧ OKc (f (3 : Int32).toInt.toNat).toInt) ∧ (0 : Int) = 0) from Or.inr ⟨fun q_ => hk1 q_.2.1, by decide⟩)⟩)
      · refine ow_callLam X8 hx hZ hown (hw _ (List.mem_of_getElem? (i := 85) rfl)) (hw _ (List.mem_of_getElem? (i := 86) rfl)) (hw _ (List.mem_of_getElem? (i := 87) rfl)) (hw _ (List.mem_of_getElem? (i := 88) rfl)) (hw _ (List.mem_of_getElem? (i := 25) rfl)) (hw _ (List.mem_of_getElem? (i := 89) rfl)) ⟨by decide +kernel, by decide +kernel, by decide +kernel⟩ ⟨by decide +kernel, by decide +kernel, by decide +kernel⟩ (by decide) (by decide) hmd (ow_fn hfz (ow_zk hzk hzn K4 all0)) ow_fok ow_fd0 ow_fd1 ow_fd4 (rm_unN l Z a0 hw [] hcw hch z8 zc T4.heap n0 Zs4 (ow_zk hzk hzn K4 all0) hzn (ow_staKeep S_cs K4 all0) (by first | assumption | decide | omega) (by first | assumption | decide | omega) (by first | assumption | decide | omega) (by first | assumption | decide | omega)) (fun v_ h_ L_ vm_ q_ => by obtain ⟨z_, oL_, ot_, kt_, rfl, -, -, p_, -, -, -, -, -⟩ := q_; exact ⟨z_, rfl, ow_nar1 (by rcases (show z_.toInt = 0 ∨ z_.toInt = 1 from by omega) with w_ | w_; exact Or.inl (ow_eq w_); exact Or.inr (ow_eq w_))⟩) (LT.warm hI4) hS4 (Nat.le_refl _) e8 0 (by decide) (by decide) (by decide) (by decide) (by rw [hml]; rfl) pd_18 rfl pd_18 rfl (Nat.le_of_eq rfl) (hb hby d_prog_41m6_25) (pc' := 30) rfl (fun v36 T36 L36 hQ36 X36 hS36 hZ hown => ?_)
        obtain ⟨z_36, b36a, b36b, kt_36, rfl, Nc36, Kc36, P36_0, P36_1, P36_2, P36_3, P36_4, hI36⟩ := hQ36
        have P36_0 : ((z8.toInt = 45 ∨ z8.toInt = 46 ∨ z8.toInt = 95 ∨ z8.toInt = 126) ∧ z_36.toInt = 1) ∨ (¬ (z8.toInt = 45 ∨ z8.toInt = 46 ∨ z8.toInt = 95 ∨ z8.toInt = 126) ∧ z_36.toInt = 0) := P36_0
        have Zs36 : n0 ≤ T36.heap.size := Nat.le_trans Zs4 Kc36.1
        have K36 := K4.trans Kc36 all0
        have N36 := Fr.app N4 Nc36
        show Ends _ _ _ _ T36 (mkF m 30 #[.val (.ref o), .val (.ref fa), .val (.int (1 : Int32))] [(.int z_36)])
        have hS37 := StrIs.keep hS K36
        have hO37 : (OKc (f (1 : Int32).toInt.toNat).toInt ∧ z_36.toInt = 1) ∨ (¬ OKc (f (1 : Int32).toInt.toNat).toInt ∧ z_36.toInt = 0) := by rw [← az8]; have p_ := P36_0; unfold OKc; omega
        refine ow_if_ne X36 hx (z_36.toInt) (hb hby d_prog_41m6_30) rfl (by decide) (pt := 35) (by decide) (pf := 33) rfl (fun c30 => ?_) (fun c30 => ?_)
        · have hk1 : OKc (f (1 : Int32).toInt.toNat).toInt := by rcases hO37 with q_ | q_; exact q_.1; exact absurd q_.2 (by omega)
          refine ow_iinc X36 hx (Ls' := #[.val (.ref o), .val (.ref fa), .val (.int (1 : Int32))]) (hb hby d_prog_41m6_35) rfl (fun z => rfl) (pc' := 38) rfl (fun z38 hz38 => ?_)
          obtain rfl : z38 = (2 : Int32) := hz38.trans (by decide)
          show Ends _ _ _ _ T36 (mkF m 38 #[.val (.ref o), .val (.ref fa), .val (.int (2 : Int32))] [])
          refine ow_goto X36 hx (hb hby d_prog_41m6_38) (by decide) (pc' := 11) (by decide) ?_
          refine ow_iloadN X36 hx (hb hby d_prog_41m6_11) rfl (pc' := 12) rfl ?_
          refine ow_aloadN X36 hx (hb hby d_prog_41m6_12) rfl rfl (pc' := 13) rfl ?_
          refine ow_callVPI X36 hx hZ rfl hown (hw _ (List.mem_of_getElem? (i := 53) rfl)) (hw _ (List.mem_of_getElem? (i := 54) rfl)) (hw _ (List.mem_of_getElem? (i := 56) rfl)) (hw _ (List.mem_of_getElem? (i := 55) rfl)) (hw _ (List.mem_of_getElem? (i := 4) rfl)) (hw _ (List.mem_of_getElem? (i := 57) rfl)) (by decide) (rm_lenS l Z a0 hw [] o zc f pn T36.heap (ow_staKeep S_cs K36 all0) (by first | assumption | decide | omega) (E_o.keep K36) (by first | assumption | decide | omega) (by first | assumption | decide | omega) (by first | assumption | decide | omega)) rfl 1 (by decide) (by decide) (by decide) (by decide) [] (by rw [hml]; rfl) pd_5 rfl (E_o.keep K36) rfl rfl (Nat.le_of_eq rfl) (hb hby d_prog_41m6_13) (pc' := 16) rfl (fun z39 T39 hz39 X39 e39 => ?_)
          have az39 : z39.toInt = pn.toInt := hz39
          have rz39 := rng32 z39
          refine ow_icmp_ge X39 hx ((2 : Int)) (z39.toInt) (hb hby d_prog_41m6_16) rfl rfl (by decide) (pt := 41) (by decide) (pf := 19) rfl (fun c16 => absurd c16 (by omega)) (fun c16 => ?_)
          refine ow_aloadN X39 hx (hb hby d_prog_41m6_19) rfl rfl (pc' := 20) rfl ?_
          refine ow_aloadN X39 hx (hb hby d_prog_41m6_20) rfl rfl (pc' := 21) rfl ?_
          refine ow_iloadN X39 hx (hb hby d_prog_41m6_21) rfl (pc' := 22) rfl ?_
          refine ow_callVPI X39 hx hZ rfl hown (hw _ (List.mem_of_getElem? (i := 63) rfl)) (hw _ (List.mem_of_getElem? (i := 64) rfl)) (hw _ (List.mem_of_getElem? (i := 66) rfl)) (hw _ (List.mem_of_getElem? (i := 65) rfl)) (hw _ (List.mem_of_getElem? (i := 4) rfl)) (hw _ (List.mem_of_getElem? (i := 67) rfl)) (by decide) (rm_chaS l Z a0 hw [] o (2 : Int32) zc f pn wf T36.heap (ow_staKeep S_cs K36 all0) (by first | assumption | decide | omega | (have q0_ : (2 : Int32).toInt = 2 := (by decide); omega)) (E_o.keep K36) (by first | assumption | decide | omega | (have q0_ : (2 : Int32).toInt = 2 := (by decide); omega)) (ow_staKeep S_ad K36 all0) (ow_staKeep S_hi K36 all0) (ow_staKeep S_lo K36 all0) (ow_staKeep S_f K36 all0) (by first | assumption | decide | omega | (have q0_ : (2 : Int32).toInt = 2 := (by decide); omega)) (by first | assumption | decide | omega | (have q0_ : (2 : Int32).toInt = 2 := (by decide); omega)) (by first | assumption | decide | omega | (have q0_ : (2 : Int32).toInt = 2 := (by decide); omega)) (by first | assumption | decide | omega | (have q0_ : (2 : Int32).toInt = 2 := (by decide); omega)) (by first | assumption | decide | omega | (have q0_ : (2 : Int32).toInt = 2 := (by decide); omega)) (by first | assumption | decide | omega | (have q0_ : (2 : Int32).toInt = 2 := (by decide); omega))) e39 1 (by decide) (by decide) (by decide) (by decide) [(.int (2 : Int32))] (by rw [hml]; rfl) pd_20 rfl (E_o.keep K36) rfl rfl (Nat.le_of_eq rfl) (hb hby d_prog_41m6_22) (pc' := 25) rfl (fun z40 T40 hz40 X40 e40 => ?_)
          have az40 : z40.toInt = (f (2 : Int32).toInt.toNat).toInt := hz40
          have rz40 := rng32 z40
          have rr2 := hr (2 : Int32).toInt.toNat
          refine ow_callLam X40 hx hZ hown (hw _ (List.mem_of_getElem? (i := 85) rfl)) (hw _ (List.mem_of_getElem? (i := 86) rfl)) (hw _ (List.mem_of_getElem? (i := 87) rfl)) (hw _ (List.mem_of_getElem? (i := 88) rfl)) (hw _ (List.mem_of_getElem? (i := 25) rfl)) (hw _ (List.mem_of_getElem? (i := 89) rfl)) ⟨by decide +kernel, by decide +kernel, by decide +kernel⟩ ⟨by decide +kernel, by decide +kernel, by decide +kernel⟩ (by decide) (by decide) hmd (ow_fn hfz (ow_zk hzk hzn K36 all0)) ow_fok ow_fd0 ow_fd1 ow_fd4 (rm_unB l Z a0 hw [] hcw hch z40 zc b36a b36b kt_36 T36.heap n0 Zs36 (ow_zk hzk hzn K36 all0) hzn (ow_staKeep S_cs K36 all0) (by first | assumption | decide | omega) P36_1 P36_2 P36_3 P36_4 (by first | assumption | decide | omega) (by first | assumption | decide | omega)) (fun v_ h_ L_ vm_ q_ => by obtain ⟨z_, rfl, -, -, p_, -⟩ := q_; exact ⟨z_, rfl, ow_nar1 (by rcases (show z_.toInt = 0 ∨ z_.toInt = 1 from by omega) with w_ | w_; exact Or.inl (ow_eq w_); exact Or.inr (ow_eq w_))⟩) (LT.warm hI36) hS36 (Nat.le_refl _) e40 0 (by decide) (by decide) (by decide) (by decide) (by rw [hml]; rfl) pd_18 rfl pd_18 rfl (Nat.le_of_eq rfl) (hb hby d_prog_41m6_25) (pc' := 30) rfl (fun v41 T41 L41 hQ41 X41 hS41 hZ hown => ?_)
          obtain ⟨z_41, rfl, Nc41, Kc41, P41_0, hI41⟩ := hQ41
          have P41_0 : (((97 ≤ z40.toInt ∧ z40.toInt ≤ 122) ∨ (65 ≤ z40.toInt ∧ z40.toInt ≤ 90) ∨ (48 ≤ z40.toInt ∧ z40.toInt ≤ 57) ∨ z40.toInt = 45 ∨ z40.toInt = 46 ∨ z40.toInt = 95 ∨ z40.toInt = 126) ∧ z_41.toInt = 1) ∨ (¬ ((97 ≤ z40.toInt ∧ z40.toInt ≤ 122) ∨ (65 ≤ z40.toInt ∧ z40.toInt ≤ 90) ∨ (48 ≤ z40.toInt ∧ z40.toInt ≤ 57) ∨ z40.toInt = 45 ∨ z40.toInt = 46 ∨ z40.toInt = 95 ∨ z40.toInt = 126) ∧ z_41.toInt = 0) := P41_0
          have E_b36a_41 := P36_1.keep Kc41
          have F_b36a_coder_41 := P36_2.keep Kc41 nin0
          have F_b36a_value_41 := P36_3.keep Kc41 nin0
          have V_b36b_41 := P36_4.keep Kc41 nin0
          have Zs41 : n0 ≤ T41.heap.size := Nat.le_trans Zs36 Kc41.1
          have K41 := K36.trans Kc41 all0
          have N41 := Fr.app N36 Nc41
          show Ends _ _ _ _ T41 (mkF m 30 #[.val (.ref o), .val (.ref fa), .val (.int (2 : Int32))] [(.int z_41)])
          have hS42 := StrIs.keep hS K41
          have hO42 : (OKc (f (2 : Int32).toInt.toNat).toInt ∧ z_41.toInt = 1) ∨ (¬ OKc (f (2 : Int32).toInt.toNat).toInt ∧ z_41.toInt = 0) := by rw [← az40]; have p_ := P41_0; unfold OKc; omega
          refine ow_if_ne X41 hx (z_41.toInt) (hb hby d_prog_41m6_30) rfl (by decide) (pt := 35) (by decide) (pf := 33) rfl (fun c30 => ?_) (fun c30 => ?_)
          · have hk2 : OKc (f (2 : Int32).toInt.toNat).toInt := by rcases hO42 with q_ | q_; exact q_.1; exact absurd q_.2 (by omega)
            refine ow_iinc X41 hx (Ls' := #[.val (.ref o), .val (.ref fa), .val (.int (2 : Int32))]) (hb hby d_prog_41m6_35) rfl (fun z => rfl) (pc' := 38) rfl (fun z43 hz43 => ?_)
            obtain rfl : z43 = (3 : Int32) := hz43.trans (by decide)
            show Ends _ _ _ _ T41 (mkF m 38 #[.val (.ref o), .val (.ref fa), .val (.int (3 : Int32))] [])
            refine ow_goto X41 hx (hb hby d_prog_41m6_38) (by decide) (pc' := 11) (by decide) ?_
            refine ow_iloadN X41 hx (hb hby d_prog_41m6_11) rfl (pc' := 12) rfl ?_
            refine ow_aloadN X41 hx (hb hby d_prog_41m6_12) rfl rfl (pc' := 13) rfl ?_
            refine ow_callVPI X41 hx hZ rfl hown (hw _ (List.mem_of_getElem? (i := 53) rfl)) (hw _ (List.mem_of_getElem? (i := 54) rfl)) (hw _ (List.mem_of_getElem? (i := 56) rfl)) (hw _ (List.mem_of_getElem? (i := 55) rfl)) (hw _ (List.mem_of_getElem? (i := 4) rfl)) (hw _ (List.mem_of_getElem? (i := 57) rfl)) (by decide) (rm_lenS l Z a0 hw [] o zc f pn T41.heap (ow_staKeep S_cs K41 all0) (by first | assumption | decide | omega) (E_o.keep K41) (by first | assumption | decide | omega) (by first | assumption | decide | omega) (by first | assumption | decide | omega)) rfl 1 (by decide) (by decide) (by decide) (by decide) [] (by rw [hml]; rfl) pd_5 rfl (E_o.keep K41) rfl rfl (Nat.le_of_eq rfl) (hb hby d_prog_41m6_13) (pc' := 16) rfl (fun z44 T44 hz44 X44 e44 => ?_)
            have az44 : z44.toInt = pn.toInt := hz44
            have rz44 := rng32 z44
            refine ow_icmp_ge X44 hx ((3 : Int)) (z44.toInt) (hb hby d_prog_41m6_16) rfl rfl (by decide) (pt := 41) (by decide) (pf := 19) rfl (fun c16 => absurd c16 (by omega)) (fun c16 => ?_)
            refine ow_aloadN X44 hx (hb hby d_prog_41m6_19) rfl rfl (pc' := 20) rfl ?_
            refine ow_aloadN X44 hx (hb hby d_prog_41m6_20) rfl rfl (pc' := 21) rfl ?_
            refine ow_iloadN X44 hx (hb hby d_prog_41m6_21) rfl (pc' := 22) rfl ?_
            refine ow_callVPI X44 hx hZ rfl hown (hw _ (List.mem_of_getElem? (i := 63) rfl)) (hw _ (List.mem_of_getElem? (i := 64) rfl)) (hw _ (List.mem_of_getElem? (i := 66) rfl)) (hw _ (List.mem_of_getElem? (i := 65) rfl)) (hw _ (List.mem_of_getElem? (i := 4) rfl)) (hw _ (List.mem_of_getElem? (i := 67) rfl)) (by decide) (rm_chaS l Z a0 hw [] o (3 : Int32) zc f pn wf T41.heap (ow_staKeep S_cs K41 all0) (by first | assumption | decide | omega | (have q0_ : (3 : Int32).toInt = 3 := (by decide); omega)) (E_o.keep K41) (by first | assumption | decide | omega | (have q0_ : (3 : Int32).toInt = 3 := (by decide); omega)) (ow_staKeep S_ad K41 all0) (ow_staKeep S_hi K41 all0) (ow_staKeep S_lo K41 all0) (ow_staKeep S_f K41 all0) (by first | assumption | decide | omega | (have q0_ : (3 : Int32).toInt = 3 := (by decide); omega)) (by first | assumption | decide | omega | (have q0_ : (3 : Int32).toInt = 3 := (by decide); omega)) (by first | assumption | decide | omega | (have q0_ : (3 : Int32).toInt = 3 := (by decide); omega)) (by first | assumption | decide | omega | (have q0_ : (3 : Int32).toInt = 3 := (by decide); omega)) (by first | assumption | decide | omega | (have q0_ : (3 : Int32).toInt = 3 := (by decide); omega)) (by first | assumption | decide | omega | (have q0_ : (3 : Int32).toInt = 3 := (by decide); omega))) e44 1 (by decide) (by decide) (by decide) (by decide) [(.int (3 : Int32))] (by rw [hml]; rfl) pd_20 rfl (E_o.keep K41) rfl rfl (Nat.le_of_eq rfl) (hb hby d_prog_41m6_22) (pc' := 25) rfl (fun z45 T45 hz45 X45 e45 => ?_)
            have az45 : z45.toInt = (f (3 : Int32).toInt.toNat).toInt := hz45
            have rz45 := rng32 z45
            have rr3 := hr (3 : Int32).toInt.toNat
            refine ow_callLam X45 hx hZ hown (hw _ (List.mem_of_getElem? (i := 85) rfl)) (hw _ (List.mem_of_getElem? (i := 86) rfl)) (hw _ (List.mem_of_getElem? (i := 87) rfl)) (hw _ (List.mem_of_getElem? (i := 88) rfl)) (hw _ (List.mem_of_getElem? (i := 25) rfl)) (hw _ (List.mem_of_getElem? (i := 89) rfl)) ⟨by decide +kernel, by decide +kernel, by decide +kernel⟩ ⟨by decide +kernel, by decide +kernel, by decide +kernel⟩ (by decide) (by decide) hmd (ow_fn hfz (ow_zk hzk hzn K41 all0)) ow_fok ow_fd0 ow_fd1 ow_fd4 (rm_unB l Z a0 hw [] hcw hch z45 zc b36a b36b kt_36 T41.heap n0 Zs41 (ow_zk hzk hzn K41 all0) hzn (ow_staKeep S_cs K41 all0) (by first | assumption | decide | omega) E_b36a_41 F_b36a_coder_41 F_b36a_value_41 V_b36b_41 (by first | assumption | decide | omega) (by first | assumption | decide | omega)) (fun v_ h_ L_ vm_ q_ => by obtain ⟨z_, rfl, -, -, p_, -⟩ := q_; exact ⟨z_, rfl, ow_nar1 (by rcases (show z_.toInt = 0 ∨ z_.toInt = 1 from by omega) with w_ | w_; exact Or.inl (ow_eq w_); exact Or.inr (ow_eq w_))⟩) (LT.warm hI41) hS41 (Nat.le_refl _) e45 0 (by decide) (by decide) (by decide) (by decide) (by rw [hml]; rfl) pd_18 rfl pd_18 rfl (Nat.le_of_eq rfl) (hb hby d_prog_41m6_25) (pc' := 30) rfl (fun v46 T46 L46 hQ46 X46 hS46 hZ hown => ?_)
            obtain ⟨z_46, rfl, Nc46, Kc46, P46_0, hI46⟩ := hQ46
            have P46_0 : (((97 ≤ z45.toInt ∧ z45.toInt ≤ 122) ∨ (65 ≤ z45.toInt ∧ z45.toInt ≤ 90) ∨ (48 ≤ z45.toInt ∧ z45.toInt ≤ 57) ∨ z45.toInt = 45 ∨ z45.toInt = 46 ∨ z45.toInt = 95 ∨ z45.toInt = 126) ∧ z_46.toInt = 1) ∨ (¬ ((97 ≤ z45.toInt ∧ z45.toInt ≤ 122) ∨ (65 ≤ z45.toInt ∧ z45.toInt ≤ 90) ∨ (48 ≤ z45.toInt ∧ z45.toInt ≤ 57) ∨ z45.toInt = 45 ∨ z45.toInt = 46 ∨ z45.toInt = 95 ∨ z45.toInt = 126) ∧ z_46.toInt = 0) := P46_0
            have E_b36a_46 := E_b36a_41.keep Kc46
            have F_b36a_coder_46 := F_b36a_coder_41.keep Kc46 nin0
            have F_b36a_value_46 := F_b36a_value_41.keep Kc46 nin0
            have V_b36b_46 := V_b36b_41.keep Kc46 nin0
            have Zs46 : n0 ≤ T46.heap.size := Nat.le_trans Zs41 Kc46.1
            have K46 := K41.trans Kc46 all0
            have N46 := Fr.app N41 Nc46
            show Ends _ _ _ _ T46 (mkF m 30 #[.val (.ref o), .val (.ref fa), .val (.int (3 : Int32))] [(.int z_46)])
            have hS47 := StrIs.keep hS K46
            have hO47 : (OKc (f (3 : Int32).toInt.toNat).toInt ∧ z_46.toInt = 1) ∨ (¬ OKc (f (3 : Int32).toInt.toNat).toInt ∧ z_46.toInt = 0) := by rw [← az45]; have p_ := P46_0; unfold OKc; omega
            refine ow_if_ne X46 hx (z_46.toInt) (hb hby d_prog_41m6_30) rfl (by decide) (pt := 35) (by decide) (pf := 33) rfl (fun c30 => ?_) (fun c30 => ?_)
            · have hk3 : OKc (f (3 : Int32).toInt.toNat).toInt := by rcases hO47 with q_ | q_; exact q_.1; exact absurd q_.2 (by omega)
              refine ow_iinc X46 hx (Ls' := #[.val (.ref o), .val (.ref fa), .val (.int (3 : Int32))]) (hb hby d_prog_41m6_35) rfl (fun z => rfl) (pc' := 38) rfl (fun z48 hz48 => ?_)
              obtain rfl : z48 = (4 : Int32) := hz48.trans (by decide)
              show Ends _ _ _ _ T46 (mkF m 38 #[.val (.ref o), .val (.ref fa), .val (.int (4 : Int32))] [])
              refine ow_goto X46 hx (hb hby d_prog_41m6_38) (by decide) (pc' := 11) (by decide) ?_
              refine ow_iloadN X46 hx (hb hby d_prog_41m6_11) rfl (pc' := 12) rfl ?_
              refine ow_aloadN X46 hx (hb hby d_prog_41m6_12) rfl rfl (pc' := 13) rfl ?_
              refine ow_callVPI X46 hx hZ rfl hown (hw _ (List.mem_of_getElem? (i := 53) rfl)) (hw _ (List.mem_of_getElem? (i := 54) rfl)) (hw _ (List.mem_of_getElem? (i := 56) rfl)) (hw _ (List.mem_of_getElem? (i := 55) rfl)) (hw _ (List.mem_of_getElem? (i := 4) rfl)) (hw _ (List.mem_of_getElem? (i := 57) rfl)) (by decide) (rm_lenS l Z a0 hw [] o zc f pn T46.heap (ow_staKeep S_cs K46 all0) (by first | assumption | decide | omega) (E_o.keep K46) (by first | assumption | decide | omega) (by first | assumption | decide | omega) (by first | assumption | decide | omega)) rfl 1 (by decide) (by decide) (by decide) (by decide) [] (by rw [hml]; rfl) pd_5 rfl (E_o.keep K46) rfl rfl (Nat.le_of_eq rfl) (hb hby d_prog_41m6_13) (pc' := 16) rfl (fun z49 T49 hz49 X49 e49 => ?_)
              have az49 : z49.toInt = pn.toInt := hz49
              have rz49 := rng32 z49
              refine ow_icmp_ge X49 hx ((4 : Int)) (z49.toInt) (hb hby d_prog_41m6_16) rfl rfl (by decide) (pt := 41) (by decide) (pf := 19) rfl (fun c16 => ?_) (fun c16 => absurd c16 (by omega))
              refine ow_iconst X49 hx (z := (1 : Int32)) (hb hby d_prog_41m6_41) rfl (pc' := 42) rfl ?_
              exact ow_retBI X49 hx hret hlk (hb hby d_prog_41m6_42) hS46 (by rw [e49]; exact (Nat.le_refl _)) (by decide) (by decide) (z' := (1 : Int32)) rfl (show Q_co4 Z o fa zc f pn wf cK h0 n0 _ T49.heap _ _ from by rw [e49]; exact ⟨(1 : Int32), rfl, N46, K46, (show ((OKc (f (0 : Int32).toInt.toNat).toInt ∧ OKc (f (1 : Int32).toInt.toNat).toInt ∧ OKc (f (2 : Int32).toInt.toNat).toInt ∧ OKc (f (3 : Int32).toInt.toNat).toInt) ∧ (1 : Int) = 1) ∨ (¬ (OKc (f (0 : Int32).toInt.toNat).toInt ∧ OKc (f (1 : Int32).toInt.toNat).toInt ∧ OKc (f (2 : Int32).toInt.toNat).toInt ∧ OKc (f (3 : Int32).toInt.toNat).toInt) ∧ (1 : Int) = 0) from Or.inl ⟨⟨hk0, hk1, hk2, hk3⟩, by decide⟩)⟩)
            · have hk3 : ¬ OKc (f (3 : Int32).toInt.toNat).toInt := by rcases hO47 with q_ | q_; exact absurd q_.2 (by omega); exact q_.1
              refine ow_iconst X46 hx (z := (0 : Int32)) (hb hby d_prog_41m6_33) rfl (pc' := 34) rfl ?_
              exact ow_retBI X46 hx hret hlk (hb hby d_prog_41m6_34) hS46 (Nat.le_refl _) (by decide) (by decide) (z' := (0 : Int32)) rfl (show Q_co4 Z o fa zc f pn wf cK h0 n0 _ T46.heap _ _ from ⟨(0 : Int32), rfl, N46, K46, (show ((OKc (f (0 : Int32).toInt.toNat).toInt ∧ OKc (f (1 : Int32).toInt.toNat).toInt ∧ OKc (f (2 : Int32).toInt.toNat).toInt ∧ OKc (f (3 : Int32).toInt.toNat).toInt) ∧ (0 : Int) = 1) ∨ (¬ (OKc (f (0 : Int32).toInt.toNat).toInt ∧ OKc (f (1 : Int32).toInt.toNat).toInt ∧ OKc (f (2 : Int32).toInt.toNat).toInt ∧ OKc (f (3 : Int32).toInt.toNat).toInt) ∧ (0 : Int) = 0) from Or.inr ⟨fun q_ => hk3 q_.2.2.2, by decide⟩)⟩)
          · have hk2 : ¬ OKc (f (2 : Int32).toInt.toNat).toInt := by rcases hO42 with q_ | q_; exact absurd q_.2 (by omega); exact q_.1
            refine ow_iconst X41 hx (z := (0 : Int32)) (hb hby d_prog_41m6_33) rfl (pc' := 34) rfl ?_
            exact ow_retBI X41 hx hret hlk (hb hby d_prog_41m6_34) hS41 (Nat.le_refl _) (by decide) (by decide) (z' := (0 : Int32)) rfl (show Q_co4 Z o fa zc f pn wf cK h0 n0 _ T41.heap _ _ from ⟨(0 : Int32), rfl, N41, K41, (show ((OKc (f (0 : Int32).toInt.toNat).toInt ∧ OKc (f (1 : Int32).toInt.toNat).toInt ∧ OKc (f (2 : Int32).toInt.toNat).toInt ∧ OKc (f (3 : Int32).toInt.toNat).toInt) ∧ (0 : Int) = 1) ∨ (¬ (OKc (f (0 : Int32).toInt.toNat).toInt ∧ OKc (f (1 : Int32).toInt.toNat).toInt ∧ OKc (f (2 : Int32).toInt.toNat).toInt ∧ OKc (f (3 : Int32).toInt.toNat).toInt) ∧ (0 : Int) = 0) from Or.inr ⟨fun q_ => hk2 q_.2.2.1, by decide⟩)⟩)
        · have hk1 : ¬ OKc (f (1 : Int32).toInt.toNat).toInt := by rcases hO37 with q_ | q_; exact absurd q_.2 (by omega); exact q_.1
          refine ow_iconst X36 hx (z := (0 : Int32)) (hb hby d_prog_41m6_33) rfl (pc' := 34) rfl ?_
          exact ow_retBI X36 hx hret hlk (hb hby d_prog_41m6_34) hS36 (Nat.le_refl _) (by decide) (by decide) (z' := (0 : Int32)) rfl (show Q_co4 Z o fa zc f pn wf cK h0 n0 _ T36.heap _ _ from ⟨(0 : Int32), rfl, N36, K36, (show ((OKc (f (0 : Int32).toInt.toNat).toInt ∧ OKc (f (1 : Int32).toInt.toNat).toInt ∧ OKc (f (2 : Int32).toInt.toNat).toInt ∧ OKc (f (3 : Int32).toInt.toNat).toInt) ∧ (0 : Int) = 1) ∨ (¬ (OKc (f (0 : Int32).toInt.toNat).toInt ∧ OKc (f (1 : Int32).toInt.toNat).toInt ∧ OKc (f (2 : Int32).toInt.toNat).toInt ∧ OKc (f (3 : Int32).toInt.toNat).toInt) ∧ (0 : Int) = 0) from Or.inr ⟨fun q_ => hk1 q_.2.1, by decide⟩)⟩)
    · have hk0 : ¬ OKc (f (0 : Int32).toInt.toNat).toInt := by rcases hO5 with q_ | q_; exact absurd q_.2 (by omega); exact q_.1
      refine ow_iconst X4 hx (z := (0 : Int32)) (hb hby d_prog_41m6_33) rfl (pc' := 34) rfl ?_
      exact ow_retBI X4 hx hret hlk (hb hby d_prog_41m6_34) hS4 (Nat.le_refl _) (by decide) (by decide) (z' := (0 : Int32)) rfl (show Q_co4 Z o fa zc f pn wf cK h0 n0 _ T4.heap _ _ from ⟨(0 : Int32), rfl, N4, K4, (show ((OKc (f (0 : Int32).toInt.toNat).toInt ∧ OKc (f (1 : Int32).toInt.toNat).toInt ∧ OKc (f (2 : Int32).toInt.toNat).toInt ∧ OKc (f (3 : Int32).toInt.toNat).toInt) ∧ (0 : Int) = 1) ∨ (¬ (OKc (f (0 : Int32).toInt.toNat).toInt ∧ OKc (f (1 : Int32).toInt.toNat).toInt ∧ OKc (f (2 : Int32).toInt.toNat).toInt ∧ OKc (f (3 : Int32).toInt.toNat).toInt) ∧ (0 : Int) = 0) from Or.inr ⟨fun q_ => hk0 q_.1, by decide⟩)⟩)
  · refine ow_callLam X3 hx hZ hown (hw _ (List.mem_of_getElem? (i := 85) rfl)) (hw _ (List.mem_of_getElem? (i := 86) rfl)) (hw _ (List.mem_of_getElem? (i := 87) rfl)) (hw _ (List.mem_of_getElem? (i := 88) rfl)) (hw _ (List.mem_of_getElem? (i := 25) rfl)) (hw _ (List.mem_of_getElem? (i := 89) rfl)) ⟨by decide +kernel, by decide +kernel, by decide +kernel⟩ ⟨by decide +kernel, by decide +kernel, by decide +kernel⟩ (by decide) (by decide) hmd (ow_fn hfz (ow_zk hzk hzn (Keep.refl h0 []) all0)) ow_fok ow_fd0 ow_fd1 ow_fd4 (rm_unN l Z a0 hw [] hcw hch z3 zc h0 n0 Z0 (ow_zk hzk hzn (Keep.refl h0 []) all0) hzn S_cs (by first | assumption | decide | omega) (by first | assumption | decide | omega) (by first | assumption | decide | omega) (by first | assumption | decide | omega)) (fun v_ h_ L_ vm_ q_ => by obtain ⟨z_, oL_, ot_, kt_, rfl, -, -, p_, -, -, -, -, -⟩ := q_; exact ⟨z_, rfl, ow_nar1 (by rcases (show z_.toInt = 0 ∨ z_.toInt = 1 from by omega) with w_ | w_; exact Or.inl (ow_eq w_); exact Or.inr (ow_eq w_))⟩) (LT.warm hI0) hS0 (Nat.zero_le _) e3 0 (by decide) (by decide) (by decide) (by decide) (by rw [hml]; rfl) pd_18 rfl pd_18 rfl (Nat.le_of_eq rfl) (hb hby d_prog_41m6_25) (pc' := 30) rfl (fun v50 T50 L50 hQ50 X50 hS50 hZ hown => ?_)
    obtain ⟨z_50, b50a, b50b, kt_50, rfl, Nc50, Kc50, P50_0, P50_1, P50_2, P50_3, P50_4, hI50⟩ := hQ50
    have P50_0 : ((z3.toInt = 45 ∨ z3.toInt = 46 ∨ z3.toInt = 95 ∨ z3.toInt = 126) ∧ z_50.toInt = 1) ∨ (¬ (z3.toInt = 45 ∨ z3.toInt = 46 ∨ z3.toInt = 95 ∨ z3.toInt = 126) ∧ z_50.toInt = 0) := P50_0
    have Zs50 : n0 ≤ T50.heap.size := Nat.le_trans Z0 Kc50.1
    have K50 := (Keep.refl h0 []).trans Kc50 all0
    have N50 := Fr.app N0 Nc50
    show Ends _ _ _ _ T50 (mkF m 30 #[.val (.ref o), .val (.ref fa), .val (.int (0 : Int32))] [(.int z_50)])
    have hS51 := StrIs.keep hS K50
    have hO51 : (OKc (f (0 : Int32).toInt.toNat).toInt ∧ z_50.toInt = 1) ∨ (¬ OKc (f (0 : Int32).toInt.toNat).toInt ∧ z_50.toInt = 0) := by rw [← az3]; have p_ := P50_0; unfold OKc; omega
    refine ow_if_ne X50 hx (z_50.toInt) (hb hby d_prog_41m6_30) rfl (by decide) (pt := 35) (by decide) (pf := 33) rfl (fun c30 => ?_) (fun c30 => ?_)
    · have hk0 : OKc (f (0 : Int32).toInt.toNat).toInt := by rcases hO51 with q_ | q_; exact q_.1; exact absurd q_.2 (by omega)
      refine ow_iinc X50 hx (Ls' := #[.val (.ref o), .val (.ref fa), .val (.int (0 : Int32))]) (hb hby d_prog_41m6_35) rfl (fun z => rfl) (pc' := 38) rfl (fun z52 hz52 => ?_)
      obtain rfl : z52 = (1 : Int32) := hz52.trans (by decide)
      show Ends _ _ _ _ T50 (mkF m 38 #[.val (.ref o), .val (.ref fa), .val (.int (1 : Int32))] [])
      refine ow_goto X50 hx (hb hby d_prog_41m6_38) (by decide) (pc' := 11) (by decide) ?_
      refine ow_iloadN X50 hx (hb hby d_prog_41m6_11) rfl (pc' := 12) rfl ?_
      refine ow_aloadN X50 hx (hb hby d_prog_41m6_12) rfl rfl (pc' := 13) rfl ?_
      refine ow_callVPI X50 hx hZ rfl hown (hw _ (List.mem_of_getElem? (i := 53) rfl)) (hw _ (List.mem_of_getElem? (i := 54) rfl)) (hw _ (List.mem_of_getElem? (i := 56) rfl)) (hw _ (List.mem_of_getElem? (i := 55) rfl)) (hw _ (List.mem_of_getElem? (i := 4) rfl)) (hw _ (List.mem_of_getElem? (i := 57) rfl)) (by decide) (rm_lenS l Z a0 hw [] o zc f pn T50.heap (ow_staKeep S_cs K50 all0) (by first | assumption | decide | omega) (E_o.keep K50) (by first | assumption | decide | omega) (by first | assumption | decide | omega) (by first | assumption | decide | omega)) rfl 1 (by decide) (by decide) (by decide) (by decide) [] (by rw [hml]; rfl) pd_5 rfl (E_o.keep K50) rfl rfl (Nat.le_of_eq rfl) (hb hby d_prog_41m6_13) (pc' := 16) rfl (fun z53 T53 hz53 X53 e53 => ?_)
      have az53 : z53.toInt = pn.toInt := hz53
      have rz53 := rng32 z53
      refine ow_icmp_ge X53 hx ((1 : Int)) (z53.toInt) (hb hby d_prog_41m6_16) rfl rfl (by decide) (pt := 41) (by decide) (pf := 19) rfl (fun c16 => absurd c16 (by omega)) (fun c16 => ?_)
      refine ow_aloadN X53 hx (hb hby d_prog_41m6_19) rfl rfl (pc' := 20) rfl ?_
      refine ow_aloadN X53 hx (hb hby d_prog_41m6_20) rfl rfl (pc' := 21) rfl ?_
      refine ow_iloadN X53 hx (hb hby d_prog_41m6_21) rfl (pc' := 22) rfl ?_
      refine ow_callVPI X53 hx hZ rfl hown (hw _ (List.mem_of_getElem? (i := 63) rfl)) (hw _ (List.mem_of_getElem? (i := 64) rfl)) (hw _ (List.mem_of_getElem? (i := 66) rfl)) (hw _ (List.mem_of_getElem? (i := 65) rfl)) (hw _ (List.mem_of_getElem? (i := 4) rfl)) (hw _ (List.mem_of_getElem? (i := 67) rfl)) (by decide) (rm_chaS l Z a0 hw [] o (1 : Int32) zc f pn wf T50.heap (ow_staKeep S_cs K50 all0) (by first | assumption | decide | omega | (have q0_ : (1 : Int32).toInt = 1 := (by decide); omega)) (E_o.keep K50) (by first | assumption | decide | omega | (have q0_ : (1 : Int32).toInt = 1 := (by decide); omega)) (ow_staKeep S_ad K50 all0) (ow_staKeep S_hi K50 all0) (ow_staKeep S_lo K50 all0) (ow_staKeep S_f K50 all0) (by first | assumption | decide | omega | (have q0_ : (1 : Int32).toInt = 1 := (by decide); omega)) (by first | assumption | decide | omega | (have q0_ : (1 : Int32).toInt = 1 := (by decide); omega)) (by first | assumption | decide | omega | (have q0_ : (1 : Int32).toInt = 1 := (by decide); omega)) (by first | assumption | decide | omega | (have q0_ : (1 : Int32).toInt = 1 := (by decide); omega)) (by first | assumption | decide | omega | (have q0_ : (1 : Int32).toInt = 1 := (by decide); omega)) (by first | assumption | decide | omega | (have q0_ : (1 : Int32).toInt = 1 := (by decide); omega))) e53 1 (by decide) (by decide) (by decide) (by decide) [(.int (1 : Int32))] (by rw [hml]; rfl) pd_20 rfl (E_o.keep K50) rfl rfl (Nat.le_of_eq rfl) (hb hby d_prog_41m6_22) (pc' := 25) rfl (fun z54 T54 hz54 X54 e54 => ?_)
      have az54 : z54.toInt = (f (1 : Int32).toInt.toNat).toInt := hz54
      have rz54 := rng32 z54
      have rr1 := hr (1 : Int32).toInt.toNat
      refine ow_callLam X54 hx hZ hown (hw _ (List.mem_of_getElem? (i := 85) rfl)) (hw _ (List.mem_of_getElem? (i := 86) rfl)) (hw _ (List.mem_of_getElem? (i := 87) rfl)) (hw _ (List.mem_of_getElem? (i := 88) rfl)) (hw _ (List.mem_of_getElem? (i := 25) rfl)) (hw _ (List.mem_of_getElem? (i := 89) rfl)) ⟨by decide +kernel, by decide +kernel, by decide +kernel⟩ ⟨by decide +kernel, by decide +kernel, by decide +kernel⟩ (by decide) (by decide) hmd (ow_fn hfz (ow_zk hzk hzn K50 all0)) ow_fok ow_fd0 ow_fd1 ow_fd4 (rm_unB l Z a0 hw [] hcw hch z54 zc b50a b50b kt_50 T50.heap n0 Zs50 (ow_zk hzk hzn K50 all0) hzn (ow_staKeep S_cs K50 all0) (by first | assumption | decide | omega) P50_1 P50_2 P50_3 P50_4 (by first | assumption | decide | omega) (by first | assumption | decide | omega)) (fun v_ h_ L_ vm_ q_ => by obtain ⟨z_, rfl, -, -, p_, -⟩ := q_; exact ⟨z_, rfl, ow_nar1 (by rcases (show z_.toInt = 0 ∨ z_.toInt = 1 from by omega) with w_ | w_; exact Or.inl (ow_eq w_); exact Or.inr (ow_eq w_))⟩) (LT.warm hI50) hS50 (Nat.le_refl _) e54 0 (by decide) (by decide) (by decide) (by decide) (by rw [hml]; rfl) pd_18 rfl pd_18 rfl (Nat.le_of_eq rfl) (hb hby d_prog_41m6_25) (pc' := 30) rfl (fun v55 T55 L55 hQ55 X55 hS55 hZ hown => ?_)
      obtain ⟨z_55, rfl, Nc55, Kc55, P55_0, hI55⟩ := hQ55
      have P55_0 : (((97 ≤ z54.toInt ∧ z54.toInt ≤ 122) ∨ (65 ≤ z54.toInt ∧ z54.toInt ≤ 90) ∨ (48 ≤ z54.toInt ∧ z54.toInt ≤ 57) ∨ z54.toInt = 45 ∨ z54.toInt = 46 ∨ z54.toInt = 95 ∨ z54.toInt = 126) ∧ z_55.toInt = 1) ∨ (¬ ((97 ≤ z54.toInt ∧ z54.toInt ≤ 122) ∨ (65 ≤ z54.toInt ∧ z54.toInt ≤ 90) ∨ (48 ≤ z54.toInt ∧ z54.toInt ≤ 57) ∨ z54.toInt = 45 ∨ z54.toInt = 46 ∨ z54.toInt = 95 ∨ z54.toInt = 126) ∧ z_55.toInt = 0) := P55_0
      have E_b50a_55 := P50_1.keep Kc55
      have F_b50a_coder_55 := P50_2.keep Kc55 nin0
      have F_b50a_value_55 := P50_3.keep Kc55 nin0
      have V_b50b_55 := P50_4.keep Kc55 nin0
      have Zs55 : n0 ≤ T55.heap.size := Nat.le_trans Zs50 Kc55.1
      have K55 := K50.trans Kc55 all0
      have N55 := Fr.app N50 Nc55
      show Ends _ _ _ _ T55 (mkF m 30 #[.val (.ref o), .val (.ref fa), .val (.int (1 : Int32))] [(.int z_55)])
      have hS56 := StrIs.keep hS K55
      have hO56 : (OKc (f (1 : Int32).toInt.toNat).toInt ∧ z_55.toInt = 1) ∨ (¬ OKc (f (1 : Int32).toInt.toNat).toInt ∧ z_55.toInt = 0) := by rw [← az54]; have p_ := P55_0; unfold OKc; omega
      refine ow_if_ne X55 hx (z_55.toInt) (hb hby d_prog_41m6_30) rfl (by decide) (pt := 35) (by decide) (pf := 33) rfl (fun c30 => ?_) (fun c30 => ?_)
      · have hk1 : OKc (f (1 : Int32).toInt.toNat).toInt := by rcases hO56 with q_ | q_; exact q_.1; exact absurd q_.2 (by omega)
        refine ow_iinc X55 hx (Ls' := #[.val (.ref o), .val (.ref fa), .val (.int (1 : Int32))]) (hb hby d_prog_41m6_35) rfl (fun z => rfl) (pc' := 38) rfl (fun z57 hz57 => ?_)
        obtain rfl : z57 = (2 : Int32) := hz57.trans (by decide)
        show Ends _ _ _ _ T55 (mkF m 38 #[.val (.ref o), .val (.ref fa), .val (.int (2 : Int32))] [])
        refine ow_goto X55 hx (hb hby d_prog_41m6_38) (by decide) (pc' := 11) (by decide) ?_
        refine ow_iloadN X55 hx (hb hby d_prog_41m6_11) rfl (pc' := 12) rfl ?_
        refine ow_aloadN X55 hx (hb hby d_prog_41m6_12) rfl rfl (pc' := 13) rfl ?_
        refine ow_callVPI X55 hx hZ rfl hown (hw _ (List.mem_of_getElem? (i := 53) rfl)) (hw _ (List.mem_of_getElem? (i := 54) rfl)) (hw _ (List.mem_of_getElem? (i := 56) rfl)) (hw _ (List.mem_of_getElem? (i := 55) rfl)) (hw _ (List.mem_of_getElem? (i := 4) rfl)) (hw _ (List.mem_of_getElem? (i := 57) rfl)) (by decide) (rm_lenS l Z a0 hw [] o zc f pn T55.heap (ow_staKeep S_cs K55 all0) (by first | assumption | decide | omega) (E_o.keep K55) (by first | assumption | decide | omega) (by first | assumption | decide | omega) (by first | assumption | decide | omega)) rfl 1 (by decide) (by decide) (by decide) (by decide) [] (by rw [hml]; rfl) pd_5 rfl (E_o.keep K55) rfl rfl (Nat.le_of_eq rfl) (hb hby d_prog_41m6_13) (pc' := 16) rfl (fun z58 T58 hz58 X58 e58 => ?_)
        have az58 : z58.toInt = pn.toInt := hz58
        have rz58 := rng32 z58
        refine ow_icmp_ge X58 hx ((2 : Int)) (z58.toInt) (hb hby d_prog_41m6_16) rfl rfl (by decide) (pt := 41) (by decide) (pf := 19) rfl (fun c16 => absurd c16 (by omega)) (fun c16 => ?_)
        refine ow_aloadN X58 hx (hb hby d_prog_41m6_19) rfl rfl (pc' := 20) rfl ?_
        refine ow_aloadN X58 hx (hb hby d_prog_41m6_20) rfl rfl (pc' := 21) rfl ?_
        refine ow_iloadN X58 hx (hb hby d_prog_41m6_21) rfl (pc' := 22) rfl ?_
        refine ow_callVPI X58 hx hZ rfl hown (hw _ (List.mem_of_getElem? (i := 63) rfl)) (hw _ (List.mem_of_getElem? (i := 64) rfl)) (hw _ (List.mem_of_getElem? (i := 66) rfl)) (hw _ (List.mem_of_getElem? (i := 65) rfl)) (hw _ (List.mem_of_getElem? (i := 4) rfl)) (hw _ (List.mem_of_getElem? (i := 67) rfl)) (by decide) (rm_chaS l Z a0 hw [] o (2 : Int32) zc f pn wf T55.heap (ow_staKeep S_cs K55 all0) (by first | assumption | decide | omega | (have q0_ : (2 : Int32).toInt = 2 := (by decide); omega)) (E_o.keep K55) (by first | assumption | decide | omega | (have q0_ : (2 : Int32).toInt = 2 := (by decide); omega)) (ow_staKeep S_ad K55 all0) (ow_staKeep S_hi K55 all0) (ow_staKeep S_lo K55 all0) (ow_staKeep S_f K55 all0) (by first | assumption | decide | omega | (have q0_ : (2 : Int32).toInt = 2 := (by decide); omega)) (by first | assumption | decide | omega | (have q0_ : (2 : Int32).toInt = 2 := (by decide); omega)) (by first | assumption | decide | omega | (have q0_ : (2 : Int32).toInt = 2 := (by decide); omega)) (by first | assumption | decide | omega | (have q0_ : (2 : Int32).toInt = 2 := (by decide); omega)) (by first | assumption | decide | omega | (have q0_ : (2 : Int32).toInt = 2 := (by decide); omega)) (by first | assumption | decide | omega | (have q0_ : (2 : Int32).toInt = 2 := (by decide); omega))) e58 1 (by decide) (by decide) (by decide) (by decide) [(.int (2 : Int32))] (by rw [hml]; rfl) pd_20 rfl (E_o.keep K55) rfl rfl (Nat.le_of_eq rfl) (hb hby d_prog_41m6_22) (pc' := 25) rfl (fun z59 T59 hz59 X59 e59 => ?_)
        have az59 : z59.toInt = (f (2 : Int32).toInt.toNat).toInt := hz59
        have rz59 := rng32 z59
        have rr2 := hr (2 : Int32).toInt.toNat
        refine ow_callLam X59 hx hZ hown (hw _ (List.mem_of_getElem? (i := 85) rfl)) (hw _ (List.mem_of_getElem? (i := 86) rfl)) (hw _ (List.mem_of_getElem? (i := 87) rfl)) (hw _ (List.mem_of_getElem? (i := 88) rfl)) (hw _ (List.mem_of_getElem? (i := 25) rfl)) (hw _ (List.mem_of_getElem? (i := 89) rfl)) ⟨by decide +kernel, by decide +kernel, by decide +kernel⟩ ⟨by decide +kernel, by decide +kernel, by decide +kernel⟩ (by decide) (by decide) hmd (ow_fn hfz (ow_zk hzk hzn K55 all0)) ow_fok ow_fd0 ow_fd1 ow_fd4 (rm_unB l Z a0 hw [] hcw hch z59 zc b50a b50b kt_50 T55.heap n0 Zs55 (ow_zk hzk hzn K55 all0) hzn (ow_staKeep S_cs K55 all0) (by first | assumption | decide | omega) E_b50a_55 F_b50a_coder_55 F_b50a_value_55 V_b50b_55 (by first | assumption | decide | omega) (by first | assumption | decide | omega)) (fun v_ h_ L_ vm_ q_ => by obtain ⟨z_, rfl, -, -, p_, -⟩ := q_; exact ⟨z_, rfl, ow_nar1 (by rcases (show z_.toInt = 0 ∨ z_.toInt = 1 from by omega) with w_ | w_; exact Or.inl (ow_eq w_); exact Or.inr (ow_eq w_))⟩) (LT.warm hI55) hS55 (Nat.le_refl _) e59 0 (by decide) (by decide) (by decide) (by decide) (by rw [hml]; rfl) pd_18 rfl pd_18 rfl (Nat.le_of_eq rfl) (hb hby d_prog_41m6_25) (pc' := 30) rfl (fun v60 T60 L60 hQ60 X60 hS60 hZ hown => ?_)
        obtain ⟨z_60, rfl, Nc60, Kc60, P60_0, hI60⟩ := hQ60
        have P60_0 : (((97 ≤ z59.toInt ∧ z59.toInt ≤ 122) ∨ (65 ≤ z59.toInt ∧ z59.toInt ≤ 90) ∨ (48 ≤ z59.toInt ∧ z59.toInt ≤ 57) ∨ z59.toInt = 45 ∨ z59.toInt = 46 ∨ z59.toInt = 95 ∨ z59.toInt = 126) ∧ z_60.toInt = 1) ∨ (¬ ((97 ≤ z59.toInt ∧ z59.toInt ≤ 122) ∨ (65 ≤ z59.toInt ∧ z59.toInt ≤ 90) ∨ (48 ≤ z59.toInt ∧ z59.toInt ≤ 57) ∨ z59.toInt = 45 ∨ z59.toInt = 46 ∨ z59.toInt = 95 ∨ z59.toInt = 126) ∧ z_60.toInt = 0) := P60_0
        have E_b50a_60 := E_b50a_55.keep Kc60
        have F_b50a_coder_60 := F_b50a_coder_55.keep Kc60 nin0
        have F_b50a_value_60 := F_b50a_value_55.keep Kc60 nin0
        have V_b50b_60 := V_b50b_55.keep Kc60 nin0
        have Zs60 : n0 ≤ T60.heap.size := Nat.le_trans Zs55 Kc60.1
        have K60 := K55.trans Kc60 all0
        have N60 := Fr.app N55 Nc60
        show Ends _ _ _ _ T60 (mkF m 30 #[.val (.ref o), .val (.ref fa), .val (.int (2 : Int32))] [(.int z_60)])
        have hS61 := StrIs.keep hS K60
        have hO61 : (OKc (f (2 : Int32).toInt.toNat).toInt ∧ z_60.toInt = 1) ∨ (¬ OKc (f (2 : Int32).toInt.toNat).toInt ∧ z_60.toInt = 0) := by rw [← az59]; have p_ := P60_0; unfold OKc; omega
        refine ow_if_ne X60 hx (z_60.toInt) (hb hby d_prog_41m6_30) rfl (by decide) (pt := 35) (by decide) (pf := 33) rfl (fun c30 => ?_) (fun c30 => ?_)
        · have hk2 : OKc (f (2 : Int32).toInt.toNat).toInt := by rcases hO61 with q_ | q_; exact q_.1; exact absurd q_.2 (by omega)
          refine ow_iinc X60 hx (Ls' := #[.val (.ref o), .val (.ref fa), .val (.int (2 : Int32))]) (hb hby d_prog_41m6_35) rfl (fun z => rfl) (pc' := 38) rfl (fun z62 hz62 => ?_)
          obtain rfl : z62 = (3 : Int32) := hz62.trans (by decide)
          show Ends _ _ _ _ T60 (mkF m 38 #[.val (.ref o), .val (.ref fa), .val (.int (3 : Int32))] [])
          refine ow_goto X60 hx (hb hby d_prog_41m6_38) (by decide) (pc' := 11) (by decide) ?_
          refine ow_iloadN X60 hx (hb hby d_prog_41m6_11) rfl (pc' := 12) rfl ?_
          refine ow_aloadN X60 hx (hb hby d_prog_41m6_12) rfl rfl (pc' := 13) rfl ?_
          refine ow_callVPI X60 hx hZ rfl hown (hw _ (List.mem_of_getElem? (i := 53) rfl)) (hw _ (List.mem_of_getElem? (i := 54) rfl)) (hw _ (List.mem_of_getElem? (i := 56) rfl)) (hw _ (List.mem_of_getElem? (i := 55) rfl)) (hw _ (List.mem_of_getElem? (i := 4) rfl)) (hw _ (List.mem_of_getElem? (i := 57) rfl)) (by decide) (rm_lenS l Z a0 hw [] o zc f pn T60.heap (ow_staKeep S_cs K60 all0) (by first | assumption | decide | omega) (E_o.keep K60) (by first | assumption | decide | omega) (by first | assumption | decide | omega) (by first | assumption | decide | omega)) rfl 1 (by decide) (by decide) (by decide) (by decide) [] (by rw [hml]; rfl) pd_5 rfl (E_o.keep K60) rfl rfl (Nat.le_of_eq rfl) (hb hby d_prog_41m6_13) (pc' := 16) rfl (fun z63 T63 hz63 X63 e63 => ?_)
          have az63 : z63.toInt = pn.toInt := hz63
          have rz63 := rng32 z63
          refine ow_icmp_ge X63 hx ((3 : Int)) (z63.toInt) (hb hby d_prog_41m6_16) rfl rfl (by decide) (pt := 41) (by decide) (pf := 19) rfl (fun c16 => absurd c16 (by omega)) (fun c16 => ?_)
          refine ow_aloadN X63 hx (hb hby d_prog_41m6_19) rfl rfl (pc' := 20) rfl ?_
          refine ow_aloadN X63 hx (hb hby d_prog_41m6_20) rfl rfl (pc' := 21) rfl ?_
          refine ow_iloadN X63 hx (hb hby d_prog_41m6_21) rfl (pc' := 22) rfl ?_
          refine ow_callVPI X63 hx hZ rfl hown (hw _ (List.mem_of_getElem? (i := 63) rfl)) (hw _ (List.mem_of_getElem? (i := 64) rfl)) (hw _ (List.mem_of_getElem? (i := 66) rfl)) (hw _ (List.mem_of_getElem? (i := 65) rfl)) (hw _ (List.mem_of_getElem? (i := 4) rfl)) (hw _ (List.mem_of_getElem? (i := 67) rfl)) (by decide) (rm_chaS l Z a0 hw [] o (3 : Int32) zc f pn wf T60.heap (ow_staKeep S_cs K60 all0) (by first | assumption | decide | omega | (have q0_ : (3 : Int32).toInt = 3 := (by decide); omega)) (E_o.keep K60) (by first | assumption | decide | omega | (have q0_ : (3 : Int32).toInt = 3 := (by decide); omega)) (ow_staKeep S_ad K60 all0) (ow_staKeep S_hi K60 all0) (ow_staKeep S_lo K60 all0) (ow_staKeep S_f K60 all0) (by first | assumption | decide | omega | (have q0_ : (3 : Int32).toInt = 3 := (by decide); omega)) (by first | assumption | decide | omega | (have q0_ : (3 : Int32).toInt = 3 := (by decide); omega)) (by first | assumption | decide | omega | (have q0_ : (3 : Int32).toInt = 3 := (by decide); omega)) (by first | assumption | decide | omega | (have q0_ : (3 : Int32).toInt = 3 := (by decide); omega)) (by first | assumption | decide | omega | (have q0_ : (3 : Int32).toInt = 3 := (by decide); omega)) (by first | assumption | decide | omega | (have q0_ : (3 : Int32).toInt = 3 := (by decide); omega))) e63 1 (by decide) (by decide) (by decide) (by decide) [(.int (3 : Int32))] (by rw [hml]; rfl) pd_20 rfl (E_o.keep K60) rfl rfl (Nat.le_of_eq rfl) (hb hby d_prog_41m6_22) (pc' := 25) rfl (fun z64 T64 hz64 X64 e64 => ?_)
          have az64 : z64.toInt = (f (3 : Int32).toInt.toNat).toInt := hz64
          have rz64 := rng32 z64
          have rr3 := hr (3 : Int32).toInt.toNat
          refine ow_callLam X64 hx hZ hown (hw _ (List.mem_of_getElem? (i := 85) rfl)) (hw _ (List.mem_of_getElem? (i := 86) rfl)) (hw _ (List.mem_of_getElem? (i := 87) rfl)) (hw _ (List.mem_of_getElem? (i := 88) rfl)) (hw _ (List.mem_of_getElem? (i := 25) rfl)) (hw _ (List.mem_of_getElem? (i := 89) rfl)) ⟨by decide +kernel, by decide +kernel, by decide +kernel⟩ ⟨by decide +kernel, by decide +kernel, by decide +kernel⟩ (by decide) (by decide) hmd (ow_fn hfz (ow_zk hzk hzn K60 all0)) ow_fok ow_fd0 ow_fd1 ow_fd4 (rm_unB l Z a0 hw [] hcw hch z64 zc b50a b50b kt_50 T60.heap n0 Zs60 (ow_zk hzk hzn K60 all0) hzn (ow_staKeep S_cs K60 all0) (by first | assumption | decide | omega) E_b50a_60 F_b50a_coder_60 F_b50a_value_60 V_b50b_60 (by first | assumption | decide | omega) (by first | assumption | decide | omega)) (fun v_ h_ L_ vm_ q_ => by obtain ⟨z_, rfl, -, -, p_, -⟩ := q_; exact ⟨z_, rfl, ow_nar1 (by rcases (show z_.toInt = 0 ∨ z_.toInt = 1 from by omega) with w_ | w_; exact Or.inl (ow_eq w_); exact Or.inr (ow_eq w_))⟩) (LT.warm hI60) hS60 (Nat.le_refl _) e64 0 (by decide) (by decide) (by decide) (by decide) (by rw [hml]; rfl) pd_18 rfl pd_18 rfl (Nat.le_of_eq rfl) (hb hby d_prog_41m6_25) (pc' := 30) rfl (fun v65 T65 L65 hQ65 X65 hS65 hZ hown => ?_)
          obtain ⟨z_65, rfl, Nc65, Kc65, P65_0, hI65⟩ := hQ65
          have P65_0 : (((97 ≤ z64.toInt ∧ z64.toInt ≤ 122) ∨ (65 ≤ z64.toInt ∧ z64.toInt ≤ 90) ∨ (48 ≤ z64.toInt ∧ z64.toInt ≤ 57) ∨ z64.toInt = 45 ∨ z64.toInt = 46 ∨ z64.toInt = 95 ∨ z64.toInt = 126) ∧ z_65.toInt = 1) ∨ (¬ ((97 ≤ z64.toInt ∧ z64.toInt ≤ 122) ∨ (65 ≤ z64.toInt ∧ z64.toInt ≤ 90) ∨ (48 ≤ z64.toInt ∧ z64.toInt ≤ 57) ∨ z64.toInt = 45 ∨ z64.toInt = 46 ∨ z64.toInt = 95 ∨ z64.toInt = 126) ∧ z_65.toInt = 0) := P65_0
          have E_b50a_65 := E_b50a_60.keep Kc65
          have F_b50a_coder_65 := F_b50a_coder_60.keep Kc65 nin0
          have F_b50a_value_65 := F_b50a_value_60.keep Kc65 nin0
          have V_b50b_65 := V_b50b_60.keep Kc65 nin0
          have Zs65 : n0 ≤ T65.heap.size := Nat.le_trans Zs60 Kc65.1
          have K65 := K60.trans Kc65 all0
          have N65 := Fr.app N60 Nc65
          show Ends _ _ _ _ T65 (mkF m 30 #[.val (.ref o), .val (.ref fa), .val (.int (3 : Int32))] [(.int z_65)])
          have hS66 := StrIs.keep hS K65
          have hO66 : (OKc (f (3 : Int32).toInt.toNat).toInt ∧ z_65.toInt = 1) ∨ (¬ OKc (f (3 : Int32).toInt.toNat).toInt ∧ z_65.toInt = 0) := by rw [← az64]; have p_ := P65_0; unfold OKc; omega
          refine ow_if_ne X65 hx (z_65.toInt) (hb hby d_prog_41m6_30) rfl (by decide) (pt := 35) (by decide) (pf := 33) rfl (fun c30 => ?_) (fun c30 => ?_)
          · have hk3 : OKc (f (3 : Int32).toInt.toNat).toInt := by rcases hO66 with q_ | q_; exact q_.1; exact absurd q_.2 (by omega)
            refine ow_iinc X65 hx (Ls' := #[.val (.ref o), .val (.ref fa), .val (.int (3 : Int32))]) (hb hby d_prog_41m6_35) rfl (fun z => rfl) (pc' := 38) rfl (fun z67 hz67 => ?_)
            obtain rfl : z67 = (4 : Int32) := hz67.trans (by decide)
            show Ends _ _ _ _ T65 (mkF m 38 #[.val (.ref o), .val (.ref fa), .val (.int (4 : Int32))] [])
            refine ow_goto X65 hx (hb hby d_prog_41m6_38) (by decide) (pc' := 11) (by decide) ?_
            refine ow_iloadN X65 hx (hb hby d_prog_41m6_11) rfl (pc' := 12) rfl ?_
            refine ow_aloadN X65 hx (hb hby d_prog_41m6_12) rfl rfl (pc' := 13) rfl ?_
            refine ow_callVPI X65 hx hZ rfl hown (hw _ (List.mem_of_getElem? (i := 53) rfl)) (hw _ (List.mem_of_getElem? (i := 54) rfl)) (hw _ (List.mem_of_getElem? (i := 56) rfl)) (hw _ (List.mem_of_getElem? (i := 55) rfl)) (hw _ (List.mem_of_getElem? (i := 4) rfl)) (hw _ (List.mem_of_getElem? (i := 57) rfl)) (by decide) (rm_lenS l Z a0 hw [] o zc f pn T65.heap (ow_staKeep S_cs K65 all0) (by first | assumption | decide | omega) (E_o.keep K65) (by first | assumption | decide | omega) (by first | assumption | decide | omega) (by first | assumption | decide | omega)) rfl 1 (by decide) (by decide) (by decide) (by decide) [] (by rw [hml]; rfl) pd_5 rfl (E_o.keep K65) rfl rfl (Nat.le_of_eq rfl) (hb hby d_prog_41m6_13) (pc' := 16) rfl (fun z68 T68 hz68 X68 e68 => ?_)
            have az68 : z68.toInt = pn.toInt := hz68
            have rz68 := rng32 z68
            refine ow_icmp_ge X68 hx ((4 : Int)) (z68.toInt) (hb hby d_prog_41m6_16) rfl rfl (by decide) (pt := 41) (by decide) (pf := 19) rfl (fun c16 => ?_) (fun c16 => absurd c16 (by omega))
            refine ow_iconst X68 hx (z := (1 : Int32)) (hb hby d_prog_41m6_41) rfl (pc' := 42) rfl ?_
            exact ow_retBI X68 hx hret hlk (hb hby d_prog_41m6_42) hS65 (by rw [e68]; exact (Nat.le_refl _)) (by decide) (by decide) (z' := (1 : Int32)) rfl (show Q_co4 Z o fa zc f pn wf cK h0 n0 _ T68.heap _ _ from by rw [e68]; exact ⟨(1 : Int32), rfl, N65, K65, (show ((OKc (f (0 : Int32).toInt.toNat).toInt ∧ OKc (f (1 : Int32).toInt.toNat).toInt ∧ OKc (f (2 : Int32).toInt.toNat).toInt ∧ OKc (f (3 : Int32).toInt.toNat).toInt) ∧ (1 : Int) = 1) ∨ (¬ (OKc (f (0 : Int32).toInt.toNat).toInt ∧ OKc (f (1 : Int32).toInt.toNat).toInt ∧ OKc (f (2 : Int32).toInt.toNat).toInt ∧ OKc (f (3 : Int32).toInt.toNat).toInt) ∧ (1 : Int) = 0) from Or.inl ⟨⟨hk0, hk1, hk2, hk3⟩, by decide⟩)⟩)
          · have hk3 : ¬ OKc (f (3 : Int32).toInt.toNat).toInt := by rcases hO66 with q_ | q_; exact absurd q_.2 (by omega); exact q_.1
            refine ow_iconst X65 hx (z := (0 : Int32)) (hb hby d_prog_41m6_33) rfl (pc' := 34) rfl ?_
            exact ow_retBI X65 hx hret hlk (hb hby d_prog_41m6_34) hS65 (Nat.le_refl _) (by decide) (by decide) (z' := (0 : Int32)) rfl (show Q_co4 Z o fa zc f pn wf cK h0 n0 _ T65.heap _ _ from ⟨(0 : Int32), rfl, N65, K65, (show ((OKc (f (0 : Int32).toInt.toNat).toInt ∧ OKc (f (1 : Int32).toInt.toNat).toInt ∧ OKc (f (2 : Int32).toInt.toNat).toInt ∧ OKc (f (3 : Int32).toInt.toNat).toInt) ∧ (0 : Int) = 1) ∨ (¬ (OKc (f (0 : Int32).toInt.toNat).toInt ∧ OKc (f (1 : Int32).toInt.toNat).toInt ∧ OKc (f (2 : Int32).toInt.toNat).toInt ∧ OKc (f (3 : Int32).toInt.toNat).toInt) ∧ (0 : Int) = 0) from Or.inr ⟨fun q_ => hk3 q_.2.2.2, by decide⟩)⟩)
        · have hk2 : ¬ OKc (f (2 : Int32).toInt.toNat).toInt := by rcases hO61 with q_ | q_; exact absurd q_.2 (by omega); exact q_.1
          refine ow_iconst X60 hx (z := (0 : Int32)) (hb hby d_prog_41m6_33) rfl (pc' := 34) rfl ?_
          exact ow_retBI X60 hx hret hlk (hb hby d_prog_41m6_34) hS60 (Nat.le_refl _) (by decide) (by decide) (z' := (0 : Int32)) rfl (show Q_co4 Z o fa zc f pn wf cK h0 n0 _ T60.heap _ _ from ⟨(0 : Int32), rfl, N60, K60, (show ((OKc (f (0 : Int32).toInt.toNat).toInt ∧ OKc (f (1 : Int32).toInt.toNat).toInt ∧ OKc (f (2 : Int32).toInt.toNat).toInt ∧ OKc (f (3 : Int32).toInt.toNat).toInt) ∧ (0 : Int) = 1) ∨ (¬ (OKc (f (0 : Int32).toInt.toNat).toInt ∧ OKc (f (1 : Int32).toInt.toNat).toInt ∧ OKc (f (2 : Int32).toInt.toNat).toInt ∧ OKc (f (3 : Int32).toInt.toNat).toInt) ∧ (0 : Int) = 0) from Or.inr ⟨fun q_ => hk2 q_.2.2.1, by decide⟩)⟩)
      · have hk1 : ¬ OKc (f (1 : Int32).toInt.toNat).toInt := by rcases hO56 with q_ | q_; exact absurd q_.2 (by omega); exact q_.1
        refine ow_iconst X55 hx (z := (0 : Int32)) (hb hby d_prog_41m6_33) rfl (pc' := 34) rfl ?_
        exact ow_retBI X55 hx hret hlk (hb hby d_prog_41m6_34) hS55 (Nat.le_refl _) (by decide) (by decide) (z' := (0 : Int32)) rfl (show Q_co4 Z o fa zc f pn wf cK h0 n0 _ T55.heap _ _ from ⟨(0 : Int32), rfl, N55, K55, (show ((OKc (f (0 : Int32).toInt.toNat).toInt ∧ OKc (f (1 : Int32).toInt.toNat).toInt ∧ OKc (f (2 : Int32).toInt.toNat).toInt ∧ OKc (f (3 : Int32).toInt.toNat).toInt) ∧ (0 : Int) = 1) ∨ (¬ (OKc (f (0 : Int32).toInt.toNat).toInt ∧ OKc (f (1 : Int32).toInt.toNat).toInt ∧ OKc (f (2 : Int32).toInt.toNat).toInt ∧ OKc (f (3 : Int32).toInt.toNat).toInt) ∧ (0 : Int) = 0) from Or.inr ⟨fun q_ => hk1 q_.2.1, by decide⟩)⟩)
    · have hk0 : ¬ OKc (f (0 : Int32).toInt.toNat).toInt := by rcases hO51 with q_ | q_; exact absurd q_.2 (by omega); exact q_.1
      refine ow_iconst X50 hx (z := (0 : Int32)) (hb hby d_prog_41m6_33) rfl (pc' := 34) rfl ?_
      exact ow_retBI X50 hx hret hlk (hb hby d_prog_41m6_34) hS50 (Nat.le_refl _) (by decide) (by decide) (z' := (0 : Int32)) rfl (show Q_co4 Z o fa zc f pn wf cK h0 n0 _ T50.heap _ _ from ⟨(0 : Int32), rfl, N50, K50, (show ((OKc (f (0 : Int32).toInt.toNat).toInt ∧ OKc (f (1 : Int32).toInt.toNat).toInt ∧ OKc (f (2 : Int32).toInt.toNat).toInt ∧ OKc (f (3 : Int32).toInt.toNat).toInt) ∧ (0 : Int) = 1) ∨ (¬ (OKc (f (0 : Int32).toInt.toNat).toInt ∧ OKc (f (1 : Int32).toInt.toNat).toInt ∧ OKc (f (2 : Int32).toInt.toNat).toInt ∧ OKc (f (3 : Int32).toInt.toNat).toInt) ∧ (0 : Int) = 0) from Or.inr ⟨fun q_ => hk0 q_.1, by decide⟩)⟩)
def Q_iu4 (Z : State) (o : Addr) (zc : Int32) (f : Nat → Int32) (pn : Int32) (wf : Value) (h0 : Heap) (n0 : Nat) (v : Option Value) (h : Heap) (L : List Loc) (vm : Vm) : Prop := ∃ (z : Int32), (v = some (.int z)) ∧ (Fr n0 L) ∧ (Keep h0 h []) ∧ (((OKc (f (0 : Int32).toInt.toNat).toInt ∧ OKc (f (1 : Int32).toInt.toNat).toInt ∧ OKc (f (2 : Int32).toInt.toNat).toInt ∧ OKc (f (3 : Int32).toInt.toNat).toInt) ∧ z.toInt = 1) ∨ (¬ (OKc (f (0 : Int32).toInt.toNat).toInt ∧ OKc (f (1 : Int32).toInt.toNat).toInt ∧ OKc (f (2 : Int32).toInt.toNat).toInt ∧ OKc (f (3 : Int32).toInt.toNat).toInt) ∧ z.toInt = 0))
set_option maxRecDepth 65536 in
set_option maxHeartbeats 40000000 in
theorem rm_iu4 (l : Launch) (Z : State) (a0 : Array Value) (hw : ∀ d ∈ tables_1, d.before a0 Z = true) (ws : List Jvm.Cond) (hcw : Jvm.Lit.compactW.before a0 Z = true) (hch : ∀ q ∈ consts_1, Jvm.Lit.constHeld Z q.1 q.2) (o : Addr) (zc : Int32) (f : Nat → Int32) (pn : Int32) (wf : Value) (h0 : Heap) (n0 : Nat) (Z0 : n0 ≤ h0.size) (hzk : ∀ (b : Addr) (cl : Cell), Z.heap[b]? = some cl → h0[b]? = some cl) (hzn : Z.heap.size ≤ n0) (S_cs : Sta Z h0 "java/lang/String" "COMPACT_STRINGS" "Z" (.int zc)) (hz0 : ¬ zc.toInt = 0) (E_o : Exa Z h0 o "java/lang/String") (hS : StrIs Z h0 o pn f) (S_ad : Sta Z h0 "java/lang/StringUTF16" "$assertionsDisabled" "Z" (.int (1 : Int32))) (S_hi : Sta Z h0 "java/lang/StringUTF16" "HI_BYTE_SHIFT" "I" (.int (0 : Int32))) (S_lo : Sta Z h0 "java/lang/StringUTF16" "LO_BYTE_SHIFT" "I" (.int (8 : Int32))) (S_f : Sta Z h0 "jdk/internal/util/Preconditions" "SIOOBE_FORMATTER" "Ljava/util/function/BiFunction;" wf) (hwf : wf = .null ∨ ∃ a, wf = .ref a) (hn0 : 1 ≤ pn.toInt) (hn1 : pn.toInt ≤ 4) (hr : Rng f) (hpn : pn.toInt = 4) :
    MetFree l (⟨"com/example/inchworm/inchworm/store/HttpSyntax", "isUnreserved", "(Ljava/lang/String;)Z"⟩ : MethodName) (head1 (Jvm.Cond.code (⟨"com/example/inchworm/inchworm/store/HttpSyntax", "isUnreserved", "(Ljava/lang/String;)Z"⟩ : MethodName) prog_41_method_3_code 1 (some .boolean) :: ws) ({ frames := 7, cells := 2, slots := 20, locals := 3073 } : Room)) (fun a_ U_ => a_ = #[(.ref o)] ∧ Z.Warmed39 U_.vm ∧ U_.heap = h0 ∧ LT Z [] [] U_.vm) (fun _ _ _ _ _ => True) (fun _ U_ o_ U_' => ∃ v_ L_, o_ = .returned v_ ∧ (Q_iu4 Z o zc f pn wf h0 n0) v_ U_'.heap L_ U_'.vm ∧ ReturnedEndW U_ o_ U_' L_ 2 20) := by
  refine ow_bodyIN (plainFor_of_name pn_4) ?_
  intro p e s m below meth c T0 X0 hx hZ hby hml hown hnm hret hlk e0 es hS0 hI0 hnmd
  have N0 := Fr.nil n0
  refine Ends.cast (ef_iu0 m o) ?_
  obtain ⟨fa, cK, mD, kD, i0, p0, hm1, hm2, hm3, hmd, hfz⟩ := ow_lamZ (hw _ (List.mem_of_getElem? (i := 27) rfl)) rfl
  have hmd : LamKit.Made Z "com/example/inchworm/inchworm/store/HttpSyntax" ow_sh cK := hmd
  refine ow_aloadN X0 hx (hb hby d_prog_41m3_0) rfl rfl (pc' := 1) rfl ?_
  refine ow_indy X0 hx hZ hnmd hm1 hm2 hm3 (by rw [hml]; rfl) (W := 1) (Nat.le_of_eq rfl) (by decide) (hb hby d_prog_41m3_1) (pc' := 6) rfl ?_
  refine ow_callSI X0 hx hZ hown (hw _ (List.mem_of_getElem? (i := 30) rfl)) (hw _ (List.mem_of_getElem? (i := 31) rfl)) (hw _ (List.mem_of_getElem? (i := 25) rfl)) (hw _ (List.mem_of_getElem? (i := 32) rfl)) (by decide) (rm_co4 l Z a0 hw [] hcw hch o fa zc f pn wf cK h0 n0 Z0 (ow_zk hzk hzn (Keep.refl h0 []) all0) hzn S_cs (by first | assumption | decide | omega) E_o (by first | assumption | decide | omega) S_ad S_hi S_lo S_f (by first | assumption | decide | omega) (by first | assumption | decide | omega) (by first | assumption | decide | omega) (by first | assumption | decide | omega) (by first | assumption | decide | omega) (by first | assumption | decide | omega) (by first | assumption | decide | omega)) (LT.warm hI0) hS0 (Nat.zero_le _) e0 0 (by decide) (by decide) (by decide) (by decide) [(.ref o), (.ref fa)] (by rw [hml]; rfl) pd_19 rfl rfl rfl (Nat.le_of_eq rfl) (hb hby d_prog_41m3_6) (pc' := 9) rfl (fun v1 T1 L1 hQ1 X1 hS1 hZ hown => ?_)
  obtain ⟨z_1, rfl, Nc1, Kc1, P1_0⟩ := hQ1
  have P1_0 : ((OKc (f (0 : Int32).toInt.toNat).toInt ∧ OKc (f (1 : Int32).toInt.toNat).toInt ∧ OKc (f (2 : Int32).toInt.toNat).toInt ∧ OKc (f (3 : Int32).toInt.toNat).toInt) ∧ z_1.toInt = 1) ∨ (¬ (OKc (f (0 : Int32).toInt.toNat).toInt ∧ OKc (f (1 : Int32).toInt.toNat).toInt ∧ OKc (f (2 : Int32).toInt.toNat).toInt ∧ OKc (f (3 : Int32).toInt.toNat).toInt) ∧ z_1.toInt = 0) := P1_0
  have Zs1 : n0 ≤ T1.heap.size := Nat.le_trans Z0 Kc1.1
  have K1 := (Keep.refl h0 []).trans Kc1 all0
  have N1 := Fr.app N0 Nc1
  show Ends _ _ _ _ T1 (mkF m 9 #[.val (.ref o)] [(.int z_1)])
  exact ow_retBI X1 hx hret hlk (hb hby d_prog_41m3_9) hS1 (Nat.le_refl _) (by decide) (by decide) (z' := z_1) (ow_nar1 (by rcases P1_0 with q_ | q_; exact Or.inr (ow_eq q_.2); exact Or.inl (ow_eq q_.2))) (show Q_iu4 Z o zc f pn wf h0 n0 _ T1.heap _ _ from ⟨z_1, rfl, N1, K1, P1_0⟩)
theorem d_m2_0 : decode method_2_code 0 = .ok (.iload_n 0, 1) := by decide +kernel
theorem d_m2_1 : decode method_2_code 1 = .ok (.bipush 97, 2) := by decide +kernel
theorem d_m2_3 : decode method_2_code 3 = .ok (.if_icmp .lt 11, 3) := by decide +kernel
theorem d_m2_6 : decode method_2_code 6 = .ok (.iload_n 0, 1) := by decide +kernel
theorem d_m2_7 : decode method_2_code 7 = .ok (.bipush 122, 2) := by decide +kernel
theorem d_m2_9 : decode method_2_code 9 = .ok (.if_icmp .gt 5, 3) := by decide +kernel
theorem d_m2_12 : decode method_2_code 12 = .ok (.iconst 1, 1) := by decide +kernel
theorem d_m2_13 : decode method_2_code 13 = .ok (.ireturn, 1) := by decide +kernel
theorem d_m2_14 : decode method_2_code 14 = .ok (.iload_n 0, 1) := by decide +kernel
theorem d_m2_15 : decode method_2_code 15 = .ok (.bipush 65, 2) := by decide +kernel
theorem d_m2_17 : decode method_2_code 17 = .ok (.if_icmp .lt 11, 3) := by decide +kernel
theorem d_m2_20 : decode method_2_code 20 = .ok (.iload_n 0, 1) := by decide +kernel
theorem d_m2_21 : decode method_2_code 21 = .ok (.bipush 90, 2) := by decide +kernel
theorem d_m2_23 : decode method_2_code 23 = .ok (.if_icmp .gt 5, 3) := by decide +kernel
theorem d_m2_26 : decode method_2_code 26 = .ok (.iconst 1, 1) := by decide +kernel
theorem d_m2_27 : decode method_2_code 27 = .ok (.ireturn, 1) := by decide +kernel
theorem d_m2_28 : decode method_2_code 28 = .ok (.iload_n 0, 1) := by decide +kernel
theorem d_m2_29 : decode method_2_code 29 = .ok (.bipush 48, 2) := by decide +kernel
theorem d_m2_31 : decode method_2_code 31 = .ok (.if_icmp .lt 11, 3) := by decide +kernel
theorem d_m2_34 : decode method_2_code 34 = .ok (.iload_n 0, 1) := by decide +kernel
theorem d_m2_35 : decode method_2_code 35 = .ok (.bipush 57, 2) := by decide +kernel
theorem d_m2_37 : decode method_2_code 37 = .ok (.if_icmp .gt 5, 3) := by decide +kernel
theorem d_m2_40 : decode method_2_code 40 = .ok (.iconst 1, 1) := by decide +kernel
theorem d_m2_41 : decode method_2_code 41 = .ok (.ireturn, 1) := by decide +kernel
theorem d_m2_42 : decode method_2_code 42 = .ok (.iload_n 0, 1) := by decide +kernel
theorem d_m2_43 : decode method_2_code 43 = .ok (.bipush 45, 2) := by decide +kernel
theorem d_m2_45 : decode method_2_code 45 = .ok (.if_icmp .eq 21, 3) := by decide +kernel
theorem d_m2_48 : decode method_2_code 48 = .ok (.iload_n 0, 1) := by decide +kernel
theorem d_m2_49 : decode method_2_code 49 = .ok (.bipush 46, 2) := by decide +kernel
theorem d_m2_51 : decode method_2_code 51 = .ok (.if_icmp .eq 15, 3) := by decide +kernel
theorem d_m2_54 : decode method_2_code 54 = .ok (.iload_n 0, 1) := by decide +kernel
theorem d_m2_55 : decode method_2_code 55 = .ok (.bipush 95, 2) := by decide +kernel
theorem d_m2_57 : decode method_2_code 57 = .ok (.if_icmp .eq 9, 3) := by decide +kernel
theorem d_m2_60 : decode method_2_code 60 = .ok (.iload_n 0, 1) := by decide +kernel
theorem d_m2_61 : decode method_2_code 61 = .ok (.bipush 126, 2) := by decide +kernel
theorem d_m2_63 : decode method_2_code 63 = .ok (.if_icmp .ne 7, 3) := by decide +kernel
theorem d_m2_66 : decode method_2_code 66 = .ok (.iconst 1, 1) := by decide +kernel
theorem d_m2_67 : decode method_2_code 67 = .ok (.goto 4, 3) := by decide +kernel
theorem d_m2_70 : decode method_2_code 70 = .ok (.iconst 0, 1) := by decide +kernel
theorem d_m2_71 : decode method_2_code 71 = .ok (.ireturn, 1) := by decide +kernel
theorem ef_okC (m : MethodId) (x0 : Int32) : entryFrame m #[(.int x0)] 1 = mkF m 0 #[.val (.int x0)] [] := by first | (simp [entryFrame, mkF, argsToLocals, Value.category]; done) | rfl
theorem pn_5 : plainName "com/example/inchworm/inchworm/store/HttpSyntaxIsUnreservedPinLaw" = true := by first | (simp [plainName, overriddenIn]; done) | decide +kernel
set_option maxRecDepth 65536 in
set_option maxHeartbeats 40000000 in
theorem rm_okC (l : Launch) (Z : State) (a0 : Array Value) (hw : ∀ d ∈ tables_1, d.before a0 Z = true) (ws : List Jvm.Cond) (pc : Int32) (h0 : Heap) :
    MetFree l (⟨"com/example/inchworm/inchworm/store/HttpSyntaxIsUnreservedPinLaw", "ok", "(C)Z"⟩ : MethodName) (head1 (Jvm.Cond.code (⟨"com/example/inchworm/inchworm/store/HttpSyntaxIsUnreservedPinLaw", "ok", "(C)Z"⟩ : MethodName) method_2_code 1 (some .boolean) :: ws) ({ frames := 0, cells := 0, slots := 0, locals := 0 } : Room)) (fun a_ U_ => a_ = #[(.int pc)] ∧ Z.Warmed39 U_.vm ∧ U_.heap = h0) (fun _ _ _ _ _ => True) (fun _ U_ o_ U_' => ∃ v_ L_, o_ = .returned v_ ∧ (QI (fun z => (((97 ≤ pc.toInt ∧ pc.toInt ≤ 122) ∨ (65 ≤ pc.toInt ∧ pc.toInt ≤ 90) ∨ (48 ≤ pc.toInt ∧ pc.toInt ≤ 57) ∨ pc.toInt = 45 ∨ pc.toInt = 46 ∨ pc.toInt = 95 ∨ pc.toInt = 126) ∧ z.toInt = 1) ∨ (¬ ((97 ≤ pc.toInt ∧ pc.toInt ≤ 122) ∨ (65 ≤ pc.toInt ∧ pc.toInt ≤ 90) ∨ (48 ≤ pc.toInt ∧ pc.toInt ≤ 57) ∨ pc.toInt = 45 ∨ pc.toInt = 46 ∨ pc.toInt = 95 ∨ pc.toInt = 126) ∧ z.toInt = 0)) h0) v_ U_'.heap L_ ∧ FrameEnd U_ o_ U_' L_ 0 0) := by
  refine ow_body (plainFor_of_name pn_5) ?_
  intro p e s m below meth c T0 X0 hx hZ hby hml hown hnm hret hlk e0
  refine Ends.cast (ef_okC m pc) ?_
  have r_pc := rng32 pc
  have J42 : ∀ (_u : Unit), (¬ (97 ≤ pc.toInt ∧ pc.toInt ≤ 122) ∧ ¬ (65 ≤ pc.toInt ∧ pc.toInt ≤ 90) ∧ ¬ (48 ≤ pc.toInt ∧ pc.toInt ≤ 57)) → Ends p e below (Out s 0 0 (QI (fun z => (((97 ≤ pc.toInt ∧ pc.toInt ≤ 122) ∨ (65 ≤ pc.toInt ∧ pc.toInt ≤ 90) ∨ (48 ≤ pc.toInt ∧ pc.toInt ≤ 57) ∨ pc.toInt = 45 ∨ pc.toInt = 46 ∨ pc.toInt = 95 ∨ pc.toInt = 126) ∧ z.toInt = 1) ∨ (¬ ((97 ≤ pc.toInt ∧ pc.toInt ≤ 122) ∨ (65 ≤ pc.toInt ∧ pc.toInt ≤ 90) ∨ (48 ≤ pc.toInt ∧ pc.toInt ≤ 57) ∨ pc.toInt = 45 ∨ pc.toInt = 46 ∨ pc.toInt = 95 ∨ pc.toInt = 126) ∧ z.toInt = 0)) h0)) T0 (mkF m 42 #[.val (.int pc)] []) := by
    intro  _u hi42
    refine ow_iloadN X0 hx (hb hby d_m2_42) rfl (pc' := 43) rfl ?_
    refine ow_bipush X0 hx (z := (45 : Int32)) (hb hby d_m2_43) rfl (pc' := 45) rfl ?_
    refine ow_icmp_eq X0 hx (pc.toInt) ((45 : Int)) (hb hby d_m2_45) rfl rfl (by decide) (pt := 66) (by decide) (pf := 48) rfl (fun c45 => ?_) (fun c45 => ?_)
    · refine ow_iconst X0 hx (z := (1 : Int32)) (hb hby d_m2_66) rfl (pc' := 67) rfl ?_
      refine ow_goto X0 hx (hb hby d_m2_67) (by decide) (pc' := 71) (by decide) ?_
      exact ow_retB X0 hx hret hlk (hb hby d_m2_71) (by decide) (by decide) (z' := (1 : Int32)) rfl ⟨(1 : Int32), rfl, (show (((97 ≤ pc.toInt ∧ pc.toInt ≤ 122) ∨ (65 ≤ pc.toInt ∧ pc.toInt ≤ 90) ∨ (48 ≤ pc.toInt ∧ pc.toInt ≤ 57) ∨ pc.toInt = 45 ∨ pc.toInt = 46 ∨ pc.toInt = 95 ∨ pc.toInt = 126) ∧ (1 : Int) = 1) ∨ (¬ ((97 ≤ pc.toInt ∧ pc.toInt ≤ 122) ∨ (65 ≤ pc.toInt ∧ pc.toInt ≤ 90) ∨ (48 ≤ pc.toInt ∧ pc.toInt ≤ 57) ∨ pc.toInt = 45 ∨ pc.toInt = 46 ∨ pc.toInt = 95 ∨ pc.toInt = 126) ∧ (1 : Int) = 0) from by omega), rfl, e0⟩
    · refine ow_iloadN X0 hx (hb hby d_m2_48) rfl (pc' := 49) rfl ?_
      refine ow_bipush X0 hx (z := (46 : Int32)) (hb hby d_m2_49) rfl (pc' := 51) rfl ?_
      refine ow_icmp_eq X0 hx (pc.toInt) ((46 : Int)) (hb hby d_m2_51) rfl rfl (by decide) (pt := 66) (by decide) (pf := 54) rfl (fun c51 => ?_) (fun c51 => ?_)
      · refine ow_iconst X0 hx (z := (1 : Int32)) (hb hby d_m2_66) rfl (pc' := 67) rfl ?_
        refine ow_goto X0 hx (hb hby d_m2_67) (by decide) (pc' := 71) (by decide) ?_
        exact ow_retB X0 hx hret hlk (hb hby d_m2_71) (by decide) (by decide) (z' := (1 : Int32)) rfl ⟨(1 : Int32), rfl, (show (((97 ≤ pc.toInt ∧ pc.toInt ≤ 122) ∨ (65 ≤ pc.toInt ∧ pc.toInt ≤ 90) ∨ (48 ≤ pc.toInt ∧ pc.toInt ≤ 57) ∨ pc.toInt = 45 ∨ pc.toInt = 46 ∨ pc.toInt = 95 ∨ pc.toInt = 126) ∧ (1 : Int) = 1) ∨ (¬ ((97 ≤ pc.toInt ∧ pc.toInt ≤ 122) ∨ (65 ≤ pc.toInt ∧ pc.toInt ≤ 90) ∨ (48 ≤ pc.toInt ∧ pc.toInt ≤ 57) ∨ pc.toInt = 45 ∨ pc.toInt = 46 ∨ pc.toInt = 95 ∨ pc.toInt = 126) ∧ (1 : Int) = 0) from by omega), rfl, e0⟩
      · refine ow_iloadN X0 hx (hb hby d_m2_54) rfl (pc' := 55) rfl ?_
        refine ow_bipush X0 hx (z := (95 : Int32)) (hb hby d_m2_55) rfl (pc' := 57) rfl ?_
        refine ow_icmp_eq X0 hx (pc.toInt) ((95 : Int)) (hb hby d_m2_57) rfl rfl (by decide) (pt := 66) (by decide) (pf := 60) rfl (fun c57 => ?_) (fun c57 => ?_)
        · refine ow_iconst X0 hx (z := (1 : Int32)) (hb hby d_m2_66) rfl (pc' := 67) rfl ?_
          refine ow_goto X0 hx (hb hby d_m2_67) (by decide) (pc' := 71) (by decide) ?_
          exact ow_retB X0 hx hret hlk (hb hby d_m2_71) (by decide) (by decide) (z' := (1 : Int32)) rfl ⟨(1 : Int32), rfl, (show (((97 ≤ pc.toInt ∧ pc.toInt ≤ 122) ∨ (65 ≤ pc.toInt ∧ pc.toInt ≤ 90) ∨ (48 ≤ pc.toInt ∧ pc.toInt ≤ 57) ∨ pc.toInt = 45 ∨ pc.toInt = 46 ∨ pc.toInt = 95 ∨ pc.toInt = 126) ∧ (1 : Int) = 1) ∨ (¬ ((97 ≤ pc.toInt ∧ pc.toInt ≤ 122) ∨ (65 ≤ pc.toInt ∧ pc.toInt ≤ 90) ∨ (48 ≤ pc.toInt ∧ pc.toInt ≤ 57) ∨ pc.toInt = 45 ∨ pc.toInt = 46 ∨ pc.toInt = 95 ∨ pc.toInt = 126) ∧ (1 : Int) = 0) from by omega), rfl, e0⟩
        · refine ow_iloadN X0 hx (hb hby d_m2_60) rfl (pc' := 61) rfl ?_
          refine ow_bipush X0 hx (z := (126 : Int32)) (hb hby d_m2_61) rfl (pc' := 63) rfl ?_
          refine ow_icmp_ne X0 hx (pc.toInt) ((126 : Int)) (hb hby d_m2_63) rfl rfl (by decide) (pt := 70) (by decide) (pf := 66) rfl (fun c63 => ?_) (fun c63 => ?_)
          · refine ow_iconst X0 hx (z := (0 : Int32)) (hb hby d_m2_70) rfl (pc' := 71) rfl ?_
            exact ow_retB X0 hx hret hlk (hb hby d_m2_71) (by decide) (by decide) (z' := (0 : Int32)) rfl ⟨(0 : Int32), rfl, (show (((97 ≤ pc.toInt ∧ pc.toInt ≤ 122) ∨ (65 ≤ pc.toInt ∧ pc.toInt ≤ 90) ∨ (48 ≤ pc.toInt ∧ pc.toInt ≤ 57) ∨ pc.toInt = 45 ∨ pc.toInt = 46 ∨ pc.toInt = 95 ∨ pc.toInt = 126) ∧ (0 : Int) = 1) ∨ (¬ ((97 ≤ pc.toInt ∧ pc.toInt ≤ 122) ∨ (65 ≤ pc.toInt ∧ pc.toInt ≤ 90) ∨ (48 ≤ pc.toInt ∧ pc.toInt ≤ 57) ∨ pc.toInt = 45 ∨ pc.toInt = 46 ∨ pc.toInt = 95 ∨ pc.toInt = 126) ∧ (0 : Int) = 0) from by omega), rfl, e0⟩
          · refine ow_iconst X0 hx (z := (1 : Int32)) (hb hby d_m2_66) rfl (pc' := 67) rfl ?_
            refine ow_goto X0 hx (hb hby d_m2_67) (by decide) (pc' := 71) (by decide) ?_
            exact ow_retB X0 hx hret hlk (hb hby d_m2_71) (by decide) (by decide) (z' := (1 : Int32)) rfl ⟨(1 : Int32), rfl, (show (((97 ≤ pc.toInt ∧ pc.toInt ≤ 122) ∨ (65 ≤ pc.toInt ∧ pc.toInt ≤ 90) ∨ (48 ≤ pc.toInt ∧ pc.toInt ≤ 57) ∨ pc.toInt = 45 ∨ pc.toInt = 46 ∨ pc.toInt = 95 ∨ pc.toInt = 126) ∧ (1 : Int) = 1) ∨ (¬ ((97 ≤ pc.toInt ∧ pc.toInt ≤ 122) ∨ (65 ≤ pc.toInt ∧ pc.toInt ≤ 90) ∨ (48 ≤ pc.toInt ∧ pc.toInt ≤ 57) ∨ pc.toInt = 45 ∨ pc.toInt = 46 ∨ pc.toInt = 95 ∨ pc.toInt = 126) ∧ (1 : Int) = 0) from by omega), rfl, e0⟩
  have J28 : ∀ (_u : Unit), (¬ (97 ≤ pc.toInt ∧ pc.toInt ≤ 122) ∧ ¬ (65 ≤ pc.toInt ∧ pc.toInt ≤ 90)) → Ends p e below (Out s 0 0 (QI (fun z => (((97 ≤ pc.toInt ∧ pc.toInt ≤ 122) ∨ (65 ≤ pc.toInt ∧ pc.toInt ≤ 90) ∨ (48 ≤ pc.toInt ∧ pc.toInt ≤ 57) ∨ pc.toInt = 45 ∨ pc.toInt = 46 ∨ pc.toInt = 95 ∨ pc.toInt = 126) ∧ z.toInt = 1) ∨ (¬ ((97 ≤ pc.toInt ∧ pc.toInt ≤ 122) ∨ (65 ≤ pc.toInt ∧ pc.toInt ≤ 90) ∨ (48 ≤ pc.toInt ∧ pc.toInt ≤ 57) ∨ pc.toInt = 45 ∨ pc.toInt = 46 ∨ pc.toInt = 95 ∨ pc.toInt = 126) ∧ z.toInt = 0)) h0)) T0 (mkF m 28 #[.val (.int pc)] []) := by
    intro  _u hi28
    refine ow_iloadN X0 hx (hb hby d_m2_28) rfl (pc' := 29) rfl ?_
    refine ow_bipush X0 hx (z := (48 : Int32)) (hb hby d_m2_29) rfl (pc' := 31) rfl ?_
    refine ow_icmp_lt X0 hx (pc.toInt) ((48 : Int)) (hb hby d_m2_31) rfl rfl (by decide) (pt := 42) (by decide) (pf := 34) rfl (fun c31 => ?_) (fun c31 => ?_)
    · exact J42 () (show ¬ (97 ≤ pc.toInt ∧ pc.toInt ≤ 122) ∧ ¬ (65 ≤ pc.toInt ∧ pc.toInt ≤ 90) ∧ ¬ (48 ≤ pc.toInt ∧ pc.toInt ≤ 57) from by omega)
    · refine ow_iloadN X0 hx (hb hby d_m2_34) rfl (pc' := 35) rfl ?_
      refine ow_bipush X0 hx (z := (57 : Int32)) (hb hby d_m2_35) rfl (pc' := 37) rfl ?_
      refine ow_icmp_gt X0 hx (pc.toInt) ((57 : Int)) (hb hby d_m2_37) rfl rfl (by decide) (pt := 42) (by decide) (pf := 40) rfl (fun c37 => ?_) (fun c37 => ?_)
      · exact J42 () (show ¬ (97 ≤ pc.toInt ∧ pc.toInt ≤ 122) ∧ ¬ (65 ≤ pc.toInt ∧ pc.toInt ≤ 90) ∧ ¬ (48 ≤ pc.toInt ∧ pc.toInt ≤ 57) from by omega)
      · refine ow_iconst X0 hx (z := (1 : Int32)) (hb hby d_m2_40) rfl (pc' := 41) rfl ?_
        exact ow_retB X0 hx hret hlk (hb hby d_m2_41) (by decide) (by decide) (z' := (1 : Int32)) rfl ⟨(1 : Int32), rfl, (show (((97 ≤ pc.toInt ∧ pc.toInt ≤ 122) ∨ (65 ≤ pc.toInt ∧ pc.toInt ≤ 90) ∨ (48 ≤ pc.toInt ∧ pc.toInt ≤ 57) ∨ pc.toInt = 45 ∨ pc.toInt = 46 ∨ pc.toInt = 95 ∨ pc.toInt = 126) ∧ (1 : Int) = 1) ∨ (¬ ((97 ≤ pc.toInt ∧ pc.toInt ≤ 122) ∨ (65 ≤ pc.toInt ∧ pc.toInt ≤ 90) ∨ (48 ≤ pc.toInt ∧ pc.toInt ≤ 57) ∨ pc.toInt = 45 ∨ pc.toInt = 46 ∨ pc.toInt = 95 ∨ pc.toInt = 126) ∧ (1 : Int) = 0) from by omega), rfl, e0⟩
  have J14 : ∀ (_u : Unit), (¬ (97 ≤ pc.toInt ∧ pc.toInt ≤ 122)) → Ends p e below (Out s 0 0 (QI (fun z => (((97 ≤ pc.toInt ∧ pc.toInt ≤ 122) ∨ (65 ≤ pc.toInt ∧ pc.toInt ≤ 90) ∨ (48 ≤ pc.toInt ∧ pc.toInt ≤ 57) ∨ pc.toInt = 45 ∨ pc.toInt = 46 ∨ pc.toInt = 95 ∨ pc.toInt = 126) ∧ z.toInt = 1) ∨ (¬ ((97 ≤ pc.toInt ∧ pc.toInt ≤ 122) ∨ (65 ≤ pc.toInt ∧ pc.toInt ≤ 90) ∨ (48 ≤ pc.toInt ∧ pc.toInt ≤ 57) ∨ pc.toInt = 45 ∨ pc.toInt = 46 ∨ pc.toInt = 95 ∨ pc.toInt = 126) ∧ z.toInt = 0)) h0)) T0 (mkF m 14 #[.val (.int pc)] []) := by
    intro  _u hi14
    refine ow_iloadN X0 hx (hb hby d_m2_14) rfl (pc' := 15) rfl ?_
    refine ow_bipush X0 hx (z := (65 : Int32)) (hb hby d_m2_15) rfl (pc' := 17) rfl ?_
    refine ow_icmp_lt X0 hx (pc.toInt) ((65 : Int)) (hb hby d_m2_17) rfl rfl (by decide) (pt := 28) (by decide) (pf := 20) rfl (fun c17 => ?_) (fun c17 => ?_)
    · exact J28 () (show ¬ (97 ≤ pc.toInt ∧ pc.toInt ≤ 122) ∧ ¬ (65 ≤ pc.toInt ∧ pc.toInt ≤ 90) from by omega)
    · refine ow_iloadN X0 hx (hb hby d_m2_20) rfl (pc' := 21) rfl ?_
      refine ow_bipush X0 hx (z := (90 : Int32)) (hb hby d_m2_21) rfl (pc' := 23) rfl ?_
      refine ow_icmp_gt X0 hx (pc.toInt) ((90 : Int)) (hb hby d_m2_23) rfl rfl (by decide) (pt := 28) (by decide) (pf := 26) rfl (fun c23 => ?_) (fun c23 => ?_)
      · exact J28 () (show ¬ (97 ≤ pc.toInt ∧ pc.toInt ≤ 122) ∧ ¬ (65 ≤ pc.toInt ∧ pc.toInt ≤ 90) from by omega)
      · refine ow_iconst X0 hx (z := (1 : Int32)) (hb hby d_m2_26) rfl (pc' := 27) rfl ?_
        exact ow_retB X0 hx hret hlk (hb hby d_m2_27) (by decide) (by decide) (z' := (1 : Int32)) rfl ⟨(1 : Int32), rfl, (show (((97 ≤ pc.toInt ∧ pc.toInt ≤ 122) ∨ (65 ≤ pc.toInt ∧ pc.toInt ≤ 90) ∨ (48 ≤ pc.toInt ∧ pc.toInt ≤ 57) ∨ pc.toInt = 45 ∨ pc.toInt = 46 ∨ pc.toInt = 95 ∨ pc.toInt = 126) ∧ (1 : Int) = 1) ∨ (¬ ((97 ≤ pc.toInt ∧ pc.toInt ≤ 122) ∨ (65 ≤ pc.toInt ∧ pc.toInt ≤ 90) ∨ (48 ≤ pc.toInt ∧ pc.toInt ≤ 57) ∨ pc.toInt = 45 ∨ pc.toInt = 46 ∨ pc.toInt = 95 ∨ pc.toInt = 126) ∧ (1 : Int) = 0) from by omega), rfl, e0⟩
  refine ow_iloadN X0 hx (hb hby d_m2_0) rfl (pc' := 1) rfl ?_
  refine ow_bipush X0 hx (z := (97 : Int32)) (hb hby d_m2_1) rfl (pc' := 3) rfl ?_
  refine ow_icmp_lt X0 hx (pc.toInt) ((97 : Int)) (hb hby d_m2_3) rfl rfl (by decide) (pt := 14) (by decide) (pf := 6) rfl (fun c3 => ?_) (fun c3 => ?_)
  · exact J14 () (show ¬ (97 ≤ pc.toInt ∧ pc.toInt ≤ 122) from by omega)
  · refine ow_iloadN X0 hx (hb hby d_m2_6) rfl (pc' := 7) rfl ?_
    refine ow_bipush X0 hx (z := (122 : Int32)) (hb hby d_m2_7) rfl (pc' := 9) rfl ?_
    refine ow_icmp_gt X0 hx (pc.toInt) ((122 : Int)) (hb hby d_m2_9) rfl rfl (by decide) (pt := 14) (by decide) (pf := 12) rfl (fun c9 => ?_) (fun c9 => ?_)
    · exact J14 () (show ¬ (97 ≤ pc.toInt ∧ pc.toInt ≤ 122) from by omega)
    · refine ow_iconst X0 hx (z := (1 : Int32)) (hb hby d_m2_12) rfl (pc' := 13) rfl ?_
      exact ow_retB X0 hx hret hlk (hb hby d_m2_13) (by decide) (by decide) (z' := (1 : Int32)) rfl ⟨(1 : Int32), rfl, (show (((97 ≤ pc.toInt ∧ pc.toInt ≤ 122) ∨ (65 ≤ pc.toInt ∧ pc.toInt ≤ 90) ∨ (48 ≤ pc.toInt ∧ pc.toInt ≤ 57) ∨ pc.toInt = 45 ∨ pc.toInt = 46 ∨ pc.toInt = 95 ∨ pc.toInt = 126) ∧ (1 : Int) = 1) ∨ (¬ ((97 ≤ pc.toInt ∧ pc.toInt ≤ 122) ∨ (65 ≤ pc.toInt ∧ pc.toInt ≤ 90) ∨ (48 ≤ pc.toInt ∧ pc.toInt ≤ 57) ∨ pc.toInt = 45 ∨ pc.toInt = 46 ∨ pc.toInt = 95 ∨ pc.toInt = 126) ∧ (1 : Int) = 0) from by omega), rfl, e0⟩
theorem pd_21 : parseMethodDescriptor "([C)V" = some ⟨[(.array .char)], none⟩ := by decide +kernel
theorem pd_22 : parseMethodDescriptor "(Ljava/lang/String;)Z" = some ⟨[(.object "java/lang/String")], some .boolean⟩ := by decide +kernel
theorem ef_law (m : MethodId) (x0 : Int32) (x1 : Int32) (x2 : Int32) (x3 : Int32) (x4 : Int32) : entryFrame m #[(.int x0), (.int x1), (.int x2), (.int x3), (.int x4)] maxLocals = mkF m 0 #[.val (.int x0), .val (.int x1), .val (.int x2), .val (.int x3), .val (.int x4), .unset, .unset, .unset, .unset, .unset, .unset, .unset, .unset] [] := by first | (simp [entryFrame, mkF, argsToLocals, Value.category, maxLocals]; done) | rfl
def Q_law (p0 : Int32) (p1 : Int32) (p2 : Int32) (p3 : Int32) (p4 : Int32) (zc : Int32) (wf : Value) (h0 : Heap) (n0 : Nat) (v : Option Value) (h : Heap) (L : List Loc) (vm : Vm) : Prop := v = some (.int 1) ∧ Fr n0 L
set_option maxRecDepth 65536 in
set_option maxHeartbeats 40000000 in
theorem rm_law (l : Launch) (Z : State) (a0 : Array Value) (hw : ∀ d ∈ tables_1, d.before a0 Z = true) (ws : List Jvm.Cond) (hcw : Jvm.Lit.compactW.before a0 Z = true) (hch : ∀ q ∈ consts_1, Jvm.Lit.constHeld Z q.1 q.2) (p0 : Int32) (p1 : Int32) (p2 : Int32) (p3 : Int32) (p4 : Int32) (zc : Int32) (wf : Value) (h0 : Heap) (n0 : Nat) (Z0 : n0 ≤ h0.size) (hzk : ∀ (b : Addr) (cl : Cell), Z.heap[b]? = some cl → h0[b]? = some cl) (hzn : Z.heap.size ≤ n0) (hn0 : n0 = h0.size) (S_cs : Sta Z h0 "java/lang/String" "COMPACT_STRINGS" "Z" (.int zc)) (S_ad : Sta Z h0 "java/lang/StringUTF16" "$assertionsDisabled" "Z" (.int (1 : Int32))) (S_hi : Sta Z h0 "java/lang/StringUTF16" "HI_BYTE_SHIFT" "I" (.int (0 : Int32))) (S_lo : Sta Z h0 "java/lang/StringUTF16" "LO_BYTE_SHIFT" "I" (.int (8 : Int32))) (S_f : Sta Z h0 "jdk/internal/util/Preconditions" "SIOOBE_FORMATTER" "Ljava/util/function/BiFunction;" wf) (hz0 : ¬ zc.toInt = 0) (hwf : wf = .null ∨ ∃ a, wf = .ref a) :
    MetFree l x (head1 (Jvm.Cond.code x code maxLocals ret :: ws) room_1) (fun a_ U_ => a_ = #[(.int p0), (.int p1), (.int p2), (.int p3), (.int p4)] ∧ Z.Warmed39 U_.vm ∧ U_.heap = h0 ∧ LT Z [] [] U_.vm) (fun _ _ _ _ _ => True) (fun _ U_ o_ U_' => ∃ v_ L_, o_ = .returned v_ ∧ (Q_law p0 p1 p2 p3 p4 zc wf h0 n0) v_ U_'.heap L_ U_'.vm ∧ ReturnedEndW U_ o_ U_' L_ 24 2176) := by
  refine ow_bodyI (plainFor_of_name pn_5) ?_
  intro p e s m below meth c T0 X0 hx hZ hby hml hown hnm hret hlk e0 es hS0 hI0
  have N0 := Fr.nil n0
  have hret : meth.sig.returnType = (some .boolean) := hret
  refine Ends.cast (ef_law m p0 p1 p2 p3 p4) ?_
  have r_p0 := rng32 p0
  have r_p1 := rng32 p1
  have r_p2 := rng32 p2
  have r_p3 := rng32 p3
  have r_p4 := rng32 p4
  refine ow_iloadN X0 hx (hb hby at_0) rfl (pc' := 1) rfl ?_
  refine ow_bipush X0 hx (z := (7 : Int32)) (hb hby at_1) rfl (pc' := 3) rfl ?_
  refine ow_iand X0 hx (hb hby at_3) (pc' := 4) rfl (fun z1 hz1 => ?_)
  have az1 : z1.toInt = p0.toInt % 8 := by rw [hz1]; exact c_mask p0 (7 : Int32) 3 (by decide) (by decide)
  have rz1 := rng32 z1
  refine ow_istore X0 hx (Ls' := #[.val (.int p0), .val (.int p1), .val (.int p2), .val (.int p3), .val (.int p4), .val (.int z1), .unset, .unset, .unset, .unset, .unset, .unset, .unset]) (hb hby at_4) rfl (pc' := 6) rfl ?_
  have J18 : ∀ (il : Int32), (0 ≤ il.toInt ∧ il.toInt ≤ 4) → Ends p e below (OutI s 24 2176 (Q_law p0 p1 p2 p3 p4 zc wf h0 n0)) T0 (mkF m 18 #[.val (.int p0), .val (.int p1), .val (.int p2), .val (.int p3), .val (.int p4), .val (.int il), .unset, .unset, .unset, .unset, .unset, .unset, .unset] []) := by
    intro il hi18
    have r_il := rng32 il
    refine ow_iloadN X0 hx (hb hby at_18) rfl (pc' := 19) rfl ?_
    refine ow_ldcInt X0 hx hZ hown (hw _ (List.mem_of_getElem? (i := 0) rfl)) (hb hby at_19) (pc' := 21) rfl ?_
    refine ow_iand X0 hx (hb hby at_21) (pc' := 22) rfl (fun z2 hz2 => ?_)
    have az2 : z2.toInt = p1.toInt % 65536 := by rw [hz2]; exact c_mask p1 (65535 : Int32) 16 (by decide) (by decide)
    have rz2 := rng32 z2
    refine ow_i2c X0 hx (hb hby at_22) (pc' := 23) rfl (fun z3 hz3 => ?_)
    have az3 : (z3.toInt - z2.toInt) % 65536 = 0 ∧ 0 ≤ z3.toInt ∧ z3.toInt < 65536 := by rw [hz3]; exact c_i2c z2
    have rz3 := rng32 z3
    refine ow_istore X0 hx (Ls' := #[.val (.int p0), .val (.int p1), .val (.int p2), .val (.int p3), .val (.int p4), .val (.int il), .val (.int z3), .unset, .unset, .unset, .unset, .unset, .unset]) (hb hby at_23) rfl (pc' := 25) rfl ?_
    refine ow_iloadN X0 hx (hb hby at_25) rfl (pc' := 26) rfl ?_
    refine ow_ldcInt X0 hx hZ hown (hw _ (List.mem_of_getElem? (i := 0) rfl)) (hb hby at_26) (pc' := 28) rfl ?_
    refine ow_iand X0 hx (hb hby at_28) (pc' := 29) rfl (fun z4 hz4 => ?_)
    have az4 : z4.toInt = p2.toInt % 65536 := by rw [hz4]; exact c_mask p2 (65535 : Int32) 16 (by decide) (by decide)
    have rz4 := rng32 z4
    refine ow_i2c X0 hx (hb hby at_29) (pc' := 30) rfl (fun z5 hz5 => ?_)
    have az5 : (z5.toInt - z4.toInt) % 65536 = 0 ∧ 0 ≤ z5.toInt ∧ z5.toInt < 65536 := by rw [hz5]; exact c_i2c z4
    have rz5 := rng32 z5
    refine ow_istore X0 hx (Ls' := #[.val (.int p0), .val (.int p1), .val (.int p2), .val (.int p3), .val (.int p4), .val (.int il), .val (.int z3), .val (.int z5), .unset, .unset, .unset, .unset, .unset]) (hb hby at_30) rfl (pc' := 32) rfl ?_
    refine ow_iloadN X0 hx (hb hby at_32) rfl (pc' := 33) rfl ?_
    refine ow_ldcInt X0 hx hZ hown (hw _ (List.mem_of_getElem? (i := 0) rfl)) (hb hby at_33) (pc' := 35) rfl ?_
    refine ow_iand X0 hx (hb hby at_35) (pc' := 36) rfl (fun z6 hz6 => ?_)
    have az6 : z6.toInt = p3.toInt % 65536 := by rw [hz6]; exact c_mask p3 (65535 : Int32) 16 (by decide) (by decide)
    have rz6 := rng32 z6
    refine ow_i2c X0 hx (hb hby at_36) (pc' := 37) rfl (fun z7 hz7 => ?_)
    have az7 : (z7.toInt - z6.toInt) % 65536 = 0 ∧ 0 ≤ z7.toInt ∧ z7.toInt < 65536 := by rw [hz7]; exact c_i2c z6
    have rz7 := rng32 z7
    refine ow_istore X0 hx (Ls' := #[.val (.int p0), .val (.int p1), .val (.int p2), .val (.int p3), .val (.int p4), .val (.int il), .val (.int z3), .val (.int z5), .val (.int z7), .unset, .unset, .unset, .unset]) (hb hby at_37) rfl (pc' := 39) rfl ?_
    refine ow_iload X0 hx (hb hby at_39) rfl (pc' := 41) rfl ?_
    refine ow_ldcInt X0 hx hZ hown (hw _ (List.mem_of_getElem? (i := 0) rfl)) (hb hby at_41) (pc' := 43) rfl ?_
    refine ow_iand X0 hx (hb hby at_43) (pc' := 44) rfl (fun z8 hz8 => ?_)
    have az8 : z8.toInt = p4.toInt % 65536 := by rw [hz8]; exact c_mask p4 (65535 : Int32) 16 (by decide) (by decide)
    have rz8 := rng32 z8
    refine ow_i2c X0 hx (hb hby at_44) (pc' := 45) rfl (fun z9 hz9 => ?_)
    have az9 : (z9.toInt - z8.toInt) % 65536 = 0 ∧ 0 ≤ z9.toInt ∧ z9.toInt < 65536 := by rw [hz9]; exact c_i2c z8
    have rz9 := rng32 z9
    refine ow_istore X0 hx (Ls' := #[.val (.int p0), .val (.int p1), .val (.int p2), .val (.int p3), .val (.int p4), .val (.int il), .val (.int z3), .val (.int z5), .val (.int z7), .val (.int z9), .unset, .unset, .unset]) (hb hby at_45) rfl (pc' := 47) rfl ?_
    rcases (show il.toInt = 0 ∨ il.toInt = 1 ∨ il.toInt = 2 ∨ il.toInt = 3 ∨ il.toInt = 4 from by omega) with hlen | hlen | hlen | hlen | hlen
    · refine ow_iload X0 hx (hb hby at_47) rfl (pc' := 49) rfl ?_
      refine ow_if_ne X0 hx (il.toInt) (hb hby at_49) rfl (by decide) (pt := 60) (by decide) (pf := 52) rfl (fun c49 => absurd c49 (by omega)) (fun c49 => ?_)
      refine ow_iconst X0 hx (z := (0 : Int32)) (hb hby at_52) rfl (pc' := 53) rfl ?_
      refine ow_newP X0 hx hZ (hw _ (List.mem_of_getElem? (i := 1) rfl)) e0 (hb hby at_53) (by decide) 0 (by decide) (by decide) (by decide) (by decide) (pc' := 55) rfl (fun T10 h10 b10 k10 g10 X10 e10 E10 V10 => ?_)
      have g_b10 : n0 ≤ b10 := Nat.le_trans Z0 (Nat.le_of_eq g10.symm)
      have sz_b10 : h0.size ≤ b10 := Nat.le_trans (Keep.refl h0 []).1 (Nat.le_of_eq g10.symm)
      have Zs10 : n0 ≤ h10.size := Nat.le_trans Z0 E10.1
      have K10 := (Keep.refl h0 []).ext E10
      have V_b10 : Arv Z h10 b10 k10 .char (0 : Int32) [] (.int (0 : Int32)) := V10
      refine ow_astore X10 hx (Ls' := #[.val (.int p0), .val (.int p1), .val (.int p2), .val (.int p3), .val (.int p4), .val (.int il), .val (.int z3), .val (.int z5), .val (.int z7), .val (.int z9), .val (.ref b10), .unset, .unset]) (hb hby at_55) rfl rfl (pc' := 57) rfl ?_
      refine ow_goto X10 hx (hb hby at_57) (by decide) (pc' := 157) (by decide) ?_
      refine ow_new X10 hx hZ hown (hw _ (List.mem_of_getElem? (i := 2) rfl)) (hw _ (List.mem_of_getElem? (i := 3) rfl)) (hw _ (List.mem_of_getElem? (i := 4) rfl)) e10 (hb hby at_157) (by decide) (by decide) (pc' := 160) rfl (fun T11 h11 b11 g11 X11 e11 E11 A11 D11 => ?_)
      have ne_b10_b11 : b10 ≠ b11 := Nat.ne_of_lt (Nat.lt_of_lt_of_le V_b10.lt (Nat.le_of_eq g11.symm))
      have g_b11 : n0 ≤ b11 := Nat.le_trans Zs10 (Nat.le_of_eq g11.symm)
      have sz_b11 : h0.size ≤ b11 := Nat.le_trans K10.1 (Nat.le_of_eq g11.symm)
      have V_b10_11 := V_b10.ext E11
      have Zs11 : n0 ≤ h11.size := Nat.le_trans Zs10 E11.1
      have K11 := K10.ext E11
      have F_b11_value : Fld Z h11 b11 "java/lang/String" "value" "[B" .null := D11 (Or.inr (hw _ (List.mem_of_getElem? (i := 17) rfl))) (ty := (.array .byte)) (by decide)
      have F_b11_coder : Fld Z h11 b11 "java/lang/String" "coder" "B" (.int (0 : Int32)) := D11 (Or.inr (hw _ (List.mem_of_getElem? (i := 18) rfl))) (ty := .byte) (by decide)
      refine ow_dup X11 hx (hb hby at_160) rfl (pc' := 161) rfl ?_
      refine ow_aload X11 hx (hb hby at_161) rfl rfl (pc' := 163) rfl ?_
      refine ow_callII X11 hx hZ rfl rfl hown (hw _ (List.mem_of_getElem? (i := 5) rfl)) (hw _ (List.mem_of_getElem? (i := 6) rfl)) (hw _ (List.mem_of_getElem? (i := 4) rfl)) (hw _ (List.mem_of_getElem? (i := 7) rfl)) (by decide) (rm_sjE l Z a0 hw [] hcw hch b11 b10 k10 h11 n0 Zs11 (ow_zk hzk hzn K11 all0) hzn A11 F_b11_coder F_b11_value g_b11 V_b10_11 (Ne.symm ne_b10_b11)) (LT.warm hI0) hS0 (Nat.zero_le _) e11 1 (by decide) (by decide) (by decide) (by decide) [(.ref b10)] (by rw [hml]; rfl) pd_21 rfl rfl rfl (Nat.le_of_eq rfl) (hb hby at_163) (pc' := 166) rfl (fun v12 T12 L12 hQ12 X12 hS12 hZ hown => ?_)
      obtain ⟨b12, b12a, kt_12, rfl, Nc12, Kc12, P12_0, P12_1, P12_2, P12_3, P12_4, P12_5, P12_6, hI12⟩ := hQ12
      have V_b10_12 := V_b10_11.keep Kc12 (ninS ne_b10_b11 nin0)
      have Zs12 : n0 ≤ T12.heap.size := Nat.le_trans Zs11 Kc12.1
      have K12 := K11.trans Kc12 (allS (Or.inr sz_b11) all0)
      have N12 := Fr.app N0 Nc12
      show Ends _ _ _ _ T12 (mkF m 166 #[.val (.int p0), .val (.int p1), .val (.int p2), .val (.int p3), .val (.int p4), .val (.int il), .val (.int z3), .val (.int z5), .val (.int z7), .val (.int z9), .val (.ref b10), .unset, .unset] [(.ref b11)])
      refine ow_astore X12 hx (Ls' := #[.val (.int p0), .val (.int p1), .val (.int p2), .val (.int p3), .val (.int p4), .val (.int il), .val (.int z3), .val (.int z5), .val (.int z7), .val (.int z9), .val (.ref b10), .val (.ref b11), .unset]) (hb hby at_166) rfl rfl (pc' := 168) rfl ?_
      refine ow_iload X12 hx (hb hby at_168) rfl (pc' := 170) rfl ?_
      refine ow_if_le X12 hx (il.toInt) (hb hby at_170) rfl (by decide) (pt := 233) (by decide) (pf := 173) rfl (fun c170 => ?_) (fun c170 => absurd c170 (by omega))
      refine ow_iconst X12 hx (z := (0 : Int32)) (hb hby at_233) rfl (pc' := 234) rfl ?_
      refine ow_istore X12 hx (Ls' := #[.val (.int p0), .val (.int p1), .val (.int p2), .val (.int p3), .val (.int p4), .val (.int il), .val (.int z3), .val (.int z5), .val (.int z7), .val (.int z9), .val (.ref b10), .val (.ref b11), .val (.int (0 : Int32))]) (hb hby at_234) rfl (pc' := 236) rfl ?_
      refine ow_aload X12 hx (hb hby at_236) rfl rfl (pc' := 238) rfl ?_
      refine ow_callSI X12 hx hZ hown (hw _ (List.mem_of_getElem? (i := 23) rfl)) (hw _ (List.mem_of_getElem? (i := 24) rfl)) (hw _ (List.mem_of_getElem? (i := 25) rfl)) (hw _ (List.mem_of_getElem? (i := 26) rfl)) (by decide) (rm_iu0 l Z a0 hw [] hcw hch b11 b12a kt_12 b12 T12.heap n0 Zs12 (ow_zk hzk hzn K12 all0) hzn P12_0 P12_2 P12_6) (LT.warm hI12) hS12 (Nat.le_refl _) rfl 0 (by decide) (by decide) (by decide) (by decide) [(.ref b11)] (by rw [hml]; rfl) pd_22 rfl rfl rfl (Nat.le_of_eq rfl) (hb hby at_238) (pc' := 241) rfl (fun v13 T13 L13 hQ13 X13 hS13 hZ hown => ?_)
      obtain ⟨z_13, rfl, Nc13, Kc13, P13_0⟩ := hQ13
      have P13_0 : z_13.toInt = 0 := P13_0
      have V_b10_13 := V_b10_12.keep Kc13 nin0
      have E_b11_13 := P12_0.keep Kc13
      have F_b11_value_13 := P12_2.keep Kc13 nin0
      have F_b11_coder_13 := P12_1.keep Kc13 nin0
      have E_b12_13 := P12_3.keep Kc13
      have F_b12_coder_13 := P12_4.keep Kc13 nin0
      have F_b12_value_13 := P12_5.keep Kc13 nin0
      have V_b12a_13 := P12_6.keep Kc13 nin0
      have Zs13 : n0 ≤ T13.heap.size := Nat.le_trans Zs12 Kc13.1
      have K13 := K12.trans Kc13 all0
      have N13 := Fr.app N12 Nc13
      show Ends _ _ _ _ T13 (mkF m 241 #[.val (.int p0), .val (.int p1), .val (.int p2), .val (.int p3), .val (.int p4), .val (.int il), .val (.int z3), .val (.int z5), .val (.int z7), .val (.int z9), .val (.ref b10), .val (.ref b11), .val (.int (0 : Int32))] [(.int z_13)])
      refine ow_iload X13 hx (hb hby at_241) rfl (pc' := 243) rfl ?_
      refine ow_icmp_ne X13 hx (z_13.toInt) ((0 : Int)) (hb hby at_243) rfl rfl (by decide) (pt := 250) (by decide) (pf := 246) rfl (fun c243 => absurd c243 (by omega)) (fun c243 => ?_)
      refine ow_iconst X13 hx (z := (1 : Int32)) (hb hby at_246) rfl (pc' := 247) rfl ?_
      refine ow_goto X13 hx (hb hby at_247) (by decide) (pc' := 251) (by decide) ?_
      exact ow_retBI X13 hx hret hlk (hb hby at_251) hS13 (Nat.le_refl _) (by decide) (by decide) (z' := (1 : Int32)) rfl ⟨rfl, N13⟩
    · refine ow_iload X0 hx (hb hby at_47) rfl (pc' := 49) rfl ?_
      refine ow_if_ne X0 hx (il.toInt) (hb hby at_49) rfl (by decide) (pt := 60) (by decide) (pf := 52) rfl (fun c49 => ?_) (fun c49 => absurd c49 (by omega))
      refine ow_iload X0 hx (hb hby at_60) rfl (pc' := 62) rfl ?_
      refine ow_iconst X0 hx (z := (1 : Int32)) (hb hby at_62) rfl (pc' := 63) rfl ?_
      refine ow_icmp_ne X0 hx (il.toInt) ((1 : Int)) (hb hby at_63) rfl rfl (by decide) (pt := 79) (by decide) (pf := 66) rfl (fun c63 => absurd c63 (by omega)) (fun c63 => ?_)
      refine ow_iconst X0 hx (z := (1 : Int32)) (hb hby at_66) rfl (pc' := 67) rfl ?_
      refine ow_newP X0 hx hZ (hw _ (List.mem_of_getElem? (i := 1) rfl)) e0 (hb hby at_67) (by decide) 1 (by decide) (by decide) (by decide) (by decide) (pc' := 69) rfl (fun T14 h14 b14 k14 g14 X14 e14 E14 V14 => ?_)
      have g_b14 : n0 ≤ b14 := Nat.le_trans Z0 (Nat.le_of_eq g14.symm)
      have sz_b14 : h0.size ≤ b14 := Nat.le_trans (Keep.refl h0 []).1 (Nat.le_of_eq g14.symm)
      have Zs14 : n0 ≤ h14.size := Nat.le_trans Z0 E14.1
      have K14 := (Keep.refl h0 []).ext E14
      have V_b14 : Arv Z h14 b14 k14 .char (1 : Int32) [(.int (0 : Int32))] (.int (0 : Int32)) := V14.pad (pad_rep [] (.int (0 : Int32)) 1)
      refine ow_dup X14 hx (hb hby at_69) rfl (pc' := 70) rfl ?_
      refine ow_iconst X14 hx (z := (0 : Int32)) (hb hby at_70) rfl (pc' := 71) rfl ?_
      refine ow_iload X14 hx (hb hby at_71) rfl (pc' := 73) rfl ?_
      refine ow_stC X14 hx hZ e14 V_b14 0 rfl (by decide) (by decide) (Nat.le_of_ble_eq_true rfl) (hb hby at_73) (pc' := 74) rfl (fun T15 h15 X15 e15 W15 V15 => ?_)
      obtain ⟨y15, hy15⟩ : ∃ y : Int32, y = (nar .char z3) := ⟨_, rfl⟩
      rw [← hy15] at W15 V15
      have ay15 : (y15.toInt - z3.toInt) % 65536 = 0 ∧ 0 ≤ y15.toInt ∧ y15.toInt < 65536 := by rw [hy15]; exact c_i2c z3
      rw [show y15 = z3 from ow_eq (by omega)] at W15 V15
      have V_b14_15 : Arv Z h15 b14 k14 .char (1 : Int32) [(.int z3)] (.int (0 : Int32)) := V15
      have Zs15 : n0 ≤ h15.size := Nat.le_trans Zs14 (Keep.of_wr W15).1
      have K15 := K14.wr W15 (Or.inr sz_b14)
      have N15 := Fr.snoc X15 N0 g_b14
      refine ow_astore X15 hx (Ls' := #[.val (.int p0), .val (.int p1), .val (.int p2), .val (.int p3), .val (.int p4), .val (.int il), .val (.int z3), .val (.int z5), .val (.int z7), .val (.int z9), .val (.ref b14), .unset, .unset]) (hb hby at_74) rfl rfl (pc' := 76) rfl ?_
      refine ow_goto X15 hx (hb hby at_76) (by decide) (pc' := 157) (by decide) ?_
      have J168 : ∀ (oA : Addr) (oS : Addr) (T16 : State) (hj168 : Heap) (lc168 : List Loc), Stand p l e room_1 (s.setVm s.vm) m #[(.int p0), (.int p1), (.int p2), (.int p3), (.int p4)] below meth c T16 lc168 4 17 → T16.heap = hj168 → Fr n0 lc168 → (Exa Z hj168 oS "java/lang/String") → (Keep h0 hj168 []) → (n0 ≤ hj168.size) → (StrIs Z hj168 oS (1 : Int32) (fun j => ([z3] : List Int32).getD j 0) ∧ Rng (fun j => ([z3] : List Int32).getD j 0)) → Ends p e below (OutI s 24 2176 (Q_law p0 p1 p2 p3 p4 zc wf h0 n0)) T16 (mkF m 168 #[.val (.int p0), .val (.int p1), .val (.int p2), .val (.int p3), .val (.int p4), .val (.int il), .val (.int z3), .val (.int z5), .val (.int z7), .val (.int z9), .val (.ref oA), .val (.ref oS), .unset] []) := by
        intro oA oS T16 hj168 lc168 X16 e16 Nj168 Hf168_0 HK168 HZ168 hi168
        obtain ⟨hSc, hrF⟩ := hi168
        refine ow_iload X16 hx (hb hby at_168) rfl (pc' := 170) rfl ?_
        refine ow_if_le X16 hx (il.toInt) (hb hby at_170) rfl (by decide) (pt := 233) (by decide) (pf := 173) rfl (fun c170 => absurd c170 (by omega)) (fun c170 => ?_)
        refine ow_iload X16 hx (hb hby at_173) rfl (pc' := 175) rfl ?_
        refine ow_iconst X16 hx (z := (1 : Int32)) (hb hby at_175) rfl (pc' := 176) rfl ?_
        refine ow_icmp_lt X16 hx (il.toInt) ((1 : Int)) (hb hby at_176) rfl rfl (by decide) (pt := 187) (by decide) (pf := 179) rfl (fun c176 => absurd c176 (by omega)) (fun c176 => ?_)
        refine ow_iload X16 hx (hb hby at_179) rfl (pc' := 181) rfl ?_
        refine ow_callPI X16 hx hZ hown (hw _ (List.mem_of_getElem? (i := 49) rfl)) (hw _ (List.mem_of_getElem? (i := 50) rfl)) (hw _ (List.mem_of_getElem? (i := 51) rfl)) (hw _ (List.mem_of_getElem? (i := 52) rfl)) (by decide) (rm_okC l Z a0 hw [] z3 hj168 ) e16 0 (by decide) (by decide) (by decide) (by decide) [(.int z3)] (by rw [hml]; rfl) pd_18 rfl rfl rfl (Nat.le_of_eq rfl) (hb hby at_181) (pc' := 184) rfl (fun z17 T17 hz17 X17 e17 => ?_)
        have az17 : (((97 ≤ z3.toInt ∧ z3.toInt ≤ 122) ∨ (65 ≤ z3.toInt ∧ z3.toInt ≤ 90) ∨ (48 ≤ z3.toInt ∧ z3.toInt ≤ 57) ∨ z3.toInt = 45 ∨ z3.toInt = 46 ∨ z3.toInt = 95 ∨ z3.toInt = 126) ∧ z17.toInt = 1) ∨ (¬ ((97 ≤ z3.toInt ∧ z3.toInt ≤ 122) ∨ (65 ≤ z3.toInt ∧ z3.toInt ≤ 90) ∨ (48 ≤ z3.toInt ∧ z3.toInt ≤ 57) ∨ z3.toInt = 45 ∨ z3.toInt = 46 ∨ z3.toInt = 95 ∨ z3.toInt = 126) ∧ z17.toInt = 0) := hz17
        have rz17 := rng32 z17
        have hO0 : (OKc z3.toInt ∧ z17.toInt = 1) ∨ (¬ OKc z3.toInt ∧ z17.toInt = 0) := by have p_ := az17; unfold OKc; omega
        refine ow_if_eq X17 hx (z17.toInt) (hb hby at_184) rfl (by decide) (pt := 233) (by decide) (pf := 187) rfl (fun c184 => ?_) (fun c184 => ?_)
        · have hk0 : ¬ OKc z3.toInt := by rcases hO0 with q_ | q_; exact absurd q_.2 (by omega); exact q_.1
          clear hO0
          refine ow_iconst X17 hx (z := (0 : Int32)) (hb hby at_233) rfl (pc' := 234) rfl ?_
          refine ow_istore X17 hx (Ls' := #[.val (.int p0), .val (.int p1), .val (.int p2), .val (.int p3), .val (.int p4), .val (.int il), .val (.int z3), .val (.int z5), .val (.int z7), .val (.int z9), .val (.ref oA), .val (.ref oS), .val (.int (0 : Int32))]) (hb hby at_234) rfl (pc' := 236) rfl ?_
          refine ow_aload X17 hx (hb hby at_236) rfl rfl (pc' := 238) rfl ?_
          refine ow_callSI X17 hx hZ hown (hw _ (List.mem_of_getElem? (i := 23) rfl)) (hw _ (List.mem_of_getElem? (i := 24) rfl)) (hw _ (List.mem_of_getElem? (i := 25) rfl)) (hw _ (List.mem_of_getElem? (i := 26) rfl)) (by decide) (rm_iu1 l Z a0 hw [] hcw hch oS zc (fun j => ([z3] : List Int32).getD j 0) (1 : Int32) wf hj168 n0 HZ168 (ow_zk hzk hzn HK168 all0) hzn (ow_staKeep S_cs HK168 all0) (by first | assumption | decide | omega | (have q0_ : (1 : Int32).toInt = 1 := (by decide); omega)) Hf168_0 (by first | assumption | decide | omega | (have q0_ : (1 : Int32).toInt = 1 := (by decide); omega)) (ow_staKeep S_ad HK168 all0) (ow_staKeep S_hi HK168 all0) (ow_staKeep S_lo HK168 all0) (ow_staKeep S_f HK168 all0) (by first | assumption | decide | omega | (have q0_ : (1 : Int32).toInt = 1 := (by decide); omega)) (by first | assumption | decide | omega | (have q0_ : (1 : Int32).toInt = 1 := (by decide); omega)) (by first | assumption | decide | omega | (have q0_ : (1 : Int32).toInt = 1 := (by decide); omega)) (by first | assumption | decide | omega | (have q0_ : (1 : Int32).toInt = 1 := (by decide); omega)) (by first | assumption | decide | omega | (have q0_ : (1 : Int32).toInt = 1 := (by decide); omega))) (LT.warm hI0) hS0 (Nat.zero_le _) e17 0 (by decide) (by decide) (by decide) (by decide) [(.ref oS)] (by rw [hml]; rfl) pd_22 rfl rfl rfl (Nat.le_of_eq rfl) (hb hby at_238) (pc' := 241) rfl (fun v18 T18 L18 hQ18 X18 hS18 hZ hown => ?_)
          obtain ⟨z_18, rfl, Nc18, Kc18, P18_0⟩ := hQ18
          have P18_0 : ((OKc ((fun j => ([z3] : List Int32).getD j 0) (0 : Int32).toInt.toNat).toInt) ∧ z_18.toInt = 1) ∨ (¬ (OKc ((fun j => ([z3] : List Int32).getD j 0) (0 : Int32).toInt.toNat).toInt) ∧ z_18.toInt = 0) := P18_0
          have E_oS_18 := Hf168_0.keep Kc18
          have Zs18 : n0 ≤ T18.heap.size := Nat.le_trans HZ168 Kc18.1
          have K18 := HK168.trans Kc18 all0
          have N18 := Fr.app Nj168 Nc18
          show Ends _ _ _ _ T18 (mkF m 241 #[.val (.int p0), .val (.int p1), .val (.int p2), .val (.int p3), .val (.int p4), .val (.int il), .val (.int z3), .val (.int z5), .val (.int z7), .val (.int z9), .val (.ref oA), .val (.ref oS), .val (.int (0 : Int32))] [(.int z_18)])
          have hres : z_18.toInt = 0 := by rcases P18_0 with q_ | q_; exact absurd (show OKc z3.toInt from q_.1) hk0; exact q_.2
          refine ow_iload X18 hx (hb hby at_241) rfl (pc' := 243) rfl ?_
          refine ow_icmp_ne X18 hx (z_18.toInt) ((0 : Int)) (hb hby at_243) rfl rfl (by decide) (pt := 250) (by decide) (pf := 246) rfl (fun c243 => absurd c243 (by omega)) (fun c243 => ?_)
          refine ow_iconst X18 hx (z := (1 : Int32)) (hb hby at_246) rfl (pc' := 247) rfl ?_
          refine ow_goto X18 hx (hb hby at_247) (by decide) (pc' := 251) (by decide) ?_
          exact ow_retBI X18 hx hret hlk (hb hby at_251) hS18 (Nat.le_refl _) (by decide) (by decide) (z' := (1 : Int32)) rfl ⟨rfl, N18⟩
        · have hk0 : OKc z3.toInt := by rcases hO0 with q_ | q_; exact q_.1; exact absurd q_.2 (by omega)
          clear hO0
          refine ow_iload X17 hx (hb hby at_187) rfl (pc' := 189) rfl ?_
          refine ow_iconst X17 hx (z := (2 : Int32)) (hb hby at_189) rfl (pc' := 190) rfl ?_
          refine ow_icmp_lt X17 hx (il.toInt) ((2 : Int)) (hb hby at_190) rfl rfl (by decide) (pt := 201) (by decide) (pf := 193) rfl (fun c190 => ?_) (fun c190 => absurd c190 (by omega))
          refine ow_iload X17 hx (hb hby at_201) rfl (pc' := 203) rfl ?_
          refine ow_iconst X17 hx (z := (3 : Int32)) (hb hby at_203) rfl (pc' := 204) rfl ?_
          refine ow_icmp_lt X17 hx (il.toInt) ((3 : Int)) (hb hby at_204) rfl rfl (by decide) (pt := 215) (by decide) (pf := 207) rfl (fun c204 => ?_) (fun c204 => absurd c204 (by omega))
          refine ow_iload X17 hx (hb hby at_215) rfl (pc' := 217) rfl ?_
          refine ow_iconst X17 hx (z := (4 : Int32)) (hb hby at_217) rfl (pc' := 218) rfl ?_
          refine ow_icmp_lt X17 hx (il.toInt) ((4 : Int)) (hb hby at_218) rfl rfl (by decide) (pt := 229) (by decide) (pf := 221) rfl (fun c218 => ?_) (fun c218 => absurd c218 (by omega))
          refine ow_iconst X17 hx (z := (1 : Int32)) (hb hby at_229) rfl (pc' := 230) rfl ?_
          refine ow_goto X17 hx (hb hby at_230) (by decide) (pc' := 234) (by decide) ?_
          refine ow_istore X17 hx (Ls' := #[.val (.int p0), .val (.int p1), .val (.int p2), .val (.int p3), .val (.int p4), .val (.int il), .val (.int z3), .val (.int z5), .val (.int z7), .val (.int z9), .val (.ref oA), .val (.ref oS), .val (.int (1 : Int32))]) (hb hby at_234) rfl (pc' := 236) rfl ?_
          refine ow_aload X17 hx (hb hby at_236) rfl rfl (pc' := 238) rfl ?_
          refine ow_callSI X17 hx hZ hown (hw _ (List.mem_of_getElem? (i := 23) rfl)) (hw _ (List.mem_of_getElem? (i := 24) rfl)) (hw _ (List.mem_of_getElem? (i := 25) rfl)) (hw _ (List.mem_of_getElem? (i := 26) rfl)) (by decide) (rm_iu1 l Z a0 hw [] hcw hch oS zc (fun j => ([z3] : List Int32).getD j 0) (1 : Int32) wf hj168 n0 HZ168 (ow_zk hzk hzn HK168 all0) hzn (ow_staKeep S_cs HK168 all0) (by first | assumption | decide | omega | (have q0_ : (1 : Int32).toInt = 1 := (by decide); omega)) Hf168_0 (by first | assumption | decide | omega | (have q0_ : (1 : Int32).toInt = 1 := (by decide); omega)) (ow_staKeep S_ad HK168 all0) (ow_staKeep S_hi HK168 all0) (ow_staKeep S_lo HK168 all0) (ow_staKeep S_f HK168 all0) (by first | assumption | decide | omega | (have q0_ : (1 : Int32).toInt = 1 := (by decide); omega)) (by first | assumption | decide | omega | (have q0_ : (1 : Int32).toInt = 1 := (by decide); omega)) (by first | assumption | decide | omega | (have q0_ : (1 : Int32).toInt = 1 := (by decide); omega)) (by first | assumption | decide | omega | (have q0_ : (1 : Int32).toInt = 1 := (by decide); omega)) (by first | assumption | decide | omega | (have q0_ : (1 : Int32).toInt = 1 := (by decide); omega))) (LT.warm hI0) hS0 (Nat.zero_le _) e17 0 (by decide) (by decide) (by decide) (by decide) [(.ref oS)] (by rw [hml]; rfl) pd_22 rfl rfl rfl (Nat.le_of_eq rfl) (hb hby at_238) (pc' := 241) rfl (fun v19 T19 L19 hQ19 X19 hS19 hZ hown => ?_)
          obtain ⟨z_19, rfl, Nc19, Kc19, P19_0⟩ := hQ19
          have P19_0 : ((OKc ((fun j => ([z3] : List Int32).getD j 0) (0 : Int32).toInt.toNat).toInt) ∧ z_19.toInt = 1) ∨ (¬ (OKc ((fun j => ([z3] : List Int32).getD j 0) (0 : Int32).toInt.toNat).toInt) ∧ z_19.toInt = 0) := P19_0
          have E_oS_19 := Hf168_0.keep Kc19
          have Zs19 : n0 ≤ T19.heap.size := Nat.le_trans HZ168 Kc19.1
          have K19 := HK168.trans Kc19 all0
          have N19 := Fr.app Nj168 Nc19
          show Ends _ _ _ _ T19 (mkF m 241 #[.val (.int p0), .val (.int p1), .val (.int p2), .val (.int p3), .val (.int p4), .val (.int il), .val (.int z3), .val (.int z5), .val (.int z7), .val (.int z9), .val (.ref oA), .val (.ref oS), .val (.int (1 : Int32))] [(.int z_19)])
          have hres : z_19.toInt = 1 := by rcases P19_0 with q_ | q_; exact q_.2; exact absurd (show OKc ((fun j => ([z3] : List Int32).getD j 0) (0 : Int32).toInt.toNat).toInt from hk0) q_.1
          refine ow_iload X19 hx (hb hby at_241) rfl (pc' := 243) rfl ?_
          refine ow_icmp_ne X19 hx (z_19.toInt) ((1 : Int)) (hb hby at_243) rfl rfl (by decide) (pt := 250) (by decide) (pf := 246) rfl (fun c243 => absurd c243 (by omega)) (fun c243 => ?_)
          refine ow_iconst X19 hx (z := (1 : Int32)) (hb hby at_246) rfl (pc' := 247) rfl ?_
          refine ow_goto X19 hx (hb hby at_247) (by decide) (pc' := 251) (by decide) ?_
          exact ow_retBI X19 hx hret hlk (hb hby at_251) hS19 (Nat.le_refl _) (by decide) (by decide) (z' := (1 : Int32)) rfl ⟨rfl, N19⟩
      refine ow_new X15 hx hZ hown (hw _ (List.mem_of_getElem? (i := 2) rfl)) (hw _ (List.mem_of_getElem? (i := 3) rfl)) (hw _ (List.mem_of_getElem? (i := 4) rfl)) e15 (hb hby at_157) (by decide) (by decide) (pc' := 160) rfl (fun T20 h20 b20 g20 X20 e20 E20 A20 D20 => ?_)
      have ne_b14_b20 : b14 ≠ b20 := Nat.ne_of_lt (Nat.lt_of_lt_of_le V_b14_15.lt (Nat.le_of_eq g20.symm))
      have g_b20 : n0 ≤ b20 := Nat.le_trans Zs15 (Nat.le_of_eq g20.symm)
      have sz_b20 : h0.size ≤ b20 := Nat.le_trans K15.1 (Nat.le_of_eq g20.symm)
      have V_b14_20 := V_b14_15.ext E20
      have Zs20 : n0 ≤ h20.size := Nat.le_trans Zs15 E20.1
      have K20 := K15.ext E20
      have F_b20_value : Fld Z h20 b20 "java/lang/String" "value" "[B" .null := D20 (Or.inr (hw _ (List.mem_of_getElem? (i := 17) rfl))) (ty := (.array .byte)) (by decide)
      have F_b20_coder : Fld Z h20 b20 "java/lang/String" "coder" "B" (.int (0 : Int32)) := D20 (Or.inr (hw _ (List.mem_of_getElem? (i := 18) rfl))) (ty := .byte) (by decide)
      rcases (show (z3.toInt ≤ 255) ∨ 255 < z3.toInt from by omega) with hsm | hbg
      · refine ow_dup X20 hx (hb hby at_160) rfl (pc' := 161) rfl ?_
        refine ow_aload X20 hx (hb hby at_161) rfl rfl (pc' := 163) rfl ?_
        have V_bl : Arv Z h20 b14 k14 .char (1 : Int32) (BL (fun j => ([z3] : List Int32).getD j 0)) (.int (0 : Int32)) := V_b14_20.pad (BL_of ([z3] : List Int32) (Nat.le_of_ble_eq_true rfl))
        have hrF : Rng (fun j => ([z3] : List Int32).getD j 0) := Rng_of (fun x hx_ => by simp only [List.mem_cons, List.not_mem_nil, or_false] at hx_; rw [hx_]; omega)
        have hsF : Sml (fun j => ([z3] : List Int32).getD j 0) := Sml_of (fun x hx_ => by simp only [List.mem_cons, List.not_mem_nil, or_false] at hx_; rw [hx_]; omega)
        refine ow_callI X20 hx hZ rfl rfl hown (hw _ (List.mem_of_getElem? (i := 5) rfl)) (hw _ (List.mem_of_getElem? (i := 6) rfl)) (hw _ (List.mem_of_getElem? (i := 4) rfl)) (hw _ (List.mem_of_getElem? (i := 7) rfl)) (by decide) (rm_sjL l Z a0 hw [] b20 b14 zc k14 (fun j => ([z3] : List Int32).getD j 0) (1 : Int32) h20 n0 Zs20 (ow_staKeep S_cs K20 all0) (by first | assumption | decide | omega | (have q0_ : (1 : Int32).toInt = 1 := (by decide); omega)) (ow_staKeep S_ad K20 all0) (ow_staKeep S_hi K20 all0) (ow_staKeep S_lo K20 all0) A20 F_b20_coder F_b20_value g_b20 V_bl (Ne.symm ne_b14_b20) (by first | assumption | decide | omega | (have q0_ : (1 : Int32).toInt = 1 := (by decide); omega)) (by first | assumption | decide | omega | (have q0_ : (1 : Int32).toInt = 1 := (by decide); omega)) (by first | assumption | decide | omega | (have q0_ : (1 : Int32).toInt = 1 := (by decide); omega)) (by first | assumption | decide | omega | (have q0_ : (1 : Int32).toInt = 1 := (by decide); omega))) e20 1 (by decide) (by decide) (by decide) (by decide) [(.ref b14)] (by rw [hml]; rfl) pd_21 rfl rfl rfl (Nat.le_of_eq rfl) (hb hby at_163) (pc' := 166) rfl (fun v21 T21 L21 hQ21 X21 => ?_)
        obtain ⟨b21, kt_21, fr_21, rfl, Nc21, Kc21, P21_0, P21_1, P21_2, P21_3, P21_4, P21_5, P21_6, P21_7⟩ := hQ21
        have P21_7 : LatF (1 : Int) fr_21 (fun j => ([z3] : List Int32).getD j 0) := P21_7
        have V_b14_21 := V_bl.keep Kc21 (ninS ne_b14_b20 nin0)
        have ne_b14_b21 : b14 ≠ b21 := Nat.ne_of_lt (Nat.lt_of_lt_of_le V_bl.lt P21_5)
        have ne_b20_b21 : b20 ≠ b21 := Nat.ne_of_lt (Nat.lt_of_lt_of_le A20.lt P21_5)
        have sz_b21 : h0.size ≤ b21 := Nat.le_trans K20.1 P21_5
        have Zs21 : n0 ≤ T21.heap.size := Nat.le_trans Zs20 Kc21.1
        have K21 := K20.trans Kc21 (allS (Or.inr sz_b20) all0)
        have N21 := Fr.app N15 Nc21
        show Ends _ _ _ _ T21 (mkF m 166 #[.val (.int p0), .val (.int p1), .val (.int p2), .val (.int p3), .val (.int p4), .val (.int il), .val (.int z3), .val (.int z5), .val (.int z7), .val (.int z9), .val (.ref b14), .unset, .unset] [(.ref b20)])
        refine ow_astore X21 hx (Ls' := #[.val (.int p0), .val (.int p1), .val (.int p2), .val (.int p3), .val (.int p4), .val (.int il), .val (.int z3), .val (.int z5), .val (.int z7), .val (.int z9), .val (.ref b14), .val (.ref b20), .unset]) (hb hby at_166) rfl rfl (pc' := 168) rfl ?_
        have hSi : StrIs Z T21.heap b20 (1 : Int32) (fun j => ([z3] : List Int32).getD j 0) := ⟨b21, kt_21, (1 : Int32), fr_21, P21_2, P21_3, Or.inl ⟨P21_1, rfl, P21_7, hsF⟩⟩
        exact J168 b14 b20 T21 T21.heap _ (X21.mono (by decide) (by decide)) rfl N21 (show Exa Z T21.heap b20 "java/lang/String" from P21_0) K21 Zs21 (show StrIs Z T21.heap b20 (1 : Int32) (fun j => ([z3] : List Int32).getD j 0) ∧ Rng (fun j => ([z3] : List Int32).getD j 0) from by exact ⟨hSi, hrF⟩)
      · refine ow_dup X20 hx (hb hby at_160) rfl (pc' := 161) rfl ?_
        refine ow_aload X20 hx (hb hby at_161) rfl rfl (pc' := 163) rfl ?_
        have V_bl : Arv Z h20 b14 k14 .char (1 : Int32) (BL (fun j => ([z3] : List Int32).getD j 0)) (.int (0 : Int32)) := V_b14_20.pad (BL_of ([z3] : List Int32) (Nat.le_of_ble_eq_true rfl))
        have hrF : Rng (fun j => ([z3] : List Int32).getD j 0) := Rng_of (fun x hx_ => by simp only [List.mem_cons, List.not_mem_nil, or_false] at hx_; rw [hx_]; omega)
        have hbF : 255 < ((fun j => ([z3] : List Int32).getD j 0) 0).toInt := show 255 < z3.toInt from by omega
        refine ow_callI X20 hx hZ rfl rfl hown (hw _ (List.mem_of_getElem? (i := 5) rfl)) (hw _ (List.mem_of_getElem? (i := 6) rfl)) (hw _ (List.mem_of_getElem? (i := 4) rfl)) (hw _ (List.mem_of_getElem? (i := 7) rfl)) (by decide) (rm_sjU l Z a0 hw [] b20 b14 zc k14 (fun j => ([z3] : List Int32).getD j 0) (0 : Nat) (1 : Int32) h20 n0 Zs20 (ow_staKeep S_cs K20 all0) (by first | assumption | decide | omega | (have q0_ : (1 : Int32).toInt = 1 := (by decide); omega)) (ow_staKeep S_ad K20 all0) (ow_staKeep S_hi K20 all0) (ow_staKeep S_lo K20 all0) A20 F_b20_coder F_b20_value g_b20 V_bl (Ne.symm ne_b14_b20) (by first | assumption | decide | omega | (have q0_ : (1 : Int32).toInt = 1 := (by decide); omega)) (by first | assumption | decide | omega | (have q0_ : (1 : Int32).toInt = 1 := (by decide); omega)) (by first | assumption | decide | omega | (have q0_ : (1 : Int32).toInt = 1 := (by decide); omega)) (by first | assumption | decide | omega | (have q0_ : (1 : Int32).toInt = 1 := (by decide); omega)) (by first | assumption | decide | omega | (have q0_ : (1 : Int32).toInt = 1 := (by decide); omega))) e20 1 (by decide) (by decide) (by decide) (by decide) [(.ref b14)] (by rw [hml]; rfl) pd_21 rfl rfl rfl (Nat.le_of_eq rfl) (hb hby at_163) (pc' := 166) rfl (fun v22 T22 L22 hQ22 X22 => ?_)
        obtain ⟨b22, kt_22, fr_22, pm_22, rfl, Nc22, Kc22, P22_0, P22_1, P22_2, P22_3, P22_4, P22_5, P22_6, P22_7, P22_8⟩ := hQ22
        have P22_7 : pm_22.toInt = 2 * (1 : Int) := P22_7
        have P22_8 : UtfF (1 : Int) fr_22 (fun j => ([z3] : List Int32).getD j 0) := P22_8
        have V_b14_22 := V_bl.keep Kc22 (ninS ne_b14_b20 nin0)
        have ne_b14_b22 : b14 ≠ b22 := Nat.ne_of_lt (Nat.lt_of_lt_of_le V_bl.lt P22_5)
        have ne_b20_b22 : b20 ≠ b22 := Nat.ne_of_lt (Nat.lt_of_lt_of_le A20.lt P22_5)
        have sz_b22 : h0.size ≤ b22 := Nat.le_trans K20.1 P22_5
        have Zs22 : n0 ≤ T22.heap.size := Nat.le_trans Zs20 Kc22.1
        have K22 := K20.trans Kc22 (allS (Or.inr sz_b20) all0)
        have N22 := Fr.app N15 Nc22
        show Ends _ _ _ _ T22 (mkF m 166 #[.val (.int p0), .val (.int p1), .val (.int p2), .val (.int p3), .val (.int p4), .val (.int il), .val (.int z3), .val (.int z5), .val (.int z7), .val (.int z9), .val (.ref b14), .unset, .unset] [(.ref b20)])
        refine ow_astore X22 hx (Ls' := #[.val (.int p0), .val (.int p1), .val (.int p2), .val (.int p3), .val (.int p4), .val (.int il), .val (.int z3), .val (.int z5), .val (.int z7), .val (.int z9), .val (.ref b14), .val (.ref b20), .unset]) (hb hby at_166) rfl rfl (pc' := 168) rfl ?_
        have hSi : StrIs Z T22.heap b20 (1 : Int32) (fun j => ([z3] : List Int32).getD j 0) := ⟨b22, kt_22, pm_22, fr_22, P22_2, P22_3, Or.inr ⟨P22_1, P22_7, P22_8⟩⟩
        exact J168 b14 b20 T22 T22.heap _ X22 rfl N22 (show Exa Z T22.heap b20 "java/lang/String" from P22_0) K22 Zs22 (show StrIs Z T22.heap b20 (1 : Int32) (fun j => ([z3] : List Int32).getD j 0) ∧ Rng (fun j => ([z3] : List Int32).getD j 0) from by exact ⟨hSi, hrF⟩)
    · refine ow_iload X0 hx (hb hby at_47) rfl (pc' := 49) rfl ?_
      refine ow_if_ne X0 hx (il.toInt) (hb hby at_49) rfl (by decide) (pt := 60) (by decide) (pf := 52) rfl (fun c49 => ?_) (fun c49 => absurd c49 (by omega))
      refine ow_iload X0 hx (hb hby at_60) rfl (pc' := 62) rfl ?_
      refine ow_iconst X0 hx (z := (1 : Int32)) (hb hby at_62) rfl (pc' := 63) rfl ?_
      refine ow_icmp_ne X0 hx (il.toInt) ((1 : Int)) (hb hby at_63) rfl rfl (by decide) (pt := 79) (by decide) (pf := 66) rfl (fun c63 => ?_) (fun c63 => absurd c63 (by omega))
      refine ow_iload X0 hx (hb hby at_79) rfl (pc' := 81) rfl ?_
      refine ow_iconst X0 hx (z := (2 : Int32)) (hb hby at_81) rfl (pc' := 82) rfl ?_
      refine ow_icmp_ne X0 hx (il.toInt) ((2 : Int)) (hb hby at_82) rfl rfl (by decide) (pt := 103) (by decide) (pf := 85) rfl (fun c82 => absurd c82 (by omega)) (fun c82 => ?_)
      refine ow_iconst X0 hx (z := (2 : Int32)) (hb hby at_85) rfl (pc' := 86) rfl ?_
      refine ow_newP X0 hx hZ (hw _ (List.mem_of_getElem? (i := 1) rfl)) e0 (hb hby at_86) (by decide) 2 (by decide) (by decide) (by decide) (by decide) (pc' := 88) rfl (fun T23 h23 b23 k23 g23 X23 e23 E23 V23 => ?_)
      have g_b23 : n0 ≤ b23 := Nat.le_trans Z0 (Nat.le_of_eq g23.symm)
      have sz_b23 : h0.size ≤ b23 := Nat.le_trans (Keep.refl h0 []).1 (Nat.le_of_eq g23.symm)
      have Zs23 : n0 ≤ h23.size := Nat.le_trans Z0 E23.1
      have K23 := (Keep.refl h0 []).ext E23
      have V_b23 : Arv Z h23 b23 k23 .char (2 : Int32) [(.int (0 : Int32)), (.int (0 : Int32))] (.int (0 : Int32)) := V23.pad (pad_rep [] (.int (0 : Int32)) 2)
      refine ow_dup X23 hx (hb hby at_88) rfl (pc' := 89) rfl ?_
      refine ow_iconst X23 hx (z := (0 : Int32)) (hb hby at_89) rfl (pc' := 90) rfl ?_
      refine ow_iload X23 hx (hb hby at_90) rfl (pc' := 92) rfl ?_
      refine ow_stC X23 hx hZ e23 V_b23 0 rfl (by decide) (by decide) (Nat.le_of_ble_eq_true rfl) (hb hby at_92) (pc' := 93) rfl (fun T24 h24 X24 e24 W24 V24 => ?_)
      obtain ⟨y24, hy24⟩ : ∃ y : Int32, y = (nar .char z3) := ⟨_, rfl⟩
      rw [← hy24] at W24 V24
      have ay24 : (y24.toInt - z3.toInt) % 65536 = 0 ∧ 0 ≤ y24.toInt ∧ y24.toInt < 65536 := by rw [hy24]; exact c_i2c z3
      rw [show y24 = z3 from ow_eq (by omega)] at W24 V24
      have V_b23_24 : Arv Z h24 b23 k23 .char (2 : Int32) [(.int z3), (.int (0 : Int32))] (.int (0 : Int32)) := V24
      have Zs24 : n0 ≤ h24.size := Nat.le_trans Zs23 (Keep.of_wr W24).1
      have K24 := K23.wr W24 (Or.inr sz_b23)
      have N24 := Fr.snoc X24 N0 g_b23
      refine ow_dup X24 hx (hb hby at_93) rfl (pc' := 94) rfl ?_
      refine ow_iconst X24 hx (z := (1 : Int32)) (hb hby at_94) rfl (pc' := 95) rfl ?_
      refine ow_iload X24 hx (hb hby at_95) rfl (pc' := 97) rfl ?_
      refine ow_stC X24 hx hZ e24 V_b23_24 1 rfl (by decide) (by decide) (Nat.le_of_ble_eq_true rfl) (hb hby at_97) (pc' := 98) rfl (fun T25 h25 X25 e25 W25 V25 => ?_)
      obtain ⟨y25, hy25⟩ : ∃ y : Int32, y = (nar .char z5) := ⟨_, rfl⟩
      rw [← hy25] at W25 V25
      have ay25 : (y25.toInt - z5.toInt) % 65536 = 0 ∧ 0 ≤ y25.toInt ∧ y25.toInt < 65536 := by rw [hy25]; exact c_i2c z5
      rw [show y25 = z5 from ow_eq (by omega)] at W25 V25
      have V_b23_25 : Arv Z h25 b23 k23 .char (2 : Int32) [(.int z3), (.int z5)] (.int (0 : Int32)) := V25
      have Zs25 : n0 ≤ h25.size := Nat.le_trans Zs24 (Keep.of_wr W25).1
      have K25 := K24.wr W25 (Or.inr sz_b23)
      have N25 := Fr.snoc X25 N24 g_b23
      refine ow_astore X25 hx (Ls' := #[.val (.int p0), .val (.int p1), .val (.int p2), .val (.int p3), .val (.int p4), .val (.int il), .val (.int z3), .val (.int z5), .val (.int z7), .val (.int z9), .val (.ref b23), .unset, .unset]) (hb hby at_98) rfl rfl (pc' := 100) rfl ?_
      refine ow_goto X25 hx (hb hby at_100) (by decide) (pc' := 157) (by decide) ?_
      have J168 : ∀ (oA : Addr) (oS : Addr) (T26 : State) (hj168 : Heap) (lc168 : List Loc), Stand p l e room_1 (s.setVm s.vm) m #[(.int p0), (.int p1), (.int p2), (.int p3), (.int p4)] below meth c T26 lc168 4 18 → T26.heap = hj168 → Fr n0 lc168 → (Exa Z hj168 oS "java/lang/String") → (Keep h0 hj168 []) → (n0 ≤ hj168.size) → (StrIs Z hj168 oS (2 : Int32) (fun j => ([z3, z5] : List Int32).getD j 0) ∧ Rng (fun j => ([z3, z5] : List Int32).getD j 0)) → Ends p e below (OutI s 24 2176 (Q_law p0 p1 p2 p3 p4 zc wf h0 n0)) T26 (mkF m 168 #[.val (.int p0), .val (.int p1), .val (.int p2), .val (.int p3), .val (.int p4), .val (.int il), .val (.int z3), .val (.int z5), .val (.int z7), .val (.int z9), .val (.ref oA), .val (.ref oS), .unset] []) := by
        intro oA oS T26 hj168 lc168 X26 e26 Nj168 Hf168_0 HK168 HZ168 hi168
        obtain ⟨hSc, hrF⟩ := hi168
        refine ow_iload X26 hx (hb hby at_168) rfl (pc' := 170) rfl ?_
        refine ow_if_le X26 hx (il.toInt) (hb hby at_170) rfl (by decide) (pt := 233) (by decide) (pf := 173) rfl (fun c170 => absurd c170 (by omega)) (fun c170 => ?_)
        refine ow_iload X26 hx (hb hby at_173) rfl (pc' := 175) rfl ?_
        refine ow_iconst X26 hx (z := (1 : Int32)) (hb hby at_175) rfl (pc' := 176) rfl ?_
        refine ow_icmp_lt X26 hx (il.toInt) ((1 : Int)) (hb hby at_176) rfl rfl (by decide) (pt := 187) (by decide) (pf := 179) rfl (fun c176 => absurd c176 (by omega)) (fun c176 => ?_)
        refine ow_iload X26 hx (hb hby at_179) rfl (pc' := 181) rfl ?_
        refine ow_callPI X26 hx hZ hown (hw _ (List.mem_of_getElem? (i := 49) rfl)) (hw _ (List.mem_of_getElem? (i := 50) rfl)) (hw _ (List.mem_of_getElem? (i := 51) rfl)) (hw _ (List.mem_of_getElem? (i := 52) rfl)) (by decide) (rm_okC l Z a0 hw [] z3 hj168 ) e26 0 (by decide) (by decide) (by decide) (by decide) [(.int z3)] (by rw [hml]; rfl) pd_18 rfl rfl rfl (Nat.le_of_eq rfl) (hb hby at_181) (pc' := 184) rfl (fun z27 T27 hz27 X27 e27 => ?_)
        have az27 : (((97 ≤ z3.toInt ∧ z3.toInt ≤ 122) ∨ (65 ≤ z3.toInt ∧ z3.toInt ≤ 90) ∨ (48 ≤ z3.toInt ∧ z3.toInt ≤ 57) ∨ z3.toInt = 45 ∨ z3.toInt = 46 ∨ z3.toInt = 95 ∨ z3.toInt = 126) ∧ z27.toInt = 1) ∨ (¬ ((97 ≤ z3.toInt ∧ z3.toInt ≤ 122) ∨ (65 ≤ z3.toInt ∧ z3.toInt ≤ 90) ∨ (48 ≤ z3.toInt ∧ z3.toInt ≤ 57) ∨ z3.toInt = 45 ∨ z3.toInt = 46 ∨ z3.toInt = 95 ∨ z3.toInt = 126) ∧ z27.toInt = 0) := hz27
        have rz27 := rng32 z27
        have hO0 : (OKc z3.toInt ∧ z27.toInt = 1) ∨ (¬ OKc z3.toInt ∧ z27.toInt = 0) := by have p_ := az27; unfold OKc; omega
        refine ow_if_eq X27 hx (z27.toInt) (hb hby at_184) rfl (by decide) (pt := 233) (by decide) (pf := 187) rfl (fun c184 => ?_) (fun c184 => ?_)
        · have hk0 : ¬ OKc z3.toInt := by rcases hO0 with q_ | q_; exact absurd q_.2 (by omega); exact q_.1
          clear hO0
          refine ow_iconst X27 hx (z := (0 : Int32)) (hb hby at_233) rfl (pc' := 234) rfl ?_
          refine ow_istore X27 hx (Ls' := #[.val (.int p0), .val (.int p1), .val (.int p2), .val (.int p3), .val (.int p4), .val (.int il), .val (.int z3), .val (.int z5), .val (.int z7), .val (.int z9), .val (.ref oA), .val (.ref oS), .val (.int (0 : Int32))]) (hb hby at_234) rfl (pc' := 236) rfl ?_
          refine ow_aload X27 hx (hb hby at_236) rfl rfl (pc' := 238) rfl ?_
          refine ow_callSI X27 hx hZ hown (hw _ (List.mem_of_getElem? (i := 23) rfl)) (hw _ (List.mem_of_getElem? (i := 24) rfl)) (hw _ (List.mem_of_getElem? (i := 25) rfl)) (hw _ (List.mem_of_getElem? (i := 26) rfl)) (by decide) (rm_iu2 l Z a0 hw [] hcw hch oS zc (fun j => ([z3, z5] : List Int32).getD j 0) (2 : Int32) wf hj168 n0 HZ168 (ow_zk hzk hzn HK168 all0) hzn (ow_staKeep S_cs HK168 all0) (by first | assumption | decide | omega | (have q0_ : (2 : Int32).toInt = 2 := (by decide); omega)) Hf168_0 (by first | assumption | decide | omega | (have q0_ : (2 : Int32).toInt = 2 := (by decide); omega)) (ow_staKeep S_ad HK168 all0) (ow_staKeep S_hi HK168 all0) (ow_staKeep S_lo HK168 all0) (ow_staKeep S_f HK168 all0) (by first | assumption | decide | omega | (have q0_ : (2 : Int32).toInt = 2 := (by decide); omega)) (by first | assumption | decide | omega | (have q0_ : (2 : Int32).toInt = 2 := (by decide); omega)) (by first | assumption | decide | omega | (have q0_ : (2 : Int32).toInt = 2 := (by decide); omega)) (by first | assumption | decide | omega | (have q0_ : (2 : Int32).toInt = 2 := (by decide); omega)) (by first | assumption | decide | omega | (have q0_ : (2 : Int32).toInt = 2 := (by decide); omega))) (LT.warm hI0) hS0 (Nat.zero_le _) e27 0 (by decide) (by decide) (by decide) (by decide) [(.ref oS)] (by rw [hml]; rfl) pd_22 rfl rfl rfl (Nat.le_of_eq rfl) (hb hby at_238) (pc' := 241) rfl (fun v28 T28 L28 hQ28 X28 hS28 hZ hown => ?_)
          obtain ⟨z_28, rfl, Nc28, Kc28, P28_0⟩ := hQ28
          have P28_0 : ((OKc ((fun j => ([z3, z5] : List Int32).getD j 0) (0 : Int32).toInt.toNat).toInt ∧ OKc ((fun j => ([z3, z5] : List Int32).getD j 0) (1 : Int32).toInt.toNat).toInt) ∧ z_28.toInt = 1) ∨ (¬ (OKc ((fun j => ([z3, z5] : List Int32).getD j 0) (0 : Int32).toInt.toNat).toInt ∧ OKc ((fun j => ([z3, z5] : List Int32).getD j 0) (1 : Int32).toInt.toNat).toInt) ∧ z_28.toInt = 0) := P28_0
          have E_oS_28 := Hf168_0.keep Kc28
          have Zs28 : n0 ≤ T28.heap.size := Nat.le_trans HZ168 Kc28.1
          have K28 := HK168.trans Kc28 all0
          have N28 := Fr.app Nj168 Nc28
          show Ends _ _ _ _ T28 (mkF m 241 #[.val (.int p0), .val (.int p1), .val (.int p2), .val (.int p3), .val (.int p4), .val (.int il), .val (.int z3), .val (.int z5), .val (.int z7), .val (.int z9), .val (.ref oA), .val (.ref oS), .val (.int (0 : Int32))] [(.int z_28)])
          have hres : z_28.toInt = 0 := by rcases P28_0 with q_ | q_; exact absurd (show OKc z3.toInt from q_.1.1) hk0; exact q_.2
          refine ow_iload X28 hx (hb hby at_241) rfl (pc' := 243) rfl ?_
          refine ow_icmp_ne X28 hx (z_28.toInt) ((0 : Int)) (hb hby at_243) rfl rfl (by decide) (pt := 250) (by decide) (pf := 246) rfl (fun c243 => absurd c243 (by omega)) (fun c243 => ?_)
          refine ow_iconst X28 hx (z := (1 : Int32)) (hb hby at_246) rfl (pc' := 247) rfl ?_
          refine ow_goto X28 hx (hb hby at_247) (by decide) (pc' := 251) (by decide) ?_
          exact ow_retBI X28 hx hret hlk (hb hby at_251) hS28 (Nat.le_refl _) (by decide) (by decide) (z' := (1 : Int32)) rfl ⟨rfl, N28⟩
        · have hk0 : OKc z3.toInt := by rcases hO0 with q_ | q_; exact q_.1; exact absurd q_.2 (by omega)
          clear hO0
          refine ow_iload X27 hx (hb hby at_187) rfl (pc' := 189) rfl ?_
          refine ow_iconst X27 hx (z := (2 : Int32)) (hb hby at_189) rfl (pc' := 190) rfl ?_
          refine ow_icmp_lt X27 hx (il.toInt) ((2 : Int)) (hb hby at_190) rfl rfl (by decide) (pt := 201) (by decide) (pf := 193) rfl (fun c190 => absurd c190 (by omega)) (fun c190 => ?_)
          refine ow_iload X27 hx (hb hby at_193) rfl (pc' := 195) rfl ?_
          refine ow_callPI X27 hx hZ hown (hw _ (List.mem_of_getElem? (i := 49) rfl)) (hw _ (List.mem_of_getElem? (i := 50) rfl)) (hw _ (List.mem_of_getElem? (i := 51) rfl)) (hw _ (List.mem_of_getElem? (i := 52) rfl)) (by decide) (rm_okC l Z a0 hw [] z5 hj168 ) e27 0 (by decide) (by decide) (by decide) (by decide) [(.int z5)] (by rw [hml]; rfl) pd_18 rfl rfl rfl (Nat.le_of_eq rfl) (hb hby at_195) (pc' := 198) rfl (fun z29 T29 hz29 X29 e29 => ?_)
          have az29 : (((97 ≤ z5.toInt ∧ z5.toInt ≤ 122) ∨ (65 ≤ z5.toInt ∧ z5.toInt ≤ 90) ∨ (48 ≤ z5.toInt ∧ z5.toInt ≤ 57) ∨ z5.toInt = 45 ∨ z5.toInt = 46 ∨ z5.toInt = 95 ∨ z5.toInt = 126) ∧ z29.toInt = 1) ∨ (¬ ((97 ≤ z5.toInt ∧ z5.toInt ≤ 122) ∨ (65 ≤ z5.toInt ∧ z5.toInt ≤ 90) ∨ (48 ≤ z5.toInt ∧ z5.toInt ≤ 57) ∨ z5.toInt = 45 ∨ z5.toInt = 46 ∨ z5.toInt = 95 ∨ z5.toInt = 126) ∧ z29.toInt = 0) := hz29
          have rz29 := rng32 z29
          have hO1 : (OKc z5.toInt ∧ z29.toInt = 1) ∨ (¬ OKc z5.toInt ∧ z29.toInt = 0) := by have p_ := az29; unfold OKc; omega
          refine ow_if_eq X29 hx (z29.toInt) (hb hby at_198) rfl (by decide) (pt := 233) (by decide) (pf := 201) rfl (fun c198 => ?_) (fun c198 => ?_)
          · have hk1 : ¬ OKc z5.toInt := by rcases hO1 with q_ | q_; exact absurd q_.2 (by omega); exact q_.1
            clear hO1
            refine ow_iconst X29 hx (z := (0 : Int32)) (hb hby at_233) rfl (pc' := 234) rfl ?_
            refine ow_istore X29 hx (Ls' := #[.val (.int p0), .val (.int p1), .val (.int p2), .val (.int p3), .val (.int p4), .val (.int il), .val (.int z3), .val (.int z5), .val (.int z7), .val (.int z9), .val (.ref oA), .val (.ref oS), .val (.int (0 : Int32))]) (hb hby at_234) rfl (pc' := 236) rfl ?_
            refine ow_aload X29 hx (hb hby at_236) rfl rfl (pc' := 238) rfl ?_
            refine ow_callSI X29 hx hZ hown (hw _ (List.mem_of_getElem? (i := 23) rfl)) (hw _ (List.mem_of_getElem? (i := 24) rfl)) (hw _ (List.mem_of_getElem? (i := 25) rfl)) (hw _ (List.mem_of_getElem? (i := 26) rfl)) (by decide) (rm_iu2 l Z a0 hw [] hcw hch oS zc (fun j => ([z3, z5] : List Int32).getD j 0) (2 : Int32) wf hj168 n0 HZ168 (ow_zk hzk hzn HK168 all0) hzn (ow_staKeep S_cs HK168 all0) (by first | assumption | decide | omega | (have q0_ : (2 : Int32).toInt = 2 := (by decide); omega)) Hf168_0 (by first | assumption | decide | omega | (have q0_ : (2 : Int32).toInt = 2 := (by decide); omega)) (ow_staKeep S_ad HK168 all0) (ow_staKeep S_hi HK168 all0) (ow_staKeep S_lo HK168 all0) (ow_staKeep S_f HK168 all0) (by first | assumption | decide | omega | (have q0_ : (2 : Int32).toInt = 2 := (by decide); omega)) (by first | assumption | decide | omega | (have q0_ : (2 : Int32).toInt = 2 := (by decide); omega)) (by first | assumption | decide | omega | (have q0_ : (2 : Int32).toInt = 2 := (by decide); omega)) (by first | assumption | decide | omega | (have q0_ : (2 : Int32).toInt = 2 := (by decide); omega)) (by first | assumption | decide | omega | (have q0_ : (2 : Int32).toInt = 2 := (by decide); omega))) (LT.warm hI0) hS0 (Nat.zero_le _) e29 0 (by decide) (by decide) (by decide) (by decide) [(.ref oS)] (by rw [hml]; rfl) pd_22 rfl rfl rfl (Nat.le_of_eq rfl) (hb hby at_238) (pc' := 241) rfl (fun v30 T30 L30 hQ30 X30 hS30 hZ hown => ?_)
            obtain ⟨z_30, rfl, Nc30, Kc30, P30_0⟩ := hQ30
            have P30_0 : ((OKc ((fun j => ([z3, z5] : List Int32).getD j 0) (0 : Int32).toInt.toNat).toInt ∧ OKc ((fun j => ([z3, z5] : List Int32).getD j 0) (1 : Int32).toInt.toNat).toInt) ∧ z_30.toInt = 1) ∨ (¬ (OKc ((fun j => ([z3, z5] : List Int32).getD j 0) (0 : Int32).toInt.toNat).toInt ∧ OKc ((fun j => ([z3, z5] : List Int32).getD j 0) (1 : Int32).toInt.toNat).toInt) ∧ z_30.toInt = 0) := P30_0
            have E_oS_30 := Hf168_0.keep Kc30
            have Zs30 : n0 ≤ T30.heap.size := Nat.le_trans HZ168 Kc30.1
            have K30 := HK168.trans Kc30 all0
            have N30 := Fr.app Nj168 Nc30
            show Ends _ _ _ _ T30 (mkF m 241 #[.val (.int p0), .val (.int p1), .val (.int p2), .val (.int p3), .val (.int p4), .val (.int il), .val (.int z3), .val (.int z5), .val (.int z7), .val (.int z9), .val (.ref oA), .val (.ref oS), .val (.int (0 : Int32))] [(.int z_30)])
            have hres : z_30.toInt = 0 := by rcases P30_0 with q_ | q_; exact absurd (show OKc z5.toInt from q_.1.2) hk1; exact q_.2
            refine ow_iload X30 hx (hb hby at_241) rfl (pc' := 243) rfl ?_
            refine ow_icmp_ne X30 hx (z_30.toInt) ((0 : Int)) (hb hby at_243) rfl rfl (by decide) (pt := 250) (by decide) (pf := 246) rfl (fun c243 => absurd c243 (by omega)) (fun c243 => ?_)
            refine ow_iconst X30 hx (z := (1 : Int32)) (hb hby at_246) rfl (pc' := 247) rfl ?_
            refine ow_goto X30 hx (hb hby at_247) (by decide) (pc' := 251) (by decide) ?_
            exact ow_retBI X30 hx hret hlk (hb hby at_251) hS30 (Nat.le_refl _) (by decide) (by decide) (z' := (1 : Int32)) rfl ⟨rfl, N30⟩
          · have hk1 : OKc z5.toInt := by rcases hO1 with q_ | q_; exact q_.1; exact absurd q_.2 (by omega)
            clear hO1
            refine ow_iload X29 hx (hb hby at_201) rfl (pc' := 203) rfl ?_
            refine ow_iconst X29 hx (z := (3 : Int32)) (hb hby at_203) rfl (pc' := 204) rfl ?_
            refine ow_icmp_lt X29 hx (il.toInt) ((3 : Int)) (hb hby at_204) rfl rfl (by decide) (pt := 215) (by decide) (pf := 207) rfl (fun c204 => ?_) (fun c204 => absurd c204 (by omega))
            refine ow_iload X29 hx (hb hby at_215) rfl (pc' := 217) rfl ?_
            refine ow_iconst X29 hx (z := (4 : Int32)) (hb hby at_217) rfl (pc' := 218) rfl ?_
            refine ow_icmp_lt X29 hx (il.toInt) ((4 : Int)) (hb hby at_218) rfl rfl (by decide) (pt := 229) (by decide) (pf := 221) rfl (fun c218 => ?_) (fun c218 => absurd c218 (by omega))
            refine ow_iconst X29 hx (z := (1 : Int32)) (hb hby at_229) rfl (pc' := 230) rfl ?_
            refine ow_goto X29 hx (hb hby at_230) (by decide) (pc' := 234) (by decide) ?_
            refine ow_istore X29 hx (Ls' := #[.val (.int p0), .val (.int p1), .val (.int p2), .val (.int p3), .val (.int p4), .val (.int il), .val (.int z3), .val (.int z5), .val (.int z7), .val (.int z9), .val (.ref oA), .val (.ref oS), .val (.int (1 : Int32))]) (hb hby at_234) rfl (pc' := 236) rfl ?_
            refine ow_aload X29 hx (hb hby at_236) rfl rfl (pc' := 238) rfl ?_
            refine ow_callSI X29 hx hZ hown (hw _ (List.mem_of_getElem? (i := 23) rfl)) (hw _ (List.mem_of_getElem? (i := 24) rfl)) (hw _ (List.mem_of_getElem? (i := 25) rfl)) (hw _ (List.mem_of_getElem? (i := 26) rfl)) (by decide) (rm_iu2 l Z a0 hw [] hcw hch oS zc (fun j => ([z3, z5] : List Int32).getD j 0) (2 : Int32) wf hj168 n0 HZ168 (ow_zk hzk hzn HK168 all0) hzn (ow_staKeep S_cs HK168 all0) (by first | assumption | decide | omega | (have q0_ : (2 : Int32).toInt = 2 := (by decide); omega)) Hf168_0 (by first | assumption | decide | omega | (have q0_ : (2 : Int32).toInt = 2 := (by decide); omega)) (ow_staKeep S_ad HK168 all0) (ow_staKeep S_hi HK168 all0) (ow_staKeep S_lo HK168 all0) (ow_staKeep S_f HK168 all0) (by first | assumption | decide | omega | (have q0_ : (2 : Int32).toInt = 2 := (by decide); omega)) (by first | assumption | decide | omega | (have q0_ : (2 : Int32).toInt = 2 := (by decide); omega)) (by first | assumption | decide | omega | (have q0_ : (2 : Int32).toInt = 2 := (by decide); omega)) (by first | assumption | decide | omega | (have q0_ : (2 : Int32).toInt = 2 := (by decide); omega)) (by first | assumption | decide | omega | (have q0_ : (2 : Int32).toInt = 2 := (by decide); omega))) (LT.warm hI0) hS0 (Nat.zero_le _) e29 0 (by decide) (by decide) (by decide) (by decide) [(.ref oS)] (by rw [hml]; rfl) pd_22 rfl rfl rfl (Nat.le_of_eq rfl) (hb hby at_238) (pc' := 241) rfl (fun v31 T31 L31 hQ31 X31 hS31 hZ hown => ?_)
            obtain ⟨z_31, rfl, Nc31, Kc31, P31_0⟩ := hQ31
            have P31_0 : ((OKc ((fun j => ([z3, z5] : List Int32).getD j 0) (0 : Int32).toInt.toNat).toInt ∧ OKc ((fun j => ([z3, z5] : List Int32).getD j 0) (1 : Int32).toInt.toNat).toInt) ∧ z_31.toInt = 1) ∨ (¬ (OKc ((fun j => ([z3, z5] : List Int32).getD j 0) (0 : Int32).toInt.toNat).toInt ∧ OKc ((fun j => ([z3, z5] : List Int32).getD j 0) (1 : Int32).toInt.toNat).toInt) ∧ z_31.toInt = 0) := P31_0
            have E_oS_31 := Hf168_0.keep Kc31
            have Zs31 : n0 ≤ T31.heap.size := Nat.le_trans HZ168 Kc31.1
            have K31 := HK168.trans Kc31 all0
            have N31 := Fr.app Nj168 Nc31
            show Ends _ _ _ _ T31 (mkF m 241 #[.val (.int p0), .val (.int p1), .val (.int p2), .val (.int p3), .val (.int p4), .val (.int il), .val (.int z3), .val (.int z5), .val (.int z7), .val (.int z9), .val (.ref oA), .val (.ref oS), .val (.int (1 : Int32))] [(.int z_31)])
            have hres : z_31.toInt = 1 := by rcases P31_0 with q_ | q_; exact q_.2; exact absurd (show OKc ((fun j => ([z3, z5] : List Int32).getD j 0) (0 : Int32).toInt.toNat).toInt ∧ OKc ((fun j => ([z3, z5] : List Int32).getD j 0) (1 : Int32).toInt.toNat).toInt from ⟨hk0, hk1⟩) q_.1
            refine ow_iload X31 hx (hb hby at_241) rfl (pc' := 243) rfl ?_
            refine ow_icmp_ne X31 hx (z_31.toInt) ((1 : Int)) (hb hby at_243) rfl rfl (by decide) (pt := 250) (by decide) (pf := 246) rfl (fun c243 => absurd c243 (by omega)) (fun c243 => ?_)
            refine ow_iconst X31 hx (z := (1 : Int32)) (hb hby at_246) rfl (pc' := 247) rfl ?_
            refine ow_goto X31 hx (hb hby at_247) (by decide) (pc' := 251) (by decide) ?_
            exact ow_retBI X31 hx hret hlk (hb hby at_251) hS31 (Nat.le_refl _) (by decide) (by decide) (z' := (1 : Int32)) rfl ⟨rfl, N31⟩
      refine ow_new X25 hx hZ hown (hw _ (List.mem_of_getElem? (i := 2) rfl)) (hw _ (List.mem_of_getElem? (i := 3) rfl)) (hw _ (List.mem_of_getElem? (i := 4) rfl)) e25 (hb hby at_157) (by decide) (by decide) (pc' := 160) rfl (fun T32 h32 b32 g32 X32 e32 E32 A32 D32 => ?_)
      have ne_b23_b32 : b23 ≠ b32 := Nat.ne_of_lt (Nat.lt_of_lt_of_le V_b23_25.lt (Nat.le_of_eq g32.symm))
      have g_b32 : n0 ≤ b32 := Nat.le_trans Zs25 (Nat.le_of_eq g32.symm)
      have sz_b32 : h0.size ≤ b32 := Nat.le_trans K25.1 (Nat.le_of_eq g32.symm)
      have V_b23_32 := V_b23_25.ext E32
      have Zs32 : n0 ≤ h32.size := Nat.le_trans Zs25 E32.1
      have K32 := K25.ext E32
      have F_b32_value : Fld Z h32 b32 "java/lang/String" "value" "[B" .null := D32 (Or.inr (hw _ (List.mem_of_getElem? (i := 17) rfl))) (ty := (.array .byte)) (by decide)
      have F_b32_coder : Fld Z h32 b32 "java/lang/String" "coder" "B" (.int (0 : Int32)) := D32 (Or.inr (hw _ (List.mem_of_getElem? (i := 18) rfl))) (ty := .byte) (by decide)
      rcases (show (z3.toInt ≤ 255 ∧ z5.toInt ≤ 255) ∨ 255 < z3.toInt ∨ 255 < z5.toInt from by omega) with hsm | hbg | hbg
      · refine ow_dup X32 hx (hb hby at_160) rfl (pc' := 161) rfl ?_
        refine ow_aload X32 hx (hb hby at_161) rfl rfl (pc' := 163) rfl ?_
        have V_bl : Arv Z h32 b23 k23 .char (2 : Int32) (BL (fun j => ([z3, z5] : List Int32).getD j 0)) (.int (0 : Int32)) := V_b23_32.pad (BL_of ([z3, z5] : List Int32) (Nat.le_of_ble_eq_true rfl))
        have hrF : Rng (fun j => ([z3, z5] : List Int32).getD j 0) := Rng_of (fun x hx_ => by simp only [List.mem_cons, List.not_mem_nil, or_false] at hx_; rcases hx_ with rfl | rfl <;> omega)
        have hsF : Sml (fun j => ([z3, z5] : List Int32).getD j 0) := Sml_of (fun x hx_ => by simp only [List.mem_cons, List.not_mem_nil, or_false] at hx_; rcases hx_ with rfl | rfl <;> omega)
        refine ow_callI X32 hx hZ rfl rfl hown (hw _ (List.mem_of_getElem? (i := 5) rfl)) (hw _ (List.mem_of_getElem? (i := 6) rfl)) (hw _ (List.mem_of_getElem? (i := 4) rfl)) (hw _ (List.mem_of_getElem? (i := 7) rfl)) (by decide) (rm_sjL l Z a0 hw [] b32 b23 zc k23 (fun j => ([z3, z5] : List Int32).getD j 0) (2 : Int32) h32 n0 Zs32 (ow_staKeep S_cs K32 all0) (by first | assumption | decide | omega | (have q0_ : (2 : Int32).toInt = 2 := (by decide); omega)) (ow_staKeep S_ad K32 all0) (ow_staKeep S_hi K32 all0) (ow_staKeep S_lo K32 all0) A32 F_b32_coder F_b32_value g_b32 V_bl (Ne.symm ne_b23_b32) (by first | assumption | decide | omega | (have q0_ : (2 : Int32).toInt = 2 := (by decide); omega)) (by first | assumption | decide | omega | (have q0_ : (2 : Int32).toInt = 2 := (by decide); omega)) (by first | assumption | decide | omega | (have q0_ : (2 : Int32).toInt = 2 := (by decide); omega)) (by first | assumption | decide | omega | (have q0_ : (2 : Int32).toInt = 2 := (by decide); omega))) e32 1 (by decide) (by decide) (by decide) (by decide) [(.ref b23)] (by rw [hml]; rfl) pd_21 rfl rfl rfl (Nat.le_of_eq rfl) (hb hby at_163) (pc' := 166) rfl (fun v33 T33 L33 hQ33 X33 => ?_)
        obtain ⟨b33, kt_33, fr_33, rfl, Nc33, Kc33, P33_0, P33_1, P33_2, P33_3, P33_4, P33_5, P33_6, P33_7⟩ := hQ33
        have P33_7 : LatF (2 : Int) fr_33 (fun j => ([z3, z5] : List Int32).getD j 0) := P33_7
        have V_b23_33 := V_bl.keep Kc33 (ninS ne_b23_b32 nin0)
        have ne_b23_b33 : b23 ≠ b33 := Nat.ne_of_lt (Nat.lt_of_lt_of_le V_bl.lt P33_5)
        have ne_b32_b33 : b32 ≠ b33 := Nat.ne_of_lt (Nat.lt_of_lt_of_le A32.lt P33_5)
        have sz_b33 : h0.size ≤ b33 := Nat.le_trans K32.1 P33_5
        have Zs33 : n0 ≤ T33.heap.size := Nat.le_trans Zs32 Kc33.1
        have K33 := K32.trans Kc33 (allS (Or.inr sz_b32) all0)
        have N33 := Fr.app N25 Nc33
        show Ends _ _ _ _ T33 (mkF m 166 #[.val (.int p0), .val (.int p1), .val (.int p2), .val (.int p3), .val (.int p4), .val (.int il), .val (.int z3), .val (.int z5), .val (.int z7), .val (.int z9), .val (.ref b23), .unset, .unset] [(.ref b32)])
        refine ow_astore X33 hx (Ls' := #[.val (.int p0), .val (.int p1), .val (.int p2), .val (.int p3), .val (.int p4), .val (.int il), .val (.int z3), .val (.int z5), .val (.int z7), .val (.int z9), .val (.ref b23), .val (.ref b32), .unset]) (hb hby at_166) rfl rfl (pc' := 168) rfl ?_
        have hSi : StrIs Z T33.heap b32 (2 : Int32) (fun j => ([z3, z5] : List Int32).getD j 0) := ⟨b33, kt_33, (2 : Int32), fr_33, P33_2, P33_3, Or.inl ⟨P33_1, rfl, P33_7, hsF⟩⟩
        exact J168 b23 b32 T33 T33.heap _ (X33.mono (by decide) (by decide)) rfl N33 (show Exa Z T33.heap b32 "java/lang/String" from P33_0) K33 Zs33 (show StrIs Z T33.heap b32 (2 : Int32) (fun j => ([z3, z5] : List Int32).getD j 0) ∧ Rng (fun j => ([z3, z5] : List Int32).getD j 0) from by exact ⟨hSi, hrF⟩)
      · refine ow_dup X32 hx (hb hby at_160) rfl (pc' := 161) rfl ?_
        refine ow_aload X32 hx (hb hby at_161) rfl rfl (pc' := 163) rfl ?_
        have V_bl : Arv Z h32 b23 k23 .char (2 : Int32) (BL (fun j => ([z3, z5] : List Int32).getD j 0)) (.int (0 : Int32)) := V_b23_32.pad (BL_of ([z3, z5] : List Int32) (Nat.le_of_ble_eq_true rfl))
        have hrF : Rng (fun j => ([z3, z5] : List Int32).getD j 0) := Rng_of (fun x hx_ => by simp only [List.mem_cons, List.not_mem_nil, or_false] at hx_; rcases hx_ with rfl | rfl <;> omega)
        have hbF : 255 < ((fun j => ([z3, z5] : List Int32).getD j 0) 0).toInt := show 255 < z3.toInt from by omega
        refine ow_callI X32 hx hZ rfl rfl hown (hw _ (List.mem_of_getElem? (i := 5) rfl)) (hw _ (List.mem_of_getElem? (i := 6) rfl)) (hw _ (List.mem_of_getElem? (i := 4) rfl)) (hw _ (List.mem_of_getElem? (i := 7) rfl)) (by decide) (rm_sjU l Z a0 hw [] b32 b23 zc k23 (fun j => ([z3, z5] : List Int32).getD j 0) (0 : Nat) (2 : Int32) h32 n0 Zs32 (ow_staKeep S_cs K32 all0) (by first | assumption | decide | omega | (have q0_ : (2 : Int32).toInt = 2 := (by decide); omega)) (ow_staKeep S_ad K32 all0) (ow_staKeep S_hi K32 all0) (ow_staKeep S_lo K32 all0) A32 F_b32_coder F_b32_value g_b32 V_bl (Ne.symm ne_b23_b32) (by first | assumption | decide | omega | (have q0_ : (2 : Int32).toInt = 2 := (by decide); omega)) (by first | assumption | decide | omega | (have q0_ : (2 : Int32).toInt = 2 := (by decide); omega)) (by first | assumption | decide | omega | (have q0_ : (2 : Int32).toInt = 2 := (by decide); omega)) (by first | assumption | decide | omega | (have q0_ : (2 : Int32).toInt = 2 := (by decide); omega)) (by first | assumption | decide | omega | (have q0_ : (2 : Int32).toInt = 2 := (by decide); omega))) e32 1 (by decide) (by decide) (by decide) (by decide) [(.ref b23)] (by rw [hml]; rfl) pd_21 rfl rfl rfl (Nat.le_of_eq rfl) (hb hby at_163) (pc' := 166) rfl (fun v34 T34 L34 hQ34 X34 => ?_)
        obtain ⟨b34, kt_34, fr_34, pm_34, rfl, Nc34, Kc34, P34_0, P34_1, P34_2, P34_3, P34_4, P34_5, P34_6, P34_7, P34_8⟩ := hQ34
        have P34_7 : pm_34.toInt = 2 * (2 : Int) := P34_7
        have P34_8 : UtfF (2 : Int) fr_34 (fun j => ([z3, z5] : List Int32).getD j 0) := P34_8
        have V_b23_34 := V_bl.keep Kc34 (ninS ne_b23_b32 nin0)
        have ne_b23_b34 : b23 ≠ b34 := Nat.ne_of_lt (Nat.lt_of_lt_of_le V_bl.lt P34_5)
        have ne_b32_b34 : b32 ≠ b34 := Nat.ne_of_lt (Nat.lt_of_lt_of_le A32.lt P34_5)
        have sz_b34 : h0.size ≤ b34 := Nat.le_trans K32.1 P34_5
        have Zs34 : n0 ≤ T34.heap.size := Nat.le_trans Zs32 Kc34.1
        have K34 := K32.trans Kc34 (allS (Or.inr sz_b32) all0)
        have N34 := Fr.app N25 Nc34
        show Ends _ _ _ _ T34 (mkF m 166 #[.val (.int p0), .val (.int p1), .val (.int p2), .val (.int p3), .val (.int p4), .val (.int il), .val (.int z3), .val (.int z5), .val (.int z7), .val (.int z9), .val (.ref b23), .unset, .unset] [(.ref b32)])
        refine ow_astore X34 hx (Ls' := #[.val (.int p0), .val (.int p1), .val (.int p2), .val (.int p3), .val (.int p4), .val (.int il), .val (.int z3), .val (.int z5), .val (.int z7), .val (.int z9), .val (.ref b23), .val (.ref b32), .unset]) (hb hby at_166) rfl rfl (pc' := 168) rfl ?_
        have hSi : StrIs Z T34.heap b32 (2 : Int32) (fun j => ([z3, z5] : List Int32).getD j 0) := ⟨b34, kt_34, pm_34, fr_34, P34_2, P34_3, Or.inr ⟨P34_1, P34_7, P34_8⟩⟩
        exact J168 b23 b32 T34 T34.heap _ X34 rfl N34 (show Exa Z T34.heap b32 "java/lang/String" from P34_0) K34 Zs34 (show StrIs Z T34.heap b32 (2 : Int32) (fun j => ([z3, z5] : List Int32).getD j 0) ∧ Rng (fun j => ([z3, z5] : List Int32).getD j 0) from by exact ⟨hSi, hrF⟩)
      · refine ow_dup X32 hx (hb hby at_160) rfl (pc' := 161) rfl ?_
        refine ow_aload X32 hx (hb hby at_161) rfl rfl (pc' := 163) rfl ?_
        have V_bl : Arv Z h32 b23 k23 .char (2 : Int32) (BL (fun j => ([z3, z5] : List Int32).getD j 0)) (.int (0 : Int32)) := V_b23_32.pad (BL_of ([z3, z5] : List Int32) (Nat.le_of_ble_eq_true rfl))
        have hrF : Rng (fun j => ([z3, z5] : List Int32).getD j 0) := Rng_of (fun x hx_ => by simp only [List.mem_cons, List.not_mem_nil, or_false] at hx_; rcases hx_ with rfl | rfl <;> omega)
        have hbF : 255 < ((fun j => ([z3, z5] : List Int32).getD j 0) 1).toInt := show 255 < z5.toInt from by omega
        refine ow_callI X32 hx hZ rfl rfl hown (hw _ (List.mem_of_getElem? (i := 5) rfl)) (hw _ (List.mem_of_getElem? (i := 6) rfl)) (hw _ (List.mem_of_getElem? (i := 4) rfl)) (hw _ (List.mem_of_getElem? (i := 7) rfl)) (by decide) (rm_sjU l Z a0 hw [] b32 b23 zc k23 (fun j => ([z3, z5] : List Int32).getD j 0) (1 : Nat) (2 : Int32) h32 n0 Zs32 (ow_staKeep S_cs K32 all0) (by first | assumption | decide | omega | (have q0_ : (2 : Int32).toInt = 2 := (by decide); omega)) (ow_staKeep S_ad K32 all0) (ow_staKeep S_hi K32 all0) (ow_staKeep S_lo K32 all0) A32 F_b32_coder F_b32_value g_b32 V_bl (Ne.symm ne_b23_b32) (by first | assumption | decide | omega | (have q0_ : (2 : Int32).toInt = 2 := (by decide); omega)) (by first | assumption | decide | omega | (have q0_ : (2 : Int32).toInt = 2 := (by decide); omega)) (by first | assumption | decide | omega | (have q0_ : (2 : Int32).toInt = 2 := (by decide); omega)) (by first | assumption | decide | omega | (have q0_ : (2 : Int32).toInt = 2 := (by decide); omega)) (by first | assumption | decide | omega | (have q0_ : (2 : Int32).toInt = 2 := (by decide); omega))) e32 1 (by decide) (by decide) (by decide) (by decide) [(.ref b23)] (by rw [hml]; rfl) pd_21 rfl rfl rfl (Nat.le_of_eq rfl) (hb hby at_163) (pc' := 166) rfl (fun v35 T35 L35 hQ35 X35 => ?_)
        obtain ⟨b35, kt_35, fr_35, pm_35, rfl, Nc35, Kc35, P35_0, P35_1, P35_2, P35_3, P35_4, P35_5, P35_6, P35_7, P35_8⟩ := hQ35
        have P35_7 : pm_35.toInt = 2 * (2 : Int) := P35_7
        have P35_8 : UtfF (2 : Int) fr_35 (fun j => ([z3, z5] : List Int32).getD j 0) := P35_8
        have V_b23_35 := V_bl.keep Kc35 (ninS ne_b23_b32 nin0)
        have ne_b23_b35 : b23 ≠ b35 := Nat.ne_of_lt (Nat.lt_of_lt_of_le V_bl.lt P35_5)
        have ne_b32_b35 : b32 ≠ b35 := Nat.ne_of_lt (Nat.lt_of_lt_of_le A32.lt P35_5)
        have sz_b35 : h0.size ≤ b35 := Nat.le_trans K32.1 P35_5
        have Zs35 : n0 ≤ T35.heap.size := Nat.le_trans Zs32 Kc35.1
        have K35 := K32.trans Kc35 (allS (Or.inr sz_b32) all0)
        have N35 := Fr.app N25 Nc35
        show Ends _ _ _ _ T35 (mkF m 166 #[.val (.int p0), .val (.int p1), .val (.int p2), .val (.int p3), .val (.int p4), .val (.int il), .val (.int z3), .val (.int z5), .val (.int z7), .val (.int z9), .val (.ref b23), .unset, .unset] [(.ref b32)])
        refine ow_astore X35 hx (Ls' := #[.val (.int p0), .val (.int p1), .val (.int p2), .val (.int p3), .val (.int p4), .val (.int il), .val (.int z3), .val (.int z5), .val (.int z7), .val (.int z9), .val (.ref b23), .val (.ref b32), .unset]) (hb hby at_166) rfl rfl (pc' := 168) rfl ?_
        have hSi : StrIs Z T35.heap b32 (2 : Int32) (fun j => ([z3, z5] : List Int32).getD j 0) := ⟨b35, kt_35, pm_35, fr_35, P35_2, P35_3, Or.inr ⟨P35_1, P35_7, P35_8⟩⟩
        exact J168 b23 b32 T35 T35.heap _ X35 rfl N35 (show Exa Z T35.heap b32 "java/lang/String" from P35_0) K35 Zs35 (show StrIs Z T35.heap b32 (2 : Int32) (fun j => ([z3, z5] : List Int32).getD j 0) ∧ Rng (fun j => ([z3, z5] : List Int32).getD j 0) from by exact ⟨hSi, hrF⟩)
    · refine ow_iload X0 hx (hb hby at_47) rfl (pc' := 49) rfl ?_
      refine ow_if_ne X0 hx (il.toInt) (hb hby at_49) rfl (by decide) (pt := 60) (by decide) (pf := 52) rfl (fun c49 => ?_) (fun c49 => absurd c49 (by omega))
      refine ow_iload X0 hx (hb hby at_60) rfl (pc' := 62) rfl ?_
      refine ow_iconst X0 hx (z := (1 : Int32)) (hb hby at_62) rfl (pc' := 63) rfl ?_
      refine ow_icmp_ne X0 hx (il.toInt) ((1 : Int)) (hb hby at_63) rfl rfl (by decide) (pt := 79) (by decide) (pf := 66) rfl (fun c63 => ?_) (fun c63 => absurd c63 (by omega))
      refine ow_iload X0 hx (hb hby at_79) rfl (pc' := 81) rfl ?_
      refine ow_iconst X0 hx (z := (2 : Int32)) (hb hby at_81) rfl (pc' := 82) rfl ?_
      refine ow_icmp_ne X0 hx (il.toInt) ((2 : Int)) (hb hby at_82) rfl rfl (by decide) (pt := 103) (by decide) (pf := 85) rfl (fun c82 => ?_) (fun c82 => absurd c82 (by omega))
      refine ow_iload X0 hx (hb hby at_103) rfl (pc' := 105) rfl ?_
      refine ow_iconst X0 hx (z := (3 : Int32)) (hb hby at_105) rfl (pc' := 106) rfl ?_
      refine ow_icmp_ne X0 hx (il.toInt) ((3 : Int)) (hb hby at_106) rfl rfl (by decide) (pt := 132) (by decide) (pf := 109) rfl (fun c106 => absurd c106 (by omega)) (fun c106 => ?_)
      refine ow_iconst X0 hx (z := (3 : Int32)) (hb hby at_109) rfl (pc' := 110) rfl ?_
      refine ow_newP X0 hx hZ (hw _ (List.mem_of_getElem? (i := 1) rfl)) e0 (hb hby at_110) (by decide) 3 (by decide) (by decide) (by decide) (by decide) (pc' := 112) rfl (fun T36 h36 b36 k36 g36 X36 e36 E36 V36 => ?_)
      have g_b36 : n0 ≤ b36 := Nat.le_trans Z0 (Nat.le_of_eq g36.symm)
      have sz_b36 : h0.size ≤ b36 := Nat.le_trans (Keep.refl h0 []).1 (Nat.le_of_eq g36.symm)
      have Zs36 : n0 ≤ h36.size := Nat.le_trans Z0 E36.1
      have K36 := (Keep.refl h0 []).ext E36
      have V_b36 : Arv Z h36 b36 k36 .char (3 : Int32) [(.int (0 : Int32)), (.int (0 : Int32)), (.int (0 : Int32))] (.int (0 : Int32)) := V36.pad (pad_rep [] (.int (0 : Int32)) 3)
      refine ow_dup X36 hx (hb hby at_112) rfl (pc' := 113) rfl ?_
      refine ow_iconst X36 hx (z := (0 : Int32)) (hb hby at_113) rfl (pc' := 114) rfl ?_
      refine ow_iload X36 hx (hb hby at_114) rfl (pc' := 116) rfl ?_
      refine ow_stC X36 hx hZ e36 V_b36 0 rfl (by decide) (by decide) (Nat.le_of_ble_eq_true rfl) (hb hby at_116) (pc' := 117) rfl (fun T37 h37 X37 e37 W37 V37 => ?_)
      obtain ⟨y37, hy37⟩ : ∃ y : Int32, y = (nar .char z3) := ⟨_, rfl⟩
      rw [← hy37] at W37 V37
      have ay37 : (y37.toInt - z3.toInt) % 65536 = 0 ∧ 0 ≤ y37.toInt ∧ y37.toInt < 65536 := by rw [hy37]; exact c_i2c z3
      rw [show y37 = z3 from ow_eq (by omega)] at W37 V37
      have V_b36_37 : Arv Z h37 b36 k36 .char (3 : Int32) [(.int z3), (.int (0 : Int32)), (.int (0 : Int32))] (.int (0 : Int32)) := V37
      have Zs37 : n0 ≤ h37.size := Nat.le_trans Zs36 (Keep.of_wr W37).1
      have K37 := K36.wr W37 (Or.inr sz_b36)
      have N37 := Fr.snoc X37 N0 g_b36
      refine ow_dup X37 hx (hb hby at_117) rfl (pc' := 118) rfl ?_
      refine ow_iconst X37 hx (z := (1 : Int32)) (hb hby at_118) rfl (pc' := 119) rfl ?_
      refine ow_iload X37 hx (hb hby at_119) rfl (pc' := 121) rfl ?_
      refine ow_stC X37 hx hZ e37 V_b36_37 1 rfl (by decide) (by decide) (Nat.le_of_ble_eq_true rfl) (hb hby at_121) (pc' := 122) rfl (fun T38 h38 X38 e38 W38 V38 => ?_)
      obtain ⟨y38, hy38⟩ : ∃ y : Int32, y = (nar .char z5) := ⟨_, rfl⟩
      rw [← hy38] at W38 V38
      have ay38 : (y38.toInt - z5.toInt) % 65536 = 0 ∧ 0 ≤ y38.toInt ∧ y38.toInt < 65536 := by rw [hy38]; exact c_i2c z5
      rw [show y38 = z5 from ow_eq (by omega)] at W38 V38
      have V_b36_38 : Arv Z h38 b36 k36 .char (3 : Int32) [(.int z3), (.int z5), (.int (0 : Int32))] (.int (0 : Int32)) := V38
      have Zs38 : n0 ≤ h38.size := Nat.le_trans Zs37 (Keep.of_wr W38).1
      have K38 := K37.wr W38 (Or.inr sz_b36)
      have N38 := Fr.snoc X38 N37 g_b36
      refine ow_dup X38 hx (hb hby at_122) rfl (pc' := 123) rfl ?_
      refine ow_iconst X38 hx (z := (2 : Int32)) (hb hby at_123) rfl (pc' := 124) rfl ?_
      refine ow_iload X38 hx (hb hby at_124) rfl (pc' := 126) rfl ?_
      refine ow_stC X38 hx hZ e38 V_b36_38 2 rfl (by decide) (by decide) (Nat.le_of_ble_eq_true rfl) (hb hby at_126) (pc' := 127) rfl (fun T39 h39 X39 e39 W39 V39 => ?_)
      obtain ⟨y39, hy39⟩ : ∃ y : Int32, y = (nar .char z7) := ⟨_, rfl⟩
      rw [← hy39] at W39 V39
      have ay39 : (y39.toInt - z7.toInt) % 65536 = 0 ∧ 0 ≤ y39.toInt ∧ y39.toInt < 65536 := by rw [hy39]; exact c_i2c z7
      rw [show y39 = z7 from ow_eq (by omega)] at W39 V39
      have V_b36_39 : Arv Z h39 b36 k36 .char (3 : Int32) [(.int z3), (.int z5), (.int z7)] (.int (0 : Int32)) := V39
      have Zs39 : n0 ≤ h39.size := Nat.le_trans Zs38 (Keep.of_wr W39).1
      have K39 := K38.wr W39 (Or.inr sz_b36)
      have N39 := Fr.snoc X39 N38 g_b36
      refine ow_astore X39 hx (Ls' := #[.val (.int p0), .val (.int p1), .val (.int p2), .val (.int p3), .val (.int p4), .val (.int il), .val (.int z3), .val (.int z5), .val (.int z7), .val (.int z9), .val (.ref b36), .unset, .unset]) (hb hby at_127) rfl rfl (pc' := 129) rfl ?_
      refine ow_goto X39 hx (hb hby at_129) (by decide) (pc' := 157) (by decide) ?_
      have J168 : ∀ (oA : Addr) (oS : Addr) (T40 : State) (hj168 : Heap) (lc168 : List Loc), Stand p l e room_1 (s.setVm s.vm) m #[(.int p0), (.int p1), (.int p2), (.int p3), (.int p4)] below meth c T40 lc168 4 19 → T40.heap = hj168 → Fr n0 lc168 → (Exa Z hj168 oS "java/lang/String") → (Keep h0 hj168 []) → (n0 ≤ hj168.size) → (StrIs Z hj168 oS (3 : Int32) (fun j => ([z3, z5, z7] : List Int32).getD j 0) ∧ Rng (fun j => ([z3, z5, z7] : List Int32).getD j 0)) → Ends p e below (OutI s 24 2176 (Q_law p0 p1 p2 p3 p4 zc wf h0 n0)) T40 (mkF m 168 #[.val (.int p0), .val (.int p1), .val (.int p2), .val (.int p3), .val (.int p4), .val (.int il), .val (.int z3), .val (.int z5), .val (.int z7), .val (.int z9), .val (.ref oA), .val (.ref oS), .unset] []) := by
        intro oA oS T40 hj168 lc168 X40 e40 Nj168 Hf168_0 HK168 HZ168 hi168
        obtain ⟨hSc, hrF⟩ := hi168
        refine ow_iload X40 hx (hb hby at_168) rfl (pc' := 170) rfl ?_
        refine ow_if_le X40 hx (il.toInt) (hb hby at_170) rfl (by decide) (pt := 233) (by decide) (pf := 173) rfl (fun c170 => absurd c170 (by omega)) (fun c170 => ?_)
        refine ow_iload X40 hx (hb hby at_173) rfl (pc' := 175) rfl ?_
        refine ow_iconst X40 hx (z := (1 : Int32)) (hb hby at_175) rfl (pc' := 176) rfl ?_
        refine ow_icmp_lt X40 hx (il.toInt) ((1 : Int)) (hb hby at_176) rfl rfl (by decide) (pt := 187) (by decide) (pf := 179) rfl (fun c176 => absurd c176 (by omega)) (fun c176 => ?_)
        refine ow_iload X40 hx (hb hby at_179) rfl (pc' := 181) rfl ?_
        refine ow_callPI X40 hx hZ hown (hw _ (List.mem_of_getElem? (i := 49) rfl)) (hw _ (List.mem_of_getElem? (i := 50) rfl)) (hw _ (List.mem_of_getElem? (i := 51) rfl)) (hw _ (List.mem_of_getElem? (i := 52) rfl)) (by decide) (rm_okC l Z a0 hw [] z3 hj168 ) e40 0 (by decide) (by decide) (by decide) (by decide) [(.int z3)] (by rw [hml]; rfl) pd_18 rfl rfl rfl (Nat.le_of_eq rfl) (hb hby at_181) (pc' := 184) rfl (fun z41 T41 hz41 X41 e41 => ?_)
        have az41 : (((97 ≤ z3.toInt ∧ z3.toInt ≤ 122) ∨ (65 ≤ z3.toInt ∧ z3.toInt ≤ 90) ∨ (48 ≤ z3.toInt ∧ z3.toInt ≤ 57) ∨ z3.toInt = 45 ∨ z3.toInt = 46 ∨ z3.toInt = 95 ∨ z3.toInt = 126) ∧ z41.toInt = 1) ∨ (¬ ((97 ≤ z3.toInt ∧ z3.toInt ≤ 122) ∨ (65 ≤ z3.toInt ∧ z3.toInt ≤ 90) ∨ (48 ≤ z3.toInt ∧ z3.toInt ≤ 57) ∨ z3.toInt = 45 ∨ z3.toInt = 46 ∨ z3.toInt = 95 ∨ z3.toInt = 126) ∧ z41.toInt = 0) := hz41
        have rz41 := rng32 z41
        have hO0 : (OKc z3.toInt ∧ z41.toInt = 1) ∨ (¬ OKc z3.toInt ∧ z41.toInt = 0) := by have p_ := az41; unfold OKc; omega
        refine ow_if_eq X41 hx (z41.toInt) (hb hby at_184) rfl (by decide) (pt := 233) (by decide) (pf := 187) rfl (fun c184 => ?_) (fun c184 => ?_)
        · have hk0 : ¬ OKc z3.toInt := by rcases hO0 with q_ | q_; exact absurd q_.2 (by omega); exact q_.1
          clear hO0
          refine ow_iconst X41 hx (z := (0 : Int32)) (hb hby at_233) rfl (pc' := 234) rfl ?_
          refine ow_istore X41 hx (Ls' := #[.val (.int p0), .val (.int p1), .val (.int p2), .val (.int p3), .val (.int p4), .val (.int il), .val (.int z3), .val (.int z5), .val (.int z7), .val (.int z9), .val (.ref oA), .val (.ref oS), .val (.int (0 : Int32))]) (hb hby at_234) rfl (pc' := 236) rfl ?_
          refine ow_aload X41 hx (hb hby at_236) rfl rfl (pc' := 238) rfl ?_
          refine ow_callSI X41 hx hZ hown (hw _ (List.mem_of_getElem? (i := 23) rfl)) (hw _ (List.mem_of_getElem? (i := 24) rfl)) (hw _ (List.mem_of_getElem? (i := 25) rfl)) (hw _ (List.mem_of_getElem? (i := 26) rfl)) (by decide) (rm_iu3 l Z a0 hw [] hcw hch oS zc (fun j => ([z3, z5, z7] : List Int32).getD j 0) (3 : Int32) wf hj168 n0 HZ168 (ow_zk hzk hzn HK168 all0) hzn (ow_staKeep S_cs HK168 all0) (by first | assumption | decide | omega | (have q0_ : (3 : Int32).toInt = 3 := (by decide); omega)) Hf168_0 (by first | assumption | decide | omega | (have q0_ : (3 : Int32).toInt = 3 := (by decide); omega)) (ow_staKeep S_ad HK168 all0) (ow_staKeep S_hi HK168 all0) (ow_staKeep S_lo HK168 all0) (ow_staKeep S_f HK168 all0) (by first | assumption | decide | omega | (have q0_ : (3 : Int32).toInt = 3 := (by decide); omega)) (by first | assumption | decide | omega | (have q0_ : (3 : Int32).toInt = 3 := (by decide); omega)) (by first | assumption | decide | omega | (have q0_ : (3 : Int32).toInt = 3 := (by decide); omega)) (by first | assumption | decide | omega | (have q0_ : (3 : Int32).toInt = 3 := (by decide); omega)) (by first | assumption | decide | omega | (have q0_ : (3 : Int32).toInt = 3 := (by decide); omega))) (LT.warm hI0) hS0 (Nat.zero_le _) e41 0 (by decide) (by decide) (by decide) (by decide) [(.ref oS)] (by rw [hml]; rfl) pd_22 rfl rfl rfl (Nat.le_of_eq rfl) (hb hby at_238) (pc' := 241) rfl (fun v42 T42 L42 hQ42 X42 hS42 hZ hown => ?_)
          obtain ⟨z_42, rfl, Nc42, Kc42, P42_0⟩ := hQ42
          have P42_0 : ((OKc ((fun j => ([z3, z5, z7] : List Int32).getD j 0) (0 : Int32).toInt.toNat).toInt ∧ OKc ((fun j => ([z3, z5, z7] : List Int32).getD j 0) (1 : Int32).toInt.toNat).toInt ∧ OKc ((fun j => ([z3, z5, z7] : List Int32).getD j 0) (2 : Int32).toInt.toNat).toInt) ∧ z_42.toInt = 1) ∨ (¬ (OKc ((fun j => ([z3, z5, z7] : List Int32).getD j 0) (0 : Int32).toInt.toNat).toInt ∧ OKc ((fun j => ([z3, z5, z7] : List Int32).getD j 0) (1 : Int32).toInt.toNat).toInt ∧ OKc ((fun j => ([z3, z5, z7] : List Int32).getD j 0) (2 : Int32).toInt.toNat).toInt) ∧ z_42.toInt = 0) := P42_0
          have E_oS_42 := Hf168_0.keep Kc42
          have Zs42 : n0 ≤ T42.heap.size := Nat.le_trans HZ168 Kc42.1
          have K42 := HK168.trans Kc42 all0
          have N42 := Fr.app Nj168 Nc42
          show Ends _ _ _ _ T42 (mkF m 241 #[.val (.int p0), .val (.int p1), .val (.int p2), .val (.int p3), .val (.int p4), .val (.int il), .val (.int z3), .val (.int z5), .val (.int z7), .val (.int z9), .val (.ref oA), .val (.ref oS), .val (.int (0 : Int32))] [(.int z_42)])
          have hres : z_42.toInt = 0 := by rcases P42_0 with q_ | q_; exact absurd (show OKc z3.toInt from q_.1.1) hk0; exact q_.2
          refine ow_iload X42 hx (hb hby at_241) rfl (pc' := 243) rfl ?_
          refine ow_icmp_ne X42 hx (z_42.toInt) ((0 : Int)) (hb hby at_243) rfl rfl (by decide) (pt := 250) (by decide) (pf := 246) rfl (fun c243 => absurd c243 (by omega)) (fun c243 => ?_)
          refine ow_iconst X42 hx (z := (1 : Int32)) (hb hby at_246) rfl (pc' := 247) rfl ?_
          refine ow_goto X42 hx (hb hby at_247) (by decide) (pc' := 251) (by decide) ?_
          exact ow_retBI X42 hx hret hlk (hb hby at_251) hS42 (Nat.le_refl _) (by decide) (by decide) (z' := (1 : Int32)) rfl ⟨rfl, N42⟩
        · have hk0 : OKc z3.toInt := by rcases hO0 with q_ | q_; exact q_.1; exact absurd q_.2 (by omega)
          clear hO0
          refine ow_iload X41 hx (hb hby at_187) rfl (pc' := 189) rfl ?_
          refine ow_iconst X41 hx (z := (2 : Int32)) (hb hby at_189) rfl (pc' := 190) rfl ?_
          refine ow_icmp_lt X41 hx (il.toInt) ((2 : Int)) (hb hby at_190) rfl rfl (by decide) (pt := 201) (by decide) (pf := 193) rfl (fun c190 => absurd c190 (by omega)) (fun c190 => ?_)
          refine ow_iload X41 hx (hb hby at_193) rfl (pc' := 195) rfl ?_
          refine ow_callPI X41 hx hZ hown (hw _ (List.mem_of_getElem? (i := 49) rfl)) (hw _ (List.mem_of_getElem? (i := 50) rfl)) (hw _ (List.mem_of_getElem? (i := 51) rfl)) (hw _ (List.mem_of_getElem? (i := 52) rfl)) (by decide) (rm_okC l Z a0 hw [] z5 hj168 ) e41 0 (by decide) (by decide) (by decide) (by decide) [(.int z5)] (by rw [hml]; rfl) pd_18 rfl rfl rfl (Nat.le_of_eq rfl) (hb hby at_195) (pc' := 198) rfl (fun z43 T43 hz43 X43 e43 => ?_)
          have az43 : (((97 ≤ z5.toInt ∧ z5.toInt ≤ 122) ∨ (65 ≤ z5.toInt ∧ z5.toInt ≤ 90) ∨ (48 ≤ z5.toInt ∧ z5.toInt ≤ 57) ∨ z5.toInt = 45 ∨ z5.toInt = 46 ∨ z5.toInt = 95 ∨ z5.toInt = 126) ∧ z43.toInt = 1) ∨ (¬ ((97 ≤ z5.toInt ∧ z5.toInt ≤ 122) ∨ (65 ≤ z5.toInt ∧ z5.toInt ≤ 90) ∨ (48 ≤ z5.toInt ∧ z5.toInt ≤ 57) ∨ z5.toInt = 45 ∨ z5.toInt = 46 ∨ z5.toInt = 95 ∨ z5.toInt = 126) ∧ z43.toInt = 0) := hz43
          have rz43 := rng32 z43
          have hO1 : (OKc z5.toInt ∧ z43.toInt = 1) ∨ (¬ OKc z5.toInt ∧ z43.toInt = 0) := by have p_ := az43; unfold OKc; omega
          refine ow_if_eq X43 hx (z43.toInt) (hb hby at_198) rfl (by decide) (pt := 233) (by decide) (pf := 201) rfl (fun c198 => ?_) (fun c198 => ?_)
          · have hk1 : ¬ OKc z5.toInt := by rcases hO1 with q_ | q_; exact absurd q_.2 (by omega); exact q_.1
            clear hO1
            refine ow_iconst X43 hx (z := (0 : Int32)) (hb hby at_233) rfl (pc' := 234) rfl ?_
            refine ow_istore X43 hx (Ls' := #[.val (.int p0), .val (.int p1), .val (.int p2), .val (.int p3), .val (.int p4), .val (.int il), .val (.int z3), .val (.int z5), .val (.int z7), .val (.int z9), .val (.ref oA), .val (.ref oS), .val (.int (0 : Int32))]) (hb hby at_234) rfl (pc' := 236) rfl ?_
            refine ow_aload X43 hx (hb hby at_236) rfl rfl (pc' := 238) rfl ?_
            refine ow_callSI X43 hx hZ hown (hw _ (List.mem_of_getElem? (i := 23) rfl)) (hw _ (List.mem_of_getElem? (i := 24) rfl)) (hw _ (List.mem_of_getElem? (i := 25) rfl)) (hw _ (List.mem_of_getElem? (i := 26) rfl)) (by decide) (rm_iu3 l Z a0 hw [] hcw hch oS zc (fun j => ([z3, z5, z7] : List Int32).getD j 0) (3 : Int32) wf hj168 n0 HZ168 (ow_zk hzk hzn HK168 all0) hzn (ow_staKeep S_cs HK168 all0) (by first | assumption | decide | omega | (have q0_ : (3 : Int32).toInt = 3 := (by decide); omega)) Hf168_0 (by first | assumption | decide | omega | (have q0_ : (3 : Int32).toInt = 3 := (by decide); omega)) (ow_staKeep S_ad HK168 all0) (ow_staKeep S_hi HK168 all0) (ow_staKeep S_lo HK168 all0) (ow_staKeep S_f HK168 all0) (by first | assumption | decide | omega | (have q0_ : (3 : Int32).toInt = 3 := (by decide); omega)) (by first | assumption | decide | omega | (have q0_ : (3 : Int32).toInt = 3 := (by decide); omega)) (by first | assumption | decide | omega | (have q0_ : (3 : Int32).toInt = 3 := (by decide); omega)) (by first | assumption | decide | omega | (have q0_ : (3 : Int32).toInt = 3 := (by decide); omega)) (by first | assumption | decide | omega | (have q0_ : (3 : Int32).toInt = 3 := (by decide); omega))) (LT.warm hI0) hS0 (Nat.zero_le _) e43 0 (by decide) (by decide) (by decide) (by decide) [(.ref oS)] (by rw [hml]; rfl) pd_22 rfl rfl rfl (Nat.le_of_eq rfl) (hb hby at_238) (pc' := 241) rfl (fun v44 T44 L44 hQ44 X44 hS44 hZ hown => ?_)
            obtain ⟨z_44, rfl, Nc44, Kc44, P44_0⟩ := hQ44
            have P44_0 : ((OKc ((fun j => ([z3, z5, z7] : List Int32).getD j 0) (0 : Int32).toInt.toNat).toInt ∧ OKc ((fun j => ([z3, z5, z7] : List Int32).getD j 0) (1 : Int32).toInt.toNat).toInt ∧ OKc ((fun j => ([z3, z5, z7] : List Int32).getD j 0) (2 : Int32).toInt.toNat).toInt) ∧ z_44.toInt = 1) ∨ (¬ (OKc ((fun j => ([z3, z5, z7] : List Int32).getD j 0) (0 : Int32).toInt.toNat).toInt ∧ OKc ((fun j => ([z3, z5, z7] : List Int32).getD j 0) (1 : Int32).toInt.toNat).toInt ∧ OKc ((fun j => ([z3, z5, z7] : List Int32).getD j 0) (2 : Int32).toInt.toNat).toInt) ∧ z_44.toInt = 0) := P44_0
            have E_oS_44 := Hf168_0.keep Kc44
            have Zs44 : n0 ≤ T44.heap.size := Nat.le_trans HZ168 Kc44.1
            have K44 := HK168.trans Kc44 all0
            have N44 := Fr.app Nj168 Nc44
            show Ends _ _ _ _ T44 (mkF m 241 #[.val (.int p0), .val (.int p1), .val (.int p2), .val (.int p3), .val (.int p4), .val (.int il), .val (.int z3), .val (.int z5), .val (.int z7), .val (.int z9), .val (.ref oA), .val (.ref oS), .val (.int (0 : Int32))] [(.int z_44)])
            have hres : z_44.toInt = 0 := by rcases P44_0 with q_ | q_; exact absurd (show OKc z5.toInt from q_.1.2.1) hk1; exact q_.2
            refine ow_iload X44 hx (hb hby at_241) rfl (pc' := 243) rfl ?_
            refine ow_icmp_ne X44 hx (z_44.toInt) ((0 : Int)) (hb hby at_243) rfl rfl (by decide) (pt := 250) (by decide) (pf := 246) rfl (fun c243 => absurd c243 (by omega)) (fun c243 => ?_)
            refine ow_iconst X44 hx (z := (1 : Int32)) (hb hby at_246) rfl (pc' := 247) rfl ?_
            refine ow_goto X44 hx (hb hby at_247) (by decide) (pc' := 251) (by decide) ?_
            exact ow_retBI X44 hx hret hlk (hb hby at_251) hS44 (Nat.le_refl _) (by decide) (by decide) (z' := (1 : Int32)) rfl ⟨rfl, N44⟩
          · have hk1 : OKc z5.toInt := by rcases hO1 with q_ | q_; exact q_.1; exact absurd q_.2 (by omega)
            clear hO1
            refine ow_iload X43 hx (hb hby at_201) rfl (pc' := 203) rfl ?_
            refine ow_iconst X43 hx (z := (3 : Int32)) (hb hby at_203) rfl (pc' := 204) rfl ?_
            refine ow_icmp_lt X43 hx (il.toInt) ((3 : Int)) (hb hby at_204) rfl rfl (by decide) (pt := 215) (by decide) (pf := 207) rfl (fun c204 => absurd c204 (by omega)) (fun c204 => ?_)
            refine ow_iload X43 hx (hb hby at_207) rfl (pc' := 209) rfl ?_
            refine ow_callPI X43 hx hZ hown (hw _ (List.mem_of_getElem? (i := 49) rfl)) (hw _ (List.mem_of_getElem? (i := 50) rfl)) (hw _ (List.mem_of_getElem? (i := 51) rfl)) (hw _ (List.mem_of_getElem? (i := 52) rfl)) (by decide) (rm_okC l Z a0 hw [] z7 hj168 ) e43 0 (by decide) (by decide) (by decide) (by decide) [(.int z7)] (by rw [hml]; rfl) pd_18 rfl rfl rfl (Nat.le_of_eq rfl) (hb hby at_209) (pc' := 212) rfl (fun z45 T45 hz45 X45 e45 => ?_)
            have az45 : (((97 ≤ z7.toInt ∧ z7.toInt ≤ 122) ∨ (65 ≤ z7.toInt ∧ z7.toInt ≤ 90) ∨ (48 ≤ z7.toInt ∧ z7.toInt ≤ 57) ∨ z7.toInt = 45 ∨ z7.toInt = 46 ∨ z7.toInt = 95 ∨ z7.toInt = 126) ∧ z45.toInt = 1) ∨ (¬ ((97 ≤ z7.toInt ∧ z7.toInt ≤ 122) ∨ (65 ≤ z7.toInt ∧ z7.toInt ≤ 90) ∨ (48 ≤ z7.toInt ∧ z7.toInt ≤ 57) ∨ z7.toInt = 45 ∨ z7.toInt = 46 ∨ z7.toInt = 95 ∨ z7.toInt = 126) ∧ z45.toInt = 0) := hz45
            have rz45 := rng32 z45
            have hO2 : (OKc z7.toInt ∧ z45.toInt = 1) ∨ (¬ OKc z7.toInt ∧ z45.toInt = 0) := by have p_ := az45; unfold OKc; omega
            refine ow_if_eq X45 hx (z45.toInt) (hb hby at_212) rfl (by decide) (pt := 233) (by decide) (pf := 215) rfl (fun c212 => ?_) (fun c212 => ?_)
            · have hk2 : ¬ OKc z7.toInt := by rcases hO2 with q_ | q_; exact absurd q_.2 (by omega); exact q_.1
              clear hO2
              refine ow_iconst X45 hx (z := (0 : Int32)) (hb hby at_233) rfl (pc' := 234) rfl ?_
              refine ow_istore X45 hx (Ls' := #[.val (.int p0), .val (.int p1), .val (.int p2), .val (.int p3), .val (.int p4), .val (.int il), .val (.int z3), .val (.int z5), .val (.int z7), .val (.int z9), .val (.ref oA), .val (.ref oS), .val (.int (0 : Int32))]) (hb hby at_234) rfl (pc' := 236) rfl ?_
              refine ow_aload X45 hx (hb hby at_236) rfl rfl (pc' := 238) rfl ?_
              refine ow_callSI X45 hx hZ hown (hw _ (List.mem_of_getElem? (i := 23) rfl)) (hw _ (List.mem_of_getElem? (i := 24) rfl)) (hw _ (List.mem_of_getElem? (i := 25) rfl)) (hw _ (List.mem_of_getElem? (i := 26) rfl)) (by decide) (rm_iu3 l Z a0 hw [] hcw hch oS zc (fun j => ([z3, z5, z7] : List Int32).getD j 0) (3 : Int32) wf hj168 n0 HZ168 (ow_zk hzk hzn HK168 all0) hzn (ow_staKeep S_cs HK168 all0) (by first | assumption | decide | omega | (have q0_ : (3 : Int32).toInt = 3 := (by decide); omega)) Hf168_0 (by first | assumption | decide | omega | (have q0_ : (3 : Int32).toInt = 3 := (by decide); omega)) (ow_staKeep S_ad HK168 all0) (ow_staKeep S_hi HK168 all0) (ow_staKeep S_lo HK168 all0) (ow_staKeep S_f HK168 all0) (by first | assumption | decide | omega | (have q0_ : (3 : Int32).toInt = 3 := (by decide); omega)) (by first | assumption | decide | omega | (have q0_ : (3 : Int32).toInt = 3 := (by decide); omega)) (by first | assumption | decide | omega | (have q0_ : (3 : Int32).toInt = 3 := (by decide); omega)) (by first | assumption | decide | omega | (have q0_ : (3 : Int32).toInt = 3 := (by decide); omega)) (by first | assumption | decide | omega | (have q0_ : (3 : Int32).toInt = 3 := (by decide); omega))) (LT.warm hI0) hS0 (Nat.zero_le _) e45 0 (by decide) (by decide) (by decide) (by decide) [(.ref oS)] (by rw [hml]; rfl) pd_22 rfl rfl rfl (Nat.le_of_eq rfl) (hb hby at_238) (pc' := 241) rfl (fun v46 T46 L46 hQ46 X46 hS46 hZ hown => ?_)
              obtain ⟨z_46, rfl, Nc46, Kc46, P46_0⟩ := hQ46
              have P46_0 : ((OKc ((fun j => ([z3, z5, z7] : List Int32).getD j 0) (0 : Int32).toInt.toNat).toInt ∧ OKc ((fun j => ([z3, z5, z7] : List Int32).getD j 0) (1 : Int32).toInt.toNat).toInt ∧ OKc ((fun j => ([z3, z5, z7] : List Int32).getD j 0) (2 : Int32).toInt.toNat).toInt) ∧ z_46.toInt = 1) ∨ (¬ (OKc ((fun j => ([z3, z5, z7] : List Int32).getD j 0) (0 : Int32).toInt.toNat).toInt ∧ OKc ((fun j => ([z3, z5, z7] : List Int32).getD j 0) (1 : Int32).toInt.toNat).toInt ∧ OKc ((fun j => ([z3, z5, z7] : List Int32).getD j 0) (2 : Int32).toInt.toNat).toInt) ∧ z_46.toInt = 0) := P46_0
              have E_oS_46 := Hf168_0.keep Kc46
              have Zs46 : n0 ≤ T46.heap.size := Nat.le_trans HZ168 Kc46.1
              have K46 := HK168.trans Kc46 all0
              have N46 := Fr.app Nj168 Nc46
              show Ends _ _ _ _ T46 (mkF m 241 #[.val (.int p0), .val (.int p1), .val (.int p2), .val (.int p3), .val (.int p4), .val (.int il), .val (.int z3), .val (.int z5), .val (.int z7), .val (.int z9), .val (.ref oA), .val (.ref oS), .val (.int (0 : Int32))] [(.int z_46)])
              have hres : z_46.toInt = 0 := by rcases P46_0 with q_ | q_; exact absurd (show OKc z7.toInt from q_.1.2.2) hk2; exact q_.2
              refine ow_iload X46 hx (hb hby at_241) rfl (pc' := 243) rfl ?_
              refine ow_icmp_ne X46 hx (z_46.toInt) ((0 : Int)) (hb hby at_243) rfl rfl (by decide) (pt := 250) (by decide) (pf := 246) rfl (fun c243 => absurd c243 (by omega)) (fun c243 => ?_)
              refine ow_iconst X46 hx (z := (1 : Int32)) (hb hby at_246) rfl (pc' := 247) rfl ?_
              refine ow_goto X46 hx (hb hby at_247) (by decide) (pc' := 251) (by decide) ?_
              exact ow_retBI X46 hx hret hlk (hb hby at_251) hS46 (Nat.le_refl _) (by decide) (by decide) (z' := (1 : Int32)) rfl ⟨rfl, N46⟩
            · have hk2 : OKc z7.toInt := by rcases hO2 with q_ | q_; exact q_.1; exact absurd q_.2 (by omega)
              clear hO2
              refine ow_iload X45 hx (hb hby at_215) rfl (pc' := 217) rfl ?_
              refine ow_iconst X45 hx (z := (4 : Int32)) (hb hby at_217) rfl (pc' := 218) rfl ?_
              refine ow_icmp_lt X45 hx (il.toInt) ((4 : Int)) (hb hby at_218) rfl rfl (by decide) (pt := 229) (by decide) (pf := 221) rfl (fun c218 => ?_) (fun c218 => absurd c218 (by omega))
              refine ow_iconst X45 hx (z := (1 : Int32)) (hb hby at_229) rfl (pc' := 230) rfl ?_
              refine ow_goto X45 hx (hb hby at_230) (by decide) (pc' := 234) (by decide) ?_
              refine ow_istore X45 hx (Ls' := #[.val (.int p0), .val (.int p1), .val (.int p2), .val (.int p3), .val (.int p4), .val (.int il), .val (.int z3), .val (.int z5), .val (.int z7), .val (.int z9), .val (.ref oA), .val (.ref oS), .val (.int (1 : Int32))]) (hb hby at_234) rfl (pc' := 236) rfl ?_
              refine ow_aload X45 hx (hb hby at_236) rfl rfl (pc' := 238) rfl ?_
              refine ow_callSI X45 hx hZ hown (hw _ (List.mem_of_getElem? (i := 23) rfl)) (hw _ (List.mem_of_getElem? (i := 24) rfl)) (hw _ (List.mem_of_getElem? (i := 25) rfl)) (hw _ (List.mem_of_getElem? (i := 26) rfl)) (by decide) (rm_iu3 l Z a0 hw [] hcw hch oS zc (fun j => ([z3, z5, z7] : List Int32).getD j 0) (3 : Int32) wf hj168 n0 HZ168 (ow_zk hzk hzn HK168 all0) hzn (ow_staKeep S_cs HK168 all0) (by first | assumption | decide | omega | (have q0_ : (3 : Int32).toInt = 3 := (by decide); omega)) Hf168_0 (by first | assumption | decide | omega | (have q0_ : (3 : Int32).toInt = 3 := (by decide); omega)) (ow_staKeep S_ad HK168 all0) (ow_staKeep S_hi HK168 all0) (ow_staKeep S_lo HK168 all0) (ow_staKeep S_f HK168 all0) (by first | assumption | decide | omega | (have q0_ : (3 : Int32).toInt = 3 := (by decide); omega)) (by first | assumption | decide | omega | (have q0_ : (3 : Int32).toInt = 3 := (by decide); omega)) (by first | assumption | decide | omega | (have q0_ : (3 : Int32).toInt = 3 := (by decide); omega)) (by first | assumption | decide | omega | (have q0_ : (3 : Int32).toInt = 3 := (by decide); omega)) (by first | assumption | decide | omega | (have q0_ : (3 : Int32).toInt = 3 := (by decide); omega))) (LT.warm hI0) hS0 (Nat.zero_le _) e45 0 (by decide) (by decide) (by decide) (by decide) [(.ref oS)] (by rw [hml]; rfl) pd_22 rfl rfl rfl (Nat.le_of_eq rfl) (hb hby at_238) (pc' := 241) rfl (fun v47 T47 L47 hQ47 X47 hS47 hZ hown => ?_)
              obtain ⟨z_47, rfl, Nc47, Kc47, P47_0⟩ := hQ47
              have P47_0 : ((OKc ((fun j => ([z3, z5, z7] : List Int32).getD j 0) (0 : Int32).toInt.toNat).toInt ∧ OKc ((fun j => ([z3, z5, z7] : List Int32).getD j 0) (1 : Int32).toInt.toNat).toInt ∧ OKc ((fun j => ([z3, z5, z7] : List Int32).getD j 0) (2 : Int32).toInt.toNat).toInt) ∧ z_47.toInt = 1) ∨ (¬ (OKc ((fun j => ([z3, z5, z7] : List Int32).getD j 0) (0 : Int32).toInt.toNat).toInt ∧ OKc ((fun j => ([z3, z5, z7] : List Int32).getD j 0) (1 : Int32).toInt.toNat).toInt ∧ OKc ((fun j => ([z3, z5, z7] : List Int32).getD j 0) (2 : Int32).toInt.toNat).toInt) ∧ z_47.toInt = 0) := P47_0
              have E_oS_47 := Hf168_0.keep Kc47
              have Zs47 : n0 ≤ T47.heap.size := Nat.le_trans HZ168 Kc47.1
              have K47 := HK168.trans Kc47 all0
              have N47 := Fr.app Nj168 Nc47
              show Ends _ _ _ _ T47 (mkF m 241 #[.val (.int p0), .val (.int p1), .val (.int p2), .val (.int p3), .val (.int p4), .val (.int il), .val (.int z3), .val (.int z5), .val (.int z7), .val (.int z9), .val (.ref oA), .val (.ref oS), .val (.int (1 : Int32))] [(.int z_47)])
              have hres : z_47.toInt = 1 := by rcases P47_0 with q_ | q_; exact q_.2; exact absurd (show OKc ((fun j => ([z3, z5, z7] : List Int32).getD j 0) (0 : Int32).toInt.toNat).toInt ∧ OKc ((fun j => ([z3, z5, z7] : List Int32).getD j 0) (1 : Int32).toInt.toNat).toInt ∧ OKc ((fun j => ([z3, z5, z7] : List Int32).getD j 0) (2 : Int32).toInt.toNat).toInt from ⟨hk0, hk1, hk2⟩) q_.1
              refine ow_iload X47 hx (hb hby at_241) rfl (pc' := 243) rfl ?_
              refine ow_icmp_ne X47 hx (z_47.toInt) ((1 : Int)) (hb hby at_243) rfl rfl (by decide) (pt := 250) (by decide) (pf := 246) rfl (fun c243 => absurd c243 (by omega)) (fun c243 => ?_)
              refine ow_iconst X47 hx (z := (1 : Int32)) (hb hby at_246) rfl (pc' := 247) rfl ?_
              refine ow_goto X47 hx (hb hby at_247) (by decide) (pc' := 251) (by decide) ?_
              exact ow_retBI X47 hx hret hlk (hb hby at_251) hS47 (Nat.le_refl _) (by decide) (by decide) (z' := (1 : Int32)) rfl ⟨rfl, N47⟩
      refine ow_new X39 hx hZ hown (hw _ (List.mem_of_getElem? (i := 2) rfl)) (hw _ (List.mem_of_getElem? (i := 3) rfl)) (hw _ (List.mem_of_getElem? (i := 4) rfl)) e39 (hb hby at_157) (by decide) (by decide) (pc' := 160) rfl (fun T48 h48 b48 g48 X48 e48 E48 A48 D48 => ?_)
      have ne_b36_b48 : b36 ≠ b48 := Nat.ne_of_lt (Nat.lt_of_lt_of_le V_b36_39.lt (Nat.le_of_eq g48.symm))
      have g_b48 : n0 ≤ b48 := Nat.le_trans Zs39 (Nat.le_of_eq g48.symm)
      have sz_b48 : h0.size ≤ b48 := Nat.le_trans K39.1 (Nat.le_of_eq g48.symm)
      have V_b36_48 := V_b36_39.ext E48
      have Zs48 : n0 ≤ h48.size := Nat.le_trans Zs39 E48.1
      have K48 := K39.ext E48
      have F_b48_value : Fld Z h48 b48 "java/lang/String" "value" "[B" .null := D48 (Or.inr (hw _ (List.mem_of_getElem? (i := 17) rfl))) (ty := (.array .byte)) (by decide)
      have F_b48_coder : Fld Z h48 b48 "java/lang/String" "coder" "B" (.int (0 : Int32)) := D48 (Or.inr (hw _ (List.mem_of_getElem? (i := 18) rfl))) (ty := .byte) (by decide)
      rcases (show (z3.toInt ≤ 255 ∧ z5.toInt ≤ 255 ∧ z7.toInt ≤ 255) ∨ 255 < z3.toInt ∨ 255 < z5.toInt ∨ 255 < z7.toInt from by omega) with hsm | hbg | hbg | hbg
      · refine ow_dup X48 hx (hb hby at_160) rfl (pc' := 161) rfl ?_
        refine ow_aload X48 hx (hb hby at_161) rfl rfl (pc' := 163) rfl ?_
        have V_bl : Arv Z h48 b36 k36 .char (3 : Int32) (BL (fun j => ([z3, z5, z7] : List Int32).getD j 0)) (.int (0 : Int32)) := V_b36_48.pad (BL_of ([z3, z5, z7] : List Int32) (Nat.le_of_ble_eq_true rfl))
        have hrF : Rng (fun j => ([z3, z5, z7] : List Int32).getD j 0) := Rng_of (fun x hx_ => by simp only [List.mem_cons, List.not_mem_nil, or_false] at hx_; rcases hx_ with rfl | rfl | rfl <;> omega)
        have hsF : Sml (fun j => ([z3, z5, z7] : List Int32).getD j 0) := Sml_of (fun x hx_ => by simp only [List.mem_cons, List.not_mem_nil, or_false] at hx_; rcases hx_ with rfl | rfl | rfl <;> omega)
        refine ow_callI X48 hx hZ rfl rfl hown (hw _ (List.mem_of_getElem? (i := 5) rfl)) (hw _ (List.mem_of_getElem? (i := 6) rfl)) (hw _ (List.mem_of_getElem? (i := 4) rfl)) (hw _ (List.mem_of_getElem? (i := 7) rfl)) (by decide) (rm_sjL l Z a0 hw [] b48 b36 zc k36 (fun j => ([z3, z5, z7] : List Int32).getD j 0) (3 : Int32) h48 n0 Zs48 (ow_staKeep S_cs K48 all0) (by first | assumption | decide | omega | (have q0_ : (3 : Int32).toInt = 3 := (by decide); omega)) (ow_staKeep S_ad K48 all0) (ow_staKeep S_hi K48 all0) (ow_staKeep S_lo K48 all0) A48 F_b48_coder F_b48_value g_b48 V_bl (Ne.symm ne_b36_b48) (by first | assumption | decide | omega | (have q0_ : (3 : Int32).toInt = 3 := (by decide); omega)) (by first | assumption | decide | omega | (have q0_ : (3 : Int32).toInt = 3 := (by decide); omega)) (by first | assumption | decide | omega | (have q0_ : (3 : Int32).toInt = 3 := (by decide); omega)) (by first | assumption | decide | omega | (have q0_ : (3 : Int32).toInt = 3 := (by decide); omega))) e48 1 (by decide) (by decide) (by decide) (by decide) [(.ref b36)] (by rw [hml]; rfl) pd_21 rfl rfl rfl (Nat.le_of_eq rfl) (hb hby at_163) (pc' := 166) rfl (fun v49 T49 L49 hQ49 X49 => ?_)
        obtain ⟨b49, kt_49, fr_49, rfl, Nc49, Kc49, P49_0, P49_1, P49_2, P49_3, P49_4, P49_5, P49_6, P49_7⟩ := hQ49
        have P49_7 : LatF (3 : Int) fr_49 (fun j => ([z3, z5, z7] : List Int32).getD j 0) := P49_7
        have V_b36_49 := V_bl.keep Kc49 (ninS ne_b36_b48 nin0)
        have ne_b36_b49 : b36 ≠ b49 := Nat.ne_of_lt (Nat.lt_of_lt_of_le V_bl.lt P49_5)
        have ne_b48_b49 : b48 ≠ b49 := Nat.ne_of_lt (Nat.lt_of_lt_of_le A48.lt P49_5)
        have sz_b49 : h0.size ≤ b49 := Nat.le_trans K48.1 P49_5
        have Zs49 : n0 ≤ T49.heap.size := Nat.le_trans Zs48 Kc49.1
        have K49 := K48.trans Kc49 (allS (Or.inr sz_b48) all0)
        have N49 := Fr.app N39 Nc49
        show Ends _ _ _ _ T49 (mkF m 166 #[.val (.int p0), .val (.int p1), .val (.int p2), .val (.int p3), .val (.int p4), .val (.int il), .val (.int z3), .val (.int z5), .val (.int z7), .val (.int z9), .val (.ref b36), .unset, .unset] [(.ref b48)])
        refine ow_astore X49 hx (Ls' := #[.val (.int p0), .val (.int p1), .val (.int p2), .val (.int p3), .val (.int p4), .val (.int il), .val (.int z3), .val (.int z5), .val (.int z7), .val (.int z9), .val (.ref b36), .val (.ref b48), .unset]) (hb hby at_166) rfl rfl (pc' := 168) rfl ?_
        have hSi : StrIs Z T49.heap b48 (3 : Int32) (fun j => ([z3, z5, z7] : List Int32).getD j 0) := ⟨b49, kt_49, (3 : Int32), fr_49, P49_2, P49_3, Or.inl ⟨P49_1, rfl, P49_7, hsF⟩⟩
        exact J168 b36 b48 T49 T49.heap _ (X49.mono (by decide) (by decide)) rfl N49 (show Exa Z T49.heap b48 "java/lang/String" from P49_0) K49 Zs49 (show StrIs Z T49.heap b48 (3 : Int32) (fun j => ([z3, z5, z7] : List Int32).getD j 0) ∧ Rng (fun j => ([z3, z5, z7] : List Int32).getD j 0) from by exact ⟨hSi, hrF⟩)
      · refine ow_dup X48 hx (hb hby at_160) rfl (pc' := 161) rfl ?_
        refine ow_aload X48 hx (hb hby at_161) rfl rfl (pc' := 163) rfl ?_
        have V_bl : Arv Z h48 b36 k36 .char (3 : Int32) (BL (fun j => ([z3, z5, z7] : List Int32).getD j 0)) (.int (0 : Int32)) := V_b36_48.pad (BL_of ([z3, z5, z7] : List Int32) (Nat.le_of_ble_eq_true rfl))
        have hrF : Rng (fun j => ([z3, z5, z7] : List Int32).getD j 0) := Rng_of (fun x hx_ => by simp only [List.mem_cons, List.not_mem_nil, or_false] at hx_; rcases hx_ with rfl | rfl | rfl <;> omega)
        have hbF : 255 < ((fun j => ([z3, z5, z7] : List Int32).getD j 0) 0).toInt := show 255 < z3.toInt from by omega
        refine ow_callI X48 hx hZ rfl rfl hown (hw _ (List.mem_of_getElem? (i := 5) rfl)) (hw _ (List.mem_of_getElem? (i := 6) rfl)) (hw _ (List.mem_of_getElem? (i := 4) rfl)) (hw _ (List.mem_of_getElem? (i := 7) rfl)) (by decide) (rm_sjU l Z a0 hw [] b48 b36 zc k36 (fun j => ([z3, z5, z7] : List Int32).getD j 0) (0 : Nat) (3 : Int32) h48 n0 Zs48 (ow_staKeep S_cs K48 all0) (by first | assumption | decide | omega | (have q0_ : (3 : Int32).toInt = 3 := (by decide); omega)) (ow_staKeep S_ad K48 all0) (ow_staKeep S_hi K48 all0) (ow_staKeep S_lo K48 all0) A48 F_b48_coder F_b48_value g_b48 V_bl (Ne.symm ne_b36_b48) (by first | assumption | decide | omega | (have q0_ : (3 : Int32).toInt = 3 := (by decide); omega)) (by first | assumption | decide | omega | (have q0_ : (3 : Int32).toInt = 3 := (by decide); omega)) (by first | assumption | decide | omega | (have q0_ : (3 : Int32).toInt = 3 := (by decide); omega)) (by first | assumption | decide | omega | (have q0_ : (3 : Int32).toInt = 3 := (by decide); omega)) (by first | assumption | decide | omega | (have q0_ : (3 : Int32).toInt = 3 := (by decide); omega))) e48 1 (by decide) (by decide) (by decide) (by decide) [(.ref b36)] (by rw [hml]; rfl) pd_21 rfl rfl rfl (Nat.le_of_eq rfl) (hb hby at_163) (pc' := 166) rfl (fun v50 T50 L50 hQ50 X50 => ?_)
        obtain ⟨b50, kt_50, fr_50, pm_50, rfl, Nc50, Kc50, P50_0, P50_1, P50_2, P50_3, P50_4, P50_5, P50_6, P50_7, P50_8⟩ := hQ50
        have P50_7 : pm_50.toInt = 2 * (3 : Int) := P50_7
        have P50_8 : UtfF (3 : Int) fr_50 (fun j => ([z3, z5, z7] : List Int32).getD j 0) := P50_8
        have V_b36_50 := V_bl.keep Kc50 (ninS ne_b36_b48 nin0)
        have ne_b36_b50 : b36 ≠ b50 := Nat.ne_of_lt (Nat.lt_of_lt_of_le V_bl.lt P50_5)
        have ne_b48_b50 : b48 ≠ b50 := Nat.ne_of_lt (Nat.lt_of_lt_of_le A48.lt P50_5)
        have sz_b50 : h0.size ≤ b50 := Nat.le_trans K48.1 P50_5
        have Zs50 : n0 ≤ T50.heap.size := Nat.le_trans Zs48 Kc50.1
        have K50 := K48.trans Kc50 (allS (Or.inr sz_b48) all0)
        have N50 := Fr.app N39 Nc50
        show Ends _ _ _ _ T50 (mkF m 166 #[.val (.int p0), .val (.int p1), .val (.int p2), .val (.int p3), .val (.int p4), .val (.int il), .val (.int z3), .val (.int z5), .val (.int z7), .val (.int z9), .val (.ref b36), .unset, .unset] [(.ref b48)])
        refine ow_astore X50 hx (Ls' := #[.val (.int p0), .val (.int p1), .val (.int p2), .val (.int p3), .val (.int p4), .val (.int il), .val (.int z3), .val (.int z5), .val (.int z7), .val (.int z9), .val (.ref b36), .val (.ref b48), .unset]) (hb hby at_166) rfl rfl (pc' := 168) rfl ?_
        have hSi : StrIs Z T50.heap b48 (3 : Int32) (fun j => ([z3, z5, z7] : List Int32).getD j 0) := ⟨b50, kt_50, pm_50, fr_50, P50_2, P50_3, Or.inr ⟨P50_1, P50_7, P50_8⟩⟩
        exact J168 b36 b48 T50 T50.heap _ X50 rfl N50 (show Exa Z T50.heap b48 "java/lang/String" from P50_0) K50 Zs50 (show StrIs Z T50.heap b48 (3 : Int32) (fun j => ([z3, z5, z7] : List Int32).getD j 0) ∧ Rng (fun j => ([z3, z5, z7] : List Int32).getD j 0) from by exact ⟨hSi, hrF⟩)
      · refine ow_dup X48 hx (hb hby at_160) rfl (pc' := 161) rfl ?_
        refine ow_aload X48 hx (hb hby at_161) rfl rfl (pc' := 163) rfl ?_
        have V_bl : Arv Z h48 b36 k36 .char (3 : Int32) (BL (fun j => ([z3, z5, z7] : List Int32).getD j 0)) (.int (0 : Int32)) := V_b36_48.pad (BL_of ([z3, z5, z7] : List Int32) (Nat.le_of_ble_eq_true rfl))
        have hrF : Rng (fun j => ([z3, z5, z7] : List Int32).getD j 0) := Rng_of (fun x hx_ => by simp only [List.mem_cons, List.not_mem_nil, or_false] at hx_; rcases hx_ with rfl | rfl | rfl <;> omega)
        have hbF : 255 < ((fun j => ([z3, z5, z7] : List Int32).getD j 0) 1).toInt := show 255 < z5.toInt from by omega
        refine ow_callI X48 hx hZ rfl rfl hown (hw _ (List.mem_of_getElem? (i := 5) rfl)) (hw _ (List.mem_of_getElem? (i := 6) rfl)) (hw _ (List.mem_of_getElem? (i := 4) rfl)) (hw _ (List.mem_of_getElem? (i := 7) rfl)) (by decide) (rm_sjU l Z a0 hw [] b48 b36 zc k36 (fun j => ([z3, z5, z7] : List Int32).getD j 0) (1 : Nat) (3 : Int32) h48 n0 Zs48 (ow_staKeep S_cs K48 all0) (by first | assumption | decide | omega | (have q0_ : (3 : Int32).toInt = 3 := (by decide); omega)) (ow_staKeep S_ad K48 all0) (ow_staKeep S_hi K48 all0) (ow_staKeep S_lo K48 all0) A48 F_b48_coder F_b48_value g_b48 V_bl (Ne.symm ne_b36_b48) (by first | assumption | decide | omega | (have q0_ : (3 : Int32).toInt = 3 := (by decide); omega)) (by first | assumption | decide | omega | (have q0_ : (3 : Int32).toInt = 3 := (by decide); omega)) (by first | assumption | decide | omega | (have q0_ : (3 : Int32).toInt = 3 := (by decide); omega)) (by first | assumption | decide | omega | (have q0_ : (3 : Int32).toInt = 3 := (by decide); omega)) (by first | assumption | decide | omega | (have q0_ : (3 : Int32).toInt = 3 := (by decide); omega))) e48 1 (by decide) (by decide) (by decide) (by decide) [(.ref b36)] (by rw [hml]; rfl) pd_21 rfl rfl rfl (Nat.le_of_eq rfl) (hb hby at_163) (pc' := 166) rfl (fun v51 T51 L51 hQ51 X51 => ?_)
        obtain ⟨b51, kt_51, fr_51, pm_51, rfl, Nc51, Kc51, P51_0, P51_1, P51_2, P51_3, P51_4, P51_5, P51_6, P51_7, P51_8⟩ := hQ51
        have P51_7 : pm_51.toInt = 2 * (3 : Int) := P51_7
        have P51_8 : UtfF (3 : Int) fr_51 (fun j => ([z3, z5, z7] : List Int32).getD j 0) := P51_8
        have V_b36_51 := V_bl.keep Kc51 (ninS ne_b36_b48 nin0)
        have ne_b36_b51 : b36 ≠ b51 := Nat.ne_of_lt (Nat.lt_of_lt_of_le V_bl.lt P51_5)
        have ne_b48_b51 : b48 ≠ b51 := Nat.ne_of_lt (Nat.lt_of_lt_of_le A48.lt P51_5)
        have sz_b51 : h0.size ≤ b51 := Nat.le_trans K48.1 P51_5
        have Zs51 : n0 ≤ T51.heap.size := Nat.le_trans Zs48 Kc51.1
        have K51 := K48.trans Kc51 (allS (Or.inr sz_b48) all0)
        have N51 := Fr.app N39 Nc51
        show Ends _ _ _ _ T51 (mkF m 166 #[.val (.int p0), .val (.int p1), .val (.int p2), .val (.int p3), .val (.int p4), .val (.int il), .val (.int z3), .val (.int z5), .val (.int z7), .val (.int z9), .val (.ref b36), .unset, .unset] [(.ref b48)])
        refine ow_astore X51 hx (Ls' := #[.val (.int p0), .val (.int p1), .val (.int p2), .val (.int p3), .val (.int p4), .val (.int il), .val (.int z3), .val (.int z5), .val (.int z7), .val (.int z9), .val (.ref b36), .val (.ref b48), .unset]) (hb hby at_166) rfl rfl (pc' := 168) rfl ?_
        have hSi : StrIs Z T51.heap b48 (3 : Int32) (fun j => ([z3, z5, z7] : List Int32).getD j 0) := ⟨b51, kt_51, pm_51, fr_51, P51_2, P51_3, Or.inr ⟨P51_1, P51_7, P51_8⟩⟩
        exact J168 b36 b48 T51 T51.heap _ X51 rfl N51 (show Exa Z T51.heap b48 "java/lang/String" from P51_0) K51 Zs51 (show StrIs Z T51.heap b48 (3 : Int32) (fun j => ([z3, z5, z7] : List Int32).getD j 0) ∧ Rng (fun j => ([z3, z5, z7] : List Int32).getD j 0) from by exact ⟨hSi, hrF⟩)
      · refine ow_dup X48 hx (hb hby at_160) rfl (pc' := 161) rfl ?_
        refine ow_aload X48 hx (hb hby at_161) rfl rfl (pc' := 163) rfl ?_
        have V_bl : Arv Z h48 b36 k36 .char (3 : Int32) (BL (fun j => ([z3, z5, z7] : List Int32).getD j 0)) (.int (0 : Int32)) := V_b36_48.pad (BL_of ([z3, z5, z7] : List Int32) (Nat.le_of_ble_eq_true rfl))
        have hrF : Rng (fun j => ([z3, z5, z7] : List Int32).getD j 0) := Rng_of (fun x hx_ => by simp only [List.mem_cons, List.not_mem_nil, or_false] at hx_; rcases hx_ with rfl | rfl | rfl <;> omega)
        have hbF : 255 < ((fun j => ([z3, z5, z7] : List Int32).getD j 0) 2).toInt := show 255 < z7.toInt from by omega
        refine ow_callI X48 hx hZ rfl rfl hown (hw _ (List.mem_of_getElem? (i := 5) rfl)) (hw _ (List.mem_of_getElem? (i := 6) rfl)) (hw _ (List.mem_of_getElem? (i := 4) rfl)) (hw _ (List.mem_of_getElem? (i := 7) rfl)) (by decide) (rm_sjU l Z a0 hw [] b48 b36 zc k36 (fun j => ([z3, z5, z7] : List Int32).getD j 0) (2 : Nat) (3 : Int32) h48 n0 Zs48 (ow_staKeep S_cs K48 all0) (by first | assumption | decide | omega | (have q0_ : (3 : Int32).toInt = 3 := (by decide); omega)) (ow_staKeep S_ad K48 all0) (ow_staKeep S_hi K48 all0) (ow_staKeep S_lo K48 all0) A48 F_b48_coder F_b48_value g_b48 V_bl (Ne.symm ne_b36_b48) (by first | assumption | decide | omega | (have q0_ : (3 : Int32).toInt = 3 := (by decide); omega)) (by first | assumption | decide | omega | (have q0_ : (3 : Int32).toInt = 3 := (by decide); omega)) (by first | assumption | decide | omega | (have q0_ : (3 : Int32).toInt = 3 := (by decide); omega)) (by first | assumption | decide | omega | (have q0_ : (3 : Int32).toInt = 3 := (by decide); omega)) (by first | assumption | decide | omega | (have q0_ : (3 : Int32).toInt = 3 := (by decide); omega))) e48 1 (by decide) (by decide) (by decide) (by decide) [(.ref b36)] (by rw [hml]; rfl) pd_21 rfl rfl rfl (Nat.le_of_eq rfl) (hb hby at_163) (pc' := 166) rfl (fun v52 T52 L52 hQ52 X52 => ?_)
        obtain ⟨b52, kt_52, fr_52, pm_52, rfl, Nc52, Kc52, P52_0, P52_1, P52_2, P52_3, P52_4, P52_5, P52_6, P52_7, P52_8⟩ := hQ52
        have P52_7 : pm_52.toInt = 2 * (3 : Int) := P52_7
        have P52_8 : UtfF (3 : Int) fr_52 (fun j => ([z3, z5, z7] : List Int32).getD j 0) := P52_8
        have V_b36_52 := V_bl.keep Kc52 (ninS ne_b36_b48 nin0)
        have ne_b36_b52 : b36 ≠ b52 := Nat.ne_of_lt (Nat.lt_of_lt_of_le V_bl.lt P52_5)
        have ne_b48_b52 : b48 ≠ b52 := Nat.ne_of_lt (Nat.lt_of_lt_of_le A48.lt P52_5)
        have sz_b52 : h0.size ≤ b52 := Nat.le_trans K48.1 P52_5
        have Zs52 : n0 ≤ T52.heap.size := Nat.le_trans Zs48 Kc52.1
        have K52 := K48.trans Kc52 (allS (Or.inr sz_b48) all0)
        have N52 := Fr.app N39 Nc52
        show Ends _ _ _ _ T52 (mkF m 166 #[.val (.int p0), .val (.int p1), .val (.int p2), .val (.int p3), .val (.int p4), .val (.int il), .val (.int z3), .val (.int z5), .val (.int z7), .val (.int z9), .val (.ref b36), .unset, .unset] [(.ref b48)])
        refine ow_astore X52 hx (Ls' := #[.val (.int p0), .val (.int p1), .val (.int p2), .val (.int p3), .val (.int p4), .val (.int il), .val (.int z3), .val (.int z5), .val (.int z7), .val (.int z9), .val (.ref b36), .val (.ref b48), .unset]) (hb hby at_166) rfl rfl (pc' := 168) rfl ?_
        have hSi : StrIs Z T52.heap b48 (3 : Int32) (fun j => ([z3, z5, z7] : List Int32).getD j 0) := ⟨b52, kt_52, pm_52, fr_52, P52_2, P52_3, Or.inr ⟨P52_1, P52_7, P52_8⟩⟩
        exact J168 b36 b48 T52 T52.heap _ X52 rfl N52 (show Exa Z T52.heap b48 "java/lang/String" from P52_0) K52 Zs52 (show StrIs Z T52.heap b48 (3 : Int32) (fun j => ([z3, z5, z7] : List Int32).getD j 0) ∧ Rng (fun j => ([z3, z5, z7] : List Int32).getD j 0) from by exact ⟨hSi, hrF⟩)
    · refine ow_iload X0 hx (hb hby at_47) rfl (pc' := 49) rfl ?_
      refine ow_if_ne X0 hx (il.toInt) (hb hby at_49) rfl (by decide) (pt := 60) (by decide) (pf := 52) rfl (fun c49 => ?_) (fun c49 => absurd c49 (by omega))
      refine ow_iload X0 hx (hb hby at_60) rfl (pc' := 62) rfl ?_
      refine ow_iconst X0 hx (z := (1 : Int32)) (hb hby at_62) rfl (pc' := 63) rfl ?_
      refine ow_icmp_ne X0 hx (il.toInt) ((1 : Int)) (hb hby at_63) rfl rfl (by decide) (pt := 79) (by decide) (pf := 66) rfl (fun c63 => ?_) (fun c63 => absurd c63 (by omega))
      refine ow_iload X0 hx (hb hby at_79) rfl (pc' := 81) rfl ?_
      refine ow_iconst X0 hx (z := (2 : Int32)) (hb hby at_81) rfl (pc' := 82) rfl ?_
      refine ow_icmp_ne X0 hx (il.toInt) ((2 : Int)) (hb hby at_82) rfl rfl (by decide) (pt := 103) (by decide) (pf := 85) rfl (fun c82 => ?_) (fun c82 => absurd c82 (by omega))
      refine ow_iload X0 hx (hb hby at_103) rfl (pc' := 105) rfl ?_
      refine ow_iconst X0 hx (z := (3 : Int32)) (hb hby at_105) rfl (pc' := 106) rfl ?_
      refine ow_icmp_ne X0 hx (il.toInt) ((3 : Int)) (hb hby at_106) rfl rfl (by decide) (pt := 132) (by decide) (pf := 109) rfl (fun c106 => ?_) (fun c106 => absurd c106 (by omega))
      refine ow_iconst X0 hx (z := (4 : Int32)) (hb hby at_132) rfl (pc' := 133) rfl ?_
      refine ow_newP X0 hx hZ (hw _ (List.mem_of_getElem? (i := 1) rfl)) e0 (hb hby at_133) (by decide) 4 (by decide) (by decide) (by decide) (by decide) (pc' := 135) rfl (fun T53 h53 b53 k53 g53 X53 e53 E53 V53 => ?_)
      have g_b53 : n0 ≤ b53 := Nat.le_trans Z0 (Nat.le_of_eq g53.symm)
      have sz_b53 : h0.size ≤ b53 := Nat.le_trans (Keep.refl h0 []).1 (Nat.le_of_eq g53.symm)
      have Zs53 : n0 ≤ h53.size := Nat.le_trans Z0 E53.1
      have K53 := (Keep.refl h0 []).ext E53
      have V_b53 : Arv Z h53 b53 k53 .char (4 : Int32) [(.int (0 : Int32)), (.int (0 : Int32)), (.int (0 : Int32)), (.int (0 : Int32))] (.int (0 : Int32)) := V53.pad (pad_rep [] (.int (0 : Int32)) 4)
      refine ow_dup X53 hx (hb hby at_135) rfl (pc' := 136) rfl ?_
      refine ow_iconst X53 hx (z := (0 : Int32)) (hb hby at_136) rfl (pc' := 137) rfl ?_
      refine ow_iload X53 hx (hb hby at_137) rfl (pc' := 139) rfl ?_
      refine ow_stC X53 hx hZ e53 V_b53 0 rfl (by decide) (by decide) (Nat.le_of_ble_eq_true rfl) (hb hby at_139) (pc' := 140) rfl (fun T54 h54 X54 e54 W54 V54 => ?_)
      obtain ⟨y54, hy54⟩ : ∃ y : Int32, y = (nar .char z3) := ⟨_, rfl⟩
      rw [← hy54] at W54 V54
      have ay54 : (y54.toInt - z3.toInt) % 65536 = 0 ∧ 0 ≤ y54.toInt ∧ y54.toInt < 65536 := by rw [hy54]; exact c_i2c z3
      rw [show y54 = z3 from ow_eq (by omega)] at W54 V54
      have V_b53_54 : Arv Z h54 b53 k53 .char (4 : Int32) [(.int z3), (.int (0 : Int32)), (.int (0 : Int32)), (.int (0 : Int32))] (.int (0 : Int32)) := V54
      have Zs54 : n0 ≤ h54.size := Nat.le_trans Zs53 (Keep.of_wr W54).1
      have K54 := K53.wr W54 (Or.inr sz_b53)
      have N54 := Fr.snoc X54 N0 g_b53
      refine ow_dup X54 hx (hb hby at_140) rfl (pc' := 141) rfl ?_
      refine ow_iconst X54 hx (z := (1 : Int32)) (hb hby at_141) rfl (pc' := 142) rfl ?_
      refine ow_iload X54 hx (hb hby at_142) rfl (pc' := 144) rfl ?_
      refine ow_stC X54 hx hZ e54 V_b53_54 1 rfl (by decide) (by decide) (Nat.le_of_ble_eq_true rfl) (hb hby at_144) (pc' := 145) rfl (fun T55 h55 X55 e55 W55 V55 => ?_)
      obtain ⟨y55, hy55⟩ : ∃ y : Int32, y = (nar .char z5) := ⟨_, rfl⟩
      rw [← hy55] at W55 V55
      have ay55 : (y55.toInt - z5.toInt) % 65536 = 0 ∧ 0 ≤ y55.toInt ∧ y55.toInt < 65536 := by rw [hy55]; exact c_i2c z5
      rw [show y55 = z5 from ow_eq (by omega)] at W55 V55
      have V_b53_55 : Arv Z h55 b53 k53 .char (4 : Int32) [(.int z3), (.int z5), (.int (0 : Int32)), (.int (0 : Int32))] (.int (0 : Int32)) := V55
      have Zs55 : n0 ≤ h55.size := Nat.le_trans Zs54 (Keep.of_wr W55).1
      have K55 := K54.wr W55 (Or.inr sz_b53)
      have N55 := Fr.snoc X55 N54 g_b53
      refine ow_dup X55 hx (hb hby at_145) rfl (pc' := 146) rfl ?_
      refine ow_iconst X55 hx (z := (2 : Int32)) (hb hby at_146) rfl (pc' := 147) rfl ?_
      refine ow_iload X55 hx (hb hby at_147) rfl (pc' := 149) rfl ?_
      refine ow_stC X55 hx hZ e55 V_b53_55 2 rfl (by decide) (by decide) (Nat.le_of_ble_eq_true rfl) (hb hby at_149) (pc' := 150) rfl (fun T56 h56 X56 e56 W56 V56 => ?_)
      obtain ⟨y56, hy56⟩ : ∃ y : Int32, y = (nar .char z7) := ⟨_, rfl⟩
      rw [← hy56] at W56 V56
      have ay56 : (y56.toInt - z7.toInt) % 65536 = 0 ∧ 0 ≤ y56.toInt ∧ y56.toInt < 65536 := by rw [hy56]; exact c_i2c z7
      rw [show y56 = z7 from ow_eq (by omega)] at W56 V56
      have V_b53_56 : Arv Z h56 b53 k53 .char (4 : Int32) [(.int z3), (.int z5), (.int z7), (.int (0 : Int32))] (.int (0 : Int32)) := V56
      have Zs56 : n0 ≤ h56.size := Nat.le_trans Zs55 (Keep.of_wr W56).1
      have K56 := K55.wr W56 (Or.inr sz_b53)
      have N56 := Fr.snoc X56 N55 g_b53
      refine ow_dup X56 hx (hb hby at_150) rfl (pc' := 151) rfl ?_
      refine ow_iconst X56 hx (z := (3 : Int32)) (hb hby at_151) rfl (pc' := 152) rfl ?_
      refine ow_iload X56 hx (hb hby at_152) rfl (pc' := 154) rfl ?_
      refine ow_stC X56 hx hZ e56 V_b53_56 3 rfl (by decide) (by decide) (Nat.le_of_ble_eq_true rfl) (hb hby at_154) (pc' := 155) rfl (fun T57 h57 X57 e57 W57 V57 => ?_)
      obtain ⟨y57, hy57⟩ : ∃ y : Int32, y = (nar .char z9) := ⟨_, rfl⟩
      rw [← hy57] at W57 V57
      have ay57 : (y57.toInt - z9.toInt) % 65536 = 0 ∧ 0 ≤ y57.toInt ∧ y57.toInt < 65536 := by rw [hy57]; exact c_i2c z9
      rw [show y57 = z9 from ow_eq (by omega)] at W57 V57
      have V_b53_57 : Arv Z h57 b53 k53 .char (4 : Int32) [(.int z3), (.int z5), (.int z7), (.int z9)] (.int (0 : Int32)) := V57
      have Zs57 : n0 ≤ h57.size := Nat.le_trans Zs56 (Keep.of_wr W57).1
      have K57 := K56.wr W57 (Or.inr sz_b53)
      have N57 := Fr.snoc X57 N56 g_b53
      refine ow_astore X57 hx (Ls' := #[.val (.int p0), .val (.int p1), .val (.int p2), .val (.int p3), .val (.int p4), .val (.int il), .val (.int z3), .val (.int z5), .val (.int z7), .val (.int z9), .val (.ref b53), .unset, .unset]) (hb hby at_155) rfl rfl (pc' := 157) rfl ?_
      have J168 : ∀ (oA : Addr) (oS : Addr) (T58 : State) (hj168 : Heap) (lc168 : List Loc), Stand p l e room_1 (s.setVm s.vm) m #[(.int p0), (.int p1), (.int p2), (.int p3), (.int p4)] below meth c T58 lc168 4 20 → T58.heap = hj168 → Fr n0 lc168 → (Exa Z hj168 oS "java/lang/String") → (Keep h0 hj168 []) → (n0 ≤ hj168.size) → (StrIs Z hj168 oS (4 : Int32) (fun j => ([z3, z5, z7, z9] : List Int32).getD j 0) ∧ Rng (fun j => ([z3, z5, z7, z9] : List Int32).getD j 0)) → Ends p e below (OutI s 24 2176 (Q_law p0 p1 p2 p3 p4 zc wf h0 n0)) T58 (mkF m 168 #[.val (.int p0), .val (.int p1), .val (.int p2), .val (.int p3), .val (.int p4), .val (.int il), .val (.int z3), .val (.int z5), .val (.int z7), .val (.int z9), .val (.ref oA), .val (.ref oS), .unset] []) := by
        intro oA oS T58 hj168 lc168 X58 e58 Nj168 Hf168_0 HK168 HZ168 hi168
        obtain ⟨hSc, hrF⟩ := hi168
        refine ow_iload X58 hx (hb hby at_168) rfl (pc' := 170) rfl ?_
        refine ow_if_le X58 hx (il.toInt) (hb hby at_170) rfl (by decide) (pt := 233) (by decide) (pf := 173) rfl (fun c170 => absurd c170 (by omega)) (fun c170 => ?_)
        refine ow_iload X58 hx (hb hby at_173) rfl (pc' := 175) rfl ?_
        refine ow_iconst X58 hx (z := (1 : Int32)) (hb hby at_175) rfl (pc' := 176) rfl ?_
        refine ow_icmp_lt X58 hx (il.toInt) ((1 : Int)) (hb hby at_176) rfl rfl (by decide) (pt := 187) (by decide) (pf := 179) rfl (fun c176 => absurd c176 (by omega)) (fun c176 => ?_)
        refine ow_iload X58 hx (hb hby at_179) rfl (pc' := 181) rfl ?_
        refine ow_callPI X58 hx hZ hown (hw _ (List.mem_of_getElem? (i := 49) rfl)) (hw _ (List.mem_of_getElem? (i := 50) rfl)) (hw _ (List.mem_of_getElem? (i := 51) rfl)) (hw _ (List.mem_of_getElem? (i := 52) rfl)) (by decide) (rm_okC l Z a0 hw [] z3 hj168 ) e58 0 (by decide) (by decide) (by decide) (by decide) [(.int z3)] (by rw [hml]; rfl) pd_18 rfl rfl rfl (Nat.le_of_eq rfl) (hb hby at_181) (pc' := 184) rfl (fun z59 T59 hz59 X59 e59 => ?_)
        have az59 : (((97 ≤ z3.toInt ∧ z3.toInt ≤ 122) ∨ (65 ≤ z3.toInt ∧ z3.toInt ≤ 90) ∨ (48 ≤ z3.toInt ∧ z3.toInt ≤ 57) ∨ z3.toInt = 45 ∨ z3.toInt = 46 ∨ z3.toInt = 95 ∨ z3.toInt = 126) ∧ z59.toInt = 1) ∨ (¬ ((97 ≤ z3.toInt ∧ z3.toInt ≤ 122) ∨ (65 ≤ z3.toInt ∧ z3.toInt ≤ 90) ∨ (48 ≤ z3.toInt ∧ z3.toInt ≤ 57) ∨ z3.toInt = 45 ∨ z3.toInt = 46 ∨ z3.toInt = 95 ∨ z3.toInt = 126) ∧ z59.toInt = 0) := hz59
        have rz59 := rng32 z59
        have hO0 : (OKc z3.toInt ∧ z59.toInt = 1) ∨ (¬ OKc z3.toInt ∧ z59.toInt = 0) := by have p_ := az59; unfold OKc; omega
        refine ow_if_eq X59 hx (z59.toInt) (hb hby at_184) rfl (by decide) (pt := 233) (by decide) (pf := 187) rfl (fun c184 => ?_) (fun c184 => ?_)
        · have hk0 : ¬ OKc z3.toInt := by rcases hO0 with q_ | q_; exact absurd q_.2 (by omega); exact q_.1
          clear hO0
          refine ow_iconst X59 hx (z := (0 : Int32)) (hb hby at_233) rfl (pc' := 234) rfl ?_
          refine ow_istore X59 hx (Ls' := #[.val (.int p0), .val (.int p1), .val (.int p2), .val (.int p3), .val (.int p4), .val (.int il), .val (.int z3), .val (.int z5), .val (.int z7), .val (.int z9), .val (.ref oA), .val (.ref oS), .val (.int (0 : Int32))]) (hb hby at_234) rfl (pc' := 236) rfl ?_
          refine ow_aload X59 hx (hb hby at_236) rfl rfl (pc' := 238) rfl ?_
          refine ow_callSI X59 hx hZ hown (hw _ (List.mem_of_getElem? (i := 23) rfl)) (hw _ (List.mem_of_getElem? (i := 24) rfl)) (hw _ (List.mem_of_getElem? (i := 25) rfl)) (hw _ (List.mem_of_getElem? (i := 26) rfl)) (by decide) (rm_iu4 l Z a0 hw [] hcw hch oS zc (fun j => ([z3, z5, z7, z9] : List Int32).getD j 0) (4 : Int32) wf hj168 n0 HZ168 (ow_zk hzk hzn HK168 all0) hzn (ow_staKeep S_cs HK168 all0) (by first | assumption | decide | omega | (have q0_ : (4 : Int32).toInt = 4 := (by decide); omega)) Hf168_0 (by first | assumption | decide | omega | (have q0_ : (4 : Int32).toInt = 4 := (by decide); omega)) (ow_staKeep S_ad HK168 all0) (ow_staKeep S_hi HK168 all0) (ow_staKeep S_lo HK168 all0) (ow_staKeep S_f HK168 all0) (by first | assumption | decide | omega | (have q0_ : (4 : Int32).toInt = 4 := (by decide); omega)) (by first | assumption | decide | omega | (have q0_ : (4 : Int32).toInt = 4 := (by decide); omega)) (by first | assumption | decide | omega | (have q0_ : (4 : Int32).toInt = 4 := (by decide); omega)) (by first | assumption | decide | omega | (have q0_ : (4 : Int32).toInt = 4 := (by decide); omega)) (by first | assumption | decide | omega | (have q0_ : (4 : Int32).toInt = 4 := (by decide); omega))) (LT.warm hI0) hS0 (Nat.zero_le _) e59 0 (by decide) (by decide) (by decide) (by decide) [(.ref oS)] (by rw [hml]; rfl) pd_22 rfl rfl rfl (Nat.le_of_eq rfl) (hb hby at_238) (pc' := 241) rfl (fun v60 T60 L60 hQ60 X60 hS60 hZ hown => ?_)
          obtain ⟨z_60, rfl, Nc60, Kc60, P60_0⟩ := hQ60
          have P60_0 : ((OKc ((fun j => ([z3, z5, z7, z9] : List Int32).getD j 0) (0 : Int32).toInt.toNat).toInt ∧ OKc ((fun j => ([z3, z5, z7, z9] : List Int32).getD j 0) (1 : Int32).toInt.toNat).toInt ∧ OKc ((fun j => ([z3, z5, z7, z9] : List Int32).getD j 0) (2 : Int32).toInt.toNat).toInt ∧ OKc ((fun j => ([z3, z5, z7, z9] : List Int32).getD j 0) (3 : Int32).toInt.toNat).toInt) ∧ z_60.toInt = 1) ∨ (¬ (OKc ((fun j => ([z3, z5, z7, z9] : List Int32).getD j 0) (0 : Int32).toInt.toNat).toInt ∧ OKc ((fun j => ([z3, z5, z7, z9] : List Int32).getD j 0) (1 : Int32).toInt.toNat).toInt ∧ OKc ((fun j => ([z3, z5, z7, z9] : List Int32).getD j 0) (2 : Int32).toInt.toNat).toInt ∧ OKc ((fun j => ([z3, z5, z7, z9] : List Int32).getD j 0) (3 : Int32).toInt.toNat).toInt) ∧ z_60.toInt = 0) := P60_0
          have E_oS_60 := Hf168_0.keep Kc60
          have Zs60 : n0 ≤ T60.heap.size := Nat.le_trans HZ168 Kc60.1
          have K60 := HK168.trans Kc60 all0
          have N60 := Fr.app Nj168 Nc60
          show Ends _ _ _ _ T60 (mkF m 241 #[.val (.int p0), .val (.int p1), .val (.int p2), .val (.int p3), .val (.int p4), .val (.int il), .val (.int z3), .val (.int z5), .val (.int z7), .val (.int z9), .val (.ref oA), .val (.ref oS), .val (.int (0 : Int32))] [(.int z_60)])
          have hres : z_60.toInt = 0 := by rcases P60_0 with q_ | q_; exact absurd (show OKc z3.toInt from q_.1.1) hk0; exact q_.2
          refine ow_iload X60 hx (hb hby at_241) rfl (pc' := 243) rfl ?_
          refine ow_icmp_ne X60 hx (z_60.toInt) ((0 : Int)) (hb hby at_243) rfl rfl (by decide) (pt := 250) (by decide) (pf := 246) rfl (fun c243 => absurd c243 (by omega)) (fun c243 => ?_)
          refine ow_iconst X60 hx (z := (1 : Int32)) (hb hby at_246) rfl (pc' := 247) rfl ?_
          refine ow_goto X60 hx (hb hby at_247) (by decide) (pc' := 251) (by decide) ?_
          exact ow_retBI X60 hx hret hlk (hb hby at_251) hS60 (Nat.le_refl _) (by decide) (by decide) (z' := (1 : Int32)) rfl ⟨rfl, N60⟩
        · have hk0 : OKc z3.toInt := by rcases hO0 with q_ | q_; exact q_.1; exact absurd q_.2 (by omega)
          clear hO0
          refine ow_iload X59 hx (hb hby at_187) rfl (pc' := 189) rfl ?_
          refine ow_iconst X59 hx (z := (2 : Int32)) (hb hby at_189) rfl (pc' := 190) rfl ?_
          refine ow_icmp_lt X59 hx (il.toInt) ((2 : Int)) (hb hby at_190) rfl rfl (by decide) (pt := 201) (by decide) (pf := 193) rfl (fun c190 => absurd c190 (by omega)) (fun c190 => ?_)
          refine ow_iload X59 hx (hb hby at_193) rfl (pc' := 195) rfl ?_
          refine ow_callPI X59 hx hZ hown (hw _ (List.mem_of_getElem? (i := 49) rfl)) (hw _ (List.mem_of_getElem? (i := 50) rfl)) (hw _ (List.mem_of_getElem? (i := 51) rfl)) (hw _ (List.mem_of_getElem? (i := 52) rfl)) (by decide) (rm_okC l Z a0 hw [] z5 hj168 ) e59 0 (by decide) (by decide) (by decide) (by decide) [(.int z5)] (by rw [hml]; rfl) pd_18 rfl rfl rfl (Nat.le_of_eq rfl) (hb hby at_195) (pc' := 198) rfl (fun z61 T61 hz61 X61 e61 => ?_)
          have az61 : (((97 ≤ z5.toInt ∧ z5.toInt ≤ 122) ∨ (65 ≤ z5.toInt ∧ z5.toInt ≤ 90) ∨ (48 ≤ z5.toInt ∧ z5.toInt ≤ 57) ∨ z5.toInt = 45 ∨ z5.toInt = 46 ∨ z5.toInt = 95 ∨ z5.toInt = 126) ∧ z61.toInt = 1) ∨ (¬ ((97 ≤ z5.toInt ∧ z5.toInt ≤ 122) ∨ (65 ≤ z5.toInt ∧ z5.toInt ≤ 90) ∨ (48 ≤ z5.toInt ∧ z5.toInt ≤ 57) ∨ z5.toInt = 45 ∨ z5.toInt = 46 ∨ z5.toInt = 95 ∨ z5.toInt = 126) ∧ z61.toInt = 0) := hz61
          have rz61 := rng32 z61
          have hO1 : (OKc z5.toInt ∧ z61.toInt = 1) ∨ (¬ OKc z5.toInt ∧ z61.toInt = 0) := by have p_ := az61; unfold OKc; omega
          refine ow_if_eq X61 hx (z61.toInt) (hb hby at_198) rfl (by decide) (pt := 233) (by decide) (pf := 201) rfl (fun c198 => ?_) (fun c198 => ?_)
          · have hk1 : ¬ OKc z5.toInt := by rcases hO1 with q_ | q_; exact absurd q_.2 (by omega); exact q_.1
            clear hO1
            refine ow_iconst X61 hx (z := (0 : Int32)) (hb hby at_233) rfl (pc' := 234) rfl ?_
            refine ow_istore X61 hx (Ls' := #[.val (.int p0), .val (.int p1), .val (.int p2), .val (.int p3), .val (.int p4), .val (.int il), .val (.int z3), .val (.int z5), .val (.int z7), .val (.int z9), .val (.ref oA), .val (.ref oS), .val (.int (0 : Int32))]) (hb hby at_234) rfl (pc' := 236) rfl ?_
            refine ow_aload X61 hx (hb hby at_236) rfl rfl (pc' := 238) rfl ?_
            refine ow_callSI X61 hx hZ hown (hw _ (List.mem_of_getElem? (i := 23) rfl)) (hw _ (List.mem_of_getElem? (i := 24) rfl)) (hw _ (List.mem_of_getElem? (i := 25) rfl)) (hw _ (List.mem_of_getElem? (i := 26) rfl)) (by decide) (rm_iu4 l Z a0 hw [] hcw hch oS zc (fun j => ([z3, z5, z7, z9] : List Int32).getD j 0) (4 : Int32) wf hj168 n0 HZ168 (ow_zk hzk hzn HK168 all0) hzn (ow_staKeep S_cs HK168 all0) (by first | assumption | decide | omega | (have q0_ : (4 : Int32).toInt = 4 := (by decide); omega)) Hf168_0 (by first | assumption | decide | omega | (have q0_ : (4 : Int32).toInt = 4 := (by decide); omega)) (ow_staKeep S_ad HK168 all0) (ow_staKeep S_hi HK168 all0) (ow_staKeep S_lo HK168 all0) (ow_staKeep S_f HK168 all0) (by first | assumption | decide | omega | (have q0_ : (4 : Int32).toInt = 4 := (by decide); omega)) (by first | assumption | decide | omega | (have q0_ : (4 : Int32).toInt = 4 := (by decide); omega)) (by first | assumption | decide | omega | (have q0_ : (4 : Int32).toInt = 4 := (by decide); omega)) (by first | assumption | decide | omega | (have q0_ : (4 : Int32).toInt = 4 := (by decide); omega)) (by first | assumption | decide | omega | (have q0_ : (4 : Int32).toInt = 4 := (by decide); omega))) (LT.warm hI0) hS0 (Nat.zero_le _) e61 0 (by decide) (by decide) (by decide) (by decide) [(.ref oS)] (by rw [hml]; rfl) pd_22 rfl rfl rfl (Nat.le_of_eq rfl) (hb hby at_238) (pc' := 241) rfl (fun v62 T62 L62 hQ62 X62 hS62 hZ hown => ?_)
            obtain ⟨z_62, rfl, Nc62, Kc62, P62_0⟩ := hQ62
            have P62_0 : ((OKc ((fun j => ([z3, z5, z7, z9] : List Int32).getD j 0) (0 : Int32).toInt.toNat).toInt ∧ OKc ((fun j => ([z3, z5, z7, z9] : List Int32).getD j 0) (1 : Int32).toInt.toNat).toInt ∧ OKc ((fun j => ([z3, z5, z7, z9] : List Int32).getD j 0) (2 : Int32).toInt.toNat).toInt ∧ OKc ((fun j => ([z3, z5, z7, z9] : List Int32).getD j 0) (3 : Int32).toInt.toNat).toInt) ∧ z_62.toInt = 1) ∨ (¬ (OKc ((fun j => ([z3, z5, z7, z9] : List Int32).getD j 0) (0 : Int32).toInt.toNat).toInt ∧ OKc ((fun j => ([z3, z5, z7, z9] : List Int32).getD j 0) (1 : Int32).toInt.toNat).toInt ∧ OKc ((fun j => ([z3, z5, z7, z9] : List Int32).getD j 0) (2 : Int32).toInt.toNat).toInt ∧ OKc ((fun j => ([z3, z5, z7, z9] : List Int32).getD j 0) (3 : Int32).toInt.toNat).toInt) ∧ z_62.toInt = 0) := P62_0
            have E_oS_62 := Hf168_0.keep Kc62
            have Zs62 : n0 ≤ T62.heap.size := Nat.le_trans HZ168 Kc62.1
            have K62 := HK168.trans Kc62 all0
            have N62 := Fr.app Nj168 Nc62
            show Ends _ _ _ _ T62 (mkF m 241 #[.val (.int p0), .val (.int p1), .val (.int p2), .val (.int p3), .val (.int p4), .val (.int il), .val (.int z3), .val (.int z5), .val (.int z7), .val (.int z9), .val (.ref oA), .val (.ref oS), .val (.int (0 : Int32))] [(.int z_62)])
            have hres : z_62.toInt = 0 := by rcases P62_0 with q_ | q_; exact absurd (show OKc z5.toInt from q_.1.2.1) hk1; exact q_.2
            refine ow_iload X62 hx (hb hby at_241) rfl (pc' := 243) rfl ?_
            refine ow_icmp_ne X62 hx (z_62.toInt) ((0 : Int)) (hb hby at_243) rfl rfl (by decide) (pt := 250) (by decide) (pf := 246) rfl (fun c243 => absurd c243 (by omega)) (fun c243 => ?_)
            refine ow_iconst X62 hx (z := (1 : Int32)) (hb hby at_246) rfl (pc' := 247) rfl ?_
            refine ow_goto X62 hx (hb hby at_247) (by decide) (pc' := 251) (by decide) ?_
            exact ow_retBI X62 hx hret hlk (hb hby at_251) hS62 (Nat.le_refl _) (by decide) (by decide) (z' := (1 : Int32)) rfl ⟨rfl, N62⟩
          · have hk1 : OKc z5.toInt := by rcases hO1 with q_ | q_; exact q_.1; exact absurd q_.2 (by omega)
            clear hO1
            refine ow_iload X61 hx (hb hby at_201) rfl (pc' := 203) rfl ?_
            refine ow_iconst X61 hx (z := (3 : Int32)) (hb hby at_203) rfl (pc' := 204) rfl ?_
            refine ow_icmp_lt X61 hx (il.toInt) ((3 : Int)) (hb hby at_204) rfl rfl (by decide) (pt := 215) (by decide) (pf := 207) rfl (fun c204 => absurd c204 (by omega)) (fun c204 => ?_)
            refine ow_iload X61 hx (hb hby at_207) rfl (pc' := 209) rfl ?_
            refine ow_callPI X61 hx hZ hown (hw _ (List.mem_of_getElem? (i := 49) rfl)) (hw _ (List.mem_of_getElem? (i := 50) rfl)) (hw _ (List.mem_of_getElem? (i := 51) rfl)) (hw _ (List.mem_of_getElem? (i := 52) rfl)) (by decide) (rm_okC l Z a0 hw [] z7 hj168 ) e61 0 (by decide) (by decide) (by decide) (by decide) [(.int z7)] (by rw [hml]; rfl) pd_18 rfl rfl rfl (Nat.le_of_eq rfl) (hb hby at_209) (pc' := 212) rfl (fun z63 T63 hz63 X63 e63 => ?_)
            have az63 : (((97 ≤ z7.toInt ∧ z7.toInt ≤ 122) ∨ (65 ≤ z7.toInt ∧ z7.toInt ≤ 90) ∨ (48 ≤ z7.toInt ∧ z7.toInt ≤ 57) ∨ z7.toInt = 45 ∨ z7.toInt = 46 ∨ z7.toInt = 95 ∨ z7.toInt = 126) ∧ z63.toInt = 1) ∨ (¬ ((97 ≤ z7.toInt ∧ z7.toInt ≤ 122) ∨ (65 ≤ z7.toInt ∧ z7.toInt ≤ 90) ∨ (48 ≤ z7.toInt ∧ z7.toInt ≤ 57) ∨ z7.toInt = 45 ∨ z7.toInt = 46 ∨ z7.toInt = 95 ∨ z7.toInt = 126) ∧ z63.toInt = 0) := hz63
            have rz63 := rng32 z63
            have hO2 : (OKc z7.toInt ∧ z63.toInt = 1) ∨ (¬ OKc z7.toInt ∧ z63.toInt = 0) := by have p_ := az63; unfold OKc; omega
            refine ow_if_eq X63 hx (z63.toInt) (hb hby at_212) rfl (by decide) (pt := 233) (by decide) (pf := 215) rfl (fun c212 => ?_) (fun c212 => ?_)
            · have hk2 : ¬ OKc z7.toInt := by rcases hO2 with q_ | q_; exact absurd q_.2 (by omega); exact q_.1
              clear hO2
              refine ow_iconst X63 hx (z := (0 : Int32)) (hb hby at_233) rfl (pc' := 234) rfl ?_
              refine ow_istore X63 hx (Ls' := #[.val (.int p0), .val (.int p1), .val (.int p2), .val (.int p3), .val (.int p4), .val (.int il), .val (.int z3), .val (.int z5), .val (.int z7), .val (.int z9), .val (.ref oA), .val (.ref oS), .val (.int (0 : Int32))]) (hb hby at_234) rfl (pc' := 236) rfl ?_
              refine ow_aload X63 hx (hb hby at_236) rfl rfl (pc' := 238) rfl ?_
              refine ow_callSI X63 hx hZ hown (hw _ (List.mem_of_getElem? (i := 23) rfl)) (hw _ (List.mem_of_getElem? (i := 24) rfl)) (hw _ (List.mem_of_getElem? (i := 25) rfl)) (hw _ (List.mem_of_getElem? (i := 26) rfl)) (by decide) (rm_iu4 l Z a0 hw [] hcw hch oS zc (fun j => ([z3, z5, z7, z9] : List Int32).getD j 0) (4 : Int32) wf hj168 n0 HZ168 (ow_zk hzk hzn HK168 all0) hzn (ow_staKeep S_cs HK168 all0) (by first | assumption | decide | omega | (have q0_ : (4 : Int32).toInt = 4 := (by decide); omega)) Hf168_0 (by first | assumption | decide | omega | (have q0_ : (4 : Int32).toInt = 4 := (by decide); omega)) (ow_staKeep S_ad HK168 all0) (ow_staKeep S_hi HK168 all0) (ow_staKeep S_lo HK168 all0) (ow_staKeep S_f HK168 all0) (by first | assumption | decide | omega | (have q0_ : (4 : Int32).toInt = 4 := (by decide); omega)) (by first | assumption | decide | omega | (have q0_ : (4 : Int32).toInt = 4 := (by decide); omega)) (by first | assumption | decide | omega | (have q0_ : (4 : Int32).toInt = 4 := (by decide); omega)) (by first | assumption | decide | omega | (have q0_ : (4 : Int32).toInt = 4 := (by decide); omega)) (by first | assumption | decide | omega | (have q0_ : (4 : Int32).toInt = 4 := (by decide); omega))) (LT.warm hI0) hS0 (Nat.zero_le _) e63 0 (by decide) (by decide) (by decide) (by decide) [(.ref oS)] (by rw [hml]; rfl) pd_22 rfl rfl rfl (Nat.le_of_eq rfl) (hb hby at_238) (pc' := 241) rfl (fun v64 T64 L64 hQ64 X64 hS64 hZ hown => ?_)
              obtain ⟨z_64, rfl, Nc64, Kc64, P64_0⟩ := hQ64
              have P64_0 : ((OKc ((fun j => ([z3, z5, z7, z9] : List Int32).getD j 0) (0 : Int32).toInt.toNat).toInt ∧ OKc ((fun j => ([z3, z5, z7, z9] : List Int32).getD j 0) (1 : Int32).toInt.toNat).toInt ∧ OKc ((fun j => ([z3, z5, z7, z9] : List Int32).getD j 0) (2 : Int32).toInt.toNat).toInt ∧ OKc ((fun j => ([z3, z5, z7, z9] : List Int32).getD j 0) (3 : Int32).toInt.toNat).toInt) ∧ z_64.toInt = 1) ∨ (¬ (OKc ((fun j => ([z3, z5, z7, z9] : List Int32).getD j 0) (0 : Int32).toInt.toNat).toInt ∧ OKc ((fun j => ([z3, z5, z7, z9] : List Int32).getD j 0) (1 : Int32).toInt.toNat).toInt ∧ OKc ((fun j => ([z3, z5, z7, z9] : List Int32).getD j 0) (2 : Int32).toInt.toNat).toInt ∧ OKc ((fun j => ([z3, z5, z7, z9] : List Int32).getD j 0) (3 : Int32).toInt.toNat).toInt) ∧ z_64.toInt = 0) := P64_0
              have E_oS_64 := Hf168_0.keep Kc64
              have Zs64 : n0 ≤ T64.heap.size := Nat.le_trans HZ168 Kc64.1
              have K64 := HK168.trans Kc64 all0
              have N64 := Fr.app Nj168 Nc64
              show Ends _ _ _ _ T64 (mkF m 241 #[.val (.int p0), .val (.int p1), .val (.int p2), .val (.int p3), .val (.int p4), .val (.int il), .val (.int z3), .val (.int z5), .val (.int z7), .val (.int z9), .val (.ref oA), .val (.ref oS), .val (.int (0 : Int32))] [(.int z_64)])
              have hres : z_64.toInt = 0 := by rcases P64_0 with q_ | q_; exact absurd (show OKc z7.toInt from q_.1.2.2.1) hk2; exact q_.2
              refine ow_iload X64 hx (hb hby at_241) rfl (pc' := 243) rfl ?_
              refine ow_icmp_ne X64 hx (z_64.toInt) ((0 : Int)) (hb hby at_243) rfl rfl (by decide) (pt := 250) (by decide) (pf := 246) rfl (fun c243 => absurd c243 (by omega)) (fun c243 => ?_)
              refine ow_iconst X64 hx (z := (1 : Int32)) (hb hby at_246) rfl (pc' := 247) rfl ?_
              refine ow_goto X64 hx (hb hby at_247) (by decide) (pc' := 251) (by decide) ?_
              exact ow_retBI X64 hx hret hlk (hb hby at_251) hS64 (Nat.le_refl _) (by decide) (by decide) (z' := (1 : Int32)) rfl ⟨rfl, N64⟩
            · have hk2 : OKc z7.toInt := by rcases hO2 with q_ | q_; exact q_.1; exact absurd q_.2 (by omega)
              clear hO2
              refine ow_iload X63 hx (hb hby at_215) rfl (pc' := 217) rfl ?_
              refine ow_iconst X63 hx (z := (4 : Int32)) (hb hby at_217) rfl (pc' := 218) rfl ?_
              refine ow_icmp_lt X63 hx (il.toInt) ((4 : Int)) (hb hby at_218) rfl rfl (by decide) (pt := 229) (by decide) (pf := 221) rfl (fun c218 => absurd c218 (by omega)) (fun c218 => ?_)
              refine ow_iload X63 hx (hb hby at_221) rfl (pc' := 223) rfl ?_
              refine ow_callPI X63 hx hZ hown (hw _ (List.mem_of_getElem? (i := 49) rfl)) (hw _ (List.mem_of_getElem? (i := 50) rfl)) (hw _ (List.mem_of_getElem? (i := 51) rfl)) (hw _ (List.mem_of_getElem? (i := 52) rfl)) (by decide) (rm_okC l Z a0 hw [] z9 hj168 ) e63 0 (by decide) (by decide) (by decide) (by decide) [(.int z9)] (by rw [hml]; rfl) pd_18 rfl rfl rfl (Nat.le_of_eq rfl) (hb hby at_223) (pc' := 226) rfl (fun z65 T65 hz65 X65 e65 => ?_)
              have az65 : (((97 ≤ z9.toInt ∧ z9.toInt ≤ 122) ∨ (65 ≤ z9.toInt ∧ z9.toInt ≤ 90) ∨ (48 ≤ z9.toInt ∧ z9.toInt ≤ 57) ∨ z9.toInt = 45 ∨ z9.toInt = 46 ∨ z9.toInt = 95 ∨ z9.toInt = 126) ∧ z65.toInt = 1) ∨ (¬ ((97 ≤ z9.toInt ∧ z9.toInt ≤ 122) ∨ (65 ≤ z9.toInt ∧ z9.toInt ≤ 90) ∨ (48 ≤ z9.toInt ∧ z9.toInt ≤ 57) ∨ z9.toInt = 45 ∨ z9.toInt = 46 ∨ z9.toInt = 95 ∨ z9.toInt = 126) ∧ z65.toInt = 0) := hz65
              have rz65 := rng32 z65
              have hO3 : (OKc z9.toInt ∧ z65.toInt = 1) ∨ (¬ OKc z9.toInt ∧ z65.toInt = 0) := by have p_ := az65; unfold OKc; omega
              refine ow_if_eq X65 hx (z65.toInt) (hb hby at_226) rfl (by decide) (pt := 233) (by decide) (pf := 229) rfl (fun c226 => ?_) (fun c226 => ?_)
              · have hk3 : ¬ OKc z9.toInt := by rcases hO3 with q_ | q_; exact absurd q_.2 (by omega); exact q_.1
                clear hO3
                refine ow_iconst X65 hx (z := (0 : Int32)) (hb hby at_233) rfl (pc' := 234) rfl ?_
                refine ow_istore X65 hx (Ls' := #[.val (.int p0), .val (.int p1), .val (.int p2), .val (.int p3), .val (.int p4), .val (.int il), .val (.int z3), .val (.int z5), .val (.int z7), .val (.int z9), .val (.ref oA), .val (.ref oS), .val (.int (0 : Int32))]) (hb hby at_234) rfl (pc' := 236) rfl ?_
                refine ow_aload X65 hx (hb hby at_236) rfl rfl (pc' := 238) rfl ?_
                refine ow_callSI X65 hx hZ hown (hw _ (List.mem_of_getElem? (i := 23) rfl)) (hw _ (List.mem_of_getElem? (i := 24) rfl)) (hw _ (List.mem_of_getElem? (i := 25) rfl)) (hw _ (List.mem_of_getElem? (i := 26) rfl)) (by decide) (rm_iu4 l Z a0 hw [] hcw hch oS zc (fun j => ([z3, z5, z7, z9] : List Int32).getD j 0) (4 : Int32) wf hj168 n0 HZ168 (ow_zk hzk hzn HK168 all0) hzn (ow_staKeep S_cs HK168 all0) (by first | assumption | decide | omega | (have q0_ : (4 : Int32).toInt = 4 := (by decide); omega)) Hf168_0 (by first | assumption | decide | omega | (have q0_ : (4 : Int32).toInt = 4 := (by decide); omega)) (ow_staKeep S_ad HK168 all0) (ow_staKeep S_hi HK168 all0) (ow_staKeep S_lo HK168 all0) (ow_staKeep S_f HK168 all0) (by first | assumption | decide | omega | (have q0_ : (4 : Int32).toInt = 4 := (by decide); omega)) (by first | assumption | decide | omega | (have q0_ : (4 : Int32).toInt = 4 := (by decide); omega)) (by first | assumption | decide | omega | (have q0_ : (4 : Int32).toInt = 4 := (by decide); omega)) (by first | assumption | decide | omega | (have q0_ : (4 : Int32).toInt = 4 := (by decide); omega)) (by first | assumption | decide | omega | (have q0_ : (4 : Int32).toInt = 4 := (by decide); omega))) (LT.warm hI0) hS0 (Nat.zero_le _) e65 0 (by decide) (by decide) (by decide) (by decide) [(.ref oS)] (by rw [hml]; rfl) pd_22 rfl rfl rfl (Nat.le_of_eq rfl) (hb hby at_238) (pc' := 241) rfl (fun v66 T66 L66 hQ66 X66 hS66 hZ hown => ?_)
                obtain ⟨z_66, rfl, Nc66, Kc66, P66_0⟩ := hQ66
                have P66_0 : ((OKc ((fun j => ([z3, z5, z7, z9] : List Int32).getD j 0) (0 : Int32).toInt.toNat).toInt ∧ OKc ((fun j => ([z3, z5, z7, z9] : List Int32).getD j 0) (1 : Int32).toInt.toNat).toInt ∧ OKc ((fun j => ([z3, z5, z7, z9] : List Int32).getD j 0) (2 : Int32).toInt.toNat).toInt ∧ OKc ((fun j => ([z3, z5, z7, z9] : List Int32).getD j 0) (3 : Int32).toInt.toNat).toInt) ∧ z_66.toInt = 1) ∨ (¬ (OKc ((fun j => ([z3, z5, z7, z9] : List Int32).getD j 0) (0 : Int32).toInt.toNat).toInt ∧ OKc ((fun j => ([z3, z5, z7, z9] : List Int32).getD j 0) (1 : Int32).toInt.toNat).toInt ∧ OKc ((fun j => ([z3, z5, z7, z9] : List Int32).getD j 0) (2 : Int32).toInt.toNat).toInt ∧ OKc ((fun j => ([z3, z5, z7, z9] : List Int32).getD j 0) (3 : Int32).toInt.toNat).toInt) ∧ z_66.toInt = 0) := P66_0
                have E_oS_66 := Hf168_0.keep Kc66
                have Zs66 : n0 ≤ T66.heap.size := Nat.le_trans HZ168 Kc66.1
                have K66 := HK168.trans Kc66 all0
                have N66 := Fr.app Nj168 Nc66
                show Ends _ _ _ _ T66 (mkF m 241 #[.val (.int p0), .val (.int p1), .val (.int p2), .val (.int p3), .val (.int p4), .val (.int il), .val (.int z3), .val (.int z5), .val (.int z7), .val (.int z9), .val (.ref oA), .val (.ref oS), .val (.int (0 : Int32))] [(.int z_66)])
                have hres : z_66.toInt = 0 := by rcases P66_0 with q_ | q_; exact absurd (show OKc z9.toInt from q_.1.2.2.2) hk3; exact q_.2
                refine ow_iload X66 hx (hb hby at_241) rfl (pc' := 243) rfl ?_
                refine ow_icmp_ne X66 hx (z_66.toInt) ((0 : Int)) (hb hby at_243) rfl rfl (by decide) (pt := 250) (by decide) (pf := 246) rfl (fun c243 => absurd c243 (by omega)) (fun c243 => ?_)
                refine ow_iconst X66 hx (z := (1 : Int32)) (hb hby at_246) rfl (pc' := 247) rfl ?_
                refine ow_goto X66 hx (hb hby at_247) (by decide) (pc' := 251) (by decide) ?_
                exact ow_retBI X66 hx hret hlk (hb hby at_251) hS66 (Nat.le_refl _) (by decide) (by decide) (z' := (1 : Int32)) rfl ⟨rfl, N66⟩
              · have hk3 : OKc z9.toInt := by rcases hO3 with q_ | q_; exact q_.1; exact absurd q_.2 (by omega)
                clear hO3
                refine ow_iconst X65 hx (z := (1 : Int32)) (hb hby at_229) rfl (pc' := 230) rfl ?_
                refine ow_goto X65 hx (hb hby at_230) (by decide) (pc' := 234) (by decide) ?_
                refine ow_istore X65 hx (Ls' := #[.val (.int p0), .val (.int p1), .val (.int p2), .val (.int p3), .val (.int p4), .val (.int il), .val (.int z3), .val (.int z5), .val (.int z7), .val (.int z9), .val (.ref oA), .val (.ref oS), .val (.int (1 : Int32))]) (hb hby at_234) rfl (pc' := 236) rfl ?_
                refine ow_aload X65 hx (hb hby at_236) rfl rfl (pc' := 238) rfl ?_
                refine ow_callSI X65 hx hZ hown (hw _ (List.mem_of_getElem? (i := 23) rfl)) (hw _ (List.mem_of_getElem? (i := 24) rfl)) (hw _ (List.mem_of_getElem? (i := 25) rfl)) (hw _ (List.mem_of_getElem? (i := 26) rfl)) (by decide) (rm_iu4 l Z a0 hw [] hcw hch oS zc (fun j => ([z3, z5, z7, z9] : List Int32).getD j 0) (4 : Int32) wf hj168 n0 HZ168 (ow_zk hzk hzn HK168 all0) hzn (ow_staKeep S_cs HK168 all0) (by first | assumption | decide | omega | (have q0_ : (4 : Int32).toInt = 4 := (by decide); omega)) Hf168_0 (by first | assumption | decide | omega | (have q0_ : (4 : Int32).toInt = 4 := (by decide); omega)) (ow_staKeep S_ad HK168 all0) (ow_staKeep S_hi HK168 all0) (ow_staKeep S_lo HK168 all0) (ow_staKeep S_f HK168 all0) (by first | assumption | decide | omega | (have q0_ : (4 : Int32).toInt = 4 := (by decide); omega)) (by first | assumption | decide | omega | (have q0_ : (4 : Int32).toInt = 4 := (by decide); omega)) (by first | assumption | decide | omega | (have q0_ : (4 : Int32).toInt = 4 := (by decide); omega)) (by first | assumption | decide | omega | (have q0_ : (4 : Int32).toInt = 4 := (by decide); omega)) (by first | assumption | decide | omega | (have q0_ : (4 : Int32).toInt = 4 := (by decide); omega))) (LT.warm hI0) hS0 (Nat.zero_le _) e65 0 (by decide) (by decide) (by decide) (by decide) [(.ref oS)] (by rw [hml]; rfl) pd_22 rfl rfl rfl (Nat.le_of_eq rfl) (hb hby at_238) (pc' := 241) rfl (fun v67 T67 L67 hQ67 X67 hS67 hZ hown => ?_)
                obtain ⟨z_67, rfl, Nc67, Kc67, P67_0⟩ := hQ67
                have P67_0 : ((OKc ((fun j => ([z3, z5, z7, z9] : List Int32).getD j 0) (0 : Int32).toInt.toNat).toInt ∧ OKc ((fun j => ([z3, z5, z7, z9] : List Int32).getD j 0) (1 : Int32).toInt.toNat).toInt ∧ OKc ((fun j => ([z3, z5, z7, z9] : List Int32).getD j 0) (2 : Int32).toInt.toNat).toInt ∧ OKc ((fun j => ([z3, z5, z7, z9] : List Int32).getD j 0) (3 : Int32).toInt.toNat).toInt) ∧ z_67.toInt = 1) ∨ (¬ (OKc ((fun j => ([z3, z5, z7, z9] : List Int32).getD j 0) (0 : Int32).toInt.toNat).toInt ∧ OKc ((fun j => ([z3, z5, z7, z9] : List Int32).getD j 0) (1 : Int32).toInt.toNat).toInt ∧ OKc ((fun j => ([z3, z5, z7, z9] : List Int32).getD j 0) (2 : Int32).toInt.toNat).toInt ∧ OKc ((fun j => ([z3, z5, z7, z9] : List Int32).getD j 0) (3 : Int32).toInt.toNat).toInt) ∧ z_67.toInt = 0) := P67_0
                have E_oS_67 := Hf168_0.keep Kc67
                have Zs67 : n0 ≤ T67.heap.size := Nat.le_trans HZ168 Kc67.1
                have K67 := HK168.trans Kc67 all0
                have N67 := Fr.app Nj168 Nc67
                show Ends _ _ _ _ T67 (mkF m 241 #[.val (.int p0), .val (.int p1), .val (.int p2), .val (.int p3), .val (.int p4), .val (.int il), .val (.int z3), .val (.int z5), .val (.int z7), .val (.int z9), .val (.ref oA), .val (.ref oS), .val (.int (1 : Int32))] [(.int z_67)])
                have hres : z_67.toInt = 1 := by rcases P67_0 with q_ | q_; exact q_.2; exact absurd (show OKc ((fun j => ([z3, z5, z7, z9] : List Int32).getD j 0) (0 : Int32).toInt.toNat).toInt ∧ OKc ((fun j => ([z3, z5, z7, z9] : List Int32).getD j 0) (1 : Int32).toInt.toNat).toInt ∧ OKc ((fun j => ([z3, z5, z7, z9] : List Int32).getD j 0) (2 : Int32).toInt.toNat).toInt ∧ OKc ((fun j => ([z3, z5, z7, z9] : List Int32).getD j 0) (3 : Int32).toInt.toNat).toInt from ⟨hk0, hk1, hk2, hk3⟩) q_.1
                refine ow_iload X67 hx (hb hby at_241) rfl (pc' := 243) rfl ?_
                refine ow_icmp_ne X67 hx (z_67.toInt) ((1 : Int)) (hb hby at_243) rfl rfl (by decide) (pt := 250) (by decide) (pf := 246) rfl (fun c243 => absurd c243 (by omega)) (fun c243 => ?_)
                refine ow_iconst X67 hx (z := (1 : Int32)) (hb hby at_246) rfl (pc' := 247) rfl ?_
                refine ow_goto X67 hx (hb hby at_247) (by decide) (pc' := 251) (by decide) ?_
                exact ow_retBI X67 hx hret hlk (hb hby at_251) hS67 (Nat.le_refl _) (by decide) (by decide) (z' := (1 : Int32)) rfl ⟨rfl, N67⟩
      refine ow_new X57 hx hZ hown (hw _ (List.mem_of_getElem? (i := 2) rfl)) (hw _ (List.mem_of_getElem? (i := 3) rfl)) (hw _ (List.mem_of_getElem? (i := 4) rfl)) e57 (hb hby at_157) (by decide) (by decide) (pc' := 160) rfl (fun T68 h68 b68 g68 X68 e68 E68 A68 D68 => ?_)
      have ne_b53_b68 : b53 ≠ b68 := Nat.ne_of_lt (Nat.lt_of_lt_of_le V_b53_57.lt (Nat.le_of_eq g68.symm))
      have g_b68 : n0 ≤ b68 := Nat.le_trans Zs57 (Nat.le_of_eq g68.symm)
      have sz_b68 : h0.size ≤ b68 := Nat.le_trans K57.1 (Nat.le_of_eq g68.symm)
      have V_b53_68 := V_b53_57.ext E68
      have Zs68 : n0 ≤ h68.size := Nat.le_trans Zs57 E68.1
      have K68 := K57.ext E68
      have F_b68_value : Fld Z h68 b68 "java/lang/String" "value" "[B" .null := D68 (Or.inr (hw _ (List.mem_of_getElem? (i := 17) rfl))) (ty := (.array .byte)) (by decide)
      have F_b68_coder : Fld Z h68 b68 "java/lang/String" "coder" "B" (.int (0 : Int32)) := D68 (Or.inr (hw _ (List.mem_of_getElem? (i := 18) rfl))) (ty := .byte) (by decide)
      rcases (show (z3.toInt ≤ 255 ∧ z5.toInt ≤ 255 ∧ z7.toInt ≤ 255 ∧ z9.toInt ≤ 255) ∨ 255 < z3.toInt ∨ 255 < z5.toInt ∨ 255 < z7.toInt ∨ 255 < z9.toInt from by omega) with hsm | hbg | hbg | hbg | hbg
      · refine ow_dup X68 hx (hb hby at_160) rfl (pc' := 161) rfl ?_
        refine ow_aload X68 hx (hb hby at_161) rfl rfl (pc' := 163) rfl ?_
        have V_bl : Arv Z h68 b53 k53 .char (4 : Int32) (BL (fun j => ([z3, z5, z7, z9] : List Int32).getD j 0)) (.int (0 : Int32)) := V_b53_68.pad (BL_of ([z3, z5, z7, z9] : List Int32) (Nat.le_of_ble_eq_true rfl))
        have hrF : Rng (fun j => ([z3, z5, z7, z9] : List Int32).getD j 0) := Rng_of (fun x hx_ => by simp only [List.mem_cons, List.not_mem_nil, or_false] at hx_; rcases hx_ with rfl | rfl | rfl | rfl <;> omega)
        have hsF : Sml (fun j => ([z3, z5, z7, z9] : List Int32).getD j 0) := Sml_of (fun x hx_ => by simp only [List.mem_cons, List.not_mem_nil, or_false] at hx_; rcases hx_ with rfl | rfl | rfl | rfl <;> omega)
        refine ow_callI X68 hx hZ rfl rfl hown (hw _ (List.mem_of_getElem? (i := 5) rfl)) (hw _ (List.mem_of_getElem? (i := 6) rfl)) (hw _ (List.mem_of_getElem? (i := 4) rfl)) (hw _ (List.mem_of_getElem? (i := 7) rfl)) (by decide) (rm_sjL l Z a0 hw [] b68 b53 zc k53 (fun j => ([z3, z5, z7, z9] : List Int32).getD j 0) (4 : Int32) h68 n0 Zs68 (ow_staKeep S_cs K68 all0) (by first | assumption | decide | omega | (have q0_ : (4 : Int32).toInt = 4 := (by decide); omega)) (ow_staKeep S_ad K68 all0) (ow_staKeep S_hi K68 all0) (ow_staKeep S_lo K68 all0) A68 F_b68_coder F_b68_value g_b68 V_bl (Ne.symm ne_b53_b68) (by first | assumption | decide | omega | (have q0_ : (4 : Int32).toInt = 4 := (by decide); omega)) (by first | assumption | decide | omega | (have q0_ : (4 : Int32).toInt = 4 := (by decide); omega)) (by first | assumption | decide | omega | (have q0_ : (4 : Int32).toInt = 4 := (by decide); omega)) (by first | assumption | decide | omega | (have q0_ : (4 : Int32).toInt = 4 := (by decide); omega))) e68 1 (by decide) (by decide) (by decide) (by decide) [(.ref b53)] (by rw [hml]; rfl) pd_21 rfl rfl rfl (Nat.le_of_eq rfl) (hb hby at_163) (pc' := 166) rfl (fun v69 T69 L69 hQ69 X69 => ?_)
        obtain ⟨b69, kt_69, fr_69, rfl, Nc69, Kc69, P69_0, P69_1, P69_2, P69_3, P69_4, P69_5, P69_6, P69_7⟩ := hQ69
        have P69_7 : LatF (4 : Int) fr_69 (fun j => ([z3, z5, z7, z9] : List Int32).getD j 0) := P69_7
        have V_b53_69 := V_bl.keep Kc69 (ninS ne_b53_b68 nin0)
        have ne_b53_b69 : b53 ≠ b69 := Nat.ne_of_lt (Nat.lt_of_lt_of_le V_bl.lt P69_5)
        have ne_b68_b69 : b68 ≠ b69 := Nat.ne_of_lt (Nat.lt_of_lt_of_le A68.lt P69_5)
        have sz_b69 : h0.size ≤ b69 := Nat.le_trans K68.1 P69_5
        have Zs69 : n0 ≤ T69.heap.size := Nat.le_trans Zs68 Kc69.1
        have K69 := K68.trans Kc69 (allS (Or.inr sz_b68) all0)
        have N69 := Fr.app N57 Nc69
        show Ends _ _ _ _ T69 (mkF m 166 #[.val (.int p0), .val (.int p1), .val (.int p2), .val (.int p3), .val (.int p4), .val (.int il), .val (.int z3), .val (.int z5), .val (.int z7), .val (.int z9), .val (.ref b53), .unset, .unset] [(.ref b68)])
        refine ow_astore X69 hx (Ls' := #[.val (.int p0), .val (.int p1), .val (.int p2), .val (.int p3), .val (.int p4), .val (.int il), .val (.int z3), .val (.int z5), .val (.int z7), .val (.int z9), .val (.ref b53), .val (.ref b68), .unset]) (hb hby at_166) rfl rfl (pc' := 168) rfl ?_
        have hSi : StrIs Z T69.heap b68 (4 : Int32) (fun j => ([z3, z5, z7, z9] : List Int32).getD j 0) := ⟨b69, kt_69, (4 : Int32), fr_69, P69_2, P69_3, Or.inl ⟨P69_1, rfl, P69_7, hsF⟩⟩
        exact J168 b53 b68 T69 T69.heap _ (X69.mono (by decide) (by decide)) rfl N69 (show Exa Z T69.heap b68 "java/lang/String" from P69_0) K69 Zs69 (show StrIs Z T69.heap b68 (4 : Int32) (fun j => ([z3, z5, z7, z9] : List Int32).getD j 0) ∧ Rng (fun j => ([z3, z5, z7, z9] : List Int32).getD j 0) from by exact ⟨hSi, hrF⟩)
      · refine ow_dup X68 hx (hb hby at_160) rfl (pc' := 161) rfl ?_
        refine ow_aload X68 hx (hb hby at_161) rfl rfl (pc' := 163) rfl ?_
        have V_bl : Arv Z h68 b53 k53 .char (4 : Int32) (BL (fun j => ([z3, z5, z7, z9] : List Int32).getD j 0)) (.int (0 : Int32)) := V_b53_68.pad (BL_of ([z3, z5, z7, z9] : List Int32) (Nat.le_of_ble_eq_true rfl))
        have hrF : Rng (fun j => ([z3, z5, z7, z9] : List Int32).getD j 0) := Rng_of (fun x hx_ => by simp only [List.mem_cons, List.not_mem_nil, or_false] at hx_; rcases hx_ with rfl | rfl | rfl | rfl <;> omega)
        have hbF : 255 < ((fun j => ([z3, z5, z7, z9] : List Int32).getD j 0) 0).toInt := show 255 < z3.toInt from by omega
        refine ow_callI X68 hx hZ rfl rfl hown (hw _ (List.mem_of_getElem? (i := 5) rfl)) (hw _ (List.mem_of_getElem? (i := 6) rfl)) (hw _ (List.mem_of_getElem? (i := 4) rfl)) (hw _ (List.mem_of_getElem? (i := 7) rfl)) (by decide) (rm_sjU l Z a0 hw [] b68 b53 zc k53 (fun j => ([z3, z5, z7, z9] : List Int32).getD j 0) (0 : Nat) (4 : Int32) h68 n0 Zs68 (ow_staKeep S_cs K68 all0) (by first | assumption | decide | omega | (have q0_ : (4 : Int32).toInt = 4 := (by decide); omega)) (ow_staKeep S_ad K68 all0) (ow_staKeep S_hi K68 all0) (ow_staKeep S_lo K68 all0) A68 F_b68_coder F_b68_value g_b68 V_bl (Ne.symm ne_b53_b68) (by first | assumption | decide | omega | (have q0_ : (4 : Int32).toInt = 4 := (by decide); omega)) (by first | assumption | decide | omega | (have q0_ : (4 : Int32).toInt = 4 := (by decide); omega)) (by first | assumption | decide | omega | (have q0_ : (4 : Int32).toInt = 4 := (by decide); omega)) (by first | assumption | decide | omega | (have q0_ : (4 : Int32).toInt = 4 := (by decide); omega)) (by first | assumption | decide | omega | (have q0_ : (4 : Int32).toInt = 4 := (by decide); omega))) e68 1 (by decide) (by decide) (by decide) (by decide) [(.ref b53)] (by rw [hml]; rfl) pd_21 rfl rfl rfl (Nat.le_of_eq rfl) (hb hby at_163) (pc' := 166) rfl (fun v70 T70 L70 hQ70 X70 => ?_)
        obtain ⟨b70, kt_70, fr_70, pm_70, rfl, Nc70, Kc70, P70_0, P70_1, P70_2, P70_3, P70_4, P70_5, P70_6, P70_7, P70_8⟩ := hQ70
        have P70_7 : pm_70.toInt = 2 * (4 : Int) := P70_7
        have P70_8 : UtfF (4 : Int) fr_70 (fun j => ([z3, z5, z7, z9] : List Int32).getD j 0) := P70_8
        have V_b53_70 := V_bl.keep Kc70 (ninS ne_b53_b68 nin0)
        have ne_b53_b70 : b53 ≠ b70 := Nat.ne_of_lt (Nat.lt_of_lt_of_le V_bl.lt P70_5)
        have ne_b68_b70 : b68 ≠ b70 := Nat.ne_of_lt (Nat.lt_of_lt_of_le A68.lt P70_5)
        have sz_b70 : h0.size ≤ b70 := Nat.le_trans K68.1 P70_5
        have Zs70 : n0 ≤ T70.heap.size := Nat.le_trans Zs68 Kc70.1
        have K70 := K68.trans Kc70 (allS (Or.inr sz_b68) all0)
        have N70 := Fr.app N57 Nc70
        show Ends _ _ _ _ T70 (mkF m 166 #[.val (.int p0), .val (.int p1), .val (.int p2), .val (.int p3), .val (.int p4), .val (.int il), .val (.int z3), .val (.int z5), .val (.int z7), .val (.int z9), .val (.ref b53), .unset, .unset] [(.ref b68)])
        refine ow_astore X70 hx (Ls' := #[.val (.int p0), .val (.int p1), .val (.int p2), .val (.int p3), .val (.int p4), .val (.int il), .val (.int z3), .val (.int z5), .val (.int z7), .val (.int z9), .val (.ref b53), .val (.ref b68), .unset]) (hb hby at_166) rfl rfl (pc' := 168) rfl ?_
        have hSi : StrIs Z T70.heap b68 (4 : Int32) (fun j => ([z3, z5, z7, z9] : List Int32).getD j 0) := ⟨b70, kt_70, pm_70, fr_70, P70_2, P70_3, Or.inr ⟨P70_1, P70_7, P70_8⟩⟩
        exact J168 b53 b68 T70 T70.heap _ X70 rfl N70 (show Exa Z T70.heap b68 "java/lang/String" from P70_0) K70 Zs70 (show StrIs Z T70.heap b68 (4 : Int32) (fun j => ([z3, z5, z7, z9] : List Int32).getD j 0) ∧ Rng (fun j => ([z3, z5, z7, z9] : List Int32).getD j 0) from by exact ⟨hSi, hrF⟩)
      · refine ow_dup X68 hx (hb hby at_160) rfl (pc' := 161) rfl ?_
        refine ow_aload X68 hx (hb hby at_161) rfl rfl (pc' := 163) rfl ?_
        have V_bl : Arv Z h68 b53 k53 .char (4 : Int32) (BL (fun j => ([z3, z5, z7, z9] : List Int32).getD j 0)) (.int (0 : Int32)) := V_b53_68.pad (BL_of ([z3, z5, z7, z9] : List Int32) (Nat.le_of_ble_eq_true rfl))
        have hrF : Rng (fun j => ([z3, z5, z7, z9] : List Int32).getD j 0) := Rng_of (fun x hx_ => by simp only [List.mem_cons, List.not_mem_nil, or_false] at hx_; rcases hx_ with rfl | rfl | rfl | rfl <;> omega)
        have hbF : 255 < ((fun j => ([z3, z5, z7, z9] : List Int32).getD j 0) 1).toInt := show 255 < z5.toInt from by omega
        refine ow_callI X68 hx hZ rfl rfl hown (hw _ (List.mem_of_getElem? (i := 5) rfl)) (hw _ (List.mem_of_getElem? (i := 6) rfl)) (hw _ (List.mem_of_getElem? (i := 4) rfl)) (hw _ (List.mem_of_getElem? (i := 7) rfl)) (by decide) (rm_sjU l Z a0 hw [] b68 b53 zc k53 (fun j => ([z3, z5, z7, z9] : List Int32).getD j 0) (1 : Nat) (4 : Int32) h68 n0 Zs68 (ow_staKeep S_cs K68 all0) (by first | assumption | decide | omega | (have q0_ : (4 : Int32).toInt = 4 := (by decide); omega)) (ow_staKeep S_ad K68 all0) (ow_staKeep S_hi K68 all0) (ow_staKeep S_lo K68 all0) A68 F_b68_coder F_b68_value g_b68 V_bl (Ne.symm ne_b53_b68) (by first | assumption | decide | omega | (have q0_ : (4 : Int32).toInt = 4 := (by decide); omega)) (by first | assumption | decide | omega | (have q0_ : (4 : Int32).toInt = 4 := (by decide); omega)) (by first | assumption | decide | omega | (have q0_ : (4 : Int32).toInt = 4 := (by decide); omega)) (by first | assumption | decide | omega | (have q0_ : (4 : Int32).toInt = 4 := (by decide); omega)) (by first | assumption | decide | omega | (have q0_ : (4 : Int32).toInt = 4 := (by decide); omega))) e68 1 (by decide) (by decide) (by decide) (by decide) [(.ref b53)] (by rw [hml]; rfl) pd_21 rfl rfl rfl (Nat.le_of_eq rfl) (hb hby at_163) (pc' := 166) rfl (fun v71 T71 L71 hQ71 X71 => ?_)
        obtain ⟨b71, kt_71, fr_71, pm_71, rfl, Nc71, Kc71, P71_0, P71_1, P71_2, P71_3, P71_4, P71_5, P71_6, P71_7, P71_8⟩ := hQ71
        have P71_7 : pm_71.toInt = 2 * (4 : Int) := P71_7
        have P71_8 : UtfF (4 : Int) fr_71 (fun j => ([z3, z5, z7, z9] : List Int32).getD j 0) := P71_8
        have V_b53_71 := V_bl.keep Kc71 (ninS ne_b53_b68 nin0)
        have ne_b53_b71 : b53 ≠ b71 := Nat.ne_of_lt (Nat.lt_of_lt_of_le V_bl.lt P71_5)
        have ne_b68_b71 : b68 ≠ b71 := Nat.ne_of_lt (Nat.lt_of_lt_of_le A68.lt P71_5)
        have sz_b71 : h0.size ≤ b71 := Nat.le_trans K68.1 P71_5
        have Zs71 : n0 ≤ T71.heap.size := Nat.le_trans Zs68 Kc71.1
        have K71 := K68.trans Kc71 (allS (Or.inr sz_b68) all0)
        have N71 := Fr.app N57 Nc71
        show Ends _ _ _ _ T71 (mkF m 166 #[.val (.int p0), .val (.int p1), .val (.int p2), .val (.int p3), .val (.int p4), .val (.int il), .val (.int z3), .val (.int z5), .val (.int z7), .val (.int z9), .val (.ref b53), .unset, .unset] [(.ref b68)])
        refine ow_astore X71 hx (Ls' := #[.val (.int p0), .val (.int p1), .val (.int p2), .val (.int p3), .val (.int p4), .val (.int il), .val (.int z3), .val (.int z5), .val (.int z7), .val (.int z9), .val (.ref b53), .val (.ref b68), .unset]) (hb hby at_166) rfl rfl (pc' := 168) rfl ?_
        have hSi : StrIs Z T71.heap b68 (4 : Int32) (fun j => ([z3, z5, z7, z9] : List Int32).getD j 0) := ⟨b71, kt_71, pm_71, fr_71, P71_2, P71_3, Or.inr ⟨P71_1, P71_7, P71_8⟩⟩
        exact J168 b53 b68 T71 T71.heap _ X71 rfl N71 (show Exa Z T71.heap b68 "java/lang/String" from P71_0) K71 Zs71 (show StrIs Z T71.heap b68 (4 : Int32) (fun j => ([z3, z5, z7, z9] : List Int32).getD j 0) ∧ Rng (fun j => ([z3, z5, z7, z9] : List Int32).getD j 0) from by exact ⟨hSi, hrF⟩)
      · refine ow_dup X68 hx (hb hby at_160) rfl (pc' := 161) rfl ?_
        refine ow_aload X68 hx (hb hby at_161) rfl rfl (pc' := 163) rfl ?_
        have V_bl : Arv Z h68 b53 k53 .char (4 : Int32) (BL (fun j => ([z3, z5, z7, z9] : List Int32).getD j 0)) (.int (0 : Int32)) := V_b53_68.pad (BL_of ([z3, z5, z7, z9] : List Int32) (Nat.le_of_ble_eq_true rfl))
        have hrF : Rng (fun j => ([z3, z5, z7, z9] : List Int32).getD j 0) := Rng_of (fun x hx_ => by simp only [List.mem_cons, List.not_mem_nil, or_false] at hx_; rcases hx_ with rfl | rfl | rfl | rfl <;> omega)
        have hbF : 255 < ((fun j => ([z3, z5, z7, z9] : List Int32).getD j 0) 2).toInt := show 255 < z7.toInt from by omega
        refine ow_callI X68 hx hZ rfl rfl hown (hw _ (List.mem_of_getElem? (i := 5) rfl)) (hw _ (List.mem_of_getElem? (i := 6) rfl)) (hw _ (List.mem_of_getElem? (i := 4) rfl)) (hw _ (List.mem_of_getElem? (i := 7) rfl)) (by decide) (rm_sjU l Z a0 hw [] b68 b53 zc k53 (fun j => ([z3, z5, z7, z9] : List Int32).getD j 0) (2 : Nat) (4 : Int32) h68 n0 Zs68 (ow_staKeep S_cs K68 all0) (by first | assumption | decide | omega | (have q0_ : (4 : Int32).toInt = 4 := (by decide); omega)) (ow_staKeep S_ad K68 all0) (ow_staKeep S_hi K68 all0) (ow_staKeep S_lo K68 all0) A68 F_b68_coder F_b68_value g_b68 V_bl (Ne.symm ne_b53_b68) (by first | assumption | decide | omega | (have q0_ : (4 : Int32).toInt = 4 := (by decide); omega)) (by first | assumption | decide | omega | (have q0_ : (4 : Int32).toInt = 4 := (by decide); omega)) (by first | assumption | decide | omega | (have q0_ : (4 : Int32).toInt = 4 := (by decide); omega)) (by first | assumption | decide | omega | (have q0_ : (4 : Int32).toInt = 4 := (by decide); omega)) (by first | assumption | decide | omega | (have q0_ : (4 : Int32).toInt = 4 := (by decide); omega))) e68 1 (by decide) (by decide) (by decide) (by decide) [(.ref b53)] (by rw [hml]; rfl) pd_21 rfl rfl rfl (Nat.le_of_eq rfl) (hb hby at_163) (pc' := 166) rfl (fun v72 T72 L72 hQ72 X72 => ?_)
        obtain ⟨b72, kt_72, fr_72, pm_72, rfl, Nc72, Kc72, P72_0, P72_1, P72_2, P72_3, P72_4, P72_5, P72_6, P72_7, P72_8⟩ := hQ72
        have P72_7 : pm_72.toInt = 2 * (4 : Int) := P72_7
        have P72_8 : UtfF (4 : Int) fr_72 (fun j => ([z3, z5, z7, z9] : List Int32).getD j 0) := P72_8
        have V_b53_72 := V_bl.keep Kc72 (ninS ne_b53_b68 nin0)
        have ne_b53_b72 : b53 ≠ b72 := Nat.ne_of_lt (Nat.lt_of_lt_of_le V_bl.lt P72_5)
        have ne_b68_b72 : b68 ≠ b72 := Nat.ne_of_lt (Nat.lt_of_lt_of_le A68.lt P72_5)
        have sz_b72 : h0.size ≤ b72 := Nat.le_trans K68.1 P72_5
        have Zs72 : n0 ≤ T72.heap.size := Nat.le_trans Zs68 Kc72.1
        have K72 := K68.trans Kc72 (allS (Or.inr sz_b68) all0)
        have N72 := Fr.app N57 Nc72
        show Ends _ _ _ _ T72 (mkF m 166 #[.val (.int p0), .val (.int p1), .val (.int p2), .val (.int p3), .val (.int p4), .val (.int il), .val (.int z3), .val (.int z5), .val (.int z7), .val (.int z9), .val (.ref b53), .unset, .unset] [(.ref b68)])
        refine ow_astore X72 hx (Ls' := #[.val (.int p0), .val (.int p1), .val (.int p2), .val (.int p3), .val (.int p4), .val (.int il), .val (.int z3), .val (.int z5), .val (.int z7), .val (.int z9), .val (.ref b53), .val (.ref b68), .unset]) (hb hby at_166) rfl rfl (pc' := 168) rfl ?_
        have hSi : StrIs Z T72.heap b68 (4 : Int32) (fun j => ([z3, z5, z7, z9] : List Int32).getD j 0) := ⟨b72, kt_72, pm_72, fr_72, P72_2, P72_3, Or.inr ⟨P72_1, P72_7, P72_8⟩⟩
        exact J168 b53 b68 T72 T72.heap _ X72 rfl N72 (show Exa Z T72.heap b68 "java/lang/String" from P72_0) K72 Zs72 (show StrIs Z T72.heap b68 (4 : Int32) (fun j => ([z3, z5, z7, z9] : List Int32).getD j 0) ∧ Rng (fun j => ([z3, z5, z7, z9] : List Int32).getD j 0) from by exact ⟨hSi, hrF⟩)
      · refine ow_dup X68 hx (hb hby at_160) rfl (pc' := 161) rfl ?_
        refine ow_aload X68 hx (hb hby at_161) rfl rfl (pc' := 163) rfl ?_
        have V_bl : Arv Z h68 b53 k53 .char (4 : Int32) (BL (fun j => ([z3, z5, z7, z9] : List Int32).getD j 0)) (.int (0 : Int32)) := V_b53_68.pad (BL_of ([z3, z5, z7, z9] : List Int32) (Nat.le_of_ble_eq_true rfl))
        have hrF : Rng (fun j => ([z3, z5, z7, z9] : List Int32).getD j 0) := Rng_of (fun x hx_ => by simp only [List.mem_cons, List.not_mem_nil, or_false] at hx_; rcases hx_ with rfl | rfl | rfl | rfl <;> omega)
        have hbF : 255 < ((fun j => ([z3, z5, z7, z9] : List Int32).getD j 0) 3).toInt := show 255 < z9.toInt from by omega
        refine ow_callI X68 hx hZ rfl rfl hown (hw _ (List.mem_of_getElem? (i := 5) rfl)) (hw _ (List.mem_of_getElem? (i := 6) rfl)) (hw _ (List.mem_of_getElem? (i := 4) rfl)) (hw _ (List.mem_of_getElem? (i := 7) rfl)) (by decide) (rm_sjU l Z a0 hw [] b68 b53 zc k53 (fun j => ([z3, z5, z7, z9] : List Int32).getD j 0) (3 : Nat) (4 : Int32) h68 n0 Zs68 (ow_staKeep S_cs K68 all0) (by first | assumption | decide | omega | (have q0_ : (4 : Int32).toInt = 4 := (by decide); omega)) (ow_staKeep S_ad K68 all0) (ow_staKeep S_hi K68 all0) (ow_staKeep S_lo K68 all0) A68 F_b68_coder F_b68_value g_b68 V_bl (Ne.symm ne_b53_b68) (by first | assumption | decide | omega | (have q0_ : (4 : Int32).toInt = 4 := (by decide); omega)) (by first | assumption | decide | omega | (have q0_ : (4 : Int32).toInt = 4 := (by decide); omega)) (by first | assumption | decide | omega | (have q0_ : (4 : Int32).toInt = 4 := (by decide); omega)) (by first | assumption | decide | omega | (have q0_ : (4 : Int32).toInt = 4 := (by decide); omega)) (by first | assumption | decide | omega | (have q0_ : (4 : Int32).toInt = 4 := (by decide); omega))) e68 1 (by decide) (by decide) (by decide) (by decide) [(.ref b53)] (by rw [hml]; rfl) pd_21 rfl rfl rfl (Nat.le_of_eq rfl) (hb hby at_163) (pc' := 166) rfl (fun v73 T73 L73 hQ73 X73 => ?_)
        obtain ⟨b73, kt_73, fr_73, pm_73, rfl, Nc73, Kc73, P73_0, P73_1, P73_2, P73_3, P73_4, P73_5, P73_6, P73_7, P73_8⟩ := hQ73
        have P73_7 : pm_73.toInt = 2 * (4 : Int) := P73_7
        have P73_8 : UtfF (4 : Int) fr_73 (fun j => ([z3, z5, z7, z9] : List Int32).getD j 0) := P73_8
        have V_b53_73 := V_bl.keep Kc73 (ninS ne_b53_b68 nin0)
        have ne_b53_b73 : b53 ≠ b73 := Nat.ne_of_lt (Nat.lt_of_lt_of_le V_bl.lt P73_5)
        have ne_b68_b73 : b68 ≠ b73 := Nat.ne_of_lt (Nat.lt_of_lt_of_le A68.lt P73_5)
        have sz_b73 : h0.size ≤ b73 := Nat.le_trans K68.1 P73_5
        have Zs73 : n0 ≤ T73.heap.size := Nat.le_trans Zs68 Kc73.1
        have K73 := K68.trans Kc73 (allS (Or.inr sz_b68) all0)
        have N73 := Fr.app N57 Nc73
        show Ends _ _ _ _ T73 (mkF m 166 #[.val (.int p0), .val (.int p1), .val (.int p2), .val (.int p3), .val (.int p4), .val (.int il), .val (.int z3), .val (.int z5), .val (.int z7), .val (.int z9), .val (.ref b53), .unset, .unset] [(.ref b68)])
        refine ow_astore X73 hx (Ls' := #[.val (.int p0), .val (.int p1), .val (.int p2), .val (.int p3), .val (.int p4), .val (.int il), .val (.int z3), .val (.int z5), .val (.int z7), .val (.int z9), .val (.ref b53), .val (.ref b68), .unset]) (hb hby at_166) rfl rfl (pc' := 168) rfl ?_
        have hSi : StrIs Z T73.heap b68 (4 : Int32) (fun j => ([z3, z5, z7, z9] : List Int32).getD j 0) := ⟨b73, kt_73, pm_73, fr_73, P73_2, P73_3, Or.inr ⟨P73_1, P73_7, P73_8⟩⟩
        exact J168 b53 b68 T73 T73.heap _ X73 rfl N73 (show Exa Z T73.heap b68 "java/lang/String" from P73_0) K73 Zs73 (show StrIs Z T73.heap b68 (4 : Int32) (fun j => ([z3, z5, z7, z9] : List Int32).getD j 0) ∧ Rng (fun j => ([z3, z5, z7, z9] : List Int32).getD j 0) from by exact ⟨hSi, hrF⟩)
  refine ow_iload X0 hx (hb hby at_6) rfl (pc' := 8) rfl ?_
  refine ow_iconst X0 hx (z := (4 : Int32)) (hb hby at_8) rfl (pc' := 9) rfl ?_
  refine ow_icmp_le X0 hx (z1.toInt) ((4 : Int)) (hb hby at_9) rfl rfl (by decide) (pt := 18) (by decide) (pf := 12) rfl (fun c9 => ?_) (fun c9 => ?_)
  · exact J18 z1 (show 0 ≤ z1.toInt ∧ z1.toInt ≤ 4 from by omega)
  · refine ow_iload X0 hx (hb hby at_12) rfl (pc' := 14) rfl ?_
    refine ow_iconst X0 hx (z := (4 : Int32)) (hb hby at_14) rfl (pc' := 15) rfl ?_
    refine ow_isub X0 hx (hb hby at_15) (pc' := 16) rfl (fun z74 hz74 => ?_)
    have az74 : (z74.toInt - (z1.toInt - (4 : Int))) % 4294967296 = 0 := by rw [hz74]; exact c_isub z1 (4 : Int32)
    have rz74 := rng32 z74
    refine ow_istore X0 hx (Ls' := #[.val (.int p0), .val (.int p1), .val (.int p2), .val (.int p3), .val (.int p4), .val (.int z74), .unset, .unset, .unset, .unset, .unset, .unset, .unset]) (hb hby at_16) rfl (pc' := 18) rfl ?_
    exact J18 z74 (show 0 ≤ z74.toInt ∧ z74.toInt ≤ 4 from by omega)
set_option maxRecDepth 65536 in
set_option maxHeartbeats 40000000 in
theorem comes_1 {Post : Tables → Env → Array Value → State → Outcome → State → Prop} (hpost : ∀ tb e args s v u, (limb_1_1.after args s (.returned v) u = true ∧ limb_1_2.after args s (.returned v) u = true ∧ True) → ReturnedEndW s (.returned v) u (Jvm.fieldLocs frame_1_writes args s ++ Jvm.arrayLocs frame_1_arrays args s ++ Jvm.staticLocs frame_1_statics s) 24 2176 → Post tb e args s (.returned v) u) :
    ArmFor flags0 classFile x code maxLocals ret World_1 tables_1 room_1 Calls_1 rest_1 Pre_1 Post := by
  intro l hfl _ _ p e ha hc hk s m args below hf hA hF happ hP
  obtain ⟨hcalls, hrest, hpre⟩ := hP
  obtain ⟨-, -, -, hnamed, -, -, -, hat⟩ := (Spec.applies_iff hf).mp happ
  obtain ⟨hg, hn⟩ := and_e (Cond.before_iff.mp (show (Jvm.Cond.and given_1 narrow_1).before args s = true from hpre))
  obtain ⟨gc, gr0⟩ := and_e hg
  obtain ⟨ga0, gr1⟩ := and_e gr0
  obtain ⟨ga1, gr2⟩ := and_e gr1
  obtain ⟨ga2, gr3⟩ := and_e gr2
  obtain ⟨ga3, ga4⟩ := and_e gr3
  obtain ⟨w0, w1, w2, w3, w4, rfl⟩ : ∃ w0 w1 w2 w3 w4 : Value, args = #[w0, w1, w2, w3, w4] := by
    have hs : args.size = 5 := by simpa [Cond.value, given_1] using gc
    obtain ⟨L⟩ := args
    match L, hs with
    | [w0, w1, w2, w3, w4], _ => exact ⟨w0, w1, w2, w3, w4, rfl⟩
  have hw := fun d (hd : d ∈ tables_1) => atoms_spec (ws := Jvm.Cond.code x code maxLocals ret :: tables_1) hat d (List.mem_cons_of_mem _ hd)
  have hfit : Fit s := fun {y c} hc i hi => by
    obtain ⟨ha, rfl⟩ := Array.getElem?_eq_some_iff.mp hc
    have q := List.all_eq_true.mp ((Array.all_eq_true_iff_forall_mem.mp hF) _ (Array.getElem_mem ha)) i (List.mem_range.mpr hi)
    simpa [Array.getElem?_eq_getElem hi] using q
  obtain ⟨hsets, hown0⟩ := atoms_of _ (rest_1_c_eq ▸ (show rest_1_c.before _ s = true from hrest))
  have hr0 := Cond.before_iff.mp hown0
  obtain ⟨i0, ei0⟩ := is_v ga0
  obtain rfl : w0 = (.int i0) := Option.some.inj ei0
  obtain ⟨i1, ei1⟩ := is_v ga1
  obtain rfl : w1 = (.int i1) := Option.some.inj ei1
  obtain ⟨i2, ei2⟩ := is_v ga2
  obtain rfl : w2 = (.int i2) := Option.some.inj ei2
  obtain ⟨i3, ei3⟩ := is_v ga3
  obtain rfl : w3 = (.int i3) := Option.some.inj ei3
  obtain ⟨i4, ei4⟩ := is_v ga4
  obtain rfl : w4 = (.int i4) := Option.some.inj ei4
  have nz := not_v (Cond.before_iff.mp (hsets _ (List.mem_of_getElem? (i := 2) rfl)))
  obtain ⟨zc, ez⟩ := is_v (Cond.before_iff.mp (hsets _ (List.mem_of_getElem? (i := 1) rfl)))
  have Scs : Sta s s.heap "java/lang/String" "COMPACT_STRINGS" "Z" (.int zc) := Sta.start ez (Or.inl (hsets _ (List.mem_of_getElem? (i := 0) rfl)))
  have hzc : ¬ (zc = (0 : Int32)) := gotF (Cond.eq_ints ez (Term.int_eval (0))) nz
  have Sad : Sta s s.heap "java/lang/StringUTF16" "$assertionsDisabled" "Z" (.int (1 : Int32)) := Sta.start (Cond.eq_int (hsets _ (List.mem_of_getElem? (i := 12) rfl)) rfl) (Or.inl (hsets _ (List.mem_of_getElem? (i := 11) rfl)))
  have Shi : Sta s s.heap "java/lang/StringUTF16" "HI_BYTE_SHIFT" "I" (.int (0 : Int32)) := Sta.start (Cond.eq_int (hsets _ (List.mem_of_getElem? (i := 15) rfl)) rfl) (Or.inl (hsets _ (List.mem_of_getElem? (i := 14) rfl)))
  have Slo : Sta s s.heap "java/lang/StringUTF16" "LO_BYTE_SHIFT" "I" (.int (8 : Int32)) := Sta.start (Cond.eq_int (hsets _ (List.mem_of_getElem? (i := 18) rfl)) rfl) (Or.inl (hsets _ (List.mem_of_getElem? (i := 17) rfl)))
  have hcw : Jvm.Lit.compactW.before _ s = true := hsets _ (List.mem_of_getElem? (i := 2) rfl)
  have hz0 : ¬ zc.toInt = 0 := fun q => hzc (ow_eq q)
  obtain ⟨wf, ew, hr⟩ := isR_v (Cond.before_iff.mp (hsets _ (List.mem_of_getElem? (i := 8) rfl)))
  have Ssf : Sta s s.heap "jdk/internal/util/Preconditions" "SIOOBE_FORMATTER" "Ljava/util/function/BiFunction;" wf := Sta.start ew (Or.inl (hsets _ (List.mem_of_getElem? (i := 7) rfl)))
  have hwf : wf = .null ∨ ∃ a, wf = .ref a := by
    cases wf with
    | null => exact Or.inl rfl
    | ref a => exact Or.inr ⟨a, rfl⟩
    | _ => cases hr
  obtain ⟨n, o, h1, h2, h3, _, L, rfl, ⟨rfl, N⟩, hq⟩ := rm_law l s _ hw tables_1 hcw hcalls.1 i0 i1 i2 i3 i4 zc wf s.heap s.heap.size (Nat.le_refl _) (fun _ _ q => q) (Nat.le_refl _) rfl Scs Sad Shi Slo Ssf hz0 hwf p e ha hc hk s m _ below hf ((Spec.applies_iff_loose hf).mp happ).1 ⟨rfl, State.Warmed39.refl s, rfl, LT.start⟩ trivial
  refine ⟨n, _, h1, h2, h3, hpost _ _ _ _ _ _ ⟨Cond.after_iff.mpr rfl, Cond.after_iff.mpr (eq_i res_at (Term.int_eval (1)) rfl), trivial⟩ ⟨hq.1, hq.2.1, hq.2.2.1, (hq.2.2.2.sift fun y hy => Or.inr (N y hy)).mono (by decide) (by decide)⟩⟩
theorem main_1_1 : Claimed_1_1 := comes_1 fun _ _ _ _ _ _ h hF => ⟨h.1, hF⟩
theorem main_1_2 : Claimed_1_2 := comes_1 fun _ _ _ _ _ _ h hF => ⟨h.2.1, hF⟩
end Jvm.Pilot.@@N@@
namespace Jvm.Pilot.@@N@@
open Jvm Jvm.ClassFile Sem Op Lib Jvm.Free Jvm.Stand Jvm.Pilot.@@N@@.Jvm.D
/-! MADE BY PROGRAM (witnessworld.py) out of the Statement's table words and the real class files: 23 classes; the members and pool entries that the words name. The judged class is class 1, her method 2. -/
namespace start1
open Jvm.ClassFile
def u (s : String) : CpInfo := .utf8 (stringToUtf16 s)
/-- a pool by its gaps: so many unusable entries, then the entry; so many at the end -/
def gap : Nat → List CpInfo → List CpInfo
  | 0, r => r
  | n + 1, r => .unusable :: gap n r
def poolList (es : List (Nat × CpInfo)) (last : Nat) : List CpInfo := es.foldr (fun e r => gap e.1 (e.2 :: r)) (gap last [])
def pool (es : List (Nat × CpInfo)) (last : Nat) : Array CpInfo := ⟨poolList es last⟩
def fileOf (pool : Array CpInfo) (this : Nat) (attrs : Array Attribute := #[]) (ms : Array MethodInfo := #[]) (fl : Nat := 33) (sup : Nat := 0) (ifs : Array Nat := #[]) (fds : Array FieldInfo := #[]) : ClassFile where
  minorVersion := 0
  majorVersion := 65
  constantPool := pool
  accessFlags := fl
  thisClass := this
  superClass := sup
  interfaces := ifs
  fields := fds
  methods := ms
  attributes := attrs
def plain (name : String) (sup : Option ClassId) : Class where
  name := name
  kind := .ordinary
  loader := none
  accessFlags := 33
  super := sup
  interfaces := #[]
  cf := none
  fields := #[]
  methods := #[]
  instanceTypes := #[]
  staticTypes := #[]
  resolved := #[]
  callSites := []
  init := .initialized
  statics := none
  mirror := none

def pool0 : Array CpInfo := pool [(5, u "<init>"), (0, u "()V"), (1, .class_ 10), (1, u "java/lang/Object")] 113

def k0c0 : Code := { maxStack := 0, maxLocals := 1, code := object_method_1_code, exceptionTable := #[], attributes := #[] }
def k0m0 : Method := { name := "<init>", desc := "()V", sig := { parameters := [], returnType := none }, accessFlags := 1, code := some k0c0 }
/-- java/lang/Object -/
def k0 : Class := { plain "java/lang/Object" none with
  accessFlags := 33
  interfaces := #[]
  cf := some (fileOf pool0 8 #[] #[{ accessFlags := 1, nameIndex := 5, descriptorIndex := 6, attributes := #[] }] 33 0 #[] #[])
  fields := #[]
  methods := #[k0m0]
  instanceTypes := #[]
  staticTypes := #[]
  resolved := Array.replicate 124 none
  statics := none }

def pool1 : Array CpInfo := pool [(2, .class_ 4), (1, u "java/lang/Object"), (0, u "<init>"), (0, u "()V"), (0, .integer 65535), (0, .class_ 9), (0, u "java/lang/String"), (0, .methodref 8 11), (0, .nameAndType 5 12), (0, u "([C)V"), (0, .methodref 14 15), (0, .class_ 16), (0, .nameAndType 17 18), (0, u "com/example/inchworm/inchworm/store/HttpSyntaxIsUnreservedPinLaw"), (0, u "ok"), (0, u "(C)Z"), (0, .methodref 20 21), (0, .class_ 22), (0, .nameAndType 23 24), (0, u "com/example/inchworm/inchworm/store/HttpSyntax"), (0, u "isUnreserved"), (0, u "(Ljava/lang/String;)Z"), (3, u "law"), (0, u "(IIIII)Z")] 4

def k1m0 : Method := { name := "<init>", desc := "()V", sig := { parameters := [], returnType := none }, accessFlags := 2, code := none }
def k1c1 : Code := { maxStack := 2, maxLocals := 1, code := method_2_code, exceptionTable := #[], attributes := #[] }
def k1m1 : Method := { name := "ok", desc := "(C)Z", sig := { parameters := [.char], returnType := some .boolean }, accessFlags := 10, code := some k1c1 }
def k1c2 : Code := { maxStack := 4, maxLocals := 13, code := code, exceptionTable := #[], attributes := #[] }
def k1m2 : Method := { name := "law", desc := "(IIIII)Z", sig := { parameters := [.int, .int, .int, .int, .int], returnType := some .boolean }, accessFlags := 9, code := some k1c2 }
/-- com/example/inchworm/inchworm/store/HttpSyntaxIsUnreservedPinLaw -/
def k1 : Class := { plain "com/example/inchworm/inchworm/store/HttpSyntaxIsUnreservedPinLaw" (some 0) with
  accessFlags := 49
  interfaces := #[]
  cf := some (fileOf pool1 14 #[] #[{ accessFlags := 2, nameIndex := 5, descriptorIndex := 6, attributes := #[] }, { accessFlags := 10, nameIndex := 17, descriptorIndex := 18, attributes := #[] }, { accessFlags := 9, nameIndex := 28, descriptorIndex := 29, attributes := #[] }] 49 2 #[] #[])
  fields := #[]
  methods := #[k1m0, k1m1, k1m2]
  instanceTypes := #[]
  staticTypes := #[]
  resolved := Array.replicate 34 none
  statics := none }

def pool2 : Array CpInfo := pool [(1, .class_ 2), (0, u "java/io/Serializable"), (0, .class_ 4), (0, u "java/lang/Object")] 2

/-- java/io/Serializable -/
def k2 : Class := { plain "java/io/Serializable" (some 0) with
  accessFlags := 1537
  interfaces := #[]
  cf := some (fileOf pool2 1 #[] #[] 1537 3 #[] #[])
  fields := #[]
  methods := #[]
  instanceTypes := #[]
  staticTypes := #[]
  resolved := Array.replicate 7 none
  statics := none }

def pool3 : Array CpInfo := pool [(1, .class_ 2), (0, u "java/lang/Comparable"), (0, .class_ 4), (0, u "java/lang/Object")] 7

/-- java/lang/Comparable -/
def k3 : Class := { plain "java/lang/Comparable" (some 0) with
  accessFlags := 1537
  interfaces := #[]
  cf := some (fileOf pool3 1 #[] #[] 1537 3 #[] #[])
  fields := #[]
  methods := #[]
  instanceTypes := #[]
  staticTypes := #[]
  resolved := Array.replicate 12 none
  statics := none }

def pool4 : Array CpInfo := pool [(2, .class_ 4), (1, u "java/lang/CharSequence"), (42, .class_ 48), (0, u "java/lang/CharSequence$1CodePointIterator"), (10, .class_ 60), (0, u "java/lang/CharSequence$1CharIterator"), (5, .class_ 67), (0, u "java/lang/Object")] 63

/-- java/lang/CharSequence -/
def k4 : Class := { plain "java/lang/CharSequence" (some 0) with
  accessFlags := 1537
  interfaces := #[]
  cf := some (fileOf pool4 2 #[.nestMembers #[47, 59]] #[] 1537 66 #[] #[])
  fields := #[]
  methods := #[]
  instanceTypes := #[]
  staticTypes := #[]
  resolved := Array.replicate 131 none
  statics := none }

def pool5 : Array CpInfo := pool [(1, .class_ 2), (0, u "java/lang/constant/Constable"), (0, .class_ 4), (0, u "java/lang/Object")] 6

/-- java/lang/constant/Constable -/
def k5 : Class := { plain "java/lang/constant/Constable" (some 0) with
  accessFlags := 1537
  interfaces := #[]
  cf := some (fileOf pool5 1 #[] #[] 1537 3 #[] #[])
  fields := #[]
  methods := #[]
  instanceTypes := #[]
  staticTypes := #[]
  resolved := Array.replicate 11 none
  statics := none }

def pool6 : Array CpInfo := pool [(1, .class_ 2), (0, u "java/lang/constant/ConstantDesc"), (0, .class_ 4), (0, u "java/lang/Object")] 32

/-- java/lang/constant/ConstantDesc -/
def k6 : Class := { plain "java/lang/constant/ConstantDesc" (some 0) with
  accessFlags := 1537
  interfaces := #[]
  cf := some (fileOf pool6 1 #[] #[] 1537 3 #[] #[])
  fields := #[]
  methods := #[]
  instanceTypes := #[]
  staticTypes := #[]
  resolved := Array.replicate 37 none
  statics := none }

def pool7 : Array CpInfo := pool [(1, .methodref 2 3), (0, .class_ 4), (0, .nameAndType 5 6), (0, u "java/lang/Object"), (0, u "<init>"), (0, u "()V"), (0, .string 8), (0, u ""), (0, .fieldref 10 11), (0, .class_ 12), (0, .nameAndType 13 14), (0, u "java/lang/String"), (0, u "value"), (0, u "[B"), (0, .fieldref 10 16), (0, .nameAndType 17 18), (0, u "coder"), (0, u "B"), (2, u "hash"), (0, u "I"), (2, u "hashIsZero"), (0, u "Z"), (0, .methodref 10 28), (0, .nameAndType 5 29), (0, u "([CIILjava/lang/Void;)V"), (8, .fieldref 10 39), (0, .nameAndType 40 26), (0, u "COMPACT_STRINGS"), (1, .class_ 44), (1, u "java/lang/StringUTF16"), (0, u "compress"), (1, .methodref 42 48), (0, .nameAndType 49 50), (0, u "coderFromArrayLen"), (0, u "([BI)B"), (56, .class_ 109), (1, u "java/lang/StringLatin1"), (32, u "()Z"), (34, .methodref 42 178), (0, .nameAndType 45 179), (0, u "([CII)[B"), (154, u "()I"), (0, .methodref 10 336), (0, .nameAndType 17 337), (0, u "()B"), (25, u "([BI)C"), (27, u "(II)V"), (35, u "(I)C"), (64, .methodref 10 493), (0, .nameAndType 494 142), (0, u "isLatin1"), (0, .methodref 107 496), (0, .nameAndType 497 363), (0, u "charAt"), (0, .methodref 42 496), (2, u "checkIndex"), (3, .methodref 10 506), (0, .nameAndType 507 334), (0, u "length"), (67, .class_ 576), (0, u "java/lang/CharSequence"), (22, u "CASE_INSENSITIVE_ORDER"), (0, u "Ljava/util/Comparator;"), (32, .methodref 10 634), (0, .nameAndType 635 636), (0, u "indexOf"), (0, u "(II)I"), (0, .methodref 107 638), (0, .nameAndType 635 639), (0, u "([BIII)I"), (52, u "isEmpty"), (72, u "(I)I"), (244, u "([C)V"), (42, .fieldref 1054 1055), (0, .class_ 1056), (0, .nameAndType 1057 1058), (0, u "jdk/internal/util/Preconditions"), (0, u "SIOOBE_FORMATTER"), (0, u "Ljava/util/function/BiFunction;"), (0, .methodref 1054 1060), (0, .nameAndType 501 1061), (0, u "(IILjava/util/function/BiFunction;)I"), (39, u "serialPersistentFields"), (0, u "[Ljava/io/ObjectStreamField;"), (0, .class_ 1104), (0, u "java/lang/String$CaseInsensitiveComparator"), (1, .class_ 1107), (0, u "java/io/Serializable"), (0, .class_ 1109), (0, u "java/lang/Comparable"), (0, .class_ 1111), (0, u "java/lang/constant/Constable"), (0, .class_ 1113), (0, u "java/lang/constant/ConstantDesc"), (2, u "serialVersionUID"), (0, u "J"), (3, u "REPL"), (0, u "C"), (2, u "LATIN1"), (1, u "UTF16")] 323

def k7m0 : Method := { name := "<init>", desc := "()V", sig := { parameters := [], returnType := none }, accessFlags := 1, code := none }
def k7c1 : Code := { maxStack := 5, maxLocals := 2, code := jdk_42_method_3_code, exceptionTable := #[], attributes := #[] }
def k7m1 : Method := { name := "<init>", desc := "([C)V", sig := { parameters := [(.array .char)], returnType := none }, accessFlags := 1, code := some k7c1 }
def k7c2 : Code := { maxStack := 2, maxLocals := 1, code := jdk_42_method_54_code, exceptionTable := #[], attributes := #[] }
def k7m2 : Method := { name := "length", desc := "()I", sig := { parameters := [], returnType := some .int }, accessFlags := 1, code := some k7c2 }
def k7c3 : Code := { maxStack := 1, maxLocals := 1, code := jdk_42_method_55_code, exceptionTable := #[], attributes := #[] }
def k7m3 : Method := { name := "isEmpty", desc := "()Z", sig := { parameters := [], returnType := some .boolean }, accessFlags := 1, code := some k7c3 }
def k7c4 : Code := { maxStack := 2, maxLocals := 2, code := jdk_42_method_56_code, exceptionTable := #[], attributes := #[] }
def k7m4 : Method := { name := "charAt", desc := "(I)C", sig := { parameters := [.int], returnType := some .char }, accessFlags := 1, code := some k7c4 }
def k7c5 : Code := { maxStack := 3, maxLocals := 2, code := jdk_42_method_79_code, exceptionTable := #[], attributes := #[] }
def k7m5 : Method := { name := "indexOf", desc := "(I)I", sig := { parameters := [.int], returnType := some .int }, accessFlags := 1, code := some k7c5 }
def k7c6 : Code := { maxStack := 4, maxLocals := 3, code := jdk_42_method_80_code, exceptionTable := #[], attributes := #[] }
def k7m6 : Method := { name := "indexOf", desc := "(II)I", sig := { parameters := [.int, .int], returnType := some .int }, accessFlags := 1, code := some k7c6 }
def k7c7 : Code := { maxStack := 4, maxLocals := 6, code := jdk_42_method_149_code, exceptionTable := #[], attributes := #[] }
def k7m7 : Method := { name := "<init>", desc := "([CIILjava/lang/Void;)V", sig := { parameters := [(.array .char), .int, .int, (.object "java/lang/Void")], returnType := none }, accessFlags := 2, code := some k7c7 }
def k7c8 : Code := { maxStack := 1, maxLocals := 1, code := jdk_42_method_152_code, exceptionTable := #[], attributes := #[] }
def k7m8 : Method := { name := "coder", desc := "()B", sig := { parameters := [], returnType := some .byte }, accessFlags := 0, code := some k7c8 }
def k7c9 : Code := { maxStack := 1, maxLocals := 1, code := jdk_42_method_154_code, exceptionTable := #[], attributes := #[] }
def k7m9 : Method := { name := "isLatin1", desc := "()Z", sig := { parameters := [], returnType := some .boolean }, accessFlags := 0, code := some k7c9 }
def k7c10 : Code := { maxStack := 3, maxLocals := 2, code := jdk_42_method_155_code, exceptionTable := #[], attributes := #[] }
def k7m10 : Method := { name := "checkIndex", desc := "(II)V", sig := { parameters := [.int, .int], returnType := none }, accessFlags := 8, code := some k7c10 }
/-- java/lang/String -/
def k7 : Class := { plain "java/lang/String" (some 0) with
  accessFlags := 49
  interfaces := #[2, 3, 4, 5, 6]
  cf := some (fileOf pool7 10 #[.nestMembers #[1103]] #[{ accessFlags := 1, nameIndex := 5, descriptorIndex := 6, attributes := #[] }, { accessFlags := 1, nameIndex := 5, descriptorIndex := 1010, attributes := #[] }, { accessFlags := 1, nameIndex := 507, descriptorIndex := 334, attributes := #[] }, { accessFlags := 1, nameIndex := 692, descriptorIndex := 142, attributes := #[] }, { accessFlags := 1, nameIndex := 497, descriptorIndex := 427, attributes := #[] }, { accessFlags := 1, nameIndex := 635, descriptorIndex := 765, attributes := #[] }, { accessFlags := 1, nameIndex := 635, descriptorIndex := 636, attributes := #[] }, { accessFlags := 2, nameIndex := 5, descriptorIndex := 29, attributes := #[] }, { accessFlags := 0, nameIndex := 17, descriptorIndex := 337, attributes := #[] }, { accessFlags := 0, nameIndex := 494, descriptorIndex := 142, attributes := #[] }, { accessFlags := 8, nameIndex := 501, descriptorIndex := 391, attributes := #[] }] 49 2 #[1106, 1108, 575, 1110, 1112] #[{ accessFlags := 18, nameIndex := 13, descriptorIndex := 14, attributes := #[] }, { accessFlags := 18, nameIndex := 17, descriptorIndex := 18, attributes := #[] }, { accessFlags := 2, nameIndex := 21, descriptorIndex := 22, attributes := #[] }, { accessFlags := 2, nameIndex := 25, descriptorIndex := 26, attributes := #[] }, { accessFlags := 26, nameIndex := 1116, descriptorIndex := 1117, attributes := #[] }, { accessFlags := 24, nameIndex := 40, descriptorIndex := 26, attributes := #[] }, { accessFlags := 26, nameIndex := 1101, descriptorIndex := 1102, attributes := #[] }, { accessFlags := 26, nameIndex := 1121, descriptorIndex := 1122, attributes := #[] }, { accessFlags := 25, nameIndex := 599, descriptorIndex := 600, attributes := #[] }, { accessFlags := 24, nameIndex := 1125, descriptorIndex := 18, attributes := #[] }, { accessFlags := 24, nameIndex := 1127, descriptorIndex := 18, attributes := #[] }])
  fields := #[{ name := "value", type := (.array .byte), accessFlags := 18, slot := 0, constantValue := 0 }, { name := "coder", type := .byte, accessFlags := 18, slot := 1, constantValue := 0 }, { name := "hash", type := .int, accessFlags := 2, slot := 2, constantValue := 0 }, { name := "hashIsZero", type := .boolean, accessFlags := 2, slot := 3, constantValue := 0 }, { name := "serialVersionUID", type := .long, accessFlags := 26, slot := 0, constantValue := 0 }, { name := "COMPACT_STRINGS", type := .boolean, accessFlags := 24, slot := 1, constantValue := 0 }, { name := "serialPersistentFields", type := (.array (.object "java/io/ObjectStreamField")), accessFlags := 26, slot := 2, constantValue := 0 }, { name := "REPL", type := .char, accessFlags := 26, slot := 3, constantValue := 0 }, { name := "CASE_INSENSITIVE_ORDER", type := (.object "java/util/Comparator"), accessFlags := 25, slot := 4, constantValue := 0 }, { name := "LATIN1", type := .byte, accessFlags := 24, slot := 5, constantValue := 0 }, { name := "UTF16", type := .byte, accessFlags := 24, slot := 6, constantValue := 0 }]
  methods := #[k7m0, k7m1, k7m2, k7m3, k7m4, k7m5, k7m6, k7m7, k7m8, k7m9, k7m10]
  instanceTypes := #[(.array .byte), .byte, .int, .boolean]
  staticTypes := #[.long, .boolean, (.array (.object "java/io/ObjectStreamField")), .char, (.object "java/util/Comparator"), .byte, .byte]
  resolved := Array.replicate 1451 none
  statics := some 0 }

def pool8 : Array CpInfo := pool [(2, .class_ 4), (1, u "java/lang/Object"), (0, u "<init>"), (0, u "()V"), (1, .nameAndType 9 10), (0, u "test"), (0, u "()Lcom/example/inchworm/inchworm/store/HttpSyntax$CharTest;"), (0, .methodref 12 13), (0, .class_ 14), (0, .nameAndType 15 16), (0, u "com/example/inchworm/inchworm/store/HttpSyntax"), (0, u "consistsOf"), (0, u "(Ljava/lang/String;Lcom/example/inchworm/inchworm/store/HttpSyntax$CharTest;)Z"), (0, .invokeDynamic 1 8), (0, .methodref 12 19), (0, .nameAndType 20 21), (0, u "isAlphanumeric"), (0, u "(C)Z"), (0, .string 23), (0, u "-._~"), (0, .methodref 25 26), (0, .class_ 27), (0, .nameAndType 28 29), (0, u "java/lang/String"), (0, u "indexOf"), (0, u "(I)I"), (2, .methodref 25 33), (0, .nameAndType 34 35), (0, u "isEmpty"), (0, u "()Z"), (0, .methodref 25 37), (0, .nameAndType 38 39), (0, u "length"), (0, u "()I"), (0, .methodref 25 41), (0, .nameAndType 42 43), (0, u "charAt"), (0, u "(I)C"), (0, .interfaceMethodref 45 46), (0, .class_ 47), (0, .nameAndType 9 21), (0, u "com/example/inchworm/inchworm/store/HttpSyntax$CharTest"), (0, u "TOKEN_SYMBOLS"), (0, u "Ljava/lang/String;"), (1, u "UNRESERVED_SYMBOLS"), (3, u "(Ljava/lang/String;)Z"), (0, u "isUnreserved"), (6, .methodType 21), (3, .methodHandle 6 68), (0, .methodref 12 69), (0, .nameAndType 56 21), (0, .methodHandle 6 71), (0, .methodref 72 73), (0, .class_ 74), (0, .nameAndType 75 76), (0, u "java/lang/invoke/LambdaMetafactory"), (0, u "metafactory"), (0, u "(Ljava/lang/invoke/MethodHandles$Lookup;Ljava/lang/String;Ljava/lang/invoke/MethodType;Ljava/lang/invoke/MethodType;Ljava/lang/invoke/MethodHandle;Ljava/lang/invoke/MethodType;)Ljava/lang/invoke/CallSite;")] 7

def k8m0 : Method := { name := "<init>", desc := "()V", sig := { parameters := [], returnType := none }, accessFlags := 2, code := none }
def k8c1 : Code := { maxStack := 2, maxLocals := 1, code := prog_41_method_3_code, exceptionTable := #[], attributes := #[] }
def k8m1 : Method := { name := "isUnreserved", desc := "(Ljava/lang/String;)Z", sig := { parameters := [(.object "java/lang/String")], returnType := some .boolean }, accessFlags := 9, code := some k8c1 }
def k8c2 : Code := { maxStack := 2, maxLocals := 1, code := prog_41_method_4_code, exceptionTable := #[], attributes := #[] }
def k8m2 : Method := { name := "isUnreserved", desc := "(C)Z", sig := { parameters := [.char], returnType := some .boolean }, accessFlags := 9, code := some k8c2 }
def k8c3 : Code := { maxStack := 3, maxLocals := 3, code := prog_41_method_6_code, exceptionTable := #[], attributes := #[] }
def k8m3 : Method := { name := "consistsOf", desc := "(Ljava/lang/String;Lcom/example/inchworm/inchworm/store/HttpSyntax$CharTest;)Z", sig := { parameters := [(.object "java/lang/String"), (.object "com/example/inchworm/inchworm/store/HttpSyntax$CharTest")], returnType := some .boolean }, accessFlags := 10, code := some k8c3 }
def k8c4 : Code := { maxStack := 2, maxLocals := 1, code := prog_41_method_7_code, exceptionTable := #[], attributes := #[] }
def k8m4 : Method := { name := "isAlphanumeric", desc := "(C)Z", sig := { parameters := [.char], returnType := some .boolean }, accessFlags := 10, code := some k8c4 }
/-- com/example/inchworm/inchworm/store/HttpSyntax -/
def k8 : Class := { plain "com/example/inchworm/inchworm/store/HttpSyntax" (some 0) with
  accessFlags := 49
  interfaces := #[]
  cf := some (fileOf pool8 12 #[.nestMembers #[45], .bootstrapMethods #[⟨0, #[]⟩, ⟨70, #[63, 67, 63]⟩]] #[{ accessFlags := 2, nameIndex := 5, descriptorIndex := 6, attributes := #[] }, { accessFlags := 9, nameIndex := 56, descriptorIndex := 55, attributes := #[] }, { accessFlags := 9, nameIndex := 56, descriptorIndex := 21, attributes := #[] }, { accessFlags := 10, nameIndex := 15, descriptorIndex := 16, attributes := #[] }, { accessFlags := 10, nameIndex := 20, descriptorIndex := 21, attributes := #[] }] 49 2 #[] #[{ accessFlags := 26, nameIndex := 48, descriptorIndex := 49, attributes := #[] }, { accessFlags := 26, nameIndex := 51, descriptorIndex := 49, attributes := #[] }])
  fields := #[{ name := "TOKEN_SYMBOLS", type := (.object "java/lang/String"), accessFlags := 26, slot := 0, constantValue := 0 }, { name := "UNRESERVED_SYMBOLS", type := (.object "java/lang/String"), accessFlags := 26, slot := 1, constantValue := 0 }]
  methods := #[k8m0, k8m1, k8m2, k8m3, k8m4]
  instanceTypes := #[]
  staticTypes := #[(.object "java/lang/String"), (.object "java/lang/String")]
  resolved := Array.replicate 84 none
  callSites := [(1, 1, .constant 3)]
  statics := none }

def pool9 : Array CpInfo := pool [(1, .class_ 2), (0, u "com/example/inchworm/inchworm/store/HttpSyntax$CharTest"), (0, .class_ 4), (0, u "java/lang/Object"), (0, u "test"), (0, u "(C)Z"), (5, .class_ 13), (0, u "com/example/inchworm/inchworm/store/HttpSyntax")] 2

def k9m0 : Method := { name := "test", desc := "(C)Z", sig := { parameters := [.char], returnType := some .boolean }, accessFlags := 1025, code := none }
/-- com/example/inchworm/inchworm/store/HttpSyntax$CharTest -/
def k9 : Class := { plain "com/example/inchworm/inchworm/store/HttpSyntax$CharTest" (some 0) with
  accessFlags := 1536
  interfaces := #[]
  cf := some (fileOf pool9 1 #[.nestHost 12] #[{ accessFlags := 1025, nameIndex := 5, descriptorIndex := 6, attributes := #[] }] 1536 3 #[] #[])
  fields := #[]
  methods := #[k9m0]
  instanceTypes := #[]
  staticTypes := #[]
  resolved := Array.replicate 16 none
  statics := none }

def pool10 : Array CpInfo := pool [(3, .class_ 4), (0, u "java/lang/String"), (1, .class_ 8), (1, u "java/lang/Object"), (0, u "<init>"), (0, u "()V"), (0, .methodref 12 13), (0, .class_ 14), (0, .nameAndType 15 16), (0, u "java/lang/StringUTF16"), (0, u "newBytesLength"), (0, u "(I)I"), (3, .integer 1073741823), (23, .fieldref 12 45), (0, .nameAndType 46 47), (0, u "$assertionsDisabled"), (0, u "Z"), (0, .methodref 12 49), (0, .nameAndType 50 51), (0, u "length"), (0, u "([B)I"), (7, .fieldref 12 60), (0, .nameAndType 61 62), (0, u "HI_BYTE_SHIFT"), (0, u "I"), (0, .fieldref 12 64), (0, .nameAndType 65 62), (0, u "LO_BYTE_SHIFT"), (1, .methodref 12 68), (0, .nameAndType 69 70), (0, u "checkIndex"), (0, u "(I[B)V"), (0, .methodref 12 72), (0, .nameAndType 73 74), (0, u "getChar"), (0, u "([BI)C"), (32, .methodref 12 108), (0, .nameAndType 109 110), (0, u "newBytesFor"), (0, u "(I)[B"), (0, .methodref 12 112), (0, .nameAndType 113 114), (0, u "putChar"), (0, u "([BII)V"), (0, .methodref 12 116), (0, .nameAndType 117 118), (0, u "compress"), (0, u "([CI[BII)I"), (0, .methodref 12 120), (0, .nameAndType 121 122), (0, u "toBytes"), (0, u "([CII)[B"), (138, u "coderFromArrayLen"), (0, u "([BI)B"), (106, .class_ 371), (1, u "java/lang/StringUTF16$LinesSpliterator"), (20, u "charAt"), (21, .methodref 3 415), (0, .nameAndType 69 416), (0, u "(II)V"), (13, u "MAX_LENGTH"), (196, .class_ 628), (0, u "java/lang/StringUTF16$CodePointsSpliterator"), (0, .class_ 630), (0, u "java/lang/StringUTF16$CharsSpliterator")] 4

def k10m0 : Method := { name := "<init>", desc := "()V", sig := { parameters := [], returnType := none }, accessFlags := 0, code := none }
def k10c1 : Code := { maxStack := 1, maxLocals := 1, code := jdk_52_method_2_code, exceptionTable := #[], attributes := #[] }
def k10m1 : Method := { name := "newBytesFor", desc := "(I)[B", sig := { parameters := [.int], returnType := some (.array .byte) }, accessFlags := 9, code := some k10c1 }
def k10c2 : Code := { maxStack := 4, maxLocals := 1, code := jdk_52_method_3_code, exceptionTable := #[], attributes := #[] }
def k10m2 : Method := { name := "newBytesLength", desc := "(I)I", sig := { parameters := [.int], returnType := some .int }, accessFlags := 9, code := some k10c2 }
def k10c3 : Code := { maxStack := 4, maxLocals := 3, code := jdk_52_method_4_code, exceptionTable := #[], attributes := #[] }
def k10m3 : Method := { name := "putChar", desc := "([BII)V", sig := { parameters := [(.array .byte), .int, .int], returnType := none }, accessFlags := 8, code := some k10c3 }
def k10c4 : Code := { maxStack := 3, maxLocals := 2, code := jdk_52_method_5_code, exceptionTable := #[], attributes := #[] }
def k10m4 : Method := { name := "getChar", desc := "([BI)C", sig := { parameters := [(.array .byte), .int], returnType := some .char }, accessFlags := 8, code := some k10c4 }
def k10c5 : Code := { maxStack := 2, maxLocals := 1, code := jdk_52_method_6_code, exceptionTable := #[], attributes := #[] }
def k10m5 : Method := { name := "length", desc := "([B)I", sig := { parameters := [(.array .byte)], returnType := some .int }, accessFlags := 9, code := some k10c5 }
def k10c6 : Code := { maxStack := 4, maxLocals := 5, code := jdk_52_method_14_code, exceptionTable := #[], attributes := #[] }
def k10m6 : Method := { name := "toBytes", desc := "([CII)[B", sig := { parameters := [(.array .char), .int, .int], returnType := some (.array .byte) }, accessFlags := 9, code := some k10c6 }
def k10c7 : Code := { maxStack := 2, maxLocals := 2, code := jdk_52_method_15_code, exceptionTable := #[], attributes := #[] }
def k10m7 : Method := { name := "coderFromArrayLen", desc := "([BI)B", sig := { parameters := [(.array .byte), .int], returnType := some .byte }, accessFlags := 8, code := some k10c7 }
def k10c8 : Code := { maxStack := 5, maxLocals := 6, code := jdk_52_method_16_code, exceptionTable := #[], attributes := #[] }
def k10m8 : Method := { name := "compress", desc := "([CII)[B", sig := { parameters := [(.array .char), .int, .int], returnType := some (.array .byte) }, accessFlags := 9, code := some k10c8 }
def k10c9 : Code := { maxStack := 3, maxLocals := 7, code := jdk_52_method_21_code, exceptionTable := #[], attributes := #[] }
def k10m9 : Method := { name := "compress", desc := "([CI[BII)I", sig := { parameters := [(.array .char), .int, (.array .byte), .int, .int], returnType := some .int }, accessFlags := 9, code := some k10c9 }
def k10c10 : Code := { maxStack := 2, maxLocals := 2, code := jdk_52_method_83_code, exceptionTable := #[], attributes := #[] }
def k10m10 : Method := { name := "charAt", desc := "([BI)C", sig := { parameters := [(.array .byte), .int], returnType := some .char }, accessFlags := 9, code := some k10c10 }
def k10c11 : Code := { maxStack := 2, maxLocals := 2, code := jdk_52_method_91_code, exceptionTable := #[], attributes := #[] }
def k10m11 : Method := { name := "checkIndex", desc := "(I[B)V", sig := { parameters := [.int, (.array .byte)], returnType := none }, accessFlags := 9, code := some k10c11 }
/-- java/lang/StringUTF16 -/
def k10 : Class := { plain "java/lang/StringUTF16" (some 0) with
  accessFlags := 48
  interfaces := #[]
  cf := some (fileOf pool10 12 #[.nestMembers #[627, 629, 369]] #[{ accessFlags := 0, nameIndex := 9, descriptorIndex := 10, attributes := #[] }, { accessFlags := 9, nameIndex := 109, descriptorIndex := 110, attributes := #[] }, { accessFlags := 9, nameIndex := 15, descriptorIndex := 16, attributes := #[] }, { accessFlags := 8, nameIndex := 113, descriptorIndex := 114, attributes := #[] }, { accessFlags := 8, nameIndex := 73, descriptorIndex := 74, attributes := #[] }, { accessFlags := 9, nameIndex := 50, descriptorIndex := 51, attributes := #[] }, { accessFlags := 9, nameIndex := 121, descriptorIndex := 122, attributes := #[] }, { accessFlags := 8, nameIndex := 261, descriptorIndex := 262, attributes := #[] }, { accessFlags := 9, nameIndex := 117, descriptorIndex := 122, attributes := #[] }, { accessFlags := 9, nameIndex := 117, descriptorIndex := 118, attributes := #[] }, { accessFlags := 9, nameIndex := 392, descriptorIndex := 74, attributes := #[] }, { accessFlags := 9, nameIndex := 69, descriptorIndex := 70, attributes := #[] }] 48 6 #[] #[{ accessFlags := 26, nameIndex := 61, descriptorIndex := 62, attributes := #[] }, { accessFlags := 26, nameIndex := 65, descriptorIndex := 62, attributes := #[] }, { accessFlags := 24, nameIndex := 430, descriptorIndex := 62, attributes := #[] }, { accessFlags := 4120, nameIndex := 46, descriptorIndex := 47, attributes := #[] }])
  fields := #[{ name := "HI_BYTE_SHIFT", type := .int, accessFlags := 26, slot := 0, constantValue := 0 }, { name := "LO_BYTE_SHIFT", type := .int, accessFlags := 26, slot := 1, constantValue := 0 }, { name := "MAX_LENGTH", type := .int, accessFlags := 24, slot := 2, constantValue := 0 }, { name := "$assertionsDisabled", type := .boolean, accessFlags := 4120, slot := 3, constantValue := 0 }]
  methods := #[k10m0, k10m1, k10m2, k10m3, k10m4, k10m5, k10m6, k10m7, k10m8, k10m9, k10m10, k10m11]
  instanceTypes := #[]
  staticTypes := #[.int, .int, .int, .boolean]
  resolved := Array.replicate 635 none
  statics := some 1 }

def pool11 : Array CpInfo := pool [(1, .class_ 2), (0, u "java/lang/String"), (1, .class_ 6), (1, u "java/lang/Object"), (0, u "<init>"), (0, u "()V"), (0, .methodref 1 10), (0, .nameAndType 11 12), (0, u "checkIndex"), (0, u "(II)V"), (1, .class_ 16), (1, u "java/lang/StringLatin1"), (21, .methodref 39 40), (0, .class_ 41), (0, .nameAndType 42 43), (0, u "java/lang/Math"), (0, u "min"), (0, u "(II)I"), (9, u "([BI)C"), (34, .methodref 14 89), (0, .nameAndType 90 91), (0, u "canEncode"), (0, u "(I)Z"), (0, .methodref 39 93), (0, .nameAndType 94 43), (0, u "max"), (0, .methodref 14 96), (0, .nameAndType 97 98), (0, u "indexOfChar"), (0, u "([BIII)I"), (2, u "indexOf"), (19, u "$assertionsDisabled"), (0, u "Z"), (98, .class_ 223), (1, u "java/lang/StringLatin1$LinesSpliterator"), (28, u "charAt"), (137, .class_ 391), (0, u "java/lang/StringLatin1$CharsSpliterator")] 3

def k11m0 : Method := { name := "<init>", desc := "()V", sig := { parameters := [], returnType := none }, accessFlags := 0, code := none }
def k11c1 : Code := { maxStack := 2, maxLocals := 2, code := jdk_43_method_2_code, exceptionTable := #[], attributes := #[] }
def k11m1 : Method := { name := "charAt", desc := "([BI)C", sig := { parameters := [(.array .byte), .int], returnType := some .char }, accessFlags := 9, code := some k11c1 }
def k11c2 : Code := { maxStack := 2, maxLocals := 1, code := jdk_43_method_4_code, exceptionTable := #[], attributes := #[] }
def k11m2 : Method := { name := "canEncode", desc := "(I)Z", sig := { parameters := [.int], returnType := some .boolean }, accessFlags := 9, code := some k11c2 }
def k11c3 : Code := { maxStack := 4, maxLocals := 4, code := jdk_43_method_22_code, exceptionTable := #[], attributes := #[] }
def k11m3 : Method := { name := "indexOf", desc := "([BIII)I", sig := { parameters := [(.array .byte), .int, .int, .int], returnType := some .int }, accessFlags := 9, code := some k11c3 }
def k11c4 : Code := { maxStack := 2, maxLocals := 6, code := jdk_43_method_23_code, exceptionTable := #[], attributes := #[] }
def k11m4 : Method := { name := "indexOfChar", desc := "([BIII)I", sig := { parameters := [(.array .byte), .int, .int, .int], returnType := some .int }, accessFlags := 10, code := some k11c4 }
/-- java/lang/StringLatin1 -/
def k11 : Class := { plain "java/lang/StringLatin1" (some 0) with
  accessFlags := 48
  interfaces := #[]
  cf := some (fileOf pool11 14 #[.nestMembers #[390, 221]] #[{ accessFlags := 0, nameIndex := 7, descriptorIndex := 8, attributes := #[] }, { accessFlags := 9, nameIndex := 252, descriptorIndex := 53, attributes := #[] }, { accessFlags := 9, nameIndex := 90, descriptorIndex := 91, attributes := #[] }, { accessFlags := 9, nameIndex := 101, descriptorIndex := 98, attributes := #[] }, { accessFlags := 10, nameIndex := 97, descriptorIndex := 98, attributes := #[] }] 48 4 #[] #[{ accessFlags := 4120, nameIndex := 121, descriptorIndex := 122, attributes := #[] }])
  fields := #[{ name := "$assertionsDisabled", type := .boolean, accessFlags := 4120, slot := 0, constantValue := 0 }]
  methods := #[k11m0, k11m1, k11m2, k11m3, k11m4]
  instanceTypes := #[]
  staticTypes := #[.boolean]
  resolved := Array.replicate 395 none
  statics := none }

def pool12 : Array CpInfo := pool [(2, .class_ 4), (1, u "java/lang/Object"), (0, u "<init>"), (0, u "()V"), (17, .class_ 26), (1, u "jdk/internal/util/Preconditions"), (6, u "checkIndex"), (21, .class_ 56), (0, u "jdk/internal/util/Preconditions$4"), (57, .class_ 115), (0, u "jdk/internal/util/Preconditions$1"), (7, u "SIOOBE_FORMATTER"), (0, u "Ljava/util/function/BiFunction;"), (0, .class_ 126), (0, u "jdk/internal/util/Preconditions$2"), (3, u "AIOOBE_FORMATTER"), (0, .class_ 132), (0, u "jdk/internal/util/Preconditions$3"), (3, u "IOOBE_FORMATTER"), (41, u "(IILjava/util/function/BiFunction;)I")] 15

def k12m0 : Method := { name := "<init>", desc := "()V", sig := { parameters := [], returnType := none }, accessFlags := 1, code := none }
def k12c1 : Code := { maxStack := 3, maxLocals := 3, code := jdk_41_method_11_code, exceptionTable := #[], attributes := #[] }
def k12m1 : Method := { name := "checkIndex", desc := "(IILjava/util/function/BiFunction;)I", sig := { parameters := [.int, .int, (.object "java/util/function/BiFunction")], returnType := some .int }, accessFlags := 9, code := some k12c1 }
/-- jdk/internal/util/Preconditions -/
def k12 : Class := { plain "jdk/internal/util/Preconditions" (some 0) with
  accessFlags := 33
  interfaces := #[]
  cf := some (fileOf pool12 24 #[.nestMembers #[55, 131, 125, 114]] #[{ accessFlags := 1, nameIndex := 5, descriptorIndex := 6, attributes := #[] }, { accessFlags := 9, nameIndex := 33, descriptorIndex := 178, attributes := #[] }] 33 2 #[] #[{ accessFlags := 25, nameIndex := 123, descriptorIndex := 124, attributes := #[] }, { accessFlags := 25, nameIndex := 130, descriptorIndex := 124, attributes := #[] }, { accessFlags := 25, nameIndex := 136, descriptorIndex := 124, attributes := #[] }])
  fields := #[{ name := "SIOOBE_FORMATTER", type := (.object "java/util/function/BiFunction"), accessFlags := 25, slot := 0, constantValue := 0 }, { name := "AIOOBE_FORMATTER", type := (.object "java/util/function/BiFunction"), accessFlags := 25, slot := 1, constantValue := 0 }, { name := "IOOBE_FORMATTER", type := (.object "java/util/function/BiFunction"), accessFlags := 25, slot := 2, constantValue := 0 }]
  methods := #[k12m0, k12m1]
  instanceTypes := #[]
  staticTypes := #[(.object "java/util/function/BiFunction"), (.object "java/util/function/BiFunction"), (.object "java/util/function/BiFunction")]
  resolved := Array.replicate 194 none
  statics := some 2 }

def pool13 : Array CpInfo := pool [(1, .class_ 2), (0, u "java/lang/Math"), (1, .class_ 6), (1, u "java/lang/Object"), (0, u "<init>"), (0, u "()V"), (89, .class_ 100), (1, u "java/lang/Math$RandomNumberGeneratorHolder"), (71, u "negativeZeroFloatBits"), (0, u "J"), (2, u "negativeZeroDoubleBits"), (21, u "max"), (2, u "min"), (43, u "$assertionsDisabled"), (0, u "Z"), (88, u "(II)I"), (2, u "twoToTheDoubleScaleDown"), (0, u "D"), (4, u "twoToTheDoubleScaleUp"), (9, u "E"), (3, u "PI"), (2, u "TAU"), (2, u "DEGREES_TO_RADIANS"), (0, u "RADIANS_TO_DEGREES")] 94

def k13m0 : Method := { name := "<init>", desc := "()V", sig := { parameters := [], returnType := none }, accessFlags := 2, code := none }
def k13c1 : Code := { maxStack := 2, maxLocals := 2, code := jdk_29_method_65_code, exceptionTable := #[], attributes := #[] }
def k13m1 : Method := { name := "max", desc := "(II)I", sig := { parameters := [.int, .int], returnType := some .int }, accessFlags := 9, code := some k13c1 }
def k13c2 : Code := { maxStack := 2, maxLocals := 2, code := jdk_29_method_69_code, exceptionTable := #[], attributes := #[] }
def k13m2 : Method := { name := "min", desc := "(II)I", sig := { parameters := [.int, .int], returnType := some .int }, accessFlags := 9, code := some k13c2 }
/-- java/lang/Math -/
def k13 : Class := { plain "java/lang/Math" (some 0) with
  accessFlags := 49
  interfaces := #[]
  cf := some (fileOf pool13 1 #[.nestMembers #[98]] #[{ accessFlags := 2, nameIndex := 7, descriptorIndex := 8, attributes := #[] }, { accessFlags := 9, nameIndex := 198, descriptorIndex := 335, attributes := #[] }, { accessFlags := 9, nameIndex := 201, descriptorIndex := 335, attributes := #[] }] 49 4 #[] #[{ accessFlags := 25, nameIndex := 354, descriptorIndex := 339, attributes := #[] }, { accessFlags := 25, nameIndex := 358, descriptorIndex := 339, attributes := #[] }, { accessFlags := 25, nameIndex := 361, descriptorIndex := 339, attributes := #[] }, { accessFlags := 26, nameIndex := 364, descriptorIndex := 339, attributes := #[] }, { accessFlags := 26, nameIndex := 365, descriptorIndex := 339, attributes := #[] }, { accessFlags := 26, nameIndex := 172, descriptorIndex := 173, attributes := #[] }, { accessFlags := 26, nameIndex := 176, descriptorIndex := 173, attributes := #[] }, { accessFlags := 8, nameIndex := 344, descriptorIndex := 339, attributes := #[] }, { accessFlags := 8, nameIndex := 338, descriptorIndex := 339, attributes := #[] }, { accessFlags := 4120, nameIndex := 245, descriptorIndex := 246, attributes := #[] }])
  fields := #[{ name := "E", type := .double, accessFlags := 25, slot := 0, constantValue := 0 }, { name := "PI", type := .double, accessFlags := 25, slot := 1, constantValue := 0 }, { name := "TAU", type := .double, accessFlags := 25, slot := 2, constantValue := 0 }, { name := "DEGREES_TO_RADIANS", type := .double, accessFlags := 26, slot := 3, constantValue := 0 }, { name := "RADIANS_TO_DEGREES", type := .double, accessFlags := 26, slot := 4, constantValue := 0 }, { name := "negativeZeroFloatBits", type := .long, accessFlags := 26, slot := 5, constantValue := 0 }, { name := "negativeZeroDoubleBits", type := .long, accessFlags := 26, slot := 6, constantValue := 0 }, { name := "twoToTheDoubleScaleUp", type := .double, accessFlags := 8, slot := 7, constantValue := 0 }, { name := "twoToTheDoubleScaleDown", type := .double, accessFlags := 8, slot := 8, constantValue := 0 }, { name := "$assertionsDisabled", type := .boolean, accessFlags := 4120, slot := 9, constantValue := 0 }]
  methods := #[k13m0, k13m1, k13m2]
  instanceTypes := #[]
  staticTypes := #[.double, .double, .double, .double, .double, .long, .long, .double, .double, .boolean]
  resolved := Array.replicate 460 none
  statics := none }

def pool14 : Array CpInfo := pool [(9, u "<init>"), (6, .class_ 18), (1, u "java/lang/Object"), (0, u "()V"), (1, .class_ 23), (1, u "jdk/internal/util/ArraysSupport"), (0, u "LOG2_ARRAY_LONG_INDEX_SCALE"), (0, u "I"), (2, u "U"), (0, u "Ljdk/internal/misc/Unsafe;"), (8, u "BIG_ENDIAN"), (0, u "Z"), (8, u "LOG2_BYTE_BIT_SIZE"), (4, u "LOG2_ARRAY_INT_INDEX_SCALE"), (54, u "JLA"), (0, u "Ljdk/internal/access/JavaLangAccess;"), (11, u "LOG2_ARRAY_BOOLEAN_INDEX_SCALE"), (9, u "LOG2_ARRAY_BYTE_INDEX_SCALE"), (5, u "LOG2_ARRAY_CHAR_INDEX_SCALE"), (5, u "LOG2_ARRAY_SHORT_INDEX_SCALE"), (18, u "LOG2_ARRAY_FLOAT_INDEX_SCALE"), (24, u "LOG2_ARRAY_DOUBLE_INDEX_SCALE"), (89, u "T_BOOLEAN"), (2, u "T_CHAR"), (1, u "T_FLOAT"), (1, u "T_DOUBLE"), (1, u "T_BYTE"), (1, u "T_SHORT"), (1, u "T_INT"), (1, u "T_LONG"), (1, u "SOFT_MAX_ARRAY_LENGTH")] 83

def k14m0 : Method := { name := "<init>", desc := "()V", sig := { parameters := [], returnType := none }, accessFlags := 2, code := none }
/-- jdk/internal/util/ArraysSupport -/
def k14 : Class := { plain "jdk/internal/util/ArraysSupport" (some 0) with
  accessFlags := 33
  interfaces := #[]
  cf := some (fileOf pool14 21 #[] #[{ accessFlags := 2, nameIndex := 9, descriptorIndex := 19, attributes := #[] }] 33 16 #[] #[{ accessFlags := 24, nameIndex := 28, descriptorIndex := 29, attributes := #[] }, { accessFlags := 26, nameIndex := 38, descriptorIndex := 39, attributes := #[] }, { accessFlags := 25, nameIndex := 121, descriptorIndex := 25, attributes := #[] }, { accessFlags := 25, nameIndex := 131, descriptorIndex := 25, attributes := #[] }, { accessFlags := 25, nameIndex := 137, descriptorIndex := 25, attributes := #[] }, { accessFlags := 25, nameIndex := 143, descriptorIndex := 25, attributes := #[] }, { accessFlags := 25, nameIndex := 53, descriptorIndex := 25, attributes := #[] }, { accessFlags := 25, nameIndex := 24, descriptorIndex := 25, attributes := #[] }, { accessFlags := 25, nameIndex := 162, descriptorIndex := 25, attributes := #[] }, { accessFlags := 25, nameIndex := 187, descriptorIndex := 25, attributes := #[] }, { accessFlags := 26, nameIndex := 48, descriptorIndex := 25, attributes := #[] }, { accessFlags := 25, nameIndex := 277, descriptorIndex := 25, attributes := #[] }, { accessFlags := 25, nameIndex := 280, descriptorIndex := 25, attributes := #[] }, { accessFlags := 25, nameIndex := 282, descriptorIndex := 25, attributes := #[] }, { accessFlags := 25, nameIndex := 284, descriptorIndex := 25, attributes := #[] }, { accessFlags := 25, nameIndex := 286, descriptorIndex := 25, attributes := #[] }, { accessFlags := 25, nameIndex := 288, descriptorIndex := 25, attributes := #[] }, { accessFlags := 25, nameIndex := 290, descriptorIndex := 25, attributes := #[] }, { accessFlags := 25, nameIndex := 292, descriptorIndex := 25, attributes := #[] }, { accessFlags := 26, nameIndex := 108, descriptorIndex := 109, attributes := #[] }, { accessFlags := 25, nameIndex := 294, descriptorIndex := 25, attributes := #[] }])
  fields := #[{ name := "U", type := (.object "jdk/internal/misc/Unsafe"), accessFlags := 24, slot := 0, constantValue := 0 }, { name := "BIG_ENDIAN", type := .boolean, accessFlags := 26, slot := 1, constantValue := 0 }, { name := "LOG2_ARRAY_BOOLEAN_INDEX_SCALE", type := .int, accessFlags := 25, slot := 2, constantValue := 0 }, { name := "LOG2_ARRAY_BYTE_INDEX_SCALE", type := .int, accessFlags := 25, slot := 3, constantValue := 0 }, { name := "LOG2_ARRAY_CHAR_INDEX_SCALE", type := .int, accessFlags := 25, slot := 4, constantValue := 0 }, { name := "LOG2_ARRAY_SHORT_INDEX_SCALE", type := .int, accessFlags := 25, slot := 5, constantValue := 0 }, { name := "LOG2_ARRAY_INT_INDEX_SCALE", type := .int, accessFlags := 25, slot := 6, constantValue := 0 }, { name := "LOG2_ARRAY_LONG_INDEX_SCALE", type := .int, accessFlags := 25, slot := 7, constantValue := 0 }, { name := "LOG2_ARRAY_FLOAT_INDEX_SCALE", type := .int, accessFlags := 25, slot := 8, constantValue := 0 }, { name := "LOG2_ARRAY_DOUBLE_INDEX_SCALE", type := .int, accessFlags := 25, slot := 9, constantValue := 0 }, { name := "LOG2_BYTE_BIT_SIZE", type := .int, accessFlags := 26, slot := 10, constantValue := 0 }, { name := "T_BOOLEAN", type := .int, accessFlags := 25, slot := 11, constantValue := 0 }, { name := "T_CHAR", type := .int, accessFlags := 25, slot := 12, constantValue := 0 }, { name := "T_FLOAT", type := .int, accessFlags := 25, slot := 13, constantValue := 0 }, { name := "T_DOUBLE", type := .int, accessFlags := 25, slot := 14, constantValue := 0 }, { name := "T_BYTE", type := .int, accessFlags := 25, slot := 15, constantValue := 0 }, { name := "T_SHORT", type := .int, accessFlags := 25, slot := 16, constantValue := 0 }, { name := "T_INT", type := .int, accessFlags := 25, slot := 17, constantValue := 0 }, { name := "T_LONG", type := .int, accessFlags := 25, slot := 18, constantValue := 0 }, { name := "JLA", type := (.object "jdk/internal/access/JavaLangAccess"), accessFlags := 26, slot := 19, constantValue := 0 }, { name := "SOFT_MAX_ARRAY_LENGTH", type := .int, accessFlags := 25, slot := 20, constantValue := 0 }]
  methods := #[k14m0]
  instanceTypes := #[]
  staticTypes := #[(.object "jdk/internal/misc/Unsafe"), .boolean, .int, .int, .int, .int, .int, .int, .int, .int, .int, .int, .int, .int, .int, .int, .int, .int, .int, (.object "jdk/internal/access/JavaLangAccess"), .int]
  resolved := Array.replicate 378 none
  statics := none }

def pool15 : Array CpInfo := pool [(1, u "java/lang/Cloneable"), (0, .class_ 1), (0, u "java/lang/Object"), (0, .class_ 3)] 3

/-- java/lang/Cloneable -/
def k15 : Class := { plain "java/lang/Cloneable" (some 0) with
  accessFlags := 1537
  interfaces := #[]
  cf := some (fileOf pool15 2 #[] #[] 1537 4 #[] #[])
  fields := #[]
  methods := #[]
  instanceTypes := #[]
  staticTypes := #[]
  resolved := Array.replicate 8 none
  statics := none }

/-- the primitive byte -/
def k16 : Class := { plain "byte" none with kind := .primitive 'B', accessFlags := 0x411 }
/-- [B -/
def k17 : Class := { plain "[B" (some 0) with kind := .array 16 .byte, interfaces := #[15, 2], accessFlags := 1041 }

/-- the primitive char -/
def k18 : Class := { plain "char" none with kind := .primitive 'C', accessFlags := 0x411 }
/-- [C -/
def k19 : Class := { plain "[C" (some 0) with kind := .array 18 .char, interfaces := #[15, 2], accessFlags := 1041 }

/-- the primitive int -/
def k20 : Class := { plain "int" none with kind := .primitive 'I', accessFlags := 0x411 }
/-- [I -/
def k21 : Class := { plain "[I" (some 0) with kind := .array 20 .int, interfaces := #[15, 2], accessFlags := 1041 }

def classes0 : Array Class := #[k0, k1, k2, k3, k4, k5, k6, k7, k8, k9, k10, k11, k12, k13, k14, k15, k16, k17, k18, k19, k20, k21]
def k22 : Class := Jvm.LamKit.madeRec { classes := classes0 } "com/example/inchworm/inchworm/store/HttpSyntax" (Jvm.Lambda.Shape.mk "com/example/inchworm/inchworm/store/HttpSyntax$CharTest" "test" (Jvm.ClassFile.MethodDescriptor.mk ([Jvm.ClassFile.FieldType.char] : List Jvm.ClassFile.FieldType) (Option.some Jvm.ClassFile.FieldType.boolean)) ([] : List Jvm.ClassFile.FieldType) (6 : Nat) "com/example/inchworm/inchworm/store/HttpSyntax" "isUnreserved" (Jvm.ClassFile.MethodDescriptor.mk ([Jvm.ClassFile.FieldType.char] : List Jvm.ClassFile.FieldType) (Option.some Jvm.ClassFile.FieldType.boolean)) false (Jvm.ClassFile.MethodDescriptor.mk ([Jvm.ClassFile.FieldType.char] : List Jvm.ClassFile.FieldType) (Option.some Jvm.ClassFile.FieldType.boolean))) 22

def heap : Heap := #[{ cls := 7, slots := #[.long 0, .int 1, .null, .int 0, .null, .int 0, .int 0], vm := .statics 7 },
  { cls := 10, slots := #[.int 0, .int 8, .int 0, .int 1], vm := .statics 10 },
  { cls := 12, slots := #[.null, .null, .null], vm := .statics 12 },
  { cls := 22, slots := #[], vm := .none }]
def classes : Array Class := #[k0, k1, k2, k3, k4, k5, k6, k7, k8, k9, k10, k11, k12, k13, k14, k15, k16, k17, k18, k19, k20, k21, k22]
def interned : List (Array UInt16 × Addr) := []
def slotsUsed : Nat := 14
def theMethod : MethodId := ⟨1, 2⟩
def args0 : Array Value := #[.int 1, .int 65, .int 66, .int 67, .int 68]
def aboutOver (below : List Frame) : State where
  vm := { classes := classes, interned := interned.toArray }
  heap := heap
  slotsUsed := slotsUsed
  threads := #[{ frames := .invoking theMethod args0 :: below }]
def below0 : List Frame := [.native { method := ⟨0, 0⟩, args := #[] }]
def about1 : State := aboutOver below0
def p0 : Program := .bare "" "" ""
def e0 : Env := launch0.env 0 0 0
theorem w_frames : about1.frames = Frame.invoking theMethod args0 :: below0 := rfl
set_option maxRecDepth 65536 in
theorem w_args : argsFit about1.vm theMethod args0 = true := by decide +kernel
set_option maxRecDepth 65536 in
theorem w_heap : heapFits about1 = true := by decide +kernel
set_option maxRecDepth 65536 in
theorem w_runnable : about1.curStatus? = some .runnable := by decide +kernel
set_option maxRecDepth 65536 in
theorem w_alone : about1.alone = true := by decide +kernel
set_option maxRecDepth 65536 in
theorem w_named : about1.methodNamed? x = some theMethod := by decide +kernel
set_option maxRecDepth 65536 in
theorem w_hears : about1.hears theMethod below0 = true := by decide +kernel
set_option maxRecDepth 65536 in
theorem w_ripe : about1.ripe theMethod args0 below0 = true := by decide +kernel
theorem w_running : about1.status = .running := rfl
set_option maxRecDepth 65536 in
theorem w_room : about1.hasRoom e0.platform room_1 = true :=
  launch0.hasRoom_least _ room_1 (by decide +kernel) (by decide +kernel) (by decide +kernel) (by decide +kernel) (by decide +kernel) (by decide +kernel)
theorem allAtoms_all (ts : List Jvm.Cond) (a : Array Jvm.Value) (st : Jvm.State) : (allAtoms ts).before a st = ts.all (fun c => c.before a st) := by
  induction ts with
  | nil => rfl
  | cons c t ih =>
    show (Jvm.Cond.and c (allAtoms t)).before a st = _
    rw [Jvm.Cond.before_and, ih, List.all_cons]
def words1 : List Jvm.Cond := Jvm.Cond.code x code maxLocals ret :: tables_1
/-- a 'code' word, met by the world's own term for the bytes: nothing is compared byte by byte -/
theorem code_word {y : MethodName} {bytes : ByteArray} {mx : Nat} {rt : Option FieldType} {a : Array Value} {s : State} {m : MethodId} {meth : Method} {c : Code} (h1 : s.methodNamed? y = some m) (h2 : s.vm.method? m = some meth) (h3 : meth.code = some c) (h4 : c.code = bytes)
    (h5 : (c.maxLocals == mx && c.exceptionTable.isEmpty && decide (c.maxStack ≤ mostOperands) && decide (meth.sig.returnType = rt) && !meth.locks && decide (parseMethodDescriptor y.desc = some meth.sig)) = true) : (Jvm.Cond.code y bytes mx rt).before a s = true := by
  simp only [Bool.and_eq_true, beq_iff_eq, Bool.not_eq_true', decide_eq_true_eq] at h5
  obtain ⟨⟨⟨⟨⟨g1, g2⟩, g3⟩, g4⟩, g5⟩, g6⟩ := h5
  simp [Cond.before, Cond.holds, Cond.value, h1, h2, h3, h4, g1, g2, g3, g4, g5, g6]
def isCode : Jvm.Cond → Bool
  | .code _ _ _ _ => true
  | _ => false
theorem all_split {L : List Jvm.Cond} {P : Jvm.Cond → Bool} (h1 : L.all (fun c => isCode c || P c) = true) (h2 : ∀ c ∈ L.filter isCode, P c = true) : L.all P = true := by
  refine List.all_eq_true.mpr fun c hc => ?_
  have h := List.all_eq_true.mp h1 c hc
  rcases Bool.eq_false_or_eq_true (isCode c) with hi | hi
  · exact h2 c (List.mem_filter.mpr ⟨hc, hi⟩)
  · simpa [hi] using h
set_option maxRecDepth 65536 in
theorem w_c0 : (Jvm.Cond.code x code maxLocals ret).before args0 about1 = true := code_word (m := ⟨1, 2⟩) (meth := k1m2) (c := k1c2) (by decide +kernel) rfl rfl rfl (by decide +kernel)
set_option maxRecDepth 65536 in
theorem w_c1 : (Jvm.Cond.code ({ cls := "java/lang/String", name := "<init>", desc := "([C)V" } : Jvm.MethodName) jdk_42_method_3_code (2 : Nat) (Option.none : Option Jvm.ClassFile.FieldType)).before args0 about1 = true := code_word (m := ⟨7, 1⟩) (meth := k7m1) (c := k7c1) (by decide +kernel) rfl rfl rfl (by decide +kernel)
set_option maxRecDepth 65536 in
theorem w_c2 : (Jvm.Cond.code ({ cls := "java/lang/String", name := "<init>", desc := "([CIILjava/lang/Void;)V" } : Jvm.MethodName) jdk_42_method_149_code (6 : Nat) (Option.none : Option Jvm.ClassFile.FieldType)).before args0 about1 = true := code_word (m := ⟨7, 7⟩) (meth := k7m7) (c := k7c7) (by decide +kernel) rfl rfl rfl (by decide +kernel)
set_option maxRecDepth 65536 in
theorem w_c3 : (Jvm.Cond.code ({ cls := "java/lang/Object", name := "<init>", desc := "()V" } : Jvm.MethodName) object_method_1_code (1 : Nat) (Option.none : Option Jvm.ClassFile.FieldType)).before args0 about1 = true := code_word (m := ⟨0, 0⟩) (meth := k0m0) (c := k0c0) (by decide +kernel) rfl rfl rfl (by decide +kernel)
set_option maxRecDepth 65536 in
theorem w_c4 : (Jvm.Cond.code ({ cls := "com/example/inchworm/inchworm/store/HttpSyntax", name := "isUnreserved", desc := "(Ljava/lang/String;)Z" } : Jvm.MethodName) prog_41_method_3_code (1 : Nat) (Option.some Jvm.ClassFile.FieldType.boolean)).before args0 about1 = true := code_word (m := ⟨8, 1⟩) (meth := k8m1) (c := k8c1) (by decide +kernel) rfl rfl rfl (by decide +kernel)
set_option maxRecDepth 65536 in
theorem w_c5 : (Jvm.Cond.code ({ cls := "com/example/inchworm/inchworm/store/HttpSyntax", name := "consistsOf", desc := "(Ljava/lang/String;Lcom/example/inchworm/inchworm/store/HttpSyntax$CharTest;)Z" } : Jvm.MethodName) prog_41_method_6_code (3 : Nat) (Option.some Jvm.ClassFile.FieldType.boolean)).before args0 about1 = true := code_word (m := ⟨8, 3⟩) (meth := k8m3) (c := k8c3) (by decide +kernel) rfl rfl rfl (by decide +kernel)
set_option maxRecDepth 65536 in
theorem w_c6 : (Jvm.Cond.code ({ cls := "java/lang/String", name := "isEmpty", desc := "()Z" } : Jvm.MethodName) jdk_42_method_55_code (1 : Nat) (Option.some Jvm.ClassFile.FieldType.boolean)).before args0 about1 = true := code_word (m := ⟨7, 3⟩) (meth := k7m3) (c := k7c3) (by decide +kernel) rfl rfl rfl (by decide +kernel)
set_option maxRecDepth 65536 in
theorem w_c7 : (Jvm.Cond.code ({ cls := "java/lang/StringUTF16", name := "compress", desc := "([CII)[B" } : Jvm.MethodName) jdk_52_method_16_code (6 : Nat) (Option.some (Jvm.ClassFile.FieldType.array Jvm.ClassFile.FieldType.byte))).before args0 about1 = true := code_word (m := ⟨10, 8⟩) (meth := k10m8) (c := k10c8) (by decide +kernel) rfl rfl rfl (by decide +kernel)
set_option maxRecDepth 65536 in
theorem w_c8 : (Jvm.Cond.code ({ cls := "java/lang/StringUTF16", name := "compress", desc := "([CI[BII)I" } : Jvm.MethodName) jdk_52_method_21_code (7 : Nat) (Option.some Jvm.ClassFile.FieldType.int)).before args0 about1 = true := code_word (m := ⟨10, 9⟩) (meth := k10m9) (c := k10c9) (by decide +kernel) rfl rfl rfl (by decide +kernel)
set_option maxRecDepth 65536 in
theorem w_c9 : (Jvm.Cond.code ({ cls := "java/lang/StringUTF16", name := "coderFromArrayLen", desc := "([BI)B" } : Jvm.MethodName) jdk_52_method_15_code (2 : Nat) (Option.some Jvm.ClassFile.FieldType.byte)).before args0 about1 = true := code_word (m := ⟨10, 7⟩) (meth := k10m7) (c := k10c7) (by decide +kernel) rfl rfl rfl (by decide +kernel)
set_option maxRecDepth 65536 in
theorem w_c10 : (Jvm.Cond.code ({ cls := "com/example/inchworm/inchworm/store/HttpSyntaxIsUnreservedPinLaw", name := "ok", desc := "(C)Z" } : Jvm.MethodName) method_2_code (1 : Nat) (Option.some Jvm.ClassFile.FieldType.boolean)).before args0 about1 = true := code_word (m := ⟨1, 1⟩) (meth := k1m1) (c := k1c1) (by decide +kernel) rfl rfl rfl (by decide +kernel)
set_option maxRecDepth 65536 in
theorem w_c11 : (Jvm.Cond.code ({ cls := "java/lang/String", name := "length", desc := "()I" } : Jvm.MethodName) jdk_42_method_54_code (1 : Nat) (Option.some Jvm.ClassFile.FieldType.int)).before args0 about1 = true := code_word (m := ⟨7, 2⟩) (meth := k7m2) (c := k7c2) (by decide +kernel) rfl rfl rfl (by decide +kernel)
set_option maxRecDepth 65536 in
theorem w_c12 : (Jvm.Cond.code ({ cls := "java/lang/String", name := "coder", desc := "()B" } : Jvm.MethodName) jdk_42_method_152_code (1 : Nat) (Option.some Jvm.ClassFile.FieldType.byte)).before args0 about1 = true := code_word (m := ⟨7, 8⟩) (meth := k7m8) (c := k7c8) (by decide +kernel) rfl rfl rfl (by decide +kernel)
set_option maxRecDepth 65536 in
theorem w_c13 : (Jvm.Cond.code ({ cls := "java/lang/String", name := "charAt", desc := "(I)C" } : Jvm.MethodName) jdk_42_method_56_code (2 : Nat) (Option.some Jvm.ClassFile.FieldType.char)).before args0 about1 = true := code_word (m := ⟨7, 4⟩) (meth := k7m4) (c := k7c4) (by decide +kernel) rfl rfl rfl (by decide +kernel)
set_option maxRecDepth 65536 in
theorem w_c14 : (Jvm.Cond.code ({ cls := "java/lang/String", name := "isLatin1", desc := "()Z" } : Jvm.MethodName) jdk_42_method_154_code (1 : Nat) (Option.some Jvm.ClassFile.FieldType.boolean)).before args0 about1 = true := code_word (m := ⟨7, 9⟩) (meth := k7m9) (c := k7c9) (by decide +kernel) rfl rfl rfl (by decide +kernel)
set_option maxRecDepth 65536 in
theorem w_c15 : (Jvm.Cond.code ({ cls := "java/lang/StringLatin1", name := "charAt", desc := "([BI)C" } : Jvm.MethodName) jdk_43_method_2_code (2 : Nat) (Option.some Jvm.ClassFile.FieldType.char)).before args0 about1 = true := code_word (m := ⟨11, 1⟩) (meth := k11m1) (c := k11c1) (by decide +kernel) rfl rfl rfl (by decide +kernel)
set_option maxRecDepth 65536 in
theorem w_c16 : (Jvm.Cond.code ({ cls := "java/lang/String", name := "checkIndex", desc := "(II)V" } : Jvm.MethodName) jdk_42_method_155_code (2 : Nat) (Option.none : Option Jvm.ClassFile.FieldType)).before args0 about1 = true := code_word (m := ⟨7, 10⟩) (meth := k7m10) (c := k7c10) (by decide +kernel) rfl rfl rfl (by decide +kernel)
set_option maxRecDepth 65536 in
theorem w_c17 : (Jvm.Cond.code ({ cls := "jdk/internal/util/Preconditions", name := "checkIndex", desc := "(IILjava/util/function/BiFunction;)I" } : Jvm.MethodName) jdk_41_method_11_code (3 : Nat) (Option.some Jvm.ClassFile.FieldType.int)).before args0 about1 = true := code_word (m := ⟨12, 1⟩) (meth := k12m1) (c := k12c1) (by decide +kernel) rfl rfl rfl (by decide +kernel)
set_option maxRecDepth 65536 in
theorem w_c18 : (Jvm.Cond.code ({ cls := "com/example/inchworm/inchworm/store/HttpSyntax", name := "isUnreserved", desc := "(C)Z" } : Jvm.MethodName) prog_41_method_4_code (1 : Nat) (Option.some Jvm.ClassFile.FieldType.boolean)).before args0 about1 = true := code_word (m := ⟨8, 2⟩) (meth := k8m2) (c := k8c2) (by decide +kernel) rfl rfl rfl (by decide +kernel)
set_option maxRecDepth 65536 in
theorem w_c19 : (Jvm.Cond.code ({ cls := "com/example/inchworm/inchworm/store/HttpSyntax", name := "isAlphanumeric", desc := "(C)Z" } : Jvm.MethodName) prog_41_method_7_code (1 : Nat) (Option.some Jvm.ClassFile.FieldType.boolean)).before args0 about1 = true := code_word (m := ⟨8, 4⟩) (meth := k8m4) (c := k8c4) (by decide +kernel) rfl rfl rfl (by decide +kernel)
set_option maxRecDepth 65536 in
theorem w_c20 : (Jvm.Cond.code ({ cls := "java/lang/String", name := "indexOf", desc := "(I)I" } : Jvm.MethodName) jdk_42_method_79_code (2 : Nat) (Option.some Jvm.ClassFile.FieldType.int)).before args0 about1 = true := code_word (m := ⟨7, 5⟩) (meth := k7m5) (c := k7c5) (by decide +kernel) rfl rfl rfl (by decide +kernel)
set_option maxRecDepth 65536 in
theorem w_c21 : (Jvm.Cond.code ({ cls := "java/lang/String", name := "indexOf", desc := "(II)I" } : Jvm.MethodName) jdk_42_method_80_code (3 : Nat) (Option.some Jvm.ClassFile.FieldType.int)).before args0 about1 = true := code_word (m := ⟨7, 6⟩) (meth := k7m6) (c := k7c6) (by decide +kernel) rfl rfl rfl (by decide +kernel)
set_option maxRecDepth 65536 in
theorem w_c22 : (Jvm.Cond.code ({ cls := "java/lang/StringLatin1", name := "indexOf", desc := "([BIII)I" } : Jvm.MethodName) jdk_43_method_22_code (4 : Nat) (Option.some Jvm.ClassFile.FieldType.int)).before args0 about1 = true := code_word (m := ⟨11, 3⟩) (meth := k11m3) (c := k11c3) (by decide +kernel) rfl rfl rfl (by decide +kernel)
set_option maxRecDepth 65536 in
theorem w_c23 : (Jvm.Cond.code ({ cls := "java/lang/StringLatin1", name := "canEncode", desc := "(I)Z" } : Jvm.MethodName) jdk_43_method_4_code (1 : Nat) (Option.some Jvm.ClassFile.FieldType.boolean)).before args0 about1 = true := code_word (m := ⟨11, 2⟩) (meth := k11m2) (c := k11c2) (by decide +kernel) rfl rfl rfl (by decide +kernel)
set_option maxRecDepth 65536 in
theorem w_c24 : (Jvm.Cond.code ({ cls := "java/lang/Math", name := "max", desc := "(II)I" } : Jvm.MethodName) jdk_29_method_65_code (2 : Nat) (Option.some Jvm.ClassFile.FieldType.int)).before args0 about1 = true := code_word (m := ⟨13, 1⟩) (meth := k13m1) (c := k13c1) (by decide +kernel) rfl rfl rfl (by decide +kernel)
set_option maxRecDepth 65536 in
theorem w_c25 : (Jvm.Cond.code ({ cls := "java/lang/Math", name := "min", desc := "(II)I" } : Jvm.MethodName) jdk_29_method_69_code (2 : Nat) (Option.some Jvm.ClassFile.FieldType.int)).before args0 about1 = true := code_word (m := ⟨13, 2⟩) (meth := k13m2) (c := k13c2) (by decide +kernel) rfl rfl rfl (by decide +kernel)
set_option maxRecDepth 65536 in
theorem w_c26 : (Jvm.Cond.code ({ cls := "java/lang/StringLatin1", name := "indexOfChar", desc := "([BIII)I" } : Jvm.MethodName) jdk_43_method_23_code (6 : Nat) (Option.some Jvm.ClassFile.FieldType.int)).before args0 about1 = true := code_word (m := ⟨11, 4⟩) (meth := k11m4) (c := k11c4) (by decide +kernel) rfl rfl rfl (by decide +kernel)
set_option maxRecDepth 65536 in
theorem w_c27 : (Jvm.Cond.code ({ cls := "java/lang/StringUTF16", name := "toBytes", desc := "([CII)[B" } : Jvm.MethodName) jdk_52_method_14_code (5 : Nat) (Option.some (Jvm.ClassFile.FieldType.array Jvm.ClassFile.FieldType.byte))).before args0 about1 = true := code_word (m := ⟨10, 6⟩) (meth := k10m6) (c := k10c6) (by decide +kernel) rfl rfl rfl (by decide +kernel)
set_option maxRecDepth 65536 in
theorem w_c28 : (Jvm.Cond.code ({ cls := "java/lang/StringUTF16", name := "newBytesFor", desc := "(I)[B" } : Jvm.MethodName) jdk_52_method_2_code (1 : Nat) (Option.some (Jvm.ClassFile.FieldType.array Jvm.ClassFile.FieldType.byte))).before args0 about1 = true := code_word (m := ⟨10, 1⟩) (meth := k10m1) (c := k10c1) (by decide +kernel) rfl rfl rfl (by decide +kernel)
set_option maxRecDepth 65536 in
theorem w_c29 : (Jvm.Cond.code ({ cls := "java/lang/StringUTF16", name := "newBytesLength", desc := "(I)I" } : Jvm.MethodName) jdk_52_method_3_code (1 : Nat) (Option.some Jvm.ClassFile.FieldType.int)).before args0 about1 = true := code_word (m := ⟨10, 2⟩) (meth := k10m2) (c := k10c2) (by decide +kernel) rfl rfl rfl (by decide +kernel)
set_option maxRecDepth 65536 in
theorem w_c30 : (Jvm.Cond.code ({ cls := "java/lang/StringUTF16", name := "putChar", desc := "([BII)V" } : Jvm.MethodName) jdk_52_method_4_code (3 : Nat) (Option.none : Option Jvm.ClassFile.FieldType)).before args0 about1 = true := code_word (m := ⟨10, 3⟩) (meth := k10m3) (c := k10c3) (by decide +kernel) rfl rfl rfl (by decide +kernel)
set_option maxRecDepth 65536 in
theorem w_c31 : (Jvm.Cond.code ({ cls := "java/lang/StringUTF16", name := "getChar", desc := "([BI)C" } : Jvm.MethodName) jdk_52_method_5_code (2 : Nat) (Option.some Jvm.ClassFile.FieldType.char)).before args0 about1 = true := code_word (m := ⟨10, 4⟩) (meth := k10m4) (c := k10c4) (by decide +kernel) rfl rfl rfl (by decide +kernel)
set_option maxRecDepth 65536 in
theorem w_c32 : (Jvm.Cond.code ({ cls := "java/lang/StringUTF16", name := "charAt", desc := "([BI)C" } : Jvm.MethodName) jdk_52_method_83_code (2 : Nat) (Option.some Jvm.ClassFile.FieldType.char)).before args0 about1 = true := code_word (m := ⟨10, 10⟩) (meth := k10m10) (c := k10c10) (by decide +kernel) rfl rfl rfl (by decide +kernel)
set_option maxRecDepth 65536 in
theorem w_c33 : (Jvm.Cond.code ({ cls := "java/lang/StringUTF16", name := "checkIndex", desc := "(I[B)V" } : Jvm.MethodName) jdk_52_method_91_code (2 : Nat) (Option.none : Option Jvm.ClassFile.FieldType)).before args0 about1 = true := code_word (m := ⟨10, 11⟩) (meth := k10m11) (c := k10c11) (by decide +kernel) rfl rfl rfl (by decide +kernel)
set_option maxRecDepth 65536 in
theorem w_c34 : (Jvm.Cond.code ({ cls := "java/lang/StringUTF16", name := "length", desc := "([B)I" } : Jvm.MethodName) jdk_52_method_6_code (1 : Nat) (Option.some Jvm.ClassFile.FieldType.int)).before args0 about1 = true := code_word (m := ⟨10, 5⟩) (meth := k10m5) (c := k10c5) (by decide +kernel) rfl rfl rfl (by decide +kernel)
def codes1 : List Jvm.Cond := [Jvm.Cond.code x code maxLocals ret, Jvm.Cond.code ({ cls := "java/lang/String", name := "<init>", desc := "([C)V" } : Jvm.MethodName) jdk_42_method_3_code (2 : Nat) (Option.none : Option Jvm.ClassFile.FieldType), Jvm.Cond.code ({ cls := "java/lang/String", name := "<init>", desc := "([CIILjava/lang/Void;)V" } : Jvm.MethodName) jdk_42_method_149_code (6 : Nat) (Option.none : Option Jvm.ClassFile.FieldType), Jvm.Cond.code ({ cls := "java/lang/Object", name := "<init>", desc := "()V" } : Jvm.MethodName) object_method_1_code (1 : Nat) (Option.none : Option Jvm.ClassFile.FieldType), Jvm.Cond.code ({ cls := "com/example/inchworm/inchworm/store/HttpSyntax", name := "isUnreserved", desc := "(Ljava/lang/String;)Z" } : Jvm.MethodName) prog_41_method_3_code (1 : Nat) (Option.some Jvm.ClassFile.FieldType.boolean), Jvm.Cond.code ({ cls := "com/example/inchworm/inchworm/store/HttpSyntax", name := "consistsOf", desc := "(Ljava/lang/String;Lcom/example/inchworm/inchworm/store/HttpSyntax$CharTest;)Z" } : Jvm.MethodName) prog_41_method_6_code (3 : Nat) (Option.some Jvm.ClassFile.FieldType.boolean), Jvm.Cond.code ({ cls := "java/lang/String", name := "isEmpty", desc := "()Z" } : Jvm.MethodName) jdk_42_method_55_code (1 : Nat) (Option.some Jvm.ClassFile.FieldType.boolean), Jvm.Cond.code ({ cls := "java/lang/StringUTF16", name := "compress", desc := "([CII)[B" } : Jvm.MethodName) jdk_52_method_16_code (6 : Nat) (Option.some (Jvm.ClassFile.FieldType.array Jvm.ClassFile.FieldType.byte)), Jvm.Cond.code ({ cls := "java/lang/StringUTF16", name := "compress", desc := "([CI[BII)I" } : Jvm.MethodName) jdk_52_method_21_code (7 : Nat) (Option.some Jvm.ClassFile.FieldType.int), Jvm.Cond.code ({ cls := "java/lang/StringUTF16", name := "coderFromArrayLen", desc := "([BI)B" } : Jvm.MethodName) jdk_52_method_15_code (2 : Nat) (Option.some Jvm.ClassFile.FieldType.byte), Jvm.Cond.code ({ cls := "com/example/inchworm/inchworm/store/HttpSyntaxIsUnreservedPinLaw", name := "ok", desc := "(C)Z" } : Jvm.MethodName) method_2_code (1 : Nat) (Option.some Jvm.ClassFile.FieldType.boolean), Jvm.Cond.code ({ cls := "java/lang/String", name := "length", desc := "()I" } : Jvm.MethodName) jdk_42_method_54_code (1 : Nat) (Option.some Jvm.ClassFile.FieldType.int), Jvm.Cond.code ({ cls := "java/lang/String", name := "coder", desc := "()B" } : Jvm.MethodName) jdk_42_method_152_code (1 : Nat) (Option.some Jvm.ClassFile.FieldType.byte), Jvm.Cond.code ({ cls := "java/lang/String", name := "charAt", desc := "(I)C" } : Jvm.MethodName) jdk_42_method_56_code (2 : Nat) (Option.some Jvm.ClassFile.FieldType.char), Jvm.Cond.code ({ cls := "java/lang/String", name := "isLatin1", desc := "()Z" } : Jvm.MethodName) jdk_42_method_154_code (1 : Nat) (Option.some Jvm.ClassFile.FieldType.boolean), Jvm.Cond.code ({ cls := "java/lang/StringLatin1", name := "charAt", desc := "([BI)C" } : Jvm.MethodName) jdk_43_method_2_code (2 : Nat) (Option.some Jvm.ClassFile.FieldType.char), Jvm.Cond.code ({ cls := "java/lang/String", name := "checkIndex", desc := "(II)V" } : Jvm.MethodName) jdk_42_method_155_code (2 : Nat) (Option.none : Option Jvm.ClassFile.FieldType), Jvm.Cond.code ({ cls := "jdk/internal/util/Preconditions", name := "checkIndex", desc := "(IILjava/util/function/BiFunction;)I" } : Jvm.MethodName) jdk_41_method_11_code (3 : Nat) (Option.some Jvm.ClassFile.FieldType.int), Jvm.Cond.code ({ cls := "com/example/inchworm/inchworm/store/HttpSyntax", name := "isUnreserved", desc := "(C)Z" } : Jvm.MethodName) prog_41_method_4_code (1 : Nat) (Option.some Jvm.ClassFile.FieldType.boolean), Jvm.Cond.code ({ cls := "com/example/inchworm/inchworm/store/HttpSyntax", name := "isAlphanumeric", desc := "(C)Z" } : Jvm.MethodName) prog_41_method_7_code (1 : Nat) (Option.some Jvm.ClassFile.FieldType.boolean), Jvm.Cond.code ({ cls := "java/lang/String", name := "indexOf", desc := "(I)I" } : Jvm.MethodName) jdk_42_method_79_code (2 : Nat) (Option.some Jvm.ClassFile.FieldType.int), Jvm.Cond.code ({ cls := "java/lang/String", name := "indexOf", desc := "(II)I" } : Jvm.MethodName) jdk_42_method_80_code (3 : Nat) (Option.some Jvm.ClassFile.FieldType.int), Jvm.Cond.code ({ cls := "java/lang/StringLatin1", name := "indexOf", desc := "([BIII)I" } : Jvm.MethodName) jdk_43_method_22_code (4 : Nat) (Option.some Jvm.ClassFile.FieldType.int), Jvm.Cond.code ({ cls := "java/lang/StringLatin1", name := "canEncode", desc := "(I)Z" } : Jvm.MethodName) jdk_43_method_4_code (1 : Nat) (Option.some Jvm.ClassFile.FieldType.boolean), Jvm.Cond.code ({ cls := "java/lang/Math", name := "max", desc := "(II)I" } : Jvm.MethodName) jdk_29_method_65_code (2 : Nat) (Option.some Jvm.ClassFile.FieldType.int), Jvm.Cond.code ({ cls := "java/lang/Math", name := "min", desc := "(II)I" } : Jvm.MethodName) jdk_29_method_69_code (2 : Nat) (Option.some Jvm.ClassFile.FieldType.int), Jvm.Cond.code ({ cls := "java/lang/StringLatin1", name := "indexOfChar", desc := "([BIII)I" } : Jvm.MethodName) jdk_43_method_23_code (6 : Nat) (Option.some Jvm.ClassFile.FieldType.int), Jvm.Cond.code ({ cls := "java/lang/StringUTF16", name := "toBytes", desc := "([CII)[B" } : Jvm.MethodName) jdk_52_method_14_code (5 : Nat) (Option.some (Jvm.ClassFile.FieldType.array Jvm.ClassFile.FieldType.byte)), Jvm.Cond.code ({ cls := "java/lang/StringUTF16", name := "newBytesFor", desc := "(I)[B" } : Jvm.MethodName) jdk_52_method_2_code (1 : Nat) (Option.some (Jvm.ClassFile.FieldType.array Jvm.ClassFile.FieldType.byte)), Jvm.Cond.code ({ cls := "java/lang/StringUTF16", name := "newBytesLength", desc := "(I)I" } : Jvm.MethodName) jdk_52_method_3_code (1 : Nat) (Option.some Jvm.ClassFile.FieldType.int), Jvm.Cond.code ({ cls := "java/lang/StringUTF16", name := "putChar", desc := "([BII)V" } : Jvm.MethodName) jdk_52_method_4_code (3 : Nat) (Option.none : Option Jvm.ClassFile.FieldType), Jvm.Cond.code ({ cls := "java/lang/StringUTF16", name := "getChar", desc := "([BI)C" } : Jvm.MethodName) jdk_52_method_5_code (2 : Nat) (Option.some Jvm.ClassFile.FieldType.char), Jvm.Cond.code ({ cls := "java/lang/StringUTF16", name := "charAt", desc := "([BI)C" } : Jvm.MethodName) jdk_52_method_83_code (2 : Nat) (Option.some Jvm.ClassFile.FieldType.char), Jvm.Cond.code ({ cls := "java/lang/StringUTF16", name := "checkIndex", desc := "(I[B)V" } : Jvm.MethodName) jdk_52_method_91_code (2 : Nat) (Option.none : Option Jvm.ClassFile.FieldType), Jvm.Cond.code ({ cls := "java/lang/StringUTF16", name := "length", desc := "([B)I" } : Jvm.MethodName) jdk_52_method_6_code (1 : Nat) (Option.some Jvm.ClassFile.FieldType.int)]
set_option maxRecDepth 65536 in
theorem codes_eq : words1.filter isCode = codes1 := rfl
theorem w_codes : ∀ c ∈ words1.filter isCode, c.before args0 about1 = true := by
  rw [codes_eq]
  intro c hc
  simp only [codes1, List.mem_cons, List.not_mem_nil, or_false] at hc
  rcases hc with rfl | rfl | rfl | rfl | rfl | rfl | rfl | rfl | rfl | rfl | rfl | rfl | rfl | rfl | rfl | rfl | rfl | rfl | rfl | rfl | rfl | rfl | rfl | rfl | rfl | rfl | rfl | rfl | rfl | rfl | rfl | rfl | rfl | rfl | rfl
  · exact w_c0
  · exact w_c1
  · exact w_c2
  · exact w_c3
  · exact w_c4
  · exact w_c5
  · exact w_c6
  · exact w_c7
  · exact w_c8
  · exact w_c9
  · exact w_c10
  · exact w_c11
  · exact w_c12
  · exact w_c13
  · exact w_c14
  · exact w_c15
  · exact w_c16
  · exact w_c17
  · exact w_c18
  · exact w_c19
  · exact w_c20
  · exact w_c21
  · exact w_c22
  · exact w_c23
  · exact w_c24
  · exact w_c25
  · exact w_c26
  · exact w_c27
  · exact w_c28
  · exact w_c29
  · exact w_c30
  · exact w_c31
  · exact w_c32
  · exact w_c33
  · exact w_c34
set_option maxRecDepth 65536 in
theorem w_t1 : (words1.take 24).all (fun c => isCode c || c.before args0 about1) = true := by decide +kernel
set_option maxRecDepth 65536 in
theorem w_t2 : ((words1.drop 24).take 24).all (fun c => isCode c || c.before args0 about1) = true := by decide +kernel
set_option maxRecDepth 65536 in
theorem w_t3 : (((words1.drop 24).drop 24).take 24).all (fun c => isCode c || c.before args0 about1) = true := by decide +kernel
set_option maxRecDepth 65536 in
theorem w_t4 : ((((words1.drop 24).drop 24).drop 24).take 24).all (fun c => isCode c || c.before args0 about1) = true := by decide +kernel
set_option maxRecDepth 65536 in
theorem w_t5 : (((((words1.drop 24).drop 24).drop 24).drop 24).take 24).all (fun c => isCode c || c.before args0 about1) = true := by decide +kernel
set_option maxRecDepth 65536 in
theorem w_t6 : ((((((words1.drop 24).drop 24).drop 24).drop 24).drop 24).take 24).all (fun c => isCode c || c.before args0 about1) = true := by decide +kernel
set_option maxRecDepth 65536 in
theorem w_t7 : ((((((words1.drop 24).drop 24).drop 24).drop 24).drop 24).drop 24).all (fun c => isCode c || c.before args0 about1) = true := by decide +kernel
theorem w_tables : (allAtoms (Jvm.Cond.code x code maxLocals ret :: tables_1)).before args0 about1 = true := by
  rw [allAtoms_all]
  show words1.all (fun c => c.before args0 about1) = true
  refine all_split ?_ w_codes
  rw [← List.take_append_drop 24 words1, List.all_append, w_t1, ← List.take_append_drop 24 (words1.drop 24), List.all_append, w_t2, ← List.take_append_drop 24 ((words1.drop 24).drop 24), List.all_append, w_t3, ← List.take_append_drop 24 (((words1.drop 24).drop 24).drop 24), List.all_append, w_t4, ← List.take_append_drop 24 ((((words1.drop 24).drop 24).drop 24).drop 24), List.all_append, w_t5, ← List.take_append_drop 24 (((((words1.drop 24).drop 24).drop 24).drop 24).drop 24), List.all_append, w_t6, w_t7]
  rfl
set_option maxRecDepth 65536 in
theorem w_rest : rest_1_c.before args0 about1 = true := by decide +kernel
set_option maxRecDepth 65536 in
theorem w_case : (Jvm.Cond.and given_1 narrow_1).before args0 about1 = true := by decide +kernel
set_option maxRecDepth 65536 in
theorem w_consts : constsHeld consts_1 about1 := Jvm.Lit.constsHeldB_iff.mp (by decide +kernel)
theorem w_applies : (headSpec (Jvm.Cond.code x code maxLocals ret :: tables_1) room_1).applies x e0.platform about1 = true :=
  (Spec.applies_iff w_frames).mpr ⟨w_running, w_runnable, w_alone, w_named, w_hears, w_ripe, w_room, w_tables⟩
theorem atStart : AtStart classFile x code maxLocals ret World_1 tables_1 room_1 Calls_1 rest_1 Pre_1 launch0 p0 e0 about1 theMethod args0 below0 :=
  ⟨lists_1, trivial, launch0.admits_env _ _ _, launch0.least_env, fairChoices_fair.cas, fairChoices_fair.clock, w_frames, w_args, w_heap, w_applies, ⟨w_consts, trivial⟩, w_rest, w_case⟩
end start1
theorem witness_1 : WitnessClaimed_1 := ⟨start1.p0, start1.e0, start1.about1, start1.theMethod, start1.args0, start1.below0, start1.atStart⟩
end Jvm.Pilot.@@N@@
