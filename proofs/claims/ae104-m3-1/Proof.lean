import JvmDerived
import JvmDerived.Pilot.@@N@@Statement
import JvmDerived.Pilot.@@N@@Code
set_option linter.unusedVariables false
set_option linter.unusedSimpArgs false
namespace Jvm.Pilot.@@N@@
open Jvm Jvm.ClassFile Sem Op Lib Jvm.Free Jvm.Stand Jvm.LawKit Jvm.RoadKit Bundle Jvm.Pilot.@@N@@.Jvm.D
section Own
variable {p : Program} {l : Launch} {e : Env} {R : Room} {s : State} {m : MethodId} {args : Array Value} {below : List Frame} {meth : Method} {c : Code} {T : State} {locs : List Loc} {cells slots : Nat} {Q : Outcome → State → Prop} {Z : State} {a0 : Array Value} {h : Heap}
/-- from T, with g on top, the run ends as Q says -/
def Ends (p : Program) (e : Env) (below : List Frame) (Q : Outcome → State → Prop) (T : State) (g : JFrame) : Prop :=
  ∃ s₂ o, Steps p.tables e below (T.setTop g) s₂ ∧ s₂.status = .running ∧ Ended s₂ below o ∧ Q o s₂
theorem Ends.go {T' : State} {g g' : JFrame} (st : ∀ t, Steps p.tables e below (T'.setTop g') t → Steps p.tables e below (T.setTop g) t) (k : Ends p e below Q T' g') : Ends p e below Q T g := by
  obtain ⟨s₂, o, h1, r⟩ := k
  exact ⟨s₂, o, st _ h1, r⟩
theorem Ends.thru {T' : State} {g g' : JFrame} (st : Steps p.tables e below (T.setTop g) (T'.setTop g')) (k : Ends p e below Q T' g') : Ends p e below Q T g := by
  obtain ⟨s₂, o, h1, r⟩ := k
  exact ⟨s₂, o, st.trans h1, r⟩
theorem Ends.cast {g g' : JFrame} (q : g = g') (k : Ends p e below Q T g') : Ends p e below Q T g := q ▸ k
/-- what a body that returns leaves -/
def Out (s : State) (ce sl : Nat) (Qv : Option Value → Heap → List Loc → Prop) (o : Outcome) (U : State) : Prop := ∃ v L, o = .returned v ∧ Qv v U.heap L ∧ FrameEnd s o U L ce sl
theorem ow_body {y : MethodName} {bytes : ByteArray} {ml : Nat} {ret : Option FieldType} {ws : List Jvm.Cond} {rm : Room} {as : Array Value} {ce sl : Nat} {Qv : Option Value → Heap → List Loc → Prop} (hp : plainFor y = true)
    (body : ∀ (p : Program) (e : Env) (s : State) (m : MethodId) (below : List Frame) (meth : Method) (c : Code) (T : State), Stand p l e rm s m as below meth c T [] 0 0 → p.tables.exec = Jvm.exec → Z.Warmed39 s.vm → c.code = bytes → c.maxLocals = ml → s.vm.findClass y.cls = some m.cls → meth.name = y.name → meth.sig.returnType = ret → meth.locks = false → T.heap = h → Ends p e below (Out s ce sl Qv) T (entryFrame m as ml)) :
    MetFree l y (head1 (Jvm.Cond.code y bytes ml ret :: ws) rm) (fun a U => a = as ∧ Z.Warmed39 U.vm ∧ U.heap = h) (fun _ _ _ _ _ => True) (fun _ U o U' => ∃ v L, o = .returned v ∧ Qv v U'.heap L ∧ FrameEnd U o U' L ce sl) := by
  refine MetFree.of_bodySF hp hisR ?_
  intro p e s m args below meth c s₁ Bd hml0 hP hK
  obtain ⟨rfl, hZ, hh⟩ := hP
  exact body p e s m below meth c s₁ (Stand.of_body Bd) Bd.exec hZ Bd.bytes hml0 (findClass_of_methodNamed Bd.named) (name_of_methodNamed Bd.named Bd.method).1 Bd.returns Bd.notSynchronized (by rw [← hh, Bd.state]; rfl)
theorem ow_iload (X : Stand p l e R s m args below meth c T locs cells slots) (hx : p.tables.exec = Jvm.exec) {pc pc' : Nat} {Ls : Array Slot} {St : List Value} {k : Nat} {v : Int32} (hd : decode c.code pc = .ok (.iload k, 2)) (hl : Ls[k]? = some (.val (.int v))) (hp : pc + 2 = pc') (kk : Ends p e below Q T (mkF m pc' Ls (.int v :: St))) : Ends p e below Q T (mkF m pc Ls St) := by subst hp; exact Ends.go (fun _ q => XS.iload X.here hx rfl hd hl q) kk
theorem ow_iloadN (X : Stand p l e R s m args below meth c T locs cells slots) (hx : p.tables.exec = Jvm.exec) {pc pc' : Nat} {Ls : Array Slot} {St : List Value} {k : Fin 4} {v : Int32} (hd : decode c.code pc = .ok (.iload_n k, 1)) (hl : Ls[k.val]? = some (.val (.int v))) (hp : pc + 1 = pc') (kk : Ends p e below Q T (mkF m pc' Ls (.int v :: St))) : Ends p e below Q T (mkF m pc Ls St) := by subst hp; exact Ends.go (fun _ q => XS.iloadN X.here hx rfl hd hl q) kk
theorem ow_lloadN (X : Stand p l e R s m args below meth c T locs cells slots) (hx : p.tables.exec = Jvm.exec) {pc pc' : Nat} {Ls : Array Slot} {St : List Value} {k : Fin 4} {v : Int64} (hd : decode c.code pc = .ok (.lload_n k, 1)) (hl : Ls[k.val]? = some (.val (.long v))) (hp : pc + 1 = pc') (kk : Ends p e below Q T (mkF m pc' Ls (.long v :: St))) : Ends p e below Q T (mkF m pc Ls St) := by subst hp; exact Ends.go (fun _ q => XS.lloadN X.here hx rfl hd hl q) kk
theorem ow_aload (X : Stand p l e R s m args below meth c T locs cells slots) (hx : p.tables.exec = Jvm.exec) {pc pc' : Nat} {Ls : Array Slot} {St : List Value} {k : Nat} {v : Value} (hd : decode c.code pc = .ok (.aload k, 2)) (hl : Ls[k]? = some (.val v)) (hv : v.isRef = true) (hp : pc + 2 = pc') (kk : Ends p e below Q T (mkF m pc' Ls (v :: St))) : Ends p e below Q T (mkF m pc Ls St) := by subst hp; exact Ends.go (fun _ q => XS.aload X.here hx rfl hd hl hv q) kk
theorem ow_aloadN (X : Stand p l e R s m args below meth c T locs cells slots) (hx : p.tables.exec = Jvm.exec) {pc pc' : Nat} {Ls : Array Slot} {St : List Value} {k : Fin 4} {v : Value} (hd : decode c.code pc = .ok (.aload_n k, 1)) (hl : Ls[k.val]? = some (.val v)) (hv : v.isRef = true) (hp : pc + 1 = pc') (kk : Ends p e below Q T (mkF m pc' Ls (v :: St))) : Ends p e below Q T (mkF m pc Ls St) := by subst hp; exact Ends.go (fun _ q => XS.aloadN X.here hx rfl hd hl hv q) kk
theorem ow_istore (X : Stand p l e R s m args below meth c T locs cells slots) (hx : p.tables.exec = Jvm.exec) {pc pc' : Nat} {Ls : Array Slot} {Ls' : Array Slot} {St : List Value} {k : Nat} {v : Int32} (hd : decode c.code pc = .ok (.istore k, 2)) (hl : storeLocals Ls k (.int v) = some Ls') (hp : pc + 2 = pc') (kk : Ends p e below Q T (mkF m pc' Ls' St)) : Ends p e below Q T (mkF m pc Ls (.int v :: St)) := by subst hp; exact Ends.go (fun _ q => XS.istore X.here hx rfl hd rfl hl q) kk
theorem ow_istoreN (X : Stand p l e R s m args below meth c T locs cells slots) (hx : p.tables.exec = Jvm.exec) {pc pc' : Nat} {Ls : Array Slot} {Ls' : Array Slot} {St : List Value} {k : Fin 4} {v : Int32} (hd : decode c.code pc = .ok (.istore_n k, 1)) (hl : storeLocals Ls k.val (.int v) = some Ls') (hp : pc + 1 = pc') (kk : Ends p e below Q T (mkF m pc' Ls' St)) : Ends p e below Q T (mkF m pc Ls (.int v :: St)) := by subst hp; exact Ends.go (fun _ q => XS.istoreN X.here hx rfl hd rfl hl q) kk
theorem ow_lstoreN (X : Stand p l e R s m args below meth c T locs cells slots) (hx : p.tables.exec = Jvm.exec) {pc pc' : Nat} {Ls : Array Slot} {Ls' : Array Slot} {St : List Value} {k : Fin 4} {v : Int64} (hd : decode c.code pc = .ok (.lstore_n k, 1)) (hl : storeLocals Ls k.val (.long v) = some Ls') (hp : pc + 1 = pc') (kk : Ends p e below Q T (mkF m pc' Ls' St)) : Ends p e below Q T (mkF m pc Ls (.long v :: St)) := by subst hp; exact Ends.go (fun _ q => XS.lstoreN X.here hx rfl hd rfl hl q) kk
theorem ow_astore (X : Stand p l e R s m args below meth c T locs cells slots) (hx : p.tables.exec = Jvm.exec) {pc pc' : Nat} {Ls : Array Slot} {Ls' : Array Slot} {St : List Value} {k : Nat} {v : Value} (hd : decode c.code pc = .ok (.astore k, 2)) (hv : v.isRef = true) (hl : storeLocals Ls k v = some Ls') (hp : pc + 2 = pc') (kk : Ends p e below Q T (mkF m pc' Ls' St)) : Ends p e below Q T (mkF m pc Ls (v :: St)) := by subst hp; exact Ends.go (fun _ q => XS.astore X.here hx rfl hd rfl hv hl q) kk
theorem ow_astoreN (X : Stand p l e R s m args below meth c T locs cells slots) (hx : p.tables.exec = Jvm.exec) {pc pc' : Nat} {Ls : Array Slot} {Ls' : Array Slot} {St : List Value} {k : Fin 4} {v : Value} (hd : decode c.code pc = .ok (.astore_n k, 1)) (hv : v.isRef = true) (hl : storeLocals Ls k.val v = some Ls') (hp : pc + 1 = pc') (kk : Ends p e below Q T (mkF m pc' Ls' St)) : Ends p e below Q T (mkF m pc Ls (v :: St)) := by subst hp; exact Ends.go (fun _ q => XS.astoreN X.here hx rfl hd rfl hv hl q) kk
theorem ow_iconst (X : Stand p l e R s m args below meth c T locs cells slots) (hx : p.tables.exec = Jvm.exec) {pc pc' : Nat} {Ls : Array Slot} {St : List Value} {i : Int} {z : Int32} (hd : decode c.code pc = .ok (.iconst i, 1)) (hz : Int32.ofInt i = z) (hp : pc + 1 = pc') (kk : Ends p e below Q T (mkF m pc' Ls (.int z :: St))) : Ends p e below Q T (mkF m pc Ls St) := by subst hp hz; exact Ends.go (fun _ q => XS.iconst X.here hx rfl hd q) kk
theorem ow_bipush (X : Stand p l e R s m args below meth c T locs cells slots) (hx : p.tables.exec = Jvm.exec) {pc pc' : Nat} {Ls : Array Slot} {St : List Value} {i : Int} {z : Int32} (hd : decode c.code pc = .ok (.bipush i, 2)) (hz : (Int8.ofInt i).toInt32 = z) (hp : pc + 2 = pc') (kk : Ends p e below Q T (mkF m pc' Ls (.int z :: St))) : Ends p e below Q T (mkF m pc Ls St) := by subst hp hz; exact Ends.go (fun _ q => XS.bipush X.here hx rfl hd q) kk
theorem ow_sipush (X : Stand p l e R s m args below meth c T locs cells slots) (hx : p.tables.exec = Jvm.exec) {pc pc' : Nat} {Ls : Array Slot} {St : List Value} {i : Int} {z : Int32} (hd : decode c.code pc = .ok (.sipush i, 3)) (hz : (Int16.ofInt i).toInt32 = z) (hp : pc + 3 = pc') (kk : Ends p e below Q T (mkF m pc' Ls (.int z :: St))) : Ends p e below Q T (mkF m pc Ls St) := by subst hp hz; exact Ends.go (fun _ q => XS.sipush X.here hx rfl hd q) kk
theorem ow_aconstNull (X : Stand p l e R s m args below meth c T locs cells slots) (hx : p.tables.exec = Jvm.exec) {pc pc' : Nat} {Ls : Array Slot} {St : List Value} (hd : decode c.code pc = .ok (.aconst_null, 1)) (hp : pc + 1 = pc') (kk : Ends p e below Q T (mkF m pc' Ls (.null :: St))) : Ends p e below Q T (mkF m pc Ls St) := by subst hp; exact Ends.go (fun _ q => XS.aconstNull X.here hx rfl hd q) kk
theorem ow_ldcInt (X : Stand p l e R s m args below meth c T locs cells slots) (hx : p.tables.exec = Jvm.exec) (hZ : Z.Warmed39 s.vm) {own : String} {i : Nat} {z : Int32} (hown : s.vm.findClass own = some m.cls) (w : (Jvm.Cond.constant own i z).before a0 Z = true) {pc pc' : Nat} {Ls : Array Slot} {St : List Value} (hd : decode c.code pc = .ok (.ldc i, 2)) (hp : pc + 2 = pc') (kk : Ends p e below Q T (mkF m pc' Ls (.int z :: St))) : Ends p e below Q T (mkF m pc Ls St) := by subst hp; exact Ends.go (X.ldcInt hx hown (mvT hZ w) (g := mkF m pc Ls St) rfl hd) kk
theorem ow_ldc2Long (X : Stand p l e R s m args below meth c T locs cells slots) (hx : p.tables.exec = Jvm.exec) (hZ : Z.Warmed39 s.vm) {own : String} {i : Nat} {z : Int64} (hown : s.vm.findClass own = some m.cls) (w : (Jvm.Cond.constantLong own i z).before a0 Z = true) {pc pc' : Nat} {Ls : Array Slot} {St : List Value} (hd : decode c.code pc = .ok (.ldc2_w i, 3)) (hp : pc + 3 = pc') (kk : Ends p e below Q T (mkF m pc' Ls (.long z :: St))) : Ends p e below Q T (mkF m pc Ls St) := by subst hp; exact Ends.go (X.ldc2Long hx hown (mvT hZ w) (g := mkF m pc Ls St) rfl hd) kk
theorem ow_iadd (X : Stand p l e R s m args below meth c T locs cells slots) (hx : p.tables.exec = Jvm.exec) {pc pc' : Nat} {Ls : Array Slot} {St : List Value} {x : Int32} {y : Int32} (hd : decode c.code pc = .ok (.iadd, 1)) (hp : pc + 1 = pc') (kk : ∀ z : Int32, z = x + y → Ends p e below Q T (mkF m pc' Ls (.int z :: St))) : Ends p e below Q T (mkF m pc Ls (.int y :: .int x :: St)) := by subst hp; exact Ends.go (fun _ q => XS.iadd X.here hx rfl hd rfl q) (kk _ rfl)
theorem ow_isub (X : Stand p l e R s m args below meth c T locs cells slots) (hx : p.tables.exec = Jvm.exec) {pc pc' : Nat} {Ls : Array Slot} {St : List Value} {x : Int32} {y : Int32} (hd : decode c.code pc = .ok (.isub, 1)) (hp : pc + 1 = pc') (kk : ∀ z : Int32, z = x - y → Ends p e below Q T (mkF m pc' Ls (.int z :: St))) : Ends p e below Q T (mkF m pc Ls (.int y :: .int x :: St)) := by subst hp; exact Ends.go (fun _ q => XS.isub X.here hx rfl hd rfl q) (kk _ rfl)
theorem ow_iand (X : Stand p l e R s m args below meth c T locs cells slots) (hx : p.tables.exec = Jvm.exec) {pc pc' : Nat} {Ls : Array Slot} {St : List Value} {x : Int32} {y : Int32} (hd : decode c.code pc = .ok (.iand, 1)) (hp : pc + 1 = pc') (kk : ∀ z : Int32, z = x &&& y → Ends p e below Q T (mkF m pc' Ls (.int z :: St))) : Ends p e below Q T (mkF m pc Ls (.int y :: .int x :: St)) := by subst hp; exact Ends.go (fun _ q => XS.iand X.here hx rfl hd rfl q) (kk _ rfl)
theorem ow_ladd (X : Stand p l e R s m args below meth c T locs cells slots) (hx : p.tables.exec = Jvm.exec) {pc pc' : Nat} {Ls : Array Slot} {St : List Value} {x : Int64} {y : Int64} (hd : decode c.code pc = .ok (.ladd, 1)) (hp : pc + 1 = pc') (kk : ∀ z : Int64, z = x + y → Ends p e below Q T (mkF m pc' Ls (.long z :: St))) : Ends p e below Q T (mkF m pc Ls (.long y :: .long x :: St)) := by subst hp; exact Ends.go (fun _ q => XS.ladd X.here hx rfl hd rfl q) (kk _ rfl)
theorem ow_lmul (X : Stand p l e R s m args below meth c T locs cells slots) (hx : p.tables.exec = Jvm.exec) {pc pc' : Nat} {Ls : Array Slot} {St : List Value} {x : Int64} {y : Int64} (hd : decode c.code pc = .ok (.lmul, 1)) (hp : pc + 1 = pc') (kk : ∀ z : Int64, z = x * y → Ends p e below Q T (mkF m pc' Ls (.long z :: St))) : Ends p e below Q T (mkF m pc Ls (.long y :: .long x :: St)) := by subst hp; exact Ends.go (fun _ q => XS.lmul X.here hx rfl hd rfl q) (kk _ rfl)
theorem ow_ishr (X : Stand p l e R s m args below meth c T locs cells slots) (hx : p.tables.exec = Jvm.exec) {pc pc' : Nat} {Ls : Array Slot} {St : List Value} {x : Int32} {y : Int32} (hd : decode c.code pc = .ok (.ishr, 1)) (hp : pc + 1 = pc') (kk : ∀ z : Int32, z = x >>> (y &&& 31) → Ends p e below Q T (mkF m pc' Ls (.int z :: St))) : Ends p e below Q T (mkF m pc Ls (.int y :: .int x :: St)) := by subst hp; exact Ends.go (fun _ q => XS.ishr X.here hx rfl hd rfl q) (kk _ rfl)
theorem ow_iushr (X : Stand p l e R s m args below meth c T locs cells slots) (hx : p.tables.exec = Jvm.exec) {pc pc' : Nat} {Ls : Array Slot} {St : List Value} {x : Int32} {y : Int32} (hd : decode c.code pc = .ok (.iushr, 1)) (hp : pc + 1 = pc') (kk : ∀ z : Int32, z = (x.toUInt32 >>> (y &&& 31).toUInt32).toInt32 → Ends p e below Q T (mkF m pc' Ls (.int z :: St))) : Ends p e below Q T (mkF m pc Ls (.int y :: .int x :: St)) := by subst hp; exact Ends.go (fun _ q => XS.iushr X.here hx rfl hd rfl q) (kk _ rfl)
theorem ow_lcmp (X : Stand p l e R s m args below meth c T locs cells slots) (hx : p.tables.exec = Jvm.exec) {pc pc' : Nat} {Ls : Array Slot} {St : List Value} {x : Int64} {y : Int64} (hd : decode c.code pc = .ok (.lcmp, 1)) (hp : pc + 1 = pc') (kk : ∀ z : Int32, z = lcmpW x y → Ends p e below Q T (mkF m pc' Ls (.int z :: St))) : Ends p e below Q T (mkF m pc Ls (.long y :: .long x :: St)) := by subst hp; exact Ends.go (fun _ q => XS.lcmp X.here hx rfl hd rfl q) (kk _ rfl)
theorem ow_i2l (X : Stand p l e R s m args below meth c T locs cells slots) (hx : p.tables.exec = Jvm.exec) {pc pc' : Nat} {Ls : Array Slot} {St : List Value} {x : Int32} (hd : decode c.code pc = .ok (.i2l, 1)) (hp : pc + 1 = pc') (kk : ∀ z : Int64, z = x.toInt64 → Ends p e below Q T (mkF m pc' Ls (.long z :: St))) : Ends p e below Q T (mkF m pc Ls (.int x :: St)) := by subst hp; exact Ends.go (fun _ q => XS.i2l X.here hx rfl hd rfl q) (kk _ rfl)
theorem ow_l2i (X : Stand p l e R s m args below meth c T locs cells slots) (hx : p.tables.exec = Jvm.exec) {pc pc' : Nat} {Ls : Array Slot} {St : List Value} {x : Int64} (hd : decode c.code pc = .ok (.l2i, 1)) (hp : pc + 1 = pc') (kk : ∀ z : Int32, z = x.toInt32 → Ends p e below Q T (mkF m pc' Ls (.int z :: St))) : Ends p e below Q T (mkF m pc Ls (.long x :: St)) := by subst hp; exact Ends.go (fun _ q => XS.l2i X.here hx rfl hd rfl q) (kk _ rfl)
theorem ow_i2b (X : Stand p l e R s m args below meth c T locs cells slots) (hx : p.tables.exec = Jvm.exec) {pc pc' : Nat} {Ls : Array Slot} {St : List Value} {x : Int32} (hd : decode c.code pc = .ok (.i2b, 1)) (hp : pc + 1 = pc') (kk : ∀ z : Int32, z = x.toInt8.toInt32 → Ends p e below Q T (mkF m pc' Ls (.int z :: St))) : Ends p e below Q T (mkF m pc Ls (.int x :: St)) := by subst hp; exact Ends.go (fun _ q => XS.i2b X.here hx rfl hd rfl q) (kk _ rfl)
theorem ow_i2c (X : Stand p l e R s m args below meth c T locs cells slots) (hx : p.tables.exec = Jvm.exec) {pc pc' : Nat} {Ls : Array Slot} {St : List Value} {x : Int32} (hd : decode c.code pc = .ok (.i2c, 1)) (hp : pc + 1 = pc') (kk : ∀ z : Int32, z = x.toUInt32.toUInt16.toUInt32.toInt32 → Ends p e below Q T (mkF m pc' Ls (.int z :: St))) : Ends p e below Q T (mkF m pc Ls (.int x :: St)) := by subst hp; exact Ends.go (fun _ q => XS.i2c X.here hx rfl hd rfl q) (kk _ rfl)
theorem ow_iinc (X : Stand p l e R s m args below meth c T locs cells slots) (hx : p.tables.exec = Jvm.exec) {pc pc' : Nat} {Ls : Array Slot} {Ls' : Array Slot} {St : List Value} {k : Nat} {i : Int} {x : Int32} (hd : decode c.code pc = .ok (.iinc k i, 3)) (hl : Ls[k]? = some (.val (.int x))) (hl' : ∀ z, storeLocals Ls k (.int z) = some (Ls'.setIfInBounds k (.val (.int z)))) (hp : pc + 3 = pc') (kk : ∀ z : Int32, z = x + Int32.ofInt i → Ends p e below Q T (mkF m pc' (Ls'.setIfInBounds k (.val (.int z))) St)) : Ends p e below Q T (mkF m pc Ls St) := by subst hp; exact Ends.go (fun _ q => XS.iinc X.here hx rfl hd hl (hl' _) q) (kk _ rfl)
theorem ow_dup (X : Stand p l e R s m args below meth c T locs cells slots) (hx : p.tables.exec = Jvm.exec) {pc pc' : Nat} {Ls : Array Slot} {St : List Value} {v : Value} (hd : decode c.code pc = .ok (.dup, 1)) (hc : v.category = 1) (hp : pc + 1 = pc') (kk : Ends p e below Q T (mkF m pc' Ls (v :: v :: St))) : Ends p e below Q T (mkF m pc Ls (v :: St)) := by subst hp; exact Ends.go (fun _ q => XS.dup X.here hx rfl hd rfl hc q) kk
theorem ow_pop (X : Stand p l e R s m args below meth c T locs cells slots) (hx : p.tables.exec = Jvm.exec) {pc pc' : Nat} {Ls : Array Slot} {St : List Value} {v : Value} (hd : decode c.code pc = .ok (.pop, 1)) (hc : v.category = 1) (hp : pc + 1 = pc') (kk : Ends p e below Q T (mkF m pc' Ls St)) : Ends p e below Q T (mkF m pc Ls (v :: St)) := by subst hp; exact Ends.go (fun _ q => XS.pop X.here hx rfl hd rfl hc q) kk
theorem ow_dupX1 (X : Stand p l e R s m args below meth c T locs cells slots) (hx : p.tables.exec = Jvm.exec) {pc pc' : Nat} {Ls : Array Slot} {St : List Value} {v w : Value} (hd : decode c.code pc = .ok (.dup_x1, 1)) (hc : v.category = 1) (hc' : w.category = 1) (hp : pc + 1 = pc') (kk : Ends p e below Q T (mkF m pc' Ls (v :: w :: v :: St))) : Ends p e below Q T (mkF m pc Ls (v :: w :: St)) := by subst hp; exact Ends.go (fun _ q => XS.dupX1 X.here hx rfl hd rfl hc hc' q) kk
theorem ow_goto (X : Stand p l e R s m args below meth c T locs cells slots) (hx : p.tables.exec = Jvm.exec) {pc pc' : Nat} {Ls : Array Slot} {St : List Value} {o : Int} (hd : decode c.code pc = .ok (.goto o, 3)) (ho : 0 ≤ (pc : Int) + o) (hp : ((pc : Int) + o).toNat = pc') (kk : Ends p e below Q T (mkF m pc' Ls St)) : Ends p e below Q T (mkF m pc Ls St) := Ends.go (fun _ q => XS.goto X.here hx rfl (pc0 := pc) (pc' := pc') rfl hd ho hp q) kk
theorem ow_icmpY (X : Stand p l e R s m args below meth c T locs cells slots) (hx : p.tables.exec = Jvm.exec) {pc pc' : Nat} {Ls : Array Slot} {St : List Value} {cd : ClassFile.Cond} {x y : Int32} {o : Int} (hd : decode c.code pc = .ok (.if_icmp cd o, 3)) (hc : if_icmp.holds cd x y = true) (ho : 0 ≤ (pc : Int) + o) (hp : ((pc : Int) + o).toNat = pc') (kk : Ends p e below Q T (mkF m pc' Ls St)) : Ends p e below Q T (mkF m pc Ls (.int y :: .int x :: St)) := Ends.go (fun _ q => XS.icmpYes X.here hx rfl (pc0 := pc) (pc' := pc') rfl hd rfl hc ho hp q) kk
theorem ow_icmpN (X : Stand p l e R s m args below meth c T locs cells slots) (hx : p.tables.exec = Jvm.exec) {pc pc' : Nat} {Ls : Array Slot} {St : List Value} {cd : ClassFile.Cond} {x y : Int32} {o : Int} (hd : decode c.code pc = .ok (.if_icmp cd o, 3)) (hc : if_icmp.holds cd x y = false) (hp : pc + 3 = pc') (kk : Ends p e below Q T (mkF m pc' Ls St)) : Ends p e below Q T (mkF m pc Ls (.int y :: .int x :: St)) := by subst hp; exact Ends.go (fun _ q => XS.icmpNo X.here hx rfl hd rfl hc q) kk
theorem ow_ifY (X : Stand p l e R s m args below meth c T locs cells slots) (hx : p.tables.exec = Jvm.exec) {pc pc' : Nat} {Ls : Array Slot} {St : List Value} {cd : ClassFile.Cond} {x : Int32} {o : Int} (hd : decode c.code pc = .ok (.ifCond cd o, 3)) (hc : if_icmp.holds cd x 0 = true) (ho : 0 ≤ (pc : Int) + o) (hp : ((pc : Int) + o).toNat = pc') (kk : Ends p e below Q T (mkF m pc' Ls St)) : Ends p e below Q T (mkF m pc Ls (.int x :: St)) := Ends.go (fun _ q => XS.ifYes X.here hx rfl (pc0 := pc) (pc' := pc') rfl hd rfl ((if0 _ _).trans hc) ho hp q) kk
theorem ow_ifN (X : Stand p l e R s m args below meth c T locs cells slots) (hx : p.tables.exec = Jvm.exec) {pc pc' : Nat} {Ls : Array Slot} {St : List Value} {cd : ClassFile.Cond} {x : Int32} {o : Int} (hd : decode c.code pc = .ok (.ifCond cd o, 3)) (hc : if_icmp.holds cd x 0 = false) (hp : pc + 3 = pc') (kk : Ends p e below Q T (mkF m pc' Ls St)) : Ends p e below Q T (mkF m pc Ls (.int x :: St)) := by subst hp; exact Ends.go (fun _ q => XS.ifNo X.here hx rfl hd rfl ((if0 _ _).trans hc) q) kk
/-- the six comparisons, said of the signed worth -/
def cmpI : ClassFile.Cond → Int → Int → Prop
  | .eq, a, b => a = b
  | .ne, a, b => ¬ a = b
  | .lt, a, b => a < b
  | .ge, a, b => ¬ a < b
  | .gt, a, b => b < a
  | .le, a, b => ¬ b < a
theorem cmpI_y {cd : ClassFile.Cond} {x y : Int32} (q : cmpI cd x.toInt y.toInt) : if_icmp.holds cd x y = true := by
  cases cd <;> simp only [cmpI] at q <;> simp [if_icmp.holds, ← Int32.toInt_inj, Int32.lt_iff_toInt_lt, Int32.le_iff_toInt_le] <;> omega
theorem cmpI_n {cd : ClassFile.Cond} {x y : Int32} (q : ¬ cmpI cd x.toInt y.toInt) : if_icmp.holds cd x y = false := by
  cases cd <;> simp only [cmpI] at q <;> simp [if_icmp.holds, ← Int32.toInt_inj, Int32.lt_iff_toInt_lt, Int32.le_iff_toInt_le] <;> omega
theorem ow_icmp_eq (X : Stand p l e R s m args below meth c T locs cells slots) (hx : p.tables.exec = Jvm.exec) {pc pt pf : Nat} {Ls : Array Slot} {St : List Value} {x y : Int32} {o : Int} (xi yi : Int) (hd : decode c.code pc = .ok (.if_icmp .eq o, 3)) (hxi : x.toInt = xi) (hyi : y.toInt = yi) (ho : 0 ≤ (pc : Int) + o) (hp : ((pc : Int) + o).toNat = pt) (hq : pc + 3 = pf) (kt : xi = yi → Ends p e below Q T (mkF m pt Ls St)) (kf : ¬ xi = yi → Ends p e below Q T (mkF m pf Ls St)) : Ends p e below Q T (mkF m pc Ls (.int y :: .int x :: St)) := by
  subst hxi hyi
  rcases Classical.em (cmpI .eq x.toInt y.toInt) with w | w
  · exact ow_icmpY X hx hd (cmpI_y w) ho hp (kt w)
  · exact ow_icmpN X hx hd (cmpI_n w) hq (kf (by simp only [cmpI] at w; omega))
theorem ow_if_eq (X : Stand p l e R s m args below meth c T locs cells slots) (hx : p.tables.exec = Jvm.exec) {pc pt pf : Nat} {Ls : Array Slot} {St : List Value} {x : Int32} {o : Int} (xi : Int) (hd : decode c.code pc = .ok (.ifCond .eq o, 3)) (hxi : x.toInt = xi) (ho : 0 ≤ (pc : Int) + o) (hp : ((pc : Int) + o).toNat = pt) (hq : pc + 3 = pf) (kt : xi = 0 → Ends p e below Q T (mkF m pt Ls St)) (kf : ¬ xi = 0 → Ends p e below Q T (mkF m pf Ls St)) : Ends p e below Q T (mkF m pc Ls (.int x :: St)) := by
  subst hxi
  have z0 : (0 : Int32).toInt = 0 := rfl
  rcases Classical.em (cmpI .eq x.toInt (0 : Int32).toInt) with w | w
  · exact ow_ifY X hx hd (cmpI_y w) ho hp (kt (by simp only [cmpI, z0] at w; omega))
  · exact ow_ifN X hx hd (cmpI_n w) hq (kf (by simp only [cmpI, z0] at w; omega))
theorem ow_icmp_ne (X : Stand p l e R s m args below meth c T locs cells slots) (hx : p.tables.exec = Jvm.exec) {pc pt pf : Nat} {Ls : Array Slot} {St : List Value} {x y : Int32} {o : Int} (xi yi : Int) (hd : decode c.code pc = .ok (.if_icmp .ne o, 3)) (hxi : x.toInt = xi) (hyi : y.toInt = yi) (ho : 0 ≤ (pc : Int) + o) (hp : ((pc : Int) + o).toNat = pt) (hq : pc + 3 = pf) (kt : ¬ xi = yi → Ends p e below Q T (mkF m pt Ls St)) (kf : xi = yi → Ends p e below Q T (mkF m pf Ls St)) : Ends p e below Q T (mkF m pc Ls (.int y :: .int x :: St)) := by
  subst hxi hyi
  rcases Classical.em (cmpI .ne x.toInt y.toInt) with w | w
  · exact ow_icmpY X hx hd (cmpI_y w) ho hp (kt w)
  · exact ow_icmpN X hx hd (cmpI_n w) hq (kf (by simp only [cmpI] at w; omega))
theorem ow_if_ne (X : Stand p l e R s m args below meth c T locs cells slots) (hx : p.tables.exec = Jvm.exec) {pc pt pf : Nat} {Ls : Array Slot} {St : List Value} {x : Int32} {o : Int} (xi : Int) (hd : decode c.code pc = .ok (.ifCond .ne o, 3)) (hxi : x.toInt = xi) (ho : 0 ≤ (pc : Int) + o) (hp : ((pc : Int) + o).toNat = pt) (hq : pc + 3 = pf) (kt : ¬ xi = 0 → Ends p e below Q T (mkF m pt Ls St)) (kf : xi = 0 → Ends p e below Q T (mkF m pf Ls St)) : Ends p e below Q T (mkF m pc Ls (.int x :: St)) := by
  subst hxi
  have z0 : (0 : Int32).toInt = 0 := rfl
  rcases Classical.em (cmpI .ne x.toInt (0 : Int32).toInt) with w | w
  · exact ow_ifY X hx hd (cmpI_y w) ho hp (kt (by simp only [cmpI, z0] at w; omega))
  · exact ow_ifN X hx hd (cmpI_n w) hq (kf (by simp only [cmpI, z0] at w; omega))
theorem ow_icmp_lt (X : Stand p l e R s m args below meth c T locs cells slots) (hx : p.tables.exec = Jvm.exec) {pc pt pf : Nat} {Ls : Array Slot} {St : List Value} {x y : Int32} {o : Int} (xi yi : Int) (hd : decode c.code pc = .ok (.if_icmp .lt o, 3)) (hxi : x.toInt = xi) (hyi : y.toInt = yi) (ho : 0 ≤ (pc : Int) + o) (hp : ((pc : Int) + o).toNat = pt) (hq : pc + 3 = pf) (kt : xi < yi → Ends p e below Q T (mkF m pt Ls St)) (kf : ¬ xi < yi → Ends p e below Q T (mkF m pf Ls St)) : Ends p e below Q T (mkF m pc Ls (.int y :: .int x :: St)) := by
  subst hxi hyi
  rcases Classical.em (cmpI .lt x.toInt y.toInt) with w | w
  · exact ow_icmpY X hx hd (cmpI_y w) ho hp (kt w)
  · exact ow_icmpN X hx hd (cmpI_n w) hq (kf (by simp only [cmpI] at w; omega))
theorem ow_if_lt (X : Stand p l e R s m args below meth c T locs cells slots) (hx : p.tables.exec = Jvm.exec) {pc pt pf : Nat} {Ls : Array Slot} {St : List Value} {x : Int32} {o : Int} (xi : Int) (hd : decode c.code pc = .ok (.ifCond .lt o, 3)) (hxi : x.toInt = xi) (ho : 0 ≤ (pc : Int) + o) (hp : ((pc : Int) + o).toNat = pt) (hq : pc + 3 = pf) (kt : xi < 0 → Ends p e below Q T (mkF m pt Ls St)) (kf : ¬ xi < 0 → Ends p e below Q T (mkF m pf Ls St)) : Ends p e below Q T (mkF m pc Ls (.int x :: St)) := by
  subst hxi
  have z0 : (0 : Int32).toInt = 0 := rfl
  rcases Classical.em (cmpI .lt x.toInt (0 : Int32).toInt) with w | w
  · exact ow_ifY X hx hd (cmpI_y w) ho hp (kt (by simp only [cmpI, z0] at w; omega))
  · exact ow_ifN X hx hd (cmpI_n w) hq (kf (by simp only [cmpI, z0] at w; omega))
theorem ow_icmp_ge (X : Stand p l e R s m args below meth c T locs cells slots) (hx : p.tables.exec = Jvm.exec) {pc pt pf : Nat} {Ls : Array Slot} {St : List Value} {x y : Int32} {o : Int} (xi yi : Int) (hd : decode c.code pc = .ok (.if_icmp .ge o, 3)) (hxi : x.toInt = xi) (hyi : y.toInt = yi) (ho : 0 ≤ (pc : Int) + o) (hp : ((pc : Int) + o).toNat = pt) (hq : pc + 3 = pf) (kt : ¬ xi < yi → Ends p e below Q T (mkF m pt Ls St)) (kf : xi < yi → Ends p e below Q T (mkF m pf Ls St)) : Ends p e below Q T (mkF m pc Ls (.int y :: .int x :: St)) := by
  subst hxi hyi
  rcases Classical.em (cmpI .ge x.toInt y.toInt) with w | w
  · exact ow_icmpY X hx hd (cmpI_y w) ho hp (kt w)
  · exact ow_icmpN X hx hd (cmpI_n w) hq (kf (by simp only [cmpI] at w; omega))
theorem ow_icmp_gt (X : Stand p l e R s m args below meth c T locs cells slots) (hx : p.tables.exec = Jvm.exec) {pc pt pf : Nat} {Ls : Array Slot} {St : List Value} {x y : Int32} {o : Int} (xi yi : Int) (hd : decode c.code pc = .ok (.if_icmp .gt o, 3)) (hxi : x.toInt = xi) (hyi : y.toInt = yi) (ho : 0 ≤ (pc : Int) + o) (hp : ((pc : Int) + o).toNat = pt) (hq : pc + 3 = pf) (kt : yi < xi → Ends p e below Q T (mkF m pt Ls St)) (kf : ¬ yi < xi → Ends p e below Q T (mkF m pf Ls St)) : Ends p e below Q T (mkF m pc Ls (.int y :: .int x :: St)) := by
  subst hxi hyi
  rcases Classical.em (cmpI .gt x.toInt y.toInt) with w | w
  · exact ow_icmpY X hx hd (cmpI_y w) ho hp (kt w)
  · exact ow_icmpN X hx hd (cmpI_n w) hq (kf (by simp only [cmpI] at w; omega))
theorem ow_if_gt (X : Stand p l e R s m args below meth c T locs cells slots) (hx : p.tables.exec = Jvm.exec) {pc pt pf : Nat} {Ls : Array Slot} {St : List Value} {x : Int32} {o : Int} (xi : Int) (hd : decode c.code pc = .ok (.ifCond .gt o, 3)) (hxi : x.toInt = xi) (ho : 0 ≤ (pc : Int) + o) (hp : ((pc : Int) + o).toNat = pt) (hq : pc + 3 = pf) (kt : 0 < xi → Ends p e below Q T (mkF m pt Ls St)) (kf : ¬ 0 < xi → Ends p e below Q T (mkF m pf Ls St)) : Ends p e below Q T (mkF m pc Ls (.int x :: St)) := by
  subst hxi
  have z0 : (0 : Int32).toInt = 0 := rfl
  rcases Classical.em (cmpI .gt x.toInt (0 : Int32).toInt) with w | w
  · exact ow_ifY X hx hd (cmpI_y w) ho hp (kt (by simp only [cmpI, z0] at w; omega))
  · exact ow_ifN X hx hd (cmpI_n w) hq (kf (by simp only [cmpI, z0] at w; omega))
theorem ow_icmp_le (X : Stand p l e R s m args below meth c T locs cells slots) (hx : p.tables.exec = Jvm.exec) {pc pt pf : Nat} {Ls : Array Slot} {St : List Value} {x y : Int32} {o : Int} (xi yi : Int) (hd : decode c.code pc = .ok (.if_icmp .le o, 3)) (hxi : x.toInt = xi) (hyi : y.toInt = yi) (ho : 0 ≤ (pc : Int) + o) (hp : ((pc : Int) + o).toNat = pt) (hq : pc + 3 = pf) (kt : ¬ yi < xi → Ends p e below Q T (mkF m pt Ls St)) (kf : yi < xi → Ends p e below Q T (mkF m pf Ls St)) : Ends p e below Q T (mkF m pc Ls (.int y :: .int x :: St)) := by
  subst hxi hyi
  rcases Classical.em (cmpI .le x.toInt y.toInt) with w | w
  · exact ow_icmpY X hx hd (cmpI_y w) ho hp (kt w)
  · exact ow_icmpN X hx hd (cmpI_n w) hq (kf (by simp only [cmpI] at w; omega))
theorem ow_if_le (X : Stand p l e R s m args below meth c T locs cells slots) (hx : p.tables.exec = Jvm.exec) {pc pt pf : Nat} {Ls : Array Slot} {St : List Value} {x : Int32} {o : Int} (xi : Int) (hd : decode c.code pc = .ok (.ifCond .le o, 3)) (hxi : x.toInt = xi) (ho : 0 ≤ (pc : Int) + o) (hp : ((pc : Int) + o).toNat = pt) (hq : pc + 3 = pf) (kt : ¬ 0 < xi → Ends p e below Q T (mkF m pt Ls St)) (kf : 0 < xi → Ends p e below Q T (mkF m pf Ls St)) : Ends p e below Q T (mkF m pc Ls (.int x :: St)) := by
  subst hxi
  have z0 : (0 : Int32).toInt = 0 := rfl
  rcases Classical.em (cmpI .le x.toInt (0 : Int32).toInt) with w | w
  · exact ow_ifY X hx hd (cmpI_y w) ho hp (kt (by simp only [cmpI, z0] at w; omega))
  · exact ow_ifN X hx hd (cmpI_n w) hq (kf (by simp only [cmpI, z0] at w; omega))
theorem ow_acmp (X : Stand p l e R s m args below meth c T locs cells slots) (hx : p.tables.exec = Jvm.exec) {pc pc' : Nat} {Ls : Array Slot} {St : List Value} {cd : ACond} {x y : Value} (h1 : x.isRef = true) (h2 : y.isRef = true) {o : Int} {same : Bool} (hd : decode c.code pc = .ok (.if_acmp cd o, 3)) (hs : decide (x = y) = same) (ho : 0 ≤ (pc : Int) + o) (hp : (if acV cd same = true then ((pc : Int) + o).toNat else pc + 3) = pc') (kk : Ends p e below Q T (mkF m pc' Ls St)) : Ends p e below Q T (mkF m pc Ls (y :: x :: St)) := Ends.go (fun _ q => Jvm.RoadKit.acmp (g := mkF m pc Ls (y :: x :: St)) X hx rfl h1 h2 (pc0 := pc) (pc' := pc') (same := same) rfl hd rfl hs ho hp.symm q) kk
theorem ow_retB (X : Stand p l e R s m args below meth c T locs cells slots) (hx : p.tables.exec = Jvm.exec) {pc : Nat} {Ls : Array Slot} {rest : List Value} {z z' : Int32} (hret : meth.sig.returnType = some .boolean) (hlk : meth.locks = false) (hd : decode c.code pc = .ok (.ireturn, 1)) {ce sl : Nat} (hc : cells ≤ ce) (hs : slots ≤ sl) {Qv : Option Value → Heap → List Loc → Prop} (hz : nar .boolean z = z') (q : Qv (some (.int z')) T.heap locs) : Ends p e below (Out s ce sl Qv) T (mkF m pc Ls (.int z :: rest)) := by
  subst hz
  obtain ⟨fs, hr, hrun, hended, hW, hsame⟩ := X.leave (v := some (.int (nar .boolean z))) (fun h => by rw [hret] at h; cases h) hlk
  exact ⟨_, _, retN X hx (t := .boolean) hret (by simp) hd hr, hrun, hended, _, _, rfl, q, ⟨_, rfl⟩, hW, hsame.mono hc hs⟩
theorem ow_retY (X : Stand p l e R s m args below meth c T locs cells slots) (hx : p.tables.exec = Jvm.exec) {pc : Nat} {Ls : Array Slot} {rest : List Value} {z z' : Int32} (hret : meth.sig.returnType = some .byte) (hlk : meth.locks = false) (hd : decode c.code pc = .ok (.ireturn, 1)) {ce sl : Nat} (hc : cells ≤ ce) (hs : slots ≤ sl) {Qv : Option Value → Heap → List Loc → Prop} (hz : nar .byte z = z') (q : Qv (some (.int z')) T.heap locs) : Ends p e below (Out s ce sl Qv) T (mkF m pc Ls (.int z :: rest)) := by
  subst hz
  obtain ⟨fs, hr, hrun, hended, hW, hsame⟩ := X.leave (v := some (.int (nar .byte z))) (fun h => by rw [hret] at h; cases h) hlk
  exact ⟨_, _, retN X hx (t := .byte) hret (by simp) hd hr, hrun, hended, _, _, rfl, q, ⟨_, rfl⟩, hW, hsame.mono hc hs⟩
theorem ow_retC (X : Stand p l e R s m args below meth c T locs cells slots) (hx : p.tables.exec = Jvm.exec) {pc : Nat} {Ls : Array Slot} {rest : List Value} {z z' : Int32} (hret : meth.sig.returnType = some .char) (hlk : meth.locks = false) (hd : decode c.code pc = .ok (.ireturn, 1)) {ce sl : Nat} (hc : cells ≤ ce) (hs : slots ≤ sl) {Qv : Option Value → Heap → List Loc → Prop} (hz : nar .char z = z') (q : Qv (some (.int z')) T.heap locs) : Ends p e below (Out s ce sl Qv) T (mkF m pc Ls (.int z :: rest)) := by
  subst hz
  obtain ⟨fs, hr, hrun, hended, hW, hsame⟩ := X.leave (v := some (.int (nar .char z))) (fun h => by rw [hret] at h; cases h) hlk
  exact ⟨_, _, retN X hx (t := .char) hret (by simp) hd hr, hrun, hended, _, _, rfl, q, ⟨_, rfl⟩, hW, hsame.mono hc hs⟩
theorem ow_retI (X : Stand p l e R s m args below meth c T locs cells slots) (hx : p.tables.exec = Jvm.exec) {pc : Nat} {Ls : Array Slot} {z : Int32} (hret : meth.sig.returnType = some .int) (hlk : meth.locks = false) (hd : decode c.code pc = .ok (.ireturn, 1)) {ce sl : Nat} (hc : cells ≤ ce) (hs : slots ≤ sl) {Qv : Option Value → Heap → List Loc → Prop} (q : Qv (some (.int z)) T.heap locs) : Ends p e below (Out s ce sl Qv) T (mkF m pc Ls [.int z]) := by
  obtain ⟨fs, hr, hrun, hended, hW, hsame⟩ := X.leave (v := some (.int z)) (fun h => by rw [hret] at h; cases h) hlk
  exact ⟨_, _, X.ireturnOut hx hret rfl (Or.inl rfl) hd hr, hrun, hended, _, _, rfl, q, ⟨_, rfl⟩, hW, hsame.mono hc hs⟩
theorem ow_retL (X : Stand p l e R s m args below meth c T locs cells slots) (hx : p.tables.exec = Jvm.exec) {pc : Nat} {Ls : Array Slot} {z : Int64} (hret : meth.sig.returnType = some .long) (hlk : meth.locks = false) (hd : decode c.code pc = .ok (.lreturn, 1)) {ce sl : Nat} (hc : cells ≤ ce) (hs : slots ≤ sl) {Qv : Option Value → Heap → List Loc → Prop} (q : Qv (some (.long z)) T.heap locs) : Ends p e below (Out s ce sl Qv) T (mkF m pc Ls [.long z]) := by
  obtain ⟨fs, hr, hrun, hended, hW, hsame⟩ := X.leave (v := some (.long z)) (fun h => by rw [hret] at h; cases h) hlk
  exact ⟨_, _, X.lreturnOut hx hret hd hr, hrun, hended, _, _, rfl, q, ⟨_, rfl⟩, hW, hsame.mono hc hs⟩
theorem ow_retA (X : Stand p l e R s m args below meth c T locs cells slots) (hx : p.tables.exec = Jvm.exec) {pc : Nat} {Ls : Array Slot} {w : Value} {t : FieldType} (hret : meth.sig.returnType = some t) (hlk : meth.locks = false) (hw : w.isRef = true) (ht : t.isReference = true) (hd : decode c.code pc = .ok (.areturn, 1)) {ce sl : Nat} (hc : cells ≤ ce) (hs : slots ≤ sl) {Qv : Option Value → Heap → List Loc → Prop} (q : Qv (some w) T.heap locs) : Ends p e below (Out s ce sl Qv) T (mkF m pc Ls [w]) := by
  obtain ⟨fs, hr, hrun, hended, hW, hsame⟩ := X.leave (v := some w) (fun h => by rw [hret] at h; cases h) hlk
  exact ⟨_, _, X.areturnOut hx hw hret ht hd hr, hrun, hended, _, _, rfl, q, ⟨_, rfl⟩, hW, hsame.mono hc hs⟩
theorem ow_retV (X : Stand p l e R s m args below meth c T locs cells slots) (hx : p.tables.exec = Jvm.exec) {pc : Nat} {Ls : Array Slot} (hret : meth.sig.returnType = none) (hlk : meth.locks = false) (hd : decode c.code pc = .ok (.return_, 1)) {ce sl : Nat} (hc : cells ≤ ce) (hs : slots ≤ sl) {Qv : Option Value → Heap → List Loc → Prop} (q : Qv none T.heap locs) : Ends p e below (Out s ce sl Qv) T (mkF m pc Ls []) := by
  obtain ⟨fs, hr, hrun, hended, hW, hsame⟩ := X.leave (v := none) (fun _ => rfl) hlk
  exact ⟨_, _, X.returnOut hx hret hd hr, hrun, hended, _, _, rfl, q, ⟨_, rfl⟩, hW, hsame.mono hc hs⟩
theorem ow_callS (X : Stand p l e R s m args below meth c T locs cells slots) (hx : p.tables.exec = Jvm.exec) (hZ : Z.Warmed39 s.vm) {own : String} {index : Nat} {y : MethodName} {bytes : ByteArray} {maxL : Nat} {ret : Option FieldType} (hown : s.vm.findClass own = some m.cls)
    (wl : (Jvm.Cond.methodLink own index y).before a0 Z = true) (wst : (Jvm.Cond.static y).before a0 Z = true) (wi : (Jvm.Cond.initialized y.cls).before a0 Z = true) (wc : (Jvm.Cond.code y bytes maxL ret).before a0 Z = true) (hy : y.cls ≠ "java/lang/invoke/MethodHandle" ∧ y.cls ≠ "java/lang/invoke/VarHandle")
    {rm : Room} {as' : Array Value} {Qc : Option Value → Heap → List Loc → Prop} (hM : MetFree l y (head1 [Jvm.Cond.code y bytes maxL ret] rm) (fun a U => a = as' ∧ Z.Warmed39 U.vm ∧ U.heap = h) (fun _ _ _ _ _ => True) (fun _ U o U' => ∃ v L, o = .returned v ∧ Qc v U'.heap L ∧ FrameEnd U o U' L rm.cells rm.slots))
    (eT : T.heap = h) (W : Nat) (hf : rm.frames + 1 ≤ R.frames) (hl : W + (maxL + 11) + rm.locals ≤ R.locals) (hce : cells + rm.cells ≤ R.cells) (hsl : slots + rm.slots ≤ R.slots) {pc pc' : Nat} {Ls : Array Slot} {St rest : List Value} (argsL : List Value) {ps : List FieldType} {rt : Option FieldType} (hsize : Ls.size = c.maxLocals) (hdesc : parseMethodDescriptor y.desc = some ⟨ps, rt⟩) (hlen : argsL.length = ps.length) (hst : St = argsL.reverse ++ rest) (has : argsL.toArray = as') (hW : (rest.map fun v => v.category).sum ≤ W)
    (hd : decode c.code pc = .ok (.invokestatic index, 3)) (hp : pc + 3 = pc')
    (kk : ∀ (v : Option Value) (T' : State) (L' : List Loc), Qc v T'.heap L' → Stand p l e R s m args below meth c T' (locs ++ L') (cells + rm.cells) (slots + rm.slots) → Ends p e below Q T' (mkF m pc' Ls (v.toList ++ rest))) : Ends p e below Q T (mkF m pc Ls St) := by
  subst hst has hp
  obtain ⟨v, vm₁, ⟨T', L, k2, n2⟩, -, X', ⟨Lc, hQ, l1, y1, z1⟩, st⟩ := Jvm.LawKit.callS X hx hown (mvT hZ wl) (mvT hZ wst) (mvT hZ wi) (mvT hZ wc) hy (backOf (W := W) hM hZ wc wi hf hl) (g := mkF m pc Ls (argsL.reverse ++ rest)) rfl hsize (argsL := argsL) (rest := rest) (lenOf hdesc hlen) rfl (by show 2 * 0 + _ ≤ _; omega) hd (fun _ _ => ⟨rfl, eT, hce, hsl⟩)
  dsimp only [Pt.U, Pt.locs, Pt.cells, Pt.slots] at X' l1 y1 z1 st hQ
  subst l1 y1 z1
  exact Ends.go st (kk v T' Lc hQ X')
theorem ow_callI (X : Stand p l e R s m args below meth c T locs cells slots) (hx : p.tables.exec = Jvm.exec) (hZ : Z.Warmed39 s.vm) {own : String} {index : Nat} {y : MethodName} {bytes : ByteArray} {maxL : Nat} {ret : Option FieldType} (hret0 : ret = none) (hy1 : y.name = "<init>") (hown : s.vm.findClass own = some m.cls)
    (wl : (Jvm.Cond.methodLink own index y).before a0 Z = true) (wst : (Jvm.Cond.instanceMethod y).before a0 Z = true) (wi : (Jvm.Cond.initialized y.cls).before a0 Z = true) (wc : (Jvm.Cond.code y bytes maxL ret).before a0 Z = true) (hy : y.cls ≠ "java/lang/invoke/MethodHandle" ∧ y.cls ≠ "java/lang/invoke/VarHandle")
    {rm : Room} {as' : Array Value} {Qc : Option Value → Heap → List Loc → Prop} (hM : MetFree l y (head1 [Jvm.Cond.code y bytes maxL ret] rm) (fun a U => a = as' ∧ Z.Warmed39 U.vm ∧ U.heap = h) (fun _ _ _ _ _ => True) (fun _ U o U' => ∃ v L, o = .returned v ∧ Qc v U'.heap L ∧ FrameEnd U o U' L rm.cells rm.slots))
    (eT : T.heap = h) (W : Nat) (hf : rm.frames + 1 ≤ R.frames) (hl : W + (maxL + 11) + rm.locals ≤ R.locals) (hce : cells + rm.cells ≤ R.cells) (hsl : slots + rm.slots ≤ R.slots) {pc pc' : Nat} {Ls : Array Slot} {St rest : List Value} (argsL : List Value) {ps : List FieldType} {rt : Option FieldType} (hsize : Ls.size = c.maxLocals) (hdesc : parseMethodDescriptor y.desc = some ⟨ps, rt⟩) (hlen : argsL.length = ps.length) {a : Addr} (hst : St = argsL.reverse ++ .ref a :: rest) (has : (Value.ref a :: argsL).toArray = as') (hW : (rest.map fun v => v.category).sum ≤ W)
    (hd : decode c.code pc = .ok (.invokespecial index, 3)) (hp : pc + 3 = pc')
    (kk : ∀ (v : Option Value) (T' : State) (L' : List Loc), Qc v T'.heap L' → Stand p l e R s m args below meth c T' (locs ++ L') (cells + rm.cells) (slots + rm.slots) → Ends p e below Q T' (mkF m pc' Ls (v.toList ++ rest))) : Ends p e below Q T (mkF m pc Ls St) := by
  subst hst has hp hret0
  obtain ⟨v, vm₁, ⟨T', L, k2, n2⟩, -, X', ⟨Lc, hQ, l1, y1, z1⟩, st⟩ := X.specialBack hx hy1 hown (mvT hZ wl) (mvT hZ wst) (mvT hZ wc) hy (backOf (W := W) hM hZ wc wi hf hl) (g := mkF m pc Ls (argsL.reverse ++ .ref a :: rest)) rfl hsize (Steps.refl _) (a := a) (argsL := argsL) (rest := rest) (lenOf hdesc hlen) rfl (by show 2 * 0 + _ ≤ _; omega) hd (fun _ _ => ⟨rfl, eT, hce, hsl⟩)
  dsimp only [Pt.U, Pt.locs, Pt.cells, Pt.slots] at X' l1 y1 z1 st hQ
  subst l1 y1 z1
  exact Ends.thru st (kk v T' Lc hQ X')
theorem ow_callV (X : Stand p l e R s m args below meth c T locs cells slots) (hx : p.tables.exec = Jvm.exec) (hZ : Z.Warmed39 s.vm) {own C : String} {index : Nat} {y y' : MethodName} (hyy : y = y') {bytes : ByteArray} {maxL : Nat} {ret : Option FieldType} (hown : s.vm.findClass own = some m.cls)
    (wl : (Jvm.Cond.methodLink own index y).before a0 Z = true) (wd : (Jvm.Cond.declares y).before a0 Z = true) (wsel : (Jvm.Cond.selects C y y').before a0 Z = true) (wst : (Jvm.Cond.instanceMethod y').before a0 Z = true) (wi : (Jvm.Cond.initialized y'.cls).before a0 Z = true) (wc : (Jvm.Cond.code y' bytes maxL ret).before a0 Z = true) (hy : y.cls ≠ "java/lang/invoke/MethodHandle" ∧ y.cls ≠ "java/lang/invoke/VarHandle")
    {rm : Room} {as' : Array Value} {Qc : Option Value → Heap → List Loc → Prop} (hM : MetFree l y' (head1 [Jvm.Cond.code y' bytes maxL ret] rm) (fun a U => a = as' ∧ Z.Warmed39 U.vm ∧ U.heap = h) (fun _ _ _ _ _ => True) (fun _ U o U' => ∃ v L, o = .returned v ∧ Qc v U'.heap L ∧ FrameEnd U o U' L rm.cells rm.slots))
    (eT : T.heap = h) (W : Nat) (hf : rm.frames + 1 ≤ R.frames) (hl : W + (maxL + 11) + rm.locals ≤ R.locals) (hce : cells + rm.cells ≤ R.cells) (hsl : slots + rm.slots ≤ R.slots) {pc pc' : Nat} {Ls : Array Slot} {St rest : List Value} (argsL : List Value) {ps : List FieldType} {rt : Option FieldType} (hsize : Ls.size = c.maxLocals) (hdesc : parseMethodDescriptor y.desc = some ⟨ps, rt⟩) (hlen : argsL.length = ps.length) {a : Addr} (E : Exa Z h a C) (hst : St = argsL.reverse ++ .ref a :: rest) (has : (Value.ref a :: argsL).toArray = as') (hW : (rest.map fun v => v.category).sum ≤ W)
    (hd : decode c.code pc = .ok (.invokevirtual index, 3)) (hp : pc + 3 = pc')
    (kk : ∀ (v : Option Value) (T' : State) (L' : List Loc), Qc v T'.heap L' → Stand p l e R s m args below meth c T' (locs ++ L') (cells + rm.cells) (slots + rm.slots) → Ends p e below Q T' (mkF m pc' Ls (v.toList ++ rest))) : Ends p e below Q T (mkF m pc Ls St) := by
  subst hst has hp hyy
  obtain ⟨cq, kq, qa, qb, qc⟩ := isOf hZ eT E
  obtain ⟨v, vm₁, ⟨T', L, k2, n2⟩, -, X', ⟨Lc, hQ, l1, y1, z1⟩, st⟩ := X.virtualBack hx hown (mvT hZ wl) (mvT hZ wd) (notFace_of_selects (args := #[]) (mvT hZ wsel)) (mvT hZ wsel) (mvT hZ wst) hy (backOf (W := W) hM hZ wc wi hf hl) qa qc (g := mkF m pc Ls (argsL.reverse ++ .ref a :: rest)) rfl hsize (Steps.refl _) (argsL := argsL) (rest := rest) (lenOf hdesc hlen) rfl (by show 2 * 0 + _ ≤ _; omega) hd (fun _ _ => ⟨rfl, eT, hce, hsl⟩)
  dsimp only [Pt.U, Pt.locs, Pt.cells, Pt.slots] at X' l1 y1 z1 st hQ
  subst l1 y1 z1
  exact Ends.thru st (kk v T' Lc hQ X')
theorem ow_callPr (X : Stand p l e R s m args below meth c T locs cells slots) (hx : p.tables.exec = Jvm.exec) (hZ : Z.Warmed39 s.vm) {own C : String} {index kn : Nat} {y : MethodName} {bytes : ByteArray} {maxL : Nat} {ret : Option FieldType} (hown : s.vm.findClass own = some m.cls)
    (wl : (Jvm.Cond.methodLink own index y).before a0 Z = true) (wp : (Jvm.Cond.privateMethod y).before a0 Z = true) (wn : (Jvm.Cond.instantiable y.cls kn).before a0 Z = true) (wst : (Jvm.Cond.instanceMethod y).before a0 Z = true) (wi : (Jvm.Cond.initialized y.cls).before a0 Z = true) (wc : (Jvm.Cond.code y bytes maxL ret).before a0 Z = true) (hy : y.cls ≠ "java/lang/invoke/MethodHandle" ∧ y.cls ≠ "java/lang/invoke/VarHandle")
    {rm : Room} {as' : Array Value} {Qc : Option Value → Heap → List Loc → Prop} (hM : MetFree l y (head1 [Jvm.Cond.code y bytes maxL ret] rm) (fun a U => a = as' ∧ Z.Warmed39 U.vm ∧ U.heap = h) (fun _ _ _ _ _ => True) (fun _ U o U' => ∃ v L, o = .returned v ∧ Qc v U'.heap L ∧ FrameEnd U o U' L rm.cells rm.slots))
    (eT : T.heap = h) (W : Nat) (hf : rm.frames + 1 ≤ R.frames) (hl : W + (maxL + 11) + rm.locals ≤ R.locals) (hce : cells + rm.cells ≤ R.cells) (hsl : slots + rm.slots ≤ R.slots) {pc pc' : Nat} {Ls : Array Slot} {St rest : List Value} (argsL : List Value) {ps : List FieldType} {rt : Option FieldType} (hsize : Ls.size = c.maxLocals) (hdesc : parseMethodDescriptor y.desc = some ⟨ps, rt⟩) (hlen : argsL.length = ps.length) {a : Addr} (E : Exa Z h a C) (hst : St = argsL.reverse ++ .ref a :: rest) (has : (Value.ref a :: argsL).toArray = as') (hW : (rest.map fun v => v.category).sum ≤ W)
    (hd : decode c.code pc = .ok (.invokevirtual index, 3)) (hp : pc + 3 = pc')
    (kk : ∀ (v : Option Value) (T' : State) (L' : List Loc), Qc v T'.heap L' → Stand p l e R s m args below meth c T' (locs ++ L') (cells + rm.cells) (slots + rm.slots) → Ends p e below Q T' (mkF m pc' Ls (v.toList ++ rest))) : Ends p e below Q T (mkF m pc Ls St) := by
  subst hst has hp
  obtain ⟨cell, qa, qc⟩ := E.cell
  obtain ⟨c0, k0, g1, g2, -, g3, -⟩ := Cond.instantiable_spec (mvT (args := args) hZ wn)
  have hpr := Cond.privateMethod_at (mvP (args := args) hZ wp)
  obtain ⟨v, vm₁, ⟨T', L, k2, n2⟩, -, X', ⟨Lc, hQ, l1, y1, z1⟩, st⟩ := X.privateBack hx hown (mvT hZ wl) (mvT hZ wst) (selects_self_of_private g1 g2 (Bool.or_eq_false_iff.mp g3).1 hpr (mvT hZ wst) hy) hpr (mvT hZ wc) hy (backOf (W := W) hM hZ wc wi hf hl) (g := mkF m pc Ls (argsL.reverse ++ .ref a :: rest)) rfl hsize (Steps.refl _) (by rw [eT]; exact qa) qc (argsL := argsL) (rest := rest) (lenOf hdesc hlen) rfl (by show 2 * 0 + _ ≤ _; omega) hd (fun _ _ => ⟨rfl, eT, hce, hsl⟩)
  dsimp only [Pt.U, Pt.locs, Pt.cells, Pt.slots] at X' l1 y1 z1 st hQ
  subst l1 y1 z1
  exact Ends.thru st (kk v T' Lc hQ X')
/-- Object's constructor -/
theorem ow_init0 (X : Stand p l e R s m args below meth c T locs cells slots) (hx : p.tables.exec = Jvm.exec) (hZ : Z.Warmed39 s.vm) {own : String} {index : Nat} (hown : s.vm.findClass own = some m.cls) (wl : (Jvm.Cond.methodLink own index Lib.objectInit).before a0 Z = true) (wst : (Jvm.Cond.instanceMethod Lib.objectInit).before a0 Z = true) (wc : (Jvm.Cond.code Lib.objectInit ⟨#[0xb1]⟩ 1 none).before a0 Z = true)
    (eT : T.heap = h) (W : Nat) (hf : 1 ≤ R.frames) (hl : W + 12 ≤ R.locals) {pc pc' : Nat} {Ls : Array Slot} {a : Addr} {St : List Value} (hsize : Ls.size = c.maxLocals) (hW : (St.map fun v => v.category).sum ≤ W) (hd : decode c.code pc = .ok (.invokespecial index, 3)) (hp : pc + 3 = pc')
    (kk : ∀ T' : State, Stand p l e R s m args below meth c T' locs cells slots → T'.heap = h → Ends p e below Q T' (mkF m pc' Ls St)) : Ends p e below Q T (mkF m pc Ls (.ref a :: St)) := by
  subst hp
  obtain ⟨T', X', e', st⟩ := initO X hx hZ hown wl wst wc eT (g := mkF m pc Ls (.ref a :: St)) rfl hsize rfl hd hf (W := W) (by show 2 * 0 + _ ≤ _; omega) hl
  exact Ends.go st (kk T' X' e')
theorem ow_getF (X : Stand p l e R s m args below meth c T locs cells slots) (hx : p.tables.exec = Jvm.exec) (hZ : Z.Warmed39 s.vm) {own R0 O n d host : String} {index : Nat} (hown : s.vm.findClass own = some m.cls) (w : (Jvm.Cond.fieldLink own index R0 n d).before a0 Z = true ∨ (Jvm.Cond.fieldLinkNest own index R0 n d host).before a0 Z = true) (via : Via Z R0 O n d) (eT : T.heap = h) {a : Addr} {v : Value} (F : Fld Z h a O n d v) {pc pc' : Nat} {Ls : Array Slot} {St : List Value} (hd : decode c.code pc = .ok (.getfield index, 3)) (hp : pc + 3 = pc')
    (kk : ∀ T' : State, Stand p l e R s m args below meth c T' locs cells slots → T'.heap = h → Ends p e below Q T' (mkF m pc' Ls (v :: St))) : Ends p e below Q T (mkF m pc Ls (.ref a :: St)) := by
  subst hp
  obtain ⟨T', X', e', st⟩ := getF X hx hZ hown w via eT F (g := mkF m pc Ls (.ref a :: St)) rfl rfl hd
  exact Ends.go st (kk T' X' e')
theorem ow_getS (X : Stand p l e R s m args below meth c T locs cells slots) (hx : p.tables.exec = Jvm.exec) (hZ : Z.Warmed39 s.vm) {own R0 O n d host : String} {index : Nat} (hown : s.vm.findClass own = some m.cls) (w : (Jvm.Cond.fieldLink own index R0 n d).before a0 Z = true ∨ (Jvm.Cond.fieldLinkNest own index R0 n d host).before a0 Z = true) (via : Via Z R0 O n d) (eT : T.heap = h) {v : Value} (F : Sta Z h O n d v) {pc pc' : Nat} {Ls : Array Slot} {St : List Value} (hd : decode c.code pc = .ok (.getstatic index, 3)) (hp : pc + 3 = pc')
    (kk : ∀ T' : State, Stand p l e R s m args below meth c T' locs cells slots → T'.heap = h → Ends p e below Q T' (mkF m pc' Ls (v :: St))) : Ends p e below Q T (mkF m pc Ls St) := by
  subst hp
  obtain ⟨T', X', e', st⟩ := getS2 X hx hZ hown w via eT F (g := mkF m pc Ls St) rfl hd
  exact Ends.go st (kk T' X' e')
theorem ow_putF (X : Stand p l e R s m args below meth c T locs cells slots) (hx : p.tables.exec = Jvm.exec) (hZ : Z.Warmed39 s.vm) {own R0 O n d host C : String} {index kn : Nat} {ty : FieldType} (hown : s.vm.findClass own = some m.cls) (w : (Jvm.Cond.fieldLink own index R0 n d).before a0 Z = true ∨ (Jvm.Cond.fieldLinkNest own index R0 n d host).before a0 Z = true) (via : Via Z R0 O n d) (eT : T.heap = h) {a : Addr} {v old : Value} (F : Fld Z h a O n d old) (E : Exa Z h a C)
    (L : (Jvm.Cond.lays C O n d).before a0 Z = true ∨ ((Jvm.Cond.laysFinal C O n d).before a0 Z = true ∧ own = O ∧ meth.name = "<init>")) (wi : (Jvm.Cond.instantiable C kn).before a0 Z = true) (hty : parseFieldDescriptor d = some ty) (hn : narrow ty v = v) (hft : fits ty v = true) {pc pc' : Nat} {Ls : Array Slot} {St : List Value} (hd : decode c.code pc = .ok (.putfield index, 3)) (hp : pc + 3 = pc')
    (kk : ∀ (T' : State) (h' : Heap), Stand p l e R s m args below meth c T' (locs ++ [⟨a, Jvm.RoadKit.slotOf Z O n d⟩]) cells slots → T'.heap = h' → Wr h h' a (Jvm.RoadKit.slotOf Z O n d) v → Ends p e below Q T' (mkF m pc' Ls St)) : Ends p e below Q T (mkF m pc Ls (v :: .ref a :: St)) := by
  subst hp
  obtain ⟨T', h', X', e', W', st⟩ := putF X hx hZ hown w via eT F E L wi hty hn hft (g := mkF m pc Ls (v :: .ref a :: St)) rfl rfl hd
  exact Ends.go st (kk T' h' X' e' W')
theorem ow_putFN (X : Stand p l e R s m args below meth c T locs cells slots) (hx : p.tables.exec = Jvm.exec) (hZ : Z.Warmed39 s.vm) {own R0 O n d C : String} {index kn : Nat} {ty : FieldType} (hown : s.vm.findClass own = some m.cls) (w : (Jvm.Cond.fieldLink own index R0 n d).before a0 Z = true) (via : Via Z R0 O n d) (eT : T.heap = h) {a : Addr} {v v' old : Value} (F : Fld Z h a O n d old) (E : Exa Z h a C)
    (L : (Jvm.Cond.lays C O n d).before a0 Z = true ∨ ((Jvm.Cond.laysFinal C O n d).before a0 Z = true ∧ own = O ∧ meth.name = "<init>")) (wi : (Jvm.Cond.instantiable C kn).before a0 Z = true) (hty : parseFieldDescriptor d = some ty) (hn : narrow ty v = v') (hft : fits ty v' = true) {pc pc' : Nat} {Ls : Array Slot} {St : List Value} (hd : decode c.code pc = .ok (.putfield index, 3)) (hp : pc + 3 = pc')
    (kk : ∀ (T' : State) (h' : Heap), Stand p l e R s m args below meth c T' (locs ++ [⟨a, Jvm.RoadKit.slotOf Z O n d⟩]) cells slots → T'.heap = h' → Wr h h' a (Jvm.RoadKit.slotOf Z O n d) v' → Ends p e below Q T' (mkF m pc' Ls St)) : Ends p e below Q T (mkF m pc Ls (v :: .ref a :: St)) := by
  subst hp
  obtain ⟨T', h', X', e', W', st⟩ := putFN X hx hZ hown w via eT F E L wi hty hn hft (g := mkF m pc Ls (v :: .ref a :: St)) rfl rfl hd
  exact Ends.go st (kk T' h' X' e' W')
theorem ow_new (X : Stand p l e R s m args below meth c T locs cells slots) (hx : p.tables.exec = Jvm.exec) (hZ : Z.Warmed39 s.vm) {own C : String} {index n : Nat} (hown : s.vm.findClass own = some m.cls) (w : (Jvm.Cond.classLink own index C).before a0 Z = true) (wi : (Jvm.Cond.instantiable C n).before a0 Z = true) (wz : (Jvm.Cond.initialized C).before a0 Z = true) (eT : T.heap = h) {pc pc' : Nat} {Ls : Array Slot} {St : List Value} (hd : decode c.code pc = .ok (.new index, 3)) (hc : cells + 1 ≤ R.cells) (hl : slots + n ≤ R.slots) (hp : pc + 3 = pc')
    (kk : ∀ (T' : State) (h' : Heap) (b : Addr), b = h.size → Stand p l e R s m args below meth c T' locs (cells + 1) (slots + n) → T'.heap = h' → Ext h h' → Exa Z h' b C → (∀ {O nm d : String} {ty : FieldType}, Laid Z a0 C O nm d → parseFieldDescriptor d = some ty → Fld Z h' b O nm d (defaultValue ty)) → Ends p e below Q T' (mkF m pc' Ls (.ref b :: St))) : Ends p e below Q T (mkF m pc Ls St) := by
  subst hp
  obtain ⟨T', h', X', e', E', A', D', -, st⟩ := newO X hx hZ hown w wi wz eT (g := mkF m pc Ls St) rfl hd hc hl
  exact Ends.go st (kk T' h' _ rfl X' e' E' A' D')
theorem ow_newP (X : Stand p l e R s m args below meth c T locs cells slots) (hx : p.tables.exec = Jvm.exec) (hZ : Z.Warmed39 s.vm) {aty : ArrayType} (w : (Jvm.Cond.arrayClass (newarray.typeOf aty)).before a0 Z = true) (eT : T.heap = h) {pc pc' : Nat} {Ls : Array Slot} {St : List Value} {n : Int32} (hd : decode c.code pc = .ok (.newarray aty, 2)) (hn : ¬ n < 0) (cap : Nat) (hcap : n.toNatClampNeg ≤ cap) (hb : cap * 8 ≤ 536870912) (hc : cells + 1 ≤ R.cells) (hl : slots + cap ≤ R.slots) (hp : pc + 2 = pc')
    (kk : ∀ (T' : State) (h' : Heap) (b : Addr) (k : ClassId), b = h.size → Stand p l e R s m args below meth c T' locs (cells + 1) (slots + cap) → T'.heap = h' → Ext h h' → Arv Z h' b k (newarray.typeOf aty) n [] (defaultValue (newarray.typeOf aty)) → Ends p e below Q T' (mkF m pc' Ls (.ref b :: St))) : Ends p e below Q T (mkF m pc Ls (.int n :: St)) := by
  subst hp
  obtain ⟨T', h', k, X', e', E', A', st⟩ := newP X hx hZ w eT (g := mkF m pc Ls (.int n :: St)) rfl hd rfl hn (cap := cap) hcap hb hc hl
  exact Ends.go st (kk T' h' _ k rfl X' e' E' (Arv.new A' hn))
theorem ow_stC (X : Stand p l e R s m args below meth c T locs cells slots) (hx : p.tables.exec = Jvm.exec) (hZ : Z.Warmed39 s.vm) (eT : T.heap = h) {a : Addr} {k : ClassId} {z : Int32} {vs : List Value} {dv : Value} (V : Arv Z h a k .char z vs dv) {pc pc' : Nat} {Ls : Array Slot} {St : List Value} {j x : Int32} (i : Nat) (hj : j.toNatClampNeg = i) (hj0 : ¬ j < 0) (hjz : j < z) (hi : i < vs.length) (hd : decode c.code pc = .ok (.castore, 1)) (hp : pc + 1 = pc')
    (kk : ∀ (T' : State) (h' : Heap), Stand p l e R s m args below meth c T' (locs ++ [⟨a, j.toNatClampNeg⟩]) cells slots → T'.heap = h' → Wr h h' a j.toNatClampNeg (.int (nar .char x)) → Arv Z h' a k .char z (vs.set i (.int (nar .char x))) dv → Ends p e below Q T' (mkF m pc' Ls St)) : Ends p e below Q T (mkF m pc Ls (.int x :: .int j :: .ref a :: St)) := by
  subst hp
  obtain ⟨cl, A, q1, S, N, H, G⟩ := V
  obtain ⟨T', h', X', e', W', st⟩ := stC X hx hZ eT A (inb_of S ⟨hj0, hjz⟩) (g := mkF m pc Ls (.int x :: .int j :: .ref a :: St)) rfl rfl hd
  exact Ends.go st (kk T' h' X' e' W' (Arv.set A q1 S N H G (fits_nar_char _) W' i hj hi))
theorem ow_stB (X : Stand p l e R s m args below meth c T locs cells slots) (hx : p.tables.exec = Jvm.exec) (hZ : Z.Warmed39 s.vm) (eT : T.heap = h) {a : Addr} {k : ClassId} {z : Int32} {vs : List Value} {dv : Value} (V : Arv Z h a k .byte z vs dv) {pc pc' : Nat} {Ls : Array Slot} {St : List Value} {j x : Int32} (i : Nat) (hj : j.toNatClampNeg = i) (hj0 : ¬ j < 0) (hjz : j < z) (hi : i < vs.length) (hd : decode c.code pc = .ok (.bastore, 1)) (hp : pc + 1 = pc')
    (kk : ∀ (T' : State) (h' : Heap), Stand p l e R s m args below meth c T' (locs ++ [⟨a, j.toNatClampNeg⟩]) cells slots → T'.heap = h' → Wr h h' a j.toNatClampNeg (.int x.toInt8.toInt32) → Arv Z h' a k .byte z (vs.set i (.int x.toInt8.toInt32)) dv → Ends p e below Q T' (mkF m pc' Ls St)) : Ends p e below Q T (mkF m pc Ls (.int x :: .int j :: .ref a :: St)) := by
  subst hp
  obtain ⟨cl, A, q1, S, N, H, G⟩ := V
  obtain ⟨T', h', X', e', W', st⟩ := stB X hx hZ eT A (inb_of S ⟨hj0, hjz⟩) (g := mkF m pc Ls (.int x :: .int j :: .ref a :: St)) rfl rfl hd
  exact Ends.go st (kk T' h' X' e' W' (Arv.set A q1 S N H G (fits_nar_byte _) W' i hj hi))
theorem ow_ldC (X : Stand p l e R s m args below meth c T locs cells slots) (hx : p.tables.exec = Jvm.exec) (hZ : Z.Warmed39 s.vm) (eT : T.heap = h) {a : Addr} {k : ClassId} {z : Int32} {vs : List Value} {dv : Value} (V : Arv Z h a k .char z vs dv) {pc pc' : Nat} {Ls : Array Slot} {St : List Value} {j : Int32} {v : Value} (hj0 : ¬ j < 0) (hjz : j < z) (hv : vs.getD j.toNatClampNeg dv = v) (hd : decode c.code pc = .ok (.caload, 1)) (hp : pc + 1 = pc')
    (kk : Ends p e below Q T (mkF m pc' Ls (v :: St))) : Ends p e below Q T (mkF m pc Ls (.int j :: .ref a :: St)) := by
  subst hp
  obtain ⟨cl, A, q1, S, N, H, G⟩ := V
  have hin := inb_of S ⟨hj0, hjz⟩
  exact Ends.go (X.caload hx (by rw [eT]; exact A.1) (State.isArrayOf_alike hZ.alike A.2.1) A.2.2 hin (H.at hin hv) (g := mkF m pc Ls (.int j :: .ref a :: St)) rfl rfl hd) kk
theorem ow_ldB (X : Stand p l e R s m args below meth c T locs cells slots) (hx : p.tables.exec = Jvm.exec) (hZ : Z.Warmed39 s.vm) (eT : T.heap = h) {a : Addr} {k : ClassId} {z : Int32} {vs : List Value} {dv : Value} (V : Arv Z h a k .byte z vs dv) {pc pc' : Nat} {Ls : Array Slot} {St : List Value} {j : Int32} {v : Value} (hj0 : ¬ j < 0) (hjz : j < z) (hv : vs.getD j.toNatClampNeg dv = v) (hd : decode c.code pc = .ok (.baload, 1)) (hp : pc + 1 = pc')
    (kk : Ends p e below Q T (mkF m pc' Ls (v :: St))) : Ends p e below Q T (mkF m pc Ls (.int j :: .ref a :: St)) := by
  subst hp
  obtain ⟨cl, A, q1, S, N, H, G⟩ := V
  have hin := inb_of S ⟨hj0, hjz⟩
  exact Ends.go (X.baloadBytes hx (by rw [eT]; exact A.1) (State.isArrayOf_alike hZ.alike A.2.1) A.2.2 hin (H.at hin hv) (g := mkF m pc Ls (.int j :: .ref a :: St)) rfl rfl hd) kk
theorem ow_len (X : Stand p l e R s m args below meth c T locs cells slots) (hx : p.tables.exec = Jvm.exec) (hZ : Z.Warmed39 s.vm) (eT : T.heap = h) {a : Addr} {k : ClassId} {ty : FieldType} {z : Int32} {vs : List Value} {dv : Value} (V : Arv Z h a k ty z vs dv) {pc pc' : Nat} {Ls : Array Slot} {St : List Value} (hd : decode c.code pc = .ok (.arraylength, 1)) (hp : pc + 1 = pc')
    (kk : Ends p e below Q T (mkF m pc' Ls (.int z :: St))) : Ends p e below Q T (mkF m pc Ls (.ref a :: St)) := by
  subst hp
  obtain ⟨cl, A, q1, S, N, H, G⟩ := V
  refine Ends.go (X.arraylength hx (by rw [eT]; exact A.1) (State.isArrayOf_alike hZ.alike A.2.1) (g := mkF m pc Ls (.ref a :: St)) rfl rfl hd) ?_
  rw [len_of S N]
  exact kk
/-- a body that returns a number and leaves the heap as it is -/
def QI (P : Int32 → Prop) (h0 : Heap) (v : Option Value) (h : Heap) (L : List Loc) : Prop := ∃ z, v = some (.int z) ∧ P z ∧ L = [] ∧ h = h0
def QL (P : Int64 → Prop) (h0 : Heap) (v : Option Value) (h : Heap) (L : List Loc) : Prop := ∃ z, v = some (.long z) ∧ P z ∧ L = [] ∧ h = h0
theorem ow_callPI (X : Stand p l e R s m args below meth c T locs cells slots) (hx : p.tables.exec = Jvm.exec) (hZ : Z.Warmed39 s.vm) {own : String} {index : Nat} {y : MethodName} {bytes : ByteArray} {maxL : Nat} {ret : Option FieldType} (hown : s.vm.findClass own = some m.cls)
    (wl : (Jvm.Cond.methodLink own index y).before a0 Z = true) (wst : (Jvm.Cond.static y).before a0 Z = true) (wi : (Jvm.Cond.initialized y.cls).before a0 Z = true) (wc : (Jvm.Cond.code y bytes maxL ret).before a0 Z = true) (hy : y.cls ≠ "java/lang/invoke/MethodHandle" ∧ y.cls ≠ "java/lang/invoke/VarHandle")
    {fr lo : Nat} {as' : Array Value} {P : Int32 → Prop} (hM : MetFree l y (head1 [Jvm.Cond.code y bytes maxL ret] ({ frames := fr, cells := 0, slots := 0, locals := lo } : Room)) (fun a U => a = as' ∧ Z.Warmed39 U.vm ∧ U.heap = h) (fun _ _ _ _ _ => True) (fun _ U o U' => ∃ v L, o = .returned v ∧ QI P h v U'.heap L ∧ FrameEnd U o U' L 0 0))
    (eT : T.heap = h) (W : Nat) (hf : fr + 1 ≤ R.frames) (hl : W + (maxL + 11) + lo ≤ R.locals) (hce : cells ≤ R.cells) (hsl : slots ≤ R.slots) {pc pc' : Nat} {Ls : Array Slot} {St rest : List Value} (argsL : List Value) {ps : List FieldType} {rt : Option FieldType} (hsize : Ls.size = c.maxLocals) (hdesc : parseMethodDescriptor y.desc = some ⟨ps, rt⟩) (hlen : argsL.length = ps.length) (hst : St = argsL.reverse ++ rest) (has : argsL.toArray = as') (hW : (rest.map fun v => v.category).sum ≤ W)
    (hd : decode c.code pc = .ok (.invokestatic index, 3)) (hp : pc + 3 = pc')
    (kk : ∀ (z : Int32) (T' : State), P z → Stand p l e R s m args below meth c T' locs cells slots → T'.heap = h → Ends p e below Q T' (mkF m pc' Ls (.int z :: rest))) : Ends p e below Q T (mkF m pc Ls St) := by
  refine ow_callS X hx hZ hown wl wst wi wc hy hM eT W hf hl hce hsl argsL hsize hdesc hlen hst has hW hd hp ?_
  rintro v T' L' ⟨z, rfl, hP, rfl, hh⟩ X'
  rw [List.append_nil] at X'
  exact kk z T' hP X' hh
theorem ow_callPL (X : Stand p l e R s m args below meth c T locs cells slots) (hx : p.tables.exec = Jvm.exec) (hZ : Z.Warmed39 s.vm) {own : String} {index : Nat} {y : MethodName} {bytes : ByteArray} {maxL : Nat} {ret : Option FieldType} (hown : s.vm.findClass own = some m.cls)
    (wl : (Jvm.Cond.methodLink own index y).before a0 Z = true) (wst : (Jvm.Cond.static y).before a0 Z = true) (wi : (Jvm.Cond.initialized y.cls).before a0 Z = true) (wc : (Jvm.Cond.code y bytes maxL ret).before a0 Z = true) (hy : y.cls ≠ "java/lang/invoke/MethodHandle" ∧ y.cls ≠ "java/lang/invoke/VarHandle")
    {fr lo : Nat} {as' : Array Value} {P : Int64 → Prop} (hM : MetFree l y (head1 [Jvm.Cond.code y bytes maxL ret] ({ frames := fr, cells := 0, slots := 0, locals := lo } : Room)) (fun a U => a = as' ∧ Z.Warmed39 U.vm ∧ U.heap = h) (fun _ _ _ _ _ => True) (fun _ U o U' => ∃ v L, o = .returned v ∧ QL P h v U'.heap L ∧ FrameEnd U o U' L 0 0))
    (eT : T.heap = h) (W : Nat) (hf : fr + 1 ≤ R.frames) (hl : W + (maxL + 11) + lo ≤ R.locals) (hce : cells ≤ R.cells) (hsl : slots ≤ R.slots) {pc pc' : Nat} {Ls : Array Slot} {St rest : List Value} (argsL : List Value) {ps : List FieldType} {rt : Option FieldType} (hsize : Ls.size = c.maxLocals) (hdesc : parseMethodDescriptor y.desc = some ⟨ps, rt⟩) (hlen : argsL.length = ps.length) (hst : St = argsL.reverse ++ rest) (has : argsL.toArray = as') (hW : (rest.map fun v => v.category).sum ≤ W)
    (hd : decode c.code pc = .ok (.invokestatic index, 3)) (hp : pc + 3 = pc')
    (kk : ∀ (z : Int64) (T' : State), P z → Stand p l e R s m args below meth c T' locs cells slots → T'.heap = h → Ends p e below Q T' (mkF m pc' Ls (.long z :: rest))) : Ends p e below Q T (mkF m pc Ls St) := by
  refine ow_callS X hx hZ hown wl wst wi wc hy hM eT W hf hl hce hsl argsL hsize hdesc hlen hst has hW hd hp ?_
  rintro v T' L' ⟨z, rfl, hP, rfl, hh⟩ X'
  rw [List.append_nil] at X'
  exact kk z T' hP X' hh
theorem ow_callVPI (X : Stand p l e R s m args below meth c T locs cells slots) (hx : p.tables.exec = Jvm.exec) (hZ : Z.Warmed39 s.vm) {own C : String} {index : Nat} {y y' : MethodName} (hyy : y = y') {bytes : ByteArray} {maxL : Nat} {ret : Option FieldType} (hown : s.vm.findClass own = some m.cls)
    (wl : (Jvm.Cond.methodLink own index y).before a0 Z = true) (wd : (Jvm.Cond.declares y).before a0 Z = true) (wsel : (Jvm.Cond.selects C y y').before a0 Z = true) (wst : (Jvm.Cond.instanceMethod y').before a0 Z = true) (wi : (Jvm.Cond.initialized y'.cls).before a0 Z = true) (wc : (Jvm.Cond.code y' bytes maxL ret).before a0 Z = true) (hy : y.cls ≠ "java/lang/invoke/MethodHandle" ∧ y.cls ≠ "java/lang/invoke/VarHandle")
    {fr lo : Nat} {as' : Array Value} {P : Int32 → Prop} (hM : MetFree l y' (head1 [Jvm.Cond.code y' bytes maxL ret] ({ frames := fr, cells := 0, slots := 0, locals := lo } : Room)) (fun a U => a = as' ∧ Z.Warmed39 U.vm ∧ U.heap = h) (fun _ _ _ _ _ => True) (fun _ U o U' => ∃ v L, o = .returned v ∧ QI P h v U'.heap L ∧ FrameEnd U o U' L 0 0))
    (eT : T.heap = h) (W : Nat) (hf : fr + 1 ≤ R.frames) (hl : W + (maxL + 11) + lo ≤ R.locals) (hce : cells ≤ R.cells) (hsl : slots ≤ R.slots) {pc pc' : Nat} {Ls : Array Slot} {St rest : List Value} (argsL : List Value) {ps : List FieldType} {rt : Option FieldType} (hsize : Ls.size = c.maxLocals) (hdesc : parseMethodDescriptor y.desc = some ⟨ps, rt⟩) (hlen : argsL.length = ps.length) {a : Addr} (E : Exa Z h a C) (hst : St = argsL.reverse ++ .ref a :: rest) (has : (Value.ref a :: argsL).toArray = as') (hW : (rest.map fun v => v.category).sum ≤ W)
    (hd : decode c.code pc = .ok (.invokevirtual index, 3)) (hp : pc + 3 = pc')
    (kk : ∀ (z : Int32) (T' : State), P z → Stand p l e R s m args below meth c T' locs cells slots → T'.heap = h → Ends p e below Q T' (mkF m pc' Ls (.int z :: rest))) : Ends p e below Q T (mkF m pc Ls St) := by
  refine ow_callV X hx hZ hyy hown wl wd wsel wst wi wc hy hM eT W hf hl hce hsl argsL hsize hdesc hlen E hst has hW hd hp ?_
  rintro v T' L' ⟨z, rfl, hP, rfl, hh⟩ X'
  rw [List.append_nil] at X'
  exact kk z T' hP X' hh
/-- the table of literals: what has been interned since the start bears one of the texts Ts; the entries Bs are booked -/
def LT (Z : State) (Ts : List String) (Bs : List (String × Nat × Addr)) (vm : Vm) : Prop := IB Z vm Ts ∧ ∀ x ∈ Bs, Lit (Z.setVm vm) x.1 x.2.1 x.2.2
theorem LT.start : LT Z [] [] Z.vm := ⟨IB.start, fun x hx => by simp at hx⟩
def QW (w : Value) (h0 : Heap) (v : Option Value) (h : Heap) (L : List Loc) : Prop := v = some w ∧ L = [] ∧ h = h0
def QN (h0 : Heap) (v : Option Value) (h : Heap) (L : List Loc) : Prop := v = none ∧ L = [] ∧ h = h0
theorem ow_staKeep {C n d : String} {v : Value} {h' : Heap} {ws : List Addr} (F : Sta Z h C n d v) (K : Keep h h' ws) (q : ∀ x ∈ ws, ∀ c : Cell, h[x]? = some c → c.vm.isStatics = false) : Sta Z h' C n d v := by
  obtain ⟨cf, i, k, f, st, cell, h1, h2, h3, h4, h5, h6, h7⟩ := F
  exact ⟨cf, i, k, f, st, cell, h1, h2, h3, h4, K.2.1 st cell h5 (fun w => by rw [q st w cell h5] at h6; cases h6), h6, h7⟩
theorem ow_exaNs {a : Addr} {C : String} (F : Exa Z h a C) : ∀ c : Cell, h[a]? = some c → c.vm.isStatics = false := fun c hc => by
  obtain ⟨cell, k, h1, -, -, h4, -⟩ := F
  cases h1.symm.trans hc
  exact h4
theorem ow_lowbits (x m : Int32) (f : Nat → Int) (hm : 255 &&& m = m) (hf : ∀ r : Fin 256, (Int32.ofNat r.val &&& m).toInt = f r.val) : (x &&& m).toInt = f (x.toInt % 256).toNat := by
  have h1 : (x &&& 255).toInt = x.toInt % 256 := c_mask x 255 8 (by decide) (by decide)
  have h0 : (x.toInt % 256).toNat < 256 := by omega
  have h2 : x &&& 255 = Int32.ofNat (x.toInt % 256).toNat := by
    apply Int32.toInt_inj.mp
    rw [h1]
    have q : (Int32.ofNat (x.toInt % 256).toNat).toInt = ((x.toInt % 256).toNat : Int) := len_toInt (by omega)
    omega
  have h3 : x &&& m = (x &&& 255) &&& m := by rw [Int32.and_assoc, hm]
  rw [h3, h2]
  exact hf ⟨_, h0⟩
theorem ow_narY {z : Int32} (q : -128 ≤ z.toInt ∧ z.toInt < 128) : nar .byte z = z := by
  apply Int32.toInt_inj.mp
  have h1 : (nar .byte z).toInt = (z.toInt8.toInt32).toInt := rfl
  have h2 := c_i2b z
  rw [h1]
  omega
theorem ow_narC {z : Int32} (q : 0 ≤ z.toInt ∧ z.toInt < 65536) : nar .char z = z := by
  apply Int32.toInt_inj.mp
  have h1 : (nar .char z).toInt = (z.toUInt32.toUInt16.toUInt32.toInt32).toInt := rfl
  have h2 := c_i2c z
  rw [h1]
  omega
theorem ow_eq {x y : Int32} (q : x.toInt = y.toInt) : x = y := Int32.toInt_inj.mp q
theorem ow_lt {x y : Int32} (q : x.toInt < y.toInt) : x < y := Int32.lt_iff_toInt_lt.mpr q
theorem ow_nlt {x y : Int32} (q : ¬ x.toInt < y.toInt) : ¬ x < y := fun w => q (Int32.lt_iff_toInt_lt.mp w)
theorem ow_cp0 (X : Stand p l e R s m args below meth c T locs cells slots) (hx : p.tables.exec = Jvm.exec) (hZ : Z.Warmed39 s.vm) {own : String} {index : Nat} (hown : s.vm.findClass own = some m.cls) (w1 : (Jvm.Cond.methodLink own index Jvm.Stand.acN).before a0 Z = true) (w2 : (Jvm.Cond.native Jvm.Stand.acN).before a0 Z = true) (w3 : (Jvm.Cond.static Jvm.Stand.acN).before a0 Z = true) (w4 : (Jvm.Cond.initialized "java/lang/System").before a0 Z = true) (eT : T.heap = h) {a b : Addr} {k k' : ClassId} {ty : FieldType} {z z' nn : Int32} {vs vd : List Value} {dv dd : Value} (A : Arv Z h a k ty z vs dv) (B : Arv Z h b k' ty z' vd dd) (hr : refKind ty = false) (h3 : 0 ≤ nn.toInt) (h4 : nn.toInt ≤ z.toInt) (h5 : nn.toInt ≤ z'.toInt) (hl : nn.toInt.toNat ≤ vd.length) {n0 : Nat} (N : Fr n0 locs) (ge : n0 ≤ b) {pc pc' : Nat} {Ls : Array Slot} (hsize : Ls.size = c.maxLocals) {rest : List Value} {W : Nat} (hW : (rest.map fun v => v.category).sum ≤ W) (hf : 1 ≤ R.frames) (hlo : W + 40 ≤ R.locals) (hd : decode c.code pc = .ok (.invokestatic index, 3)) (hp : pc + 3 = pc')
    (kk : ∀ (T' : State) (h' : Heap) (L' : List Loc), Stand p l e R s m args below meth c T' L' cells slots → T'.heap = h' → Fr n0 L' → Keep h h' [b] → (∃ us, Arv Z h' b k' ty z' us dd) → Ends p e below Q T' (mkF m pc' Ls rest)) : Ends p e below Q T (mkF m pc Ls (.int nn :: .int (0 : Int32) :: .ref b :: .int (0 : Int32) :: .ref a :: rest)) := by
  subst hp
  have e0 : (0 : Int32).toNatClampNeg = 0 := by decide
  have en : nn.toNatClampNeg = nn.toInt.toNat := rfl
  have ez : z.toNatClampNeg = z.toInt.toNat := rfl
  have ez' : z'.toNatClampNeg = z'.toInt.toNat := rfl
  obtain ⟨T', h', L', X', e', N', K', V', st⟩ := cpA X hx hZ hown w1 w2 w3 w4 eT (sp := (0 : Int32)) (dp := (0 : Int32)) (nn := nn) A B (Or.inl ⟨rfl, hr⟩) (by decide) (by decide) (ow_nlt (y := (0 : Int32)) (show ¬ nn.toInt < 0 from by omega)) (by rw [e0, en, ez]; omega) (by rw [e0, en, ez']; omega) rfl (by rw [e0, en]; omega) N ge (g := mkF m pc Ls (.int nn :: .int (0 : Int32) :: .ref b :: .int (0 : Int32) :: .ref a :: rest)) rfl hsize rfl hd hf (W := W) (by show 2 * 0 + _ ≤ _; omega) (by
    have q : nativeFrameWords "java/lang/System" "arraycopy" 5 + 11 ≤ 40 := by decide
    omega)
  exact Ends.go st (kk T' h' L' X' e' N' K' ⟨_, V'⟩)
end Own

/-- the content of an array of numbers, place by place -/
def BN : Nat := 65537
theorem BN_eq : BN = 65537 := rfl
def BL (f : Nat → Int32) : List Value := (List.range BN).map fun i => Value.int (f i)
def upd (f : Nat → Int32) (i : Nat) (v : Int32) : Nat → Int32 := fun j => if j = i then v else f j
theorem BL_len (f : Nat → Int32) : (BL f).length = 65537 := by unfold BL; rw [List.length_map, List.length_range, BN_eq]
theorem BL_at (f : Nat → Int32) (j : Nat) : (BL f)[j]? = if j < 65537 then some (.int (f j)) else none := by
  unfold BL
  rw [List.getElem?_map]
  by_cases q : j < 65537
  · rw [List.getElem?_range (by rw [BN_eq]; exact q), if_pos q]; rfl
  · rw [List.getElem?_eq_none (by rw [List.length_range, BN_eq]; omega), if_neg q]; rfl
theorem BL_get (f : Nat → Int32) (j : Nat) (hj : j < 65537) (d : Value) : (BL f).getD j d = .int (f j) := by
  rw [List.getD_eq_getElem?_getD, BL_at, if_pos hj]; rfl
theorem BL_set (f : Nat → Int32) (i : Nat) (v : Int32) : (BL f).set i (.int v) = BL (upd f i v) := by
  apply List.ext_getElem?
  intro j
  rw [List.getElem?_set, BL_at, BL_at, BL_len]
  unfold upd
  by_cases q : i = j
  · subst q
    by_cases r : i < 65537
    · rw [if_pos rfl, if_pos r, if_pos r, if_pos rfl]
    · rw [if_pos rfl, if_neg r, if_neg r]
  · rw [if_neg q, if_neg (fun w : j = i => q w.symm)]
theorem BL_zero (i : Nat) : (BL fun _ => 0).getD i (.int 0) = ([] : List Value).getD i (.int 0) := by
  rw [List.getD_eq_getElem?_getD, BL_at]
  by_cases q : i < 65537
  · rw [if_pos q]; rfl
  · rw [if_neg q]; rfl
theorem upd_rng {f : Nat → Int32} {i : Nat} {v : Int32} (h : ∀ j : Nat, 0 ≤ (f j).toInt ∧ (f j).toInt ≤ 255) (hv : 0 ≤ v.toInt ∧ v.toInt ≤ 255) : ∀ j : Nat, 0 ≤ (upd f i v j).toInt ∧ (upd f i v j).toInt ≤ 255 := fun j => by
  unfold upd
  by_cases q : j = i
  · rw [if_pos q]; exact hv
  · rw [if_neg q]; exact h j
theorem upd_same (f : Nat → Int32) (i : Nat) (v : Int32) : upd f i v i = v := if_pos rfl
theorem BL_any {Z : State} {h : Heap} {a : Addr} {k : ClassId} {z : Int32} (F : ∃ us, Arv Z h a k .byte z us (.int (0 : Int32))) (hz : z.toInt ≤ 65537) : ∃ f, Arv Z h a k .byte z (BL f) (.int (0 : Int32)) := by
  obtain ⟨vs, c, A, r1, r2, r3, H, G⟩ := F
  have key : ∀ i, i < c.slots.size → (BL (fun i => match vs.getD i (.int (0 : Int32)) with | .int x => x | _ => 0)).getD i (.int (0 : Int32)) = vs.getD i (.int (0 : Int32)) := fun i hi => by
    have e : z.toNatClampNeg = z.toInt.toNat := rfl
    rw [r2, e] at hi
    have g := G i (by rw [r2, e]; exact hi)
    rw [BL_get _ _ (by omega)]
    revert g
    cases vs.getD i (.int (0 : Int32)) with
    | int x => intro _; rfl
    | _ => intro g; cases g
  exact ⟨_, c, A, r1, r2, r3, fun i hi => by rw [key i hi]; exact H i hi, fun i hi => by rw [key i hi]; exact G i hi⟩
theorem nar_c (z : Int32) (h : 0 ≤ z.toInt ∧ z.toInt ≤ 255) : 0 ≤ (nar .char z).toInt ∧ (nar .char z).toInt ≤ 255 := by
  have q : ((nar .char z).toInt - z.toInt) % 65536 = 0 ∧ 0 ≤ (nar .char z).toInt ∧ (nar .char z).toInt < 65536 := c_i2c z
  omega

theorem d_prog_3m1_0 : decode prog_3_method_1_code 0 = .ok (.aload_n 0, 1) := by decide +kernel
theorem d_prog_3m1_1 : decode prog_3_method_1_code 1 = .ok (.invokespecial 3, 3) := by decide +kernel
theorem d_prog_3m1_4 : decode prog_3_method_1_code 4 = .ok (.aload_n 0, 1) := by decide +kernel
theorem d_prog_3m1_5 : decode prog_3_method_1_code 5 = .ok (.sipush 512, 3) := by decide +kernel
theorem d_prog_3m1_8 : decode prog_3_method_1_code 8 = .ok (.newarray .byte, 2) := by decide +kernel
theorem d_prog_3m1_10 : decode prog_3_method_1_code 10 = .ok (.putfield 11, 3) := by decide +kernel
theorem d_prog_3m1_13 : decode prog_3_method_1_code 13 = .ok (.return_, 1) := by decide +kernel
theorem ef_lbInit (m : MethodId) (x0 : Addr) : entryFrame m #[(.ref x0)] 1 = mkF m 0 #[.val (.ref x0)] [] := by first | (simp [entryFrame, mkF, argsToLocals, Value.category]; done) | rfl
def Q_lbInit (Z : State) (o : Addr) (h0 : Heap) (n0 : Nat) (v : Option Value) (h : Heap) (L : List Loc) : Prop := ∃ (ot : Addr), ∃ (kt : ClassId), ∃ (fr : Nat → Int32), (v = none) ∧ (Fr n0 L) ∧ (Keep h0 h [o]) ∧ (Exa Z h o "com/example/strict_audit/strictaudit/format/LineBuffer") ∧ (Fld Z h o "com/example/strict_audit/strictaudit/format/LineBuffer" "length" "I" (.int (0 : Int32))) ∧ (Fld Z h o "com/example/strict_audit/strictaudit/format/LineBuffer" "bytes" "[B" (.ref ot)) ∧ (Arv Z h ot kt (.byte) (512 : Int32) (BL fr) (.int (0 : Int32))) ∧ (n0 ≤ ot) ∧ (h0.size ≤ ot) ∧ (o ≠ ot)
theorem pn_0 : plainName "com/example/strict_audit/strictaudit/format/LineBuffer" = true := by first | (simp [plainName, overriddenIn]; done) | decide +kernel
set_option maxRecDepth 65536 in
set_option maxHeartbeats 40000000 in
theorem rm_lbInit (l : Launch) (Z : State) (a0 : Array Value) (hw : ∀ d ∈ tables_1, d.before a0 Z = true) (ws : List Jvm.Cond) (o : Addr) (h0 : Heap) (n0 : Nat) (Z0 : n0 ≤ h0.size) (E_o : Exa Z h0 o "com/example/strict_audit/strictaudit/format/LineBuffer") (F_b : Fld Z h0 o "com/example/strict_audit/strictaudit/format/LineBuffer" "bytes" "[B" .null) (F_l : Fld Z h0 o "com/example/strict_audit/strictaudit/format/LineBuffer" "length" "I" (.int (0 : Int32))) (g_o : n0 ≤ o) :
    MetFree l (⟨"com/example/strict_audit/strictaudit/format/LineBuffer", "<init>", "()V"⟩ : MethodName) (head1 (Jvm.Cond.code (⟨"com/example/strict_audit/strictaudit/format/LineBuffer", "<init>", "()V"⟩ : MethodName) prog_3_method_1_code 1 none :: ws) ({ frames := 1, cells := 1, slots := 512, locals := 12 } : Room)) (fun a_ U_ => a_ = #[(.ref o)] ∧ Z.Warmed39 U_.vm ∧ U_.heap = h0) (fun _ _ _ _ _ => True) (fun _ U_ o_ U_' => ∃ v_ L_, o_ = .returned v_ ∧ (Q_lbInit Z o h0 n0) v_ U_'.heap L_ ∧ FrameEnd U_ o_ U_' L_ 1 512) := by
  refine ow_body (plainFor_of_name pn_0) ?_
  intro p e s m below meth c T0 X0 hx hZ hby hml hown hnm hret hlk e0
  have N0 := Fr.nil n0
  refine Ends.cast (ef_lbInit m o) ?_
  refine ow_aloadN X0 hx (hb hby d_prog_3m1_0) rfl rfl (pc' := 1) rfl ?_
  refine ow_init0 X0 hx hZ hown (hw _ (List.mem_of_getElem? (i := 6) rfl)) (hw _ (List.mem_of_getElem? (i := 7) rfl)) (hw _ (List.mem_of_getElem? (i := 8) rfl)) e0 0 (by decide) (by decide) (by rw [hml]; rfl) (Nat.le_of_eq rfl) (hb hby d_prog_3m1_1) (pc' := 4) rfl (fun T1 X1 e1 => ?_)
  refine ow_aloadN X1 hx (hb hby d_prog_3m1_4) rfl rfl (pc' := 5) rfl ?_
  refine ow_sipush X1 hx (z := (512 : Int32)) (hb hby d_prog_3m1_5) rfl (pc' := 8) rfl ?_
  refine ow_newP X1 hx hZ (hw _ (List.mem_of_getElem? (i := 9) rfl)) e1 (hb hby d_prog_3m1_8) (by decide) 512 (by decide) (by decide) (by decide) (by decide) (pc' := 10) rfl (fun T2 h2 b2 k2 g2 X2 e2 E2 V2 => ?_)
  have ne_o_b2 : o ≠ b2 := Nat.ne_of_lt (Nat.lt_of_lt_of_le E_o.lt (Nat.le_of_eq g2.symm))
  have g_b2 : n0 ≤ b2 := Nat.le_trans Z0 (Nat.le_of_eq g2.symm)
  have sz_b2 : h0.size ≤ b2 := Nat.le_trans (Keep.refl h0 [o]).1 (Nat.le_of_eq g2.symm)
  have E_o_2 := E_o.ext E2
  have F_o_bytes_2 := F_b.ext E2
  have F_o_length_2 := F_l.ext E2
  have Zs2 : n0 ≤ h2.size := Nat.le_trans Z0 E2.1
  have K2 := (Keep.refl h0 [o]).ext E2
  have V_b2 : Arv Z h2 b2 k2 .byte (512 : Int32) [] (.int (0 : Int32)) := V2
  have V_b2_z : Arv Z h2 b2 k2 .byte (512 : Int32) (BL (fun _ => 0)) (.int (0 : Int32)) := V_b2.pad BL_zero
  refine ow_putF X2 hx hZ hown (host := "") (Or.inl (hw _ (List.mem_of_getElem? (i := 10) rfl))) Via.refl e2 F_o_bytes_2 E_o_2 (Or.inl (hw _ (List.mem_of_getElem? (i := 11) rfl))) (hw _ (List.mem_of_getElem? (i := 1) rfl)) (ty := (.array .byte)) (by decide) rfl rfl (hb hby d_prog_3m1_10) (pc' := 13) rfl (fun T3 h3 X3 e3 W3 => ?_)
  have F_o_bytes_3 := F_o_bytes_2.same W3
  have E_o_3 := E_o_2.wr W3
  have F_o_length_3 := F_o_length_2.other W3 (Or.inr (slot_ne (Or.inl (hw _ (List.mem_of_getElem? (i := 25) rfl))) (Or.inl (hw _ (List.mem_of_getElem? (i := 11) rfl))) (by decide) (t := .int) (t' := (.array .byte)) (by decide) (by decide)))
  have V_b2_3 := V_b2_z.other W3 (Ne.symm ne_o_b2)
  have Zs3 : n0 ≤ h3.size := Nat.le_trans Zs2 (Keep.of_wr W3).1
  have K3 := K2.wr W3 (Or.inl (List.mem_of_getElem? (i := 0) rfl))
  have N3 := Fr.snoc X3 N0 g_o
  exact ow_retV X3 hx hret hlk (hb hby d_prog_3m1_13) (by decide) (by decide) (show Q_lbInit Z o h0 n0 _ T3.heap _ from by rw [e3]; exact ⟨b2, k2, (fun _ => 0), rfl, N3, K3, E_o_3, F_o_length_3, F_o_bytes_3, V_b2_3, g_b2, sz_b2, ne_o_b2⟩)
theorem d_prog_3m3_0 : decode prog_3_method_3_code 0 = .ok (.aload_n 0, 1) := by decide +kernel
theorem d_prog_3m3_1 : decode prog_3_method_3_code 1 = .ok (.getfield 11, 3) := by decide +kernel
theorem d_prog_3m3_4 : decode prog_3_method_3_code 4 = .ok (.areturn, 1) := by decide +kernel
theorem ef_lbBytes (m : MethodId) (x0 : Addr) : entryFrame m #[(.ref x0)] 1 = mkF m 0 #[.val (.ref x0)] [] := by first | (simp [entryFrame, mkF, argsToLocals, Value.category]; done) | rfl
set_option maxRecDepth 65536 in
set_option maxHeartbeats 40000000 in
theorem rm_lbBytes (l : Launch) (Z : State) (a0 : Array Value) (hw : ∀ d ∈ tables_1, d.before a0 Z = true) (ws : List Jvm.Cond) (o : Addr) (oa : Addr) (h0 : Heap) (F_b : Fld Z h0 o "com/example/strict_audit/strictaudit/format/LineBuffer" "bytes" "[B" (.ref oa)) :
    MetFree l (⟨"com/example/strict_audit/strictaudit/format/LineBuffer", "bytes", "()[B"⟩ : MethodName) (head1 (Jvm.Cond.code (⟨"com/example/strict_audit/strictaudit/format/LineBuffer", "bytes", "()[B"⟩ : MethodName) prog_3_method_3_code 1 (some (.array .byte)) :: ws) ({ frames := 0, cells := 0, slots := 0, locals := 0 } : Room)) (fun a_ U_ => a_ = #[(.ref o)] ∧ Z.Warmed39 U_.vm ∧ U_.heap = h0) (fun _ _ _ _ _ => True) (fun _ U_ o_ U_' => ∃ v_ L_, o_ = .returned v_ ∧ (QW (.ref oa) h0) v_ U_'.heap L_ ∧ FrameEnd U_ o_ U_' L_ 0 0) := by
  refine ow_body (plainFor_of_name pn_0) ?_
  intro p e s m below meth c T0 X0 hx hZ hby hml hown hnm hret hlk e0
  refine Ends.cast (ef_lbBytes m o) ?_
  refine ow_aloadN X0 hx (hb hby d_prog_3m3_0) rfl rfl (pc' := 1) rfl ?_
  refine ow_getF X0 hx hZ hown (host := "") (Or.inl (hw _ (List.mem_of_getElem? (i := 10) rfl))) Via.refl e0 F_b (hb hby d_prog_3m3_1) (pc' := 4) rfl (fun T1 X1 e1 => ?_)
  exact ow_retA X1 hx hret hlk rfl rfl (hb hby d_prog_3m3_4) (by decide) (by decide) ⟨rfl, rfl, e1⟩
theorem d_prog_3m4_0 : decode prog_3_method_4_code 0 = .ok (.aload_n 0, 1) := by decide +kernel
theorem d_prog_3m4_1 : decode prog_3_method_4_code 1 = .ok (.getfield 16, 3) := by decide +kernel
theorem d_prog_3m4_4 : decode prog_3_method_4_code 4 = .ok (.ireturn, 1) := by decide +kernel
theorem ef_lbLen (m : MethodId) (x0 : Addr) : entryFrame m #[(.ref x0)] 1 = mkF m 0 #[.val (.ref x0)] [] := by first | (simp [entryFrame, mkF, argsToLocals, Value.category]; done) | rfl
set_option maxRecDepth 65536 in
set_option maxHeartbeats 40000000 in
theorem rm_lbLen (l : Launch) (Z : State) (a0 : Array Value) (hw : ∀ d ∈ tables_1, d.before a0 Z = true) (ws : List Jvm.Cond) (o : Addr) (pl : Int32) (h0 : Heap) (F_l : Fld Z h0 o "com/example/strict_audit/strictaudit/format/LineBuffer" "length" "I" (.int pl)) :
    MetFree l (⟨"com/example/strict_audit/strictaudit/format/LineBuffer", "length", "()I"⟩ : MethodName) (head1 (Jvm.Cond.code (⟨"com/example/strict_audit/strictaudit/format/LineBuffer", "length", "()I"⟩ : MethodName) prog_3_method_4_code 1 (some .int) :: ws) ({ frames := 0, cells := 0, slots := 0, locals := 0 } : Room)) (fun a_ U_ => a_ = #[(.ref o)] ∧ Z.Warmed39 U_.vm ∧ U_.heap = h0) (fun _ _ _ _ _ => True) (fun _ U_ o_ U_' => ∃ v_ L_, o_ = .returned v_ ∧ (QI (fun z => z.toInt = pl.toInt) h0) v_ U_'.heap L_ ∧ FrameEnd U_ o_ U_' L_ 0 0) := by
  refine ow_body (plainFor_of_name pn_0) ?_
  intro p e s m below meth c T0 X0 hx hZ hby hml hown hnm hret hlk e0
  refine Ends.cast (ef_lbLen m o) ?_
  refine ow_aloadN X0 hx (hb hby d_prog_3m4_0) rfl rfl (pc' := 1) rfl ?_
  refine ow_getF X0 hx hZ hown (host := "") (Or.inl (hw _ (List.mem_of_getElem? (i := 24) rfl))) Via.refl e0 F_l (hb hby d_prog_3m4_1) (pc' := 4) rfl (fun T1 X1 e1 => ?_)
  exact ow_retI X1 hx hret hlk (hb hby d_prog_3m4_4) (by decide) (by decide) ⟨pl, rfl, (show pl.toInt = pl.toInt from by omega), rfl, e1⟩
theorem d_prog_3m2_0 : decode prog_3_method_2_code 0 = .ok (.aload_n 0, 1) := by decide +kernel
theorem d_prog_3m2_1 : decode prog_3_method_2_code 1 = .ok (.getfield 11, 3) := by decide +kernel
theorem d_prog_3m2_4 : decode prog_3_method_2_code 4 = .ok (.arraylength, 1) := by decide +kernel
theorem d_prog_3m2_5 : decode prog_3_method_2_code 5 = .ok (.ldc 15, 2) := by decide +kernel
theorem d_prog_3m2_7 : decode prog_3_method_2_code 7 = .ok (.if_icmp .le 12, 3) := by decide +kernel
theorem d_prog_3m2_19 : decode prog_3_method_2_code 19 = .ok (.aload_n 0, 1) := by decide +kernel
theorem d_prog_3m2_20 : decode prog_3_method_2_code 20 = .ok (.iconst 0, 1) := by decide +kernel
theorem d_prog_3m2_21 : decode prog_3_method_2_code 21 = .ok (.putfield 16, 3) := by decide +kernel
theorem d_prog_3m2_24 : decode prog_3_method_2_code 24 = .ok (.return_, 1) := by decide +kernel
theorem ef_clrA (m : MethodId) (x0 : Addr) : entryFrame m #[(.ref x0)] 1 = mkF m 0 #[.val (.ref x0)] [] := by first | (simp [entryFrame, mkF, argsToLocals, Value.category]; done) | rfl
def Q_clrA (Z : State) (o : Addr) (oa : Addr) (ka : ClassId) (pn : Int32) (f : Nat → Int32) (pl : Int32) (h0 : Heap) (n0 : Nat) (v : Option Value) (h : Heap) (L : List Loc) : Prop := (v = none) ∧ (Fr n0 L) ∧ (Keep h0 h [o]) ∧ (Exa Z h o "com/example/strict_audit/strictaudit/format/LineBuffer") ∧ (Fld Z h o "com/example/strict_audit/strictaudit/format/LineBuffer" "length" "I" (.int (0 : Int32))) ∧ (Fld Z h o "com/example/strict_audit/strictaudit/format/LineBuffer" "bytes" "[B" (.ref oa))
set_option maxRecDepth 65536 in
set_option maxHeartbeats 40000000 in
theorem rm_clrA (l : Launch) (Z : State) (a0 : Array Value) (hw : ∀ d ∈ tables_1, d.before a0 Z = true) (ws : List Jvm.Cond) (o : Addr) (oa : Addr) (ka : ClassId) (pn : Int32) (f : Nat → Int32) (pl : Int32) (h0 : Heap) (n0 : Nat) (Z0 : n0 ≤ h0.size) (E_o : Exa Z h0 o "com/example/strict_audit/strictaudit/format/LineBuffer") (F_b : Fld Z h0 o "com/example/strict_audit/strictaudit/format/LineBuffer" "bytes" "[B" (.ref oa)) (F_l : Fld Z h0 o "com/example/strict_audit/strictaudit/format/LineBuffer" "length" "I" (.int pl)) (V_a : Arv Z h0 oa ka (.byte) pn (BL f) (.int (0 : Int32))) (g_o : n0 ≤ o) (ne_o_oa : o ≠ oa) (hn : pn.toInt ≤ 65536) :
    MetFree l (⟨"com/example/strict_audit/strictaudit/format/LineBuffer", "clear", "()V"⟩ : MethodName) (head1 (Jvm.Cond.code (⟨"com/example/strict_audit/strictaudit/format/LineBuffer", "clear", "()V"⟩ : MethodName) prog_3_method_2_code 1 none :: ws) ({ frames := 0, cells := 0, slots := 0, locals := 0 } : Room)) (fun a_ U_ => a_ = #[(.ref o)] ∧ Z.Warmed39 U_.vm ∧ U_.heap = h0) (fun _ _ _ _ _ => True) (fun _ U_ o_ U_' => ∃ v_ L_, o_ = .returned v_ ∧ (Q_clrA Z o oa ka pn f pl h0 n0) v_ U_'.heap L_ ∧ FrameEnd U_ o_ U_' L_ 0 0) := by
  refine ow_body (plainFor_of_name pn_0) ?_
  intro p e s m below meth c T0 X0 hx hZ hby hml hown hnm hret hlk e0
  have N0 := Fr.nil n0
  refine Ends.cast (ef_clrA m o) ?_
  refine ow_aloadN X0 hx (hb hby d_prog_3m2_0) rfl rfl (pc' := 1) rfl ?_
  refine ow_getF X0 hx hZ hown (host := "") (Or.inl (hw _ (List.mem_of_getElem? (i := 10) rfl))) Via.refl e0 F_b (hb hby d_prog_3m2_1) (pc' := 4) rfl (fun T1 X1 e1 => ?_)
  refine ow_len X1 hx hZ e1 V_a (hb hby d_prog_3m2_4) (pc' := 5) rfl ?_
  refine ow_ldcInt X1 hx hZ hown (hw _ (List.mem_of_getElem? (i := 23) rfl)) (hb hby d_prog_3m2_5) (pc' := 7) rfl ?_
  refine ow_icmp_le X1 hx (pn.toInt) ((65536 : Int)) (hb hby d_prog_3m2_7) rfl rfl (by decide) (pt := 19) (by decide) (pf := 10) rfl (fun c7 => ?_) (fun c7 => absurd c7 (by omega))
  refine ow_aloadN X1 hx (hb hby d_prog_3m2_19) rfl rfl (pc' := 20) rfl ?_
  refine ow_iconst X1 hx (z := (0 : Int32)) (hb hby d_prog_3m2_20) rfl (pc' := 21) rfl ?_
  refine ow_putF X1 hx hZ hown (host := "") (Or.inl (hw _ (List.mem_of_getElem? (i := 24) rfl))) Via.refl e1 F_l E_o (Or.inl (hw _ (List.mem_of_getElem? (i := 25) rfl))) (hw _ (List.mem_of_getElem? (i := 1) rfl)) (ty := .int) (by decide) rfl rfl (hb hby d_prog_3m2_21) (pc' := 24) rfl (fun T2 h2 X2 e2 W2 => ?_)
  have F_o_length_2 := F_l.same W2
  have E_o_2 := E_o.wr W2
  have F_o_bytes_2 := F_b.other W2 (Or.inr (slot_ne (Or.inl (hw _ (List.mem_of_getElem? (i := 11) rfl))) (Or.inl (hw _ (List.mem_of_getElem? (i := 25) rfl))) (by decide) (t := (.array .byte)) (t' := .int) (by decide) (by decide)))
  have V_oa_2 := V_a.other W2 (Ne.symm ne_o_oa)
  have Zs2 : n0 ≤ h2.size := Nat.le_trans Z0 (Keep.of_wr W2).1
  have K2 := (Keep.refl h0 [o]).wr W2 (Or.inl (List.mem_of_getElem? (i := 0) rfl))
  have N2 := Fr.snoc X2 N0 g_o
  exact ow_retV X2 hx hret hlk (hb hby d_prog_3m2_24) (by decide) (by decide) (show Q_clrA Z o oa ka pn f pl h0 n0 _ T2.heap _ from by rw [e2]; exact ⟨rfl, N2, K2, E_o_2, F_o_length_2, F_o_bytes_2⟩)
theorem d_prog_3m2_10 : decode prog_3_method_2_code 10 = .ok (.aload_n 0, 1) := by decide +kernel
theorem d_prog_3m2_11 : decode prog_3_method_2_code 11 = .ok (.sipush 512, 3) := by decide +kernel
theorem d_prog_3m2_14 : decode prog_3_method_2_code 14 = .ok (.newarray .byte, 2) := by decide +kernel
theorem d_prog_3m2_16 : decode prog_3_method_2_code 16 = .ok (.putfield 11, 3) := by decide +kernel
def Q_clrB (Z : State) (o : Addr) (oa : Addr) (ka : ClassId) (pn : Int32) (f : Nat → Int32) (pl : Int32) (h0 : Heap) (n0 : Nat) (v : Option Value) (h : Heap) (L : List Loc) : Prop := ∃ (ot : Addr), ∃ (kt : ClassId), ∃ (fr : Nat → Int32), (v = none) ∧ (Fr n0 L) ∧ (Keep h0 h [o]) ∧ (Exa Z h o "com/example/strict_audit/strictaudit/format/LineBuffer") ∧ (Fld Z h o "com/example/strict_audit/strictaudit/format/LineBuffer" "length" "I" (.int (0 : Int32))) ∧ (Fld Z h o "com/example/strict_audit/strictaudit/format/LineBuffer" "bytes" "[B" (.ref ot)) ∧ (Arv Z h ot kt (.byte) (512 : Int32) (BL fr) (.int (0 : Int32))) ∧ (n0 ≤ ot) ∧ (h0.size ≤ ot) ∧ (o ≠ ot)
set_option maxRecDepth 65536 in
set_option maxHeartbeats 40000000 in
theorem rm_clrB (l : Launch) (Z : State) (a0 : Array Value) (hw : ∀ d ∈ tables_1, d.before a0 Z = true) (ws : List Jvm.Cond) (o : Addr) (oa : Addr) (ka : ClassId) (pn : Int32) (f : Nat → Int32) (pl : Int32) (h0 : Heap) (n0 : Nat) (Z0 : n0 ≤ h0.size) (E_o : Exa Z h0 o "com/example/strict_audit/strictaudit/format/LineBuffer") (F_b : Fld Z h0 o "com/example/strict_audit/strictaudit/format/LineBuffer" "bytes" "[B" (.ref oa)) (F_l : Fld Z h0 o "com/example/strict_audit/strictaudit/format/LineBuffer" "length" "I" (.int pl)) (V_a : Arv Z h0 oa ka (.byte) pn (BL f) (.int (0 : Int32))) (g_o : n0 ≤ o) (ne_o_oa : o ≠ oa) (hn : 65536 < pn.toInt) :
    MetFree l (⟨"com/example/strict_audit/strictaudit/format/LineBuffer", "clear", "()V"⟩ : MethodName) (head1 (Jvm.Cond.code (⟨"com/example/strict_audit/strictaudit/format/LineBuffer", "clear", "()V"⟩ : MethodName) prog_3_method_2_code 1 none :: ws) ({ frames := 0, cells := 1, slots := 512, locals := 0 } : Room)) (fun a_ U_ => a_ = #[(.ref o)] ∧ Z.Warmed39 U_.vm ∧ U_.heap = h0) (fun _ _ _ _ _ => True) (fun _ U_ o_ U_' => ∃ v_ L_, o_ = .returned v_ ∧ (Q_clrB Z o oa ka pn f pl h0 n0) v_ U_'.heap L_ ∧ FrameEnd U_ o_ U_' L_ 1 512) := by
  refine ow_body (plainFor_of_name pn_0) ?_
  intro p e s m below meth c T0 X0 hx hZ hby hml hown hnm hret hlk e0
  have N0 := Fr.nil n0
  refine Ends.cast (ef_clrA m o) ?_
  refine ow_aloadN X0 hx (hb hby d_prog_3m2_0) rfl rfl (pc' := 1) rfl ?_
  refine ow_getF X0 hx hZ hown (host := "") (Or.inl (hw _ (List.mem_of_getElem? (i := 10) rfl))) Via.refl e0 F_b (hb hby d_prog_3m2_1) (pc' := 4) rfl (fun T1 X1 e1 => ?_)
  refine ow_len X1 hx hZ e1 V_a (hb hby d_prog_3m2_4) (pc' := 5) rfl ?_
  refine ow_ldcInt X1 hx hZ hown (hw _ (List.mem_of_getElem? (i := 23) rfl)) (hb hby d_prog_3m2_5) (pc' := 7) rfl ?_
  refine ow_icmp_le X1 hx (pn.toInt) ((65536 : Int)) (hb hby d_prog_3m2_7) rfl rfl (by decide) (pt := 19) (by decide) (pf := 10) rfl (fun c7 => absurd c7 (by omega)) (fun c7 => ?_)
  refine ow_aloadN X1 hx (hb hby d_prog_3m2_10) rfl rfl (pc' := 11) rfl ?_
  refine ow_sipush X1 hx (z := (512 : Int32)) (hb hby d_prog_3m2_11) rfl (pc' := 14) rfl ?_
  refine ow_newP X1 hx hZ (hw _ (List.mem_of_getElem? (i := 9) rfl)) e1 (hb hby d_prog_3m2_14) (by decide) 512 (by decide) (by decide) (by decide) (by decide) (pc' := 16) rfl (fun T2 h2 b2 k2 g2 X2 e2 E2 V2 => ?_)
  have ne_o_b2 : o ≠ b2 := Nat.ne_of_lt (Nat.lt_of_lt_of_le E_o.lt (Nat.le_of_eq g2.symm))
  have ne_oa_b2 : oa ≠ b2 := Nat.ne_of_lt (Nat.lt_of_lt_of_le V_a.lt (Nat.le_of_eq g2.symm))
  have g_b2 : n0 ≤ b2 := Nat.le_trans Z0 (Nat.le_of_eq g2.symm)
  have sz_b2 : h0.size ≤ b2 := Nat.le_trans (Keep.refl h0 [o]).1 (Nat.le_of_eq g2.symm)
  have E_o_2 := E_o.ext E2
  have F_o_bytes_2 := F_b.ext E2
  have F_o_length_2 := F_l.ext E2
  have V_oa_2 := V_a.ext E2
  have Zs2 : n0 ≤ h2.size := Nat.le_trans Z0 E2.1
  have K2 := (Keep.refl h0 [o]).ext E2
  have V_b2 : Arv Z h2 b2 k2 .byte (512 : Int32) [] (.int (0 : Int32)) := V2
  have V_b2_z : Arv Z h2 b2 k2 .byte (512 : Int32) (BL (fun _ => 0)) (.int (0 : Int32)) := V_b2.pad BL_zero
  refine ow_putF X2 hx hZ hown (host := "") (Or.inl (hw _ (List.mem_of_getElem? (i := 10) rfl))) Via.refl e2 F_o_bytes_2 E_o_2 (Or.inl (hw _ (List.mem_of_getElem? (i := 11) rfl))) (hw _ (List.mem_of_getElem? (i := 1) rfl)) (ty := (.array .byte)) (by decide) rfl rfl (hb hby d_prog_3m2_16) (pc' := 19) rfl (fun T3 h3 X3 e3 W3 => ?_)
  have F_o_bytes_3 := F_o_bytes_2.same W3
  have E_o_3 := E_o_2.wr W3
  have F_o_length_3 := F_o_length_2.other W3 (Or.inr (slot_ne (Or.inl (hw _ (List.mem_of_getElem? (i := 25) rfl))) (Or.inl (hw _ (List.mem_of_getElem? (i := 11) rfl))) (by decide) (t := .int) (t' := (.array .byte)) (by decide) (by decide)))
  have V_oa_3 := V_oa_2.other W3 (Ne.symm ne_o_oa)
  have V_b2_3 := V_b2_z.other W3 (Ne.symm ne_o_b2)
  have Zs3 : n0 ≤ h3.size := Nat.le_trans Zs2 (Keep.of_wr W3).1
  have K3 := K2.wr W3 (Or.inl (List.mem_of_getElem? (i := 0) rfl))
  have N3 := Fr.snoc X3 N0 g_o
  refine ow_aloadN X3 hx (hb hby d_prog_3m2_19) rfl rfl (pc' := 20) rfl ?_
  refine ow_iconst X3 hx (z := (0 : Int32)) (hb hby d_prog_3m2_20) rfl (pc' := 21) rfl ?_
  refine ow_putF X3 hx hZ hown (host := "") (Or.inl (hw _ (List.mem_of_getElem? (i := 24) rfl))) Via.refl e3 F_o_length_3 E_o_3 (Or.inl (hw _ (List.mem_of_getElem? (i := 25) rfl))) (hw _ (List.mem_of_getElem? (i := 1) rfl)) (ty := .int) (by decide) rfl rfl (hb hby d_prog_3m2_21) (pc' := 24) rfl (fun T4 h4 X4 e4 W4 => ?_)
  have F_o_length_4 := F_o_length_3.same W4
  have E_o_4 := E_o_3.wr W4
  have V_oa_4 := V_oa_3.other W4 (Ne.symm ne_o_oa)
  have V_b2_4 := V_b2_3.other W4 (Ne.symm ne_o_b2)
  have F_o_bytes_4 := F_o_bytes_3.other W4 (Or.inr (slot_ne (Or.inl (hw _ (List.mem_of_getElem? (i := 11) rfl))) (Or.inl (hw _ (List.mem_of_getElem? (i := 25) rfl))) (by decide) (t := (.array .byte)) (t' := .int) (by decide) (by decide)))
  have Zs4 : n0 ≤ h4.size := Nat.le_trans Zs3 (Keep.of_wr W4).1
  have K4 := K3.wr W4 (Or.inl (List.mem_of_getElem? (i := 0) rfl))
  have N4 := Fr.snoc X4 N3 g_o
  exact ow_retV X4 hx hret hlk (hb hby d_prog_3m2_24) (by decide) (by decide) (show Q_clrB Z o oa ka pn f pl h0 n0 _ T4.heap _ from by rw [e4]; exact ⟨b2, k2, (fun _ => 0), rfl, N4, K4, E_o_4, F_o_length_4, F_o_bytes_4, V_b2_4, g_b2, sz_b2, ne_o_b2⟩)
theorem d_jdk_29m69_0 : decode jdk_29_method_69_code 0 = .ok (.iload_n 0, 1) := by decide +kernel
theorem d_jdk_29m69_1 : decode jdk_29_method_69_code 1 = .ok (.iload_n 1, 1) := by decide +kernel
theorem d_jdk_29m69_2 : decode jdk_29_method_69_code 2 = .ok (.if_icmp .gt 7, 3) := by decide +kernel
theorem d_jdk_29m69_5 : decode jdk_29_method_69_code 5 = .ok (.iload_n 0, 1) := by decide +kernel
theorem d_jdk_29m69_6 : decode jdk_29_method_69_code 6 = .ok (.goto 4, 3) := by decide +kernel
theorem d_jdk_29m69_9 : decode jdk_29_method_69_code 9 = .ok (.iload_n 1, 1) := by decide +kernel
theorem d_jdk_29m69_10 : decode jdk_29_method_69_code 10 = .ok (.ireturn, 1) := by decide +kernel
theorem ef_minI (m : MethodId) (x0 : Int32) (x1 : Int32) : entryFrame m #[(.int x0), (.int x1)] 2 = mkF m 0 #[.val (.int x0), .val (.int x1)] [] := by first | (simp [entryFrame, mkF, argsToLocals, Value.category]; done) | rfl
set_option maxRecDepth 65536 in
set_option maxHeartbeats 40000000 in
theorem rm_minI (l : Launch) (Z : State) (a0 : Array Value) (hw : ∀ d ∈ tables_1, d.before a0 Z = true) (ws : List Jvm.Cond) (pa : Int32) (pb : Int32) (h0 : Heap) :
    MetFree l (⟨"java/lang/Math", "min", "(II)I"⟩ : MethodName) (head1 (Jvm.Cond.code (⟨"java/lang/Math", "min", "(II)I"⟩ : MethodName) jdk_29_method_69_code 2 (some .int) :: ws) ({ frames := 0, cells := 0, slots := 0, locals := 0 } : Room)) (fun a_ U_ => a_ = #[(.int pa), (.int pb)] ∧ Z.Warmed39 U_.vm ∧ U_.heap = h0) (fun _ _ _ _ _ => True) (fun _ U_ o_ U_' => ∃ v_ L_, o_ = .returned v_ ∧ (QI (fun z => (pa.toInt ≤ pb.toInt → z.toInt = pa.toInt) ∧ (pb.toInt ≤ pa.toInt → z.toInt = pb.toInt)) h0) v_ U_'.heap L_ ∧ FrameEnd U_ o_ U_' L_ 0 0) := by
  refine ow_body (Jvm.Free.JP.mathPlain rfl (by decide +kernel)) ?_
  intro p e s m below meth c T0 X0 hx hZ hby hml hown hnm hret hlk e0
  refine Ends.cast (ef_minI m pa pb) ?_
  have r_pa := rng32 pa
  have r_pb := rng32 pb
  refine ow_iloadN X0 hx (hb hby d_jdk_29m69_0) rfl (pc' := 1) rfl ?_
  refine ow_iloadN X0 hx (hb hby d_jdk_29m69_1) rfl (pc' := 2) rfl ?_
  refine ow_icmp_gt X0 hx (pa.toInt) (pb.toInt) (hb hby d_jdk_29m69_2) rfl rfl (by decide) (pt := 9) (by decide) (pf := 5) rfl (fun c2 => ?_) (fun c2 => ?_)
  · refine ow_iloadN X0 hx (hb hby d_jdk_29m69_9) rfl (pc' := 10) rfl ?_
    exact ow_retI X0 hx hret hlk (hb hby d_jdk_29m69_10) (by decide) (by decide) ⟨pb, rfl, (show (pa.toInt ≤ pb.toInt → pb.toInt = pa.toInt) ∧ (pb.toInt ≤ pa.toInt → pb.toInt = pb.toInt) from by omega), rfl, e0⟩
  · refine ow_iloadN X0 hx (hb hby d_jdk_29m69_5) rfl (pc' := 6) rfl ?_
    refine ow_goto X0 hx (hb hby d_jdk_29m69_6) (by decide) (pc' := 10) (by decide) ?_
    exact ow_retI X0 hx hret hlk (hb hby d_jdk_29m69_10) (by decide) (by decide) ⟨pa, rfl, (show (pa.toInt ≤ pb.toInt → pa.toInt = pa.toInt) ∧ (pb.toInt ≤ pa.toInt → pa.toInt = pb.toInt) from by omega), rfl, e0⟩
theorem d_jdk_29m66_0 : decode jdk_29_method_66_code 0 = .ok (.lload_n 0, 1) := by decide +kernel
theorem d_jdk_29m66_1 : decode jdk_29_method_66_code 1 = .ok (.lload_n 2, 1) := by decide +kernel
theorem d_jdk_29m66_2 : decode jdk_29_method_66_code 2 = .ok (.lcmp, 1) := by decide +kernel
theorem d_jdk_29m66_3 : decode jdk_29_method_66_code 3 = .ok (.ifCond .lt 7, 3) := by decide +kernel
theorem d_jdk_29m66_6 : decode jdk_29_method_66_code 6 = .ok (.lload_n 0, 1) := by decide +kernel
theorem d_jdk_29m66_7 : decode jdk_29_method_66_code 7 = .ok (.goto 4, 3) := by decide +kernel
theorem d_jdk_29m66_10 : decode jdk_29_method_66_code 10 = .ok (.lload_n 2, 1) := by decide +kernel
theorem d_jdk_29m66_11 : decode jdk_29_method_66_code 11 = .ok (.lreturn, 1) := by decide +kernel
theorem ef_maxJ (m : MethodId) (x0 : Int64) (x1 : Int64) : entryFrame m #[(.long x0), (.long x1)] 4 = mkF m 0 #[.val (.long x0), .second, .val (.long x1), .second] [] := by first | (simp [entryFrame, mkF, argsToLocals, Value.category]; done) | rfl
set_option maxRecDepth 65536 in
set_option maxHeartbeats 40000000 in
theorem rm_maxJ (l : Launch) (Z : State) (a0 : Array Value) (hw : ∀ d ∈ tables_1, d.before a0 Z = true) (ws : List Jvm.Cond) (qa : Int64) (qb : Int64) (h0 : Heap) :
    MetFree l (⟨"java/lang/Math", "max", "(JJ)J"⟩ : MethodName) (head1 (Jvm.Cond.code (⟨"java/lang/Math", "max", "(JJ)J"⟩ : MethodName) jdk_29_method_66_code 4 (some .long) :: ws) ({ frames := 0, cells := 0, slots := 0, locals := 0 } : Room)) (fun a_ U_ => a_ = #[(.long qa), (.long qb)] ∧ Z.Warmed39 U_.vm ∧ U_.heap = h0) (fun _ _ _ _ _ => True) (fun _ U_ o_ U_' => ∃ v_ L_, o_ = .returned v_ ∧ (QL (fun z => (qa.toInt ≥ qb.toInt → z.toInt = qa.toInt) ∧ (qb.toInt ≥ qa.toInt → z.toInt = qb.toInt)) h0) v_ U_'.heap L_ ∧ FrameEnd U_ o_ U_' L_ 0 0) := by
  refine ow_body (Jvm.Free.JP.mathPlain rfl (by decide +kernel)) ?_
  intro p e s m below meth c T0 X0 hx hZ hby hml hown hnm hret hlk e0
  refine Ends.cast (ef_maxJ m qa qb) ?_
  have r_qa := rng64 qa
  have r_qb := rng64 qb
  refine ow_lloadN X0 hx (hb hby d_jdk_29m66_0) rfl (pc' := 1) rfl ?_
  refine ow_lloadN X0 hx (hb hby d_jdk_29m66_1) rfl (pc' := 2) rfl ?_
  refine ow_lcmp X0 hx (hb hby d_jdk_29m66_2) (pc' := 3) rfl (fun z1 hz1 => ?_)
  have az1 : (qa.toInt < qb.toInt → z1.toInt = -1) ∧ (qa.toInt = qb.toInt → z1.toInt = 0) ∧ (qb.toInt < qa.toInt → z1.toInt = 1) := by rw [hz1]; exact c_lcmp qa qb
  have rz1 := rng32 z1
  refine ow_if_lt X0 hx (z1.toInt) (hb hby d_jdk_29m66_3) rfl (by decide) (pt := 10) (by decide) (pf := 6) rfl (fun c3 => ?_) (fun c3 => ?_)
  · refine ow_lloadN X0 hx (hb hby d_jdk_29m66_10) rfl (pc' := 11) rfl ?_
    exact ow_retL X0 hx hret hlk (hb hby d_jdk_29m66_11) (by decide) (by decide) ⟨qb, rfl, (show (qa.toInt ≥ qb.toInt → qb.toInt = qa.toInt) ∧ (qb.toInt ≥ qa.toInt → qb.toInt = qb.toInt) from by omega), rfl, e0⟩
  · refine ow_lloadN X0 hx (hb hby d_jdk_29m66_6) rfl (pc' := 7) rfl ?_
    refine ow_goto X0 hx (hb hby d_jdk_29m66_7) (by decide) (pc' := 11) (by decide) ?_
    exact ow_retL X0 hx hret hlk (hb hby d_jdk_29m66_11) (by decide) (by decide) ⟨qa, rfl, (show (qa.toInt ≥ qb.toInt → qa.toInt = qa.toInt) ∧ (qb.toInt ≥ qa.toInt → qa.toInt = qb.toInt) from by omega), rfl, e0⟩
theorem d_jdk_29m70_0 : decode jdk_29_method_70_code 0 = .ok (.lload_n 0, 1) := by decide +kernel
theorem d_jdk_29m70_1 : decode jdk_29_method_70_code 1 = .ok (.lload_n 2, 1) := by decide +kernel
theorem d_jdk_29m70_2 : decode jdk_29_method_70_code 2 = .ok (.lcmp, 1) := by decide +kernel
theorem d_jdk_29m70_3 : decode jdk_29_method_70_code 3 = .ok (.ifCond .gt 7, 3) := by decide +kernel
theorem d_jdk_29m70_6 : decode jdk_29_method_70_code 6 = .ok (.lload_n 0, 1) := by decide +kernel
theorem d_jdk_29m70_7 : decode jdk_29_method_70_code 7 = .ok (.goto 4, 3) := by decide +kernel
theorem d_jdk_29m70_10 : decode jdk_29_method_70_code 10 = .ok (.lload_n 2, 1) := by decide +kernel
theorem d_jdk_29m70_11 : decode jdk_29_method_70_code 11 = .ok (.lreturn, 1) := by decide +kernel
theorem ef_minJ (m : MethodId) (x0 : Int64) (x1 : Int64) : entryFrame m #[(.long x0), (.long x1)] 4 = mkF m 0 #[.val (.long x0), .second, .val (.long x1), .second] [] := by first | (simp [entryFrame, mkF, argsToLocals, Value.category]; done) | rfl
set_option maxRecDepth 65536 in
set_option maxHeartbeats 40000000 in
theorem rm_minJ (l : Launch) (Z : State) (a0 : Array Value) (hw : ∀ d ∈ tables_1, d.before a0 Z = true) (ws : List Jvm.Cond) (qa : Int64) (qb : Int64) (h0 : Heap) :
    MetFree l (⟨"java/lang/Math", "min", "(JJ)J"⟩ : MethodName) (head1 (Jvm.Cond.code (⟨"java/lang/Math", "min", "(JJ)J"⟩ : MethodName) jdk_29_method_70_code 4 (some .long) :: ws) ({ frames := 0, cells := 0, slots := 0, locals := 0 } : Room)) (fun a_ U_ => a_ = #[(.long qa), (.long qb)] ∧ Z.Warmed39 U_.vm ∧ U_.heap = h0) (fun _ _ _ _ _ => True) (fun _ U_ o_ U_' => ∃ v_ L_, o_ = .returned v_ ∧ (QL (fun z => (qa.toInt ≤ qb.toInt → z.toInt = qa.toInt) ∧ (qb.toInt ≤ qa.toInt → z.toInt = qb.toInt)) h0) v_ U_'.heap L_ ∧ FrameEnd U_ o_ U_' L_ 0 0) := by
  refine ow_body (Jvm.Free.JP.mathPlain rfl (by decide +kernel)) ?_
  intro p e s m below meth c T0 X0 hx hZ hby hml hown hnm hret hlk e0
  refine Ends.cast (ef_minJ m qa qb) ?_
  have r_qa := rng64 qa
  have r_qb := rng64 qb
  refine ow_lloadN X0 hx (hb hby d_jdk_29m70_0) rfl (pc' := 1) rfl ?_
  refine ow_lloadN X0 hx (hb hby d_jdk_29m70_1) rfl (pc' := 2) rfl ?_
  refine ow_lcmp X0 hx (hb hby d_jdk_29m70_2) (pc' := 3) rfl (fun z1 hz1 => ?_)
  have az1 : (qa.toInt < qb.toInt → z1.toInt = -1) ∧ (qa.toInt = qb.toInt → z1.toInt = 0) ∧ (qb.toInt < qa.toInt → z1.toInt = 1) := by rw [hz1]; exact c_lcmp qa qb
  have rz1 := rng32 z1
  refine ow_if_gt X0 hx (z1.toInt) (hb hby d_jdk_29m70_3) rfl (by decide) (pt := 10) (by decide) (pf := 6) rfl (fun c3 => ?_) (fun c3 => ?_)
  · refine ow_lloadN X0 hx (hb hby d_jdk_29m70_10) rfl (pc' := 11) rfl ?_
    exact ow_retL X0 hx hret hlk (hb hby d_jdk_29m70_11) (by decide) (by decide) ⟨qb, rfl, (show (qa.toInt ≤ qb.toInt → qb.toInt = qa.toInt) ∧ (qb.toInt ≤ qa.toInt → qb.toInt = qb.toInt) from by omega), rfl, e0⟩
  · refine ow_lloadN X0 hx (hb hby d_jdk_29m70_6) rfl (pc' := 7) rfl ?_
    refine ow_goto X0 hx (hb hby d_jdk_29m70_7) (by decide) (pc' := 11) (by decide) ?_
    exact ow_retL X0 hx hret hlk (hb hby d_jdk_29m70_11) (by decide) (by decide) ⟨qa, rfl, (show (qa.toInt ≤ qb.toInt → qa.toInt = qa.toInt) ∧ (qb.toInt ≤ qa.toInt → qa.toInt = qb.toInt) from by omega), rfl, e0⟩
theorem pd_0 : parseMethodDescriptor "(II)I" = some ⟨[.int, .int], some .int⟩ := by decide +kernel
theorem d_jdk_65m121_0 : decode jdk_65_method_121_code 0 = .ok (.iload_n 1, 1) := by decide +kernel
theorem d_jdk_65m121_1 : decode jdk_65_method_121_code 1 = .ok (.aload_n 0, 1) := by decide +kernel
theorem d_jdk_65m121_2 : decode jdk_65_method_121_code 2 = .ok (.arraylength, 1) := by decide +kernel
theorem d_jdk_65m121_3 : decode jdk_65_method_121_code 3 = .ok (.if_icmp .ne 11, 3) := by decide +kernel
theorem d_jdk_65m121_14 : decode jdk_65_method_121_code 14 = .ok (.iload_n 1, 1) := by decide +kernel
theorem d_jdk_65m121_15 : decode jdk_65_method_121_code 15 = .ok (.newarray .byte, 2) := by decide +kernel
theorem d_jdk_65m121_17 : decode jdk_65_method_121_code 17 = .ok (.astore_n 2, 1) := by decide +kernel
theorem d_jdk_65m121_18 : decode jdk_65_method_121_code 18 = .ok (.aload_n 0, 1) := by decide +kernel
theorem d_jdk_65m121_19 : decode jdk_65_method_121_code 19 = .ok (.iconst 0, 1) := by decide +kernel
theorem d_jdk_65m121_20 : decode jdk_65_method_121_code 20 = .ok (.aload_n 2, 1) := by decide +kernel
theorem d_jdk_65m121_21 : decode jdk_65_method_121_code 21 = .ok (.iconst 0, 1) := by decide +kernel
theorem d_jdk_65m121_22 : decode jdk_65_method_121_code 22 = .ok (.aload_n 0, 1) := by decide +kernel
theorem d_jdk_65m121_23 : decode jdk_65_method_121_code 23 = .ok (.arraylength, 1) := by decide +kernel
theorem d_jdk_65m121_24 : decode jdk_65_method_121_code 24 = .ok (.iload_n 1, 1) := by decide +kernel
theorem d_jdk_65m121_25 : decode jdk_65_method_121_code 25 = .ok (.invokestatic 304, 3) := by decide +kernel
theorem d_jdk_65m121_28 : decode jdk_65_method_121_code 28 = .ok (.invokestatic 150, 3) := by decide +kernel
theorem d_jdk_65m121_31 : decode jdk_65_method_121_code 31 = .ok (.aload_n 2, 1) := by decide +kernel
theorem d_jdk_65m121_32 : decode jdk_65_method_121_code 32 = .ok (.areturn, 1) := by decide +kernel
theorem ef_cpy0 (m : MethodId) (x0 : Addr) (x1 : Int32) : entryFrame m #[(.ref x0), (.int x1)] 3 = mkF m 0 #[.val (.ref x0), .val (.int x1), .unset] [] := by first | (simp [entryFrame, mkF, argsToLocals, Value.category]; done) | rfl
def Q_cpy0 (Z : State) (oa : Addr) (pm : Int32) (ka : ClassId) (pn : Int32) (f : Nat → Int32) (h0 : Heap) (n0 : Nat) (v : Option Value) (h : Heap) (L : List Loc) : Prop := ∃ (ot : Addr), ∃ (kt : ClassId), ∃ (fr : Nat → Int32), (v = some (.ref ot)) ∧ (Fr n0 L) ∧ (Keep h0 h []) ∧ (Arv Z h ot kt (.byte) pm (BL fr) (.int (0 : Int32))) ∧ (n0 ≤ ot) ∧ (h0.size ≤ ot)
theorem pn_1 : plainName "java/util/Arrays" = true := by first | (simp [plainName, overriddenIn]; done) | decide +kernel
set_option maxRecDepth 65536 in
set_option maxHeartbeats 40000000 in
theorem rm_cpy0 (l : Launch) (Z : State) (a0 : Array Value) (hw : ∀ d ∈ tables_1, d.before a0 Z = true) (ws : List Jvm.Cond) (oa : Addr) (pm : Int32) (ka : ClassId) (pn : Int32) (f : Nat → Int32) (h0 : Heap) (n0 : Nat) (Z0 : n0 ≤ h0.size) (V_a : Arv Z h0 oa ka (.byte) pn (BL f) (.int (0 : Int32))) (hne : ¬ pm.toInt = pn.toInt) (hm0 : 0 ≤ pm.toInt) (hm1 : pm.toInt ≤ 0) (hp0 : 0 ≤ pn.toInt) (hp1 : pn.toInt ≤ 65537) :
    MetFree l (⟨"java/util/Arrays", "copyOf", "([BI)[B"⟩ : MethodName) (head1 (Jvm.Cond.code (⟨"java/util/Arrays", "copyOf", "([BI)[B"⟩ : MethodName) jdk_65_method_121_code 3 (some (.array .byte)) :: ws) ({ frames := 1, cells := 1, slots := 0, locals := 40 } : Room)) (fun a_ U_ => a_ = #[(.ref oa), (.int pm)] ∧ Z.Warmed39 U_.vm ∧ U_.heap = h0) (fun _ _ _ _ _ => True) (fun _ U_ o_ U_' => ∃ v_ L_, o_ = .returned v_ ∧ (Q_cpy0 Z oa pm ka pn f h0 n0) v_ U_'.heap L_ ∧ FrameEnd U_ o_ U_' L_ 1 0) := by
  refine ow_body (plainFor_of_name pn_1) ?_
  intro p e s m below meth c T0 X0 hx hZ hby hml hown hnm hret hlk e0
  have N0 := Fr.nil n0
  refine Ends.cast (ef_cpy0 m oa pm) ?_
  have r_pm := rng32 pm
  refine ow_iloadN X0 hx (hb hby d_jdk_65m121_0) rfl (pc' := 1) rfl ?_
  refine ow_aloadN X0 hx (hb hby d_jdk_65m121_1) rfl rfl (pc' := 2) rfl ?_
  refine ow_len X0 hx hZ e0 V_a (hb hby d_jdk_65m121_2) (pc' := 3) rfl ?_
  refine ow_icmp_ne X0 hx (pm.toInt) (pn.toInt) (hb hby d_jdk_65m121_3) rfl rfl (by decide) (pt := 14) (by decide) (pf := 6) rfl (fun c3 => ?_) (fun c3 => absurd c3 (by omega))
  refine ow_iloadN X0 hx (hb hby d_jdk_65m121_14) rfl (pc' := 15) rfl ?_
  refine ow_newP X0 hx hZ (hw _ (List.mem_of_getElem? (i := 9) rfl)) e0 (hb hby d_jdk_65m121_15) (ow_nlt (y := (0 : Int32)) (show ¬ pm.toInt < 0 from by omega)) 0 (show pm.toInt.toNat ≤ 0 from by omega) (by decide) (by decide) (by decide) (pc' := 17) rfl (fun T1 h1 b1 k1 g1 X1 e1 E1 V1 => ?_)
  have ne_oa_b1 : oa ≠ b1 := Nat.ne_of_lt (Nat.lt_of_lt_of_le V_a.lt (Nat.le_of_eq g1.symm))
  have g_b1 : n0 ≤ b1 := Nat.le_trans Z0 (Nat.le_of_eq g1.symm)
  have sz_b1 : h0.size ≤ b1 := Nat.le_trans (Keep.refl h0 []).1 (Nat.le_of_eq g1.symm)
  have V_oa_1 := V_a.ext E1
  have Zs1 : n0 ≤ h1.size := Nat.le_trans Z0 E1.1
  have K1 := (Keep.refl h0 []).ext E1
  have V_b1 : Arv Z h1 b1 k1 .byte pm (BL (fun _ => 0)) (.int (0 : Int32)) := V1.pad BL_zero
  refine ow_astoreN X1 hx (Ls' := #[.val (.ref oa), .val (.int pm), .val (.ref b1)]) (hb hby d_jdk_65m121_17) rfl rfl (pc' := 18) rfl ?_
  refine ow_aloadN X1 hx (hb hby d_jdk_65m121_18) rfl rfl (pc' := 19) rfl ?_
  refine ow_iconst X1 hx (z := (0 : Int32)) (hb hby d_jdk_65m121_19) rfl (pc' := 20) rfl ?_
  refine ow_aloadN X1 hx (hb hby d_jdk_65m121_20) rfl rfl (pc' := 21) rfl ?_
  refine ow_iconst X1 hx (z := (0 : Int32)) (hb hby d_jdk_65m121_21) rfl (pc' := 22) rfl ?_
  refine ow_aloadN X1 hx (hb hby d_jdk_65m121_22) rfl rfl (pc' := 23) rfl ?_
  refine ow_len X1 hx hZ e1 V_oa_1 (hb hby d_jdk_65m121_23) (pc' := 24) rfl ?_
  refine ow_iloadN X1 hx (hb hby d_jdk_65m121_24) rfl (pc' := 25) rfl ?_
  refine ow_callPI X1 hx hZ hown (hw _ (List.mem_of_getElem? (i := 40) rfl)) (hw _ (List.mem_of_getElem? (i := 41) rfl)) (hw _ (List.mem_of_getElem? (i := 42) rfl)) (hw _ (List.mem_of_getElem? (i := 43) rfl)) (by decide) (rm_minI l Z a0 hw [] pn pm h1 ) e1 4 (by decide) (by decide) (by decide) (by decide) [(.int pn), (.int pm)] (by rw [hml]; rfl) pd_0 rfl rfl rfl (Nat.le_of_eq rfl) (hb hby d_jdk_65m121_25) (pc' := 28) rfl (fun z2 T2 hz2 X2 e2 => ?_)
  have az2 : (pn.toInt ≤ pm.toInt → z2.toInt = pn.toInt) ∧ (pm.toInt ≤ pn.toInt → z2.toInt = pm.toInt) := hz2
  have rz2 := rng32 z2
  refine ow_cp0 X2 hx hZ hown (hw _ (List.mem_of_getElem? (i := 44) rfl)) (hw _ (List.mem_of_getElem? (i := 47) rfl)) (hw _ (List.mem_of_getElem? (i := 45) rfl)) (hw _ (List.mem_of_getElem? (i := 46) rfl)) e2 V_oa_1 V_b1 rfl (show 0 ≤ z2.toInt from by omega) (show z2.toInt ≤ pn.toInt from by omega) (show z2.toInt ≤ pm.toInt from by omega) (by rw [BL_len]; omega) N0 g_b1 (by rw [hml]; rfl) (W := 0) (Nat.le_of_eq rfl) (by decide) (by decide) (hb hby d_jdk_65m121_28) (pc' := 31) rfl (fun T3 h3 L3 X3 e3 N3 Kc3 Vq3 => ?_)
  have V_oa_3 := V_oa_1.keep Kc3 (ninS ne_oa_b1 nin0)
  have Zs3 : n0 ≤ h3.size := Nat.le_trans Zs1 Kc3.1
  have K3 := K1.trans Kc3 (allS (Or.inr sz_b1) all0)
  obtain ⟨fq3, V_b1_3⟩ := BL_any Vq3 (by omega)
  refine ow_aloadN X3 hx (hb hby d_jdk_65m121_31) rfl rfl (pc' := 32) rfl ?_
  exact ow_retA X3 hx hret hlk rfl rfl (hb hby d_jdk_65m121_32) (by decide) (by decide) (show Q_cpy0 Z oa pm ka pn f h0 n0 _ T3.heap _ from by rw [e3]; exact ⟨b1, k1, fq3, rfl, N3, K3, V_b1_3, g_b1, sz_b1⟩)
def Q_cpyN (Z : State) (oa : Addr) (pm : Int32) (ka : ClassId) (pn : Int32) (f : Nat → Int32) (h0 : Heap) (n0 : Nat) (v : Option Value) (h : Heap) (L : List Loc) : Prop := ∃ (ot : Addr), ∃ (kt : ClassId), ∃ (fr : Nat → Int32), (v = some (.ref ot)) ∧ (Fr n0 L) ∧ (Keep h0 h []) ∧ (Arv Z h ot kt (.byte) pm (BL fr) (.int (0 : Int32))) ∧ (n0 ≤ ot) ∧ (h0.size ≤ ot)
set_option maxRecDepth 65536 in
set_option maxHeartbeats 40000000 in
theorem rm_cpyN (l : Launch) (Z : State) (a0 : Array Value) (hw : ∀ d ∈ tables_1, d.before a0 Z = true) (ws : List Jvm.Cond) (oa : Addr) (pm : Int32) (ka : ClassId) (pn : Int32) (f : Nat → Int32) (h0 : Heap) (n0 : Nat) (Z0 : n0 ≤ h0.size) (V_a : Arv Z h0 oa ka (.byte) pn (BL f) (.int (0 : Int32))) (hne : ¬ pm.toInt = pn.toInt) (hm0 : 0 ≤ pm.toInt) (hm1 : pm.toInt ≤ 65537) (hp0 : 0 ≤ pn.toInt) (hp1 : pn.toInt ≤ 65537) :
    MetFree l (⟨"java/util/Arrays", "copyOf", "([BI)[B"⟩ : MethodName) (head1 (Jvm.Cond.code (⟨"java/util/Arrays", "copyOf", "([BI)[B"⟩ : MethodName) jdk_65_method_121_code 3 (some (.array .byte)) :: ws) ({ frames := 1, cells := 1, slots := 65537, locals := 40 } : Room)) (fun a_ U_ => a_ = #[(.ref oa), (.int pm)] ∧ Z.Warmed39 U_.vm ∧ U_.heap = h0) (fun _ _ _ _ _ => True) (fun _ U_ o_ U_' => ∃ v_ L_, o_ = .returned v_ ∧ (Q_cpyN Z oa pm ka pn f h0 n0) v_ U_'.heap L_ ∧ FrameEnd U_ o_ U_' L_ 1 65537) := by
  refine ow_body (plainFor_of_name pn_1) ?_
  intro p e s m below meth c T0 X0 hx hZ hby hml hown hnm hret hlk e0
  have N0 := Fr.nil n0
  refine Ends.cast (ef_cpy0 m oa pm) ?_
  have r_pm := rng32 pm
  refine ow_iloadN X0 hx (hb hby d_jdk_65m121_0) rfl (pc' := 1) rfl ?_
  refine ow_aloadN X0 hx (hb hby d_jdk_65m121_1) rfl rfl (pc' := 2) rfl ?_
  refine ow_len X0 hx hZ e0 V_a (hb hby d_jdk_65m121_2) (pc' := 3) rfl ?_
  refine ow_icmp_ne X0 hx (pm.toInt) (pn.toInt) (hb hby d_jdk_65m121_3) rfl rfl (by decide) (pt := 14) (by decide) (pf := 6) rfl (fun c3 => ?_) (fun c3 => absurd c3 (by omega))
  refine ow_iloadN X0 hx (hb hby d_jdk_65m121_14) rfl (pc' := 15) rfl ?_
  refine ow_newP X0 hx hZ (hw _ (List.mem_of_getElem? (i := 9) rfl)) e0 (hb hby d_jdk_65m121_15) (ow_nlt (y := (0 : Int32)) (show ¬ pm.toInt < 0 from by omega)) 65537 (show pm.toInt.toNat ≤ 65537 from by omega) (by decide) (by decide) (by decide) (pc' := 17) rfl (fun T1 h1 b1 k1 g1 X1 e1 E1 V1 => ?_)
  have ne_oa_b1 : oa ≠ b1 := Nat.ne_of_lt (Nat.lt_of_lt_of_le V_a.lt (Nat.le_of_eq g1.symm))
  have g_b1 : n0 ≤ b1 := Nat.le_trans Z0 (Nat.le_of_eq g1.symm)
  have sz_b1 : h0.size ≤ b1 := Nat.le_trans (Keep.refl h0 []).1 (Nat.le_of_eq g1.symm)
  have V_oa_1 := V_a.ext E1
  have Zs1 : n0 ≤ h1.size := Nat.le_trans Z0 E1.1
  have K1 := (Keep.refl h0 []).ext E1
  have V_b1 : Arv Z h1 b1 k1 .byte pm (BL (fun _ => 0)) (.int (0 : Int32)) := V1.pad BL_zero
  refine ow_astoreN X1 hx (Ls' := #[.val (.ref oa), .val (.int pm), .val (.ref b1)]) (hb hby d_jdk_65m121_17) rfl rfl (pc' := 18) rfl ?_
  refine ow_aloadN X1 hx (hb hby d_jdk_65m121_18) rfl rfl (pc' := 19) rfl ?_
  refine ow_iconst X1 hx (z := (0 : Int32)) (hb hby d_jdk_65m121_19) rfl (pc' := 20) rfl ?_
  refine ow_aloadN X1 hx (hb hby d_jdk_65m121_20) rfl rfl (pc' := 21) rfl ?_
  refine ow_iconst X1 hx (z := (0 : Int32)) (hb hby d_jdk_65m121_21) rfl (pc' := 22) rfl ?_
  refine ow_aloadN X1 hx (hb hby d_jdk_65m121_22) rfl rfl (pc' := 23) rfl ?_
  refine ow_len X1 hx hZ e1 V_oa_1 (hb hby d_jdk_65m121_23) (pc' := 24) rfl ?_
  refine ow_iloadN X1 hx (hb hby d_jdk_65m121_24) rfl (pc' := 25) rfl ?_
  refine ow_callPI X1 hx hZ hown (hw _ (List.mem_of_getElem? (i := 40) rfl)) (hw _ (List.mem_of_getElem? (i := 41) rfl)) (hw _ (List.mem_of_getElem? (i := 42) rfl)) (hw _ (List.mem_of_getElem? (i := 43) rfl)) (by decide) (rm_minI l Z a0 hw [] pn pm h1 ) e1 4 (by decide) (by decide) (by decide) (by decide) [(.int pn), (.int pm)] (by rw [hml]; rfl) pd_0 rfl rfl rfl (Nat.le_of_eq rfl) (hb hby d_jdk_65m121_25) (pc' := 28) rfl (fun z2 T2 hz2 X2 e2 => ?_)
  have az2 : (pn.toInt ≤ pm.toInt → z2.toInt = pn.toInt) ∧ (pm.toInt ≤ pn.toInt → z2.toInt = pm.toInt) := hz2
  have rz2 := rng32 z2
  refine ow_cp0 X2 hx hZ hown (hw _ (List.mem_of_getElem? (i := 44) rfl)) (hw _ (List.mem_of_getElem? (i := 47) rfl)) (hw _ (List.mem_of_getElem? (i := 45) rfl)) (hw _ (List.mem_of_getElem? (i := 46) rfl)) e2 V_oa_1 V_b1 rfl (show 0 ≤ z2.toInt from by omega) (show z2.toInt ≤ pn.toInt from by omega) (show z2.toInt ≤ pm.toInt from by omega) (by rw [BL_len]; omega) N0 g_b1 (by rw [hml]; rfl) (W := 0) (Nat.le_of_eq rfl) (by decide) (by decide) (hb hby d_jdk_65m121_28) (pc' := 31) rfl (fun T3 h3 L3 X3 e3 N3 Kc3 Vq3 => ?_)
  have V_oa_3 := V_oa_1.keep Kc3 (ninS ne_oa_b1 nin0)
  have Zs3 : n0 ≤ h3.size := Nat.le_trans Zs1 Kc3.1
  have K3 := K1.trans Kc3 (allS (Or.inr sz_b1) all0)
  obtain ⟨fq3, V_b1_3⟩ := BL_any Vq3 (by omega)
  refine ow_aloadN X3 hx (hb hby d_jdk_65m121_31) rfl rfl (pc' := 32) rfl ?_
  exact ow_retA X3 hx hret hlk rfl rfl (hb hby d_jdk_65m121_32) (by decide) (by decide) (show Q_cpyN Z oa pm ka pn f h0 n0 _ T3.heap _ from by rw [e3]; exact ⟨b1, k1, fq3, rfl, N3, K3, V_b1_3, g_b1, sz_b1⟩)
theorem pd_1 : parseMethodDescriptor "([BI)[B" = some ⟨[(.array .byte), .int], some (.array .byte)⟩ := by decide +kernel
theorem d_prog_3m5_0 : decode prog_3_method_5_code 0 = .ok (.aload_n 0, 1) := by decide +kernel
theorem d_prog_3m5_1 : decode prog_3_method_5_code 1 = .ok (.getfield 11, 3) := by decide +kernel
theorem d_prog_3m5_4 : decode prog_3_method_5_code 4 = .ok (.aload_n 0, 1) := by decide +kernel
theorem d_prog_3m5_5 : decode prog_3_method_5_code 5 = .ok (.getfield 16, 3) := by decide +kernel
theorem d_prog_3m5_8 : decode prog_3_method_5_code 8 = .ok (.invokestatic 20, 3) := by decide +kernel
theorem d_prog_3m5_11 : decode prog_3_method_5_code 11 = .ok (.areturn, 1) := by decide +kernel
theorem ef_toBA (m : MethodId) (x0 : Addr) : entryFrame m #[(.ref x0)] 1 = mkF m 0 #[.val (.ref x0)] [] := by first | (simp [entryFrame, mkF, argsToLocals, Value.category]; done) | rfl
def Q_toBA (Z : State) (o : Addr) (oa : Addr) (ka : ClassId) (pn : Int32) (f : Nat → Int32) (h0 : Heap) (n0 : Nat) (v : Option Value) (h : Heap) (L : List Loc) : Prop := ∃ (ot : Addr), ∃ (kt : ClassId), ∃ (fr : Nat → Int32), (v = some (.ref ot)) ∧ (Fr n0 L) ∧ (Keep h0 h []) ∧ (Arv Z h ot kt (.byte) (0 : Int32) (BL fr) (.int (0 : Int32))) ∧ (n0 ≤ ot) ∧ (h0.size ≤ ot)
set_option maxRecDepth 65536 in
set_option maxHeartbeats 40000000 in
theorem rm_toBA (l : Launch) (Z : State) (a0 : Array Value) (hw : ∀ d ∈ tables_1, d.before a0 Z = true) (ws : List Jvm.Cond) (o : Addr) (oa : Addr) (ka : ClassId) (pn : Int32) (f : Nat → Int32) (h0 : Heap) (n0 : Nat) (Z0 : n0 ≤ h0.size) (F_b : Fld Z h0 o "com/example/strict_audit/strictaudit/format/LineBuffer" "bytes" "[B" (.ref oa)) (F_l : Fld Z h0 o "com/example/strict_audit/strictaudit/format/LineBuffer" "length" "I" (.int (0 : Int32))) (V_a : Arv Z h0 oa ka (.byte) pn (BL f) (.int (0 : Int32))) (hp0 : 1 ≤ pn.toInt) (hp1 : pn.toInt ≤ 65537) :
    MetFree l (⟨"com/example/strict_audit/strictaudit/format/LineBuffer", "toByteArray", "()[B"⟩ : MethodName) (head1 (Jvm.Cond.code (⟨"com/example/strict_audit/strictaudit/format/LineBuffer", "toByteArray", "()[B"⟩ : MethodName) prog_3_method_5_code 1 (some (.array .byte)) :: ws) ({ frames := 2, cells := 1, slots := 0, locals := 54 } : Room)) (fun a_ U_ => a_ = #[(.ref o)] ∧ Z.Warmed39 U_.vm ∧ U_.heap = h0) (fun _ _ _ _ _ => True) (fun _ U_ o_ U_' => ∃ v_ L_, o_ = .returned v_ ∧ (Q_toBA Z o oa ka pn f h0 n0) v_ U_'.heap L_ ∧ FrameEnd U_ o_ U_' L_ 1 0) := by
  refine ow_body (plainFor_of_name pn_0) ?_
  intro p e s m below meth c T0 X0 hx hZ hby hml hown hnm hret hlk e0
  have N0 := Fr.nil n0
  refine Ends.cast (ef_toBA m o) ?_
  refine ow_aloadN X0 hx (hb hby d_prog_3m5_0) rfl rfl (pc' := 1) rfl ?_
  refine ow_getF X0 hx hZ hown (host := "") (Or.inl (hw _ (List.mem_of_getElem? (i := 10) rfl))) Via.refl e0 F_b (hb hby d_prog_3m5_1) (pc' := 4) rfl (fun T1 X1 e1 => ?_)
  refine ow_aloadN X1 hx (hb hby d_prog_3m5_4) rfl rfl (pc' := 5) rfl ?_
  refine ow_getF X1 hx hZ hown (host := "") (Or.inl (hw _ (List.mem_of_getElem? (i := 24) rfl))) Via.refl e1 F_l (hb hby d_prog_3m5_5) (pc' := 8) rfl (fun T2 X2 e2 => ?_)
  refine ow_callS X2 hx hZ hown (hw _ (List.mem_of_getElem? (i := 36) rfl)) (hw _ (List.mem_of_getElem? (i := 37) rfl)) (hw _ (List.mem_of_getElem? (i := 38) rfl)) (hw _ (List.mem_of_getElem? (i := 39) rfl)) (by decide) (rm_cpy0 l Z a0 hw [] oa (0 : Int32) ka pn f h0 n0 Z0 V_a (by first | assumption | decide | omega | (have q0_ : (0 : Int32).toInt = 0 := (by decide); omega)) (by first | assumption | decide | omega | (have q0_ : (0 : Int32).toInt = 0 := (by decide); omega)) (by first | assumption | decide | omega | (have q0_ : (0 : Int32).toInt = 0 := (by decide); omega)) (by first | assumption | decide | omega | (have q0_ : (0 : Int32).toInt = 0 := (by decide); omega)) (by first | assumption | decide | omega | (have q0_ : (0 : Int32).toInt = 0 := (by decide); omega))) e2 0 (by decide) (by decide) (by decide) (by decide) [(.ref oa), (.int (0 : Int32))] (by rw [hml]; rfl) pd_1 rfl rfl rfl (Nat.le_of_eq rfl) (hb hby d_prog_3m5_8) (pc' := 11) rfl (fun v3 T3 L3 hQ3 X3 => ?_)
  obtain ⟨b3, kt_3, fr_3, rfl, Nc3, Kc3, P3_0, P3_1, P3_2⟩ := hQ3
  have F_o_bytes_3 := F_b.keep Kc3 nin0
  have F_o_length_3 := F_l.keep Kc3 nin0
  have V_oa_3 := V_a.keep Kc3 nin0
  have ne_o_b3 : o ≠ b3 := Nat.ne_of_lt (Nat.lt_of_lt_of_le F_b.lt P3_2)
  have ne_oa_b3 : oa ≠ b3 := Nat.ne_of_lt (Nat.lt_of_lt_of_le V_a.lt P3_2)
  have sz_b3 : h0.size ≤ b3 := Nat.le_trans (Keep.refl h0 []).1 P3_2
  have Zs3 : n0 ≤ T3.heap.size := Nat.le_trans Z0 Kc3.1
  have K3 := (Keep.refl h0 []).trans Kc3 all0
  have N3 := Fr.app N0 Nc3
  show Ends _ _ _ _ T3 (mkF m 11 #[.val (.ref o)] [(.ref b3)])
  exact ow_retA X3 hx hret hlk rfl rfl (hb hby d_prog_3m5_11) (by decide) (by decide) (show Q_toBA Z o oa ka pn f h0 n0 _ T3.heap _ from ⟨b3, kt_3, fr_3, rfl, N3, K3, P3_0, P3_1, sz_b3⟩)
theorem d_prog_3m9_0 : decode prog_3_method_9_code 0 = .ok (.iload_n 1, 1) := by decide +kernel
theorem d_prog_3m9_1 : decode prog_3_method_9_code 1 = .ok (.aload_n 0, 1) := by decide +kernel
theorem d_prog_3m9_2 : decode prog_3_method_9_code 2 = .ok (.getfield 11, 3) := by decide +kernel
theorem d_prog_3m9_5 : decode prog_3_method_9_code 5 = .ok (.arraylength, 1) := by decide +kernel
theorem d_prog_3m9_6 : decode prog_3_method_9_code 6 = .ok (.aload_n 0, 1) := by decide +kernel
theorem d_prog_3m9_7 : decode prog_3_method_9_code 7 = .ok (.getfield 16, 3) := by decide +kernel
theorem d_prog_3m9_10 : decode prog_3_method_9_code 10 = .ok (.isub, 1) := by decide +kernel
theorem d_prog_3m9_11 : decode prog_3_method_9_code 11 = .ok (.if_icmp .gt 4, 3) := by decide +kernel
theorem d_prog_3m9_14 : decode prog_3_method_9_code 14 = .ok (.return_, 1) := by decide +kernel
theorem ef_mr0 (m : MethodId) (x0 : Addr) (x1 : Int32) : entryFrame m #[(.ref x0), (.int x1)] 4 = mkF m 0 #[.val (.ref x0), .val (.int x1), .unset, .unset] [] := by first | (simp [entryFrame, mkF, argsToLocals, Value.category]; done) | rfl
set_option maxRecDepth 65536 in
set_option maxHeartbeats 40000000 in
theorem rm_mr0 (l : Launch) (Z : State) (a0 : Array Value) (hw : ∀ d ∈ tables_1, d.before a0 Z = true) (ws : List Jvm.Cond) (o : Addr) (pd : Int32) (oa : Addr) (ka : ClassId) (pn : Int32) (f : Nat → Int32) (pl : Int32) (h0 : Heap) (F_b : Fld Z h0 o "com/example/strict_audit/strictaudit/format/LineBuffer" "bytes" "[B" (.ref oa)) (F_l : Fld Z h0 o "com/example/strict_audit/strictaudit/format/LineBuffer" "length" "I" (.int pl)) (V_a : Arv Z h0 oa ka (.byte) pn (BL f) (.int (0 : Int32))) (hl0 : 0 ≤ pl.toInt) (hn0 : 0 ≤ pn.toInt) (hn2 : pn.toInt ≤ 65537) (hd : pd.toInt ≤ pn.toInt - pl.toInt) :
    MetFree l (⟨"com/example/strict_audit/strictaudit/format/LineBuffer", "makeRoom", "(I)V"⟩ : MethodName) (head1 (Jvm.Cond.code (⟨"com/example/strict_audit/strictaudit/format/LineBuffer", "makeRoom", "(I)V"⟩ : MethodName) prog_3_method_9_code 4 none :: ws) ({ frames := 0, cells := 0, slots := 0, locals := 0 } : Room)) (fun a_ U_ => a_ = #[(.ref o), (.int pd)] ∧ Z.Warmed39 U_.vm ∧ U_.heap = h0) (fun _ _ _ _ _ => True) (fun _ U_ o_ U_' => ∃ v_ L_, o_ = .returned v_ ∧ (QN h0) v_ U_'.heap L_ ∧ FrameEnd U_ o_ U_' L_ 0 0) := by
  refine ow_body (plainFor_of_name pn_0) ?_
  intro p e s m below meth c T0 X0 hx hZ hby hml hown hnm hret hlk e0
  refine Ends.cast (ef_mr0 m o pd) ?_
  have r_pd := rng32 pd
  refine ow_iloadN X0 hx (hb hby d_prog_3m9_0) rfl (pc' := 1) rfl ?_
  refine ow_aloadN X0 hx (hb hby d_prog_3m9_1) rfl rfl (pc' := 2) rfl ?_
  refine ow_getF X0 hx hZ hown (host := "") (Or.inl (hw _ (List.mem_of_getElem? (i := 10) rfl))) Via.refl e0 F_b (hb hby d_prog_3m9_2) (pc' := 5) rfl (fun T1 X1 e1 => ?_)
  refine ow_len X1 hx hZ e1 V_a (hb hby d_prog_3m9_5) (pc' := 6) rfl ?_
  refine ow_aloadN X1 hx (hb hby d_prog_3m9_6) rfl rfl (pc' := 7) rfl ?_
  refine ow_getF X1 hx hZ hown (host := "") (Or.inl (hw _ (List.mem_of_getElem? (i := 24) rfl))) Via.refl e1 F_l (hb hby d_prog_3m9_7) (pc' := 10) rfl (fun T2 X2 e2 => ?_)
  refine ow_isub X2 hx (hb hby d_prog_3m9_10) (pc' := 11) rfl (fun z3 hz3 => ?_)
  have az3 : (z3.toInt - (pn.toInt - pl.toInt)) % 4294967296 = 0 := by rw [hz3]; exact c_isub pn pl
  have rz3 := rng32 z3
  refine ow_icmp_gt X2 hx (pd.toInt) (z3.toInt) (hb hby d_prog_3m9_11) rfl rfl (by decide) (pt := 15) (by decide) (pf := 14) rfl (fun c11 => absurd c11 (by omega)) (fun c11 => ?_)
  exact ow_retV X2 hx hret hlk (hb hby d_prog_3m9_14) (by decide) (by decide) ⟨rfl, rfl, e2⟩
theorem pd_2 : parseMethodDescriptor "(JJ)J" = some ⟨[.long, .long], some .long⟩ := by decide +kernel
theorem d_prog_3m9_15 : decode prog_3_method_9_code 15 = .ok (.aload_n 0, 1) := by decide +kernel
theorem d_prog_3m9_16 : decode prog_3_method_9_code 16 = .ok (.getfield 16, 3) := by decide +kernel
theorem d_prog_3m9_19 : decode prog_3_method_9_code 19 = .ok (.i2l, 1) := by decide +kernel
theorem d_prog_3m9_20 : decode prog_3_method_9_code 20 = .ok (.iload_n 1, 1) := by decide +kernel
theorem d_prog_3m9_21 : decode prog_3_method_9_code 21 = .ok (.i2l, 1) := by decide +kernel
theorem d_prog_3m9_22 : decode prog_3_method_9_code 22 = .ok (.ladd, 1) := by decide +kernel
theorem d_prog_3m9_23 : decode prog_3_method_9_code 23 = .ok (.lstore_n 2, 1) := by decide +kernel
theorem d_prog_3m9_24 : decode prog_3_method_9_code 24 = .ok (.lload_n 2, 1) := by decide +kernel
theorem d_prog_3m9_25 : decode prog_3_method_9_code 25 = .ok (.ldc2_w 59, 3) := by decide +kernel
theorem d_prog_3m9_28 : decode prog_3_method_9_code 28 = .ok (.lcmp, 1) := by decide +kernel
theorem d_prog_3m9_29 : decode prog_3_method_9_code 29 = .ok (.ifCond .le 13, 3) := by decide +kernel
theorem d_prog_3m9_42 : decode prog_3_method_9_code 42 = .ok (.aload_n 0, 1) := by decide +kernel
theorem d_prog_3m9_43 : decode prog_3_method_9_code 43 = .ok (.aload_n 0, 1) := by decide +kernel
theorem d_prog_3m9_44 : decode prog_3_method_9_code 44 = .ok (.getfield 11, 3) := by decide +kernel
theorem d_prog_3m9_47 : decode prog_3_method_9_code 47 = .ok (.ldc2_w 59, 3) := by decide +kernel
theorem d_prog_3m9_50 : decode prog_3_method_9_code 50 = .ok (.lload_n 2, 1) := by decide +kernel
theorem d_prog_3m9_51 : decode prog_3_method_9_code 51 = .ok (.ldc2_w 68, 3) := by decide +kernel
theorem d_prog_3m9_54 : decode prog_3_method_9_code 54 = .ok (.aload_n 0, 1) := by decide +kernel
theorem d_prog_3m9_55 : decode prog_3_method_9_code 55 = .ok (.getfield 11, 3) := by decide +kernel
theorem d_prog_3m9_58 : decode prog_3_method_9_code 58 = .ok (.arraylength, 1) := by decide +kernel
theorem d_prog_3m9_59 : decode prog_3_method_9_code 59 = .ok (.i2l, 1) := by decide +kernel
theorem d_prog_3m9_60 : decode prog_3_method_9_code 60 = .ok (.lmul, 1) := by decide +kernel
theorem d_prog_3m9_61 : decode prog_3_method_9_code 61 = .ok (.invokestatic 70, 3) := by decide +kernel
theorem d_prog_3m9_64 : decode prog_3_method_9_code 64 = .ok (.invokestatic 76, 3) := by decide +kernel
theorem d_prog_3m9_67 : decode prog_3_method_9_code 67 = .ok (.l2i, 1) := by decide +kernel
theorem d_prog_3m9_68 : decode prog_3_method_9_code 68 = .ok (.invokestatic 20, 3) := by decide +kernel
theorem d_prog_3m9_71 : decode prog_3_method_9_code 71 = .ok (.putfield 11, 3) := by decide +kernel
theorem d_prog_3m9_74 : decode prog_3_method_9_code 74 = .ok (.return_, 1) := by decide +kernel
def Q_mrN (Z : State) (o : Addr) (pd : Int32) (oa : Addr) (ka : ClassId) (pn : Int32) (f : Nat → Int32) (pl : Int32) (h0 : Heap) (n0 : Nat) (v : Option Value) (h : Heap) (L : List Loc) : Prop := ∃ (ot : Addr), ∃ (kt : ClassId), ∃ (fr : Nat → Int32), (v = none) ∧ (Fr n0 L) ∧ (Keep h0 h [o]) ∧ (Exa Z h o "com/example/strict_audit/strictaudit/format/LineBuffer") ∧ (Fld Z h o "com/example/strict_audit/strictaudit/format/LineBuffer" "length" "I" (.int pl)) ∧ (Fld Z h o "com/example/strict_audit/strictaudit/format/LineBuffer" "bytes" "[B" (.ref ot)) ∧ (Arv Z h ot kt (.byte) pd (BL fr) (.int (0 : Int32))) ∧ (n0 ≤ ot) ∧ (h0.size ≤ ot) ∧ (o ≠ ot)
set_option maxRecDepth 65536 in
set_option maxHeartbeats 40000000 in
theorem rm_mrN (l : Launch) (Z : State) (a0 : Array Value) (hw : ∀ d ∈ tables_1, d.before a0 Z = true) (ws : List Jvm.Cond) (o : Addr) (pd : Int32) (oa : Addr) (ka : ClassId) (pn : Int32) (f : Nat → Int32) (pl : Int32) (h0 : Heap) (n0 : Nat) (Z0 : n0 ≤ h0.size) (E_o : Exa Z h0 o "com/example/strict_audit/strictaudit/format/LineBuffer") (F_b : Fld Z h0 o "com/example/strict_audit/strictaudit/format/LineBuffer" "bytes" "[B" (.ref oa)) (F_l : Fld Z h0 o "com/example/strict_audit/strictaudit/format/LineBuffer" "length" "I" (.int pl)) (V_a : Arv Z h0 oa ka (.byte) pn (BL f) (.int (0 : Int32))) (g_o : n0 ≤ o) (ne_o_oa : o ≠ oa) (hl0 : pl.toInt = 0) (hn0 : pn.toInt = 512) (hd0 : 65534 ≤ pd.toInt) (hd1 : pd.toInt ≤ 65537) :
    MetFree l (⟨"com/example/strict_audit/strictaudit/format/LineBuffer", "makeRoom", "(I)V"⟩ : MethodName) (head1 (Jvm.Cond.code (⟨"com/example/strict_audit/strictaudit/format/LineBuffer", "makeRoom", "(I)V"⟩ : MethodName) prog_3_method_9_code 4 none :: ws) ({ frames := 2, cells := 1, slots := 65537, locals := 55 } : Room)) (fun a_ U_ => a_ = #[(.ref o), (.int pd)] ∧ Z.Warmed39 U_.vm ∧ U_.heap = h0) (fun _ _ _ _ _ => True) (fun _ U_ o_ U_' => ∃ v_ L_, o_ = .returned v_ ∧ (Q_mrN Z o pd oa ka pn f pl h0 n0) v_ U_'.heap L_ ∧ FrameEnd U_ o_ U_' L_ 1 65537) := by
  refine ow_body (plainFor_of_name pn_0) ?_
  intro p e s m below meth c T0 X0 hx hZ hby hml hown hnm hret hlk e0
  have N0 := Fr.nil n0
  refine Ends.cast (ef_mr0 m o pd) ?_
  have r_pd := rng32 pd
  refine ow_iloadN X0 hx (hb hby d_prog_3m9_0) rfl (pc' := 1) rfl ?_
  refine ow_aloadN X0 hx (hb hby d_prog_3m9_1) rfl rfl (pc' := 2) rfl ?_
  refine ow_getF X0 hx hZ hown (host := "") (Or.inl (hw _ (List.mem_of_getElem? (i := 10) rfl))) Via.refl e0 F_b (hb hby d_prog_3m9_2) (pc' := 5) rfl (fun T1 X1 e1 => ?_)
  refine ow_len X1 hx hZ e1 V_a (hb hby d_prog_3m9_5) (pc' := 6) rfl ?_
  refine ow_aloadN X1 hx (hb hby d_prog_3m9_6) rfl rfl (pc' := 7) rfl ?_
  refine ow_getF X1 hx hZ hown (host := "") (Or.inl (hw _ (List.mem_of_getElem? (i := 24) rfl))) Via.refl e1 F_l (hb hby d_prog_3m9_7) (pc' := 10) rfl (fun T2 X2 e2 => ?_)
  refine ow_isub X2 hx (hb hby d_prog_3m9_10) (pc' := 11) rfl (fun z3 hz3 => ?_)
  have az3 : (z3.toInt - (pn.toInt - pl.toInt)) % 4294967296 = 0 := by rw [hz3]; exact c_isub pn pl
  have rz3 := rng32 z3
  refine ow_icmp_gt X2 hx (pd.toInt) (z3.toInt) (hb hby d_prog_3m9_11) rfl rfl (by decide) (pt := 15) (by decide) (pf := 14) rfl (fun c11 => ?_) (fun c11 => absurd c11 (by omega))
  refine ow_aloadN X2 hx (hb hby d_prog_3m9_15) rfl rfl (pc' := 16) rfl ?_
  refine ow_getF X2 hx hZ hown (host := "") (Or.inl (hw _ (List.mem_of_getElem? (i := 24) rfl))) Via.refl e2 F_l (hb hby d_prog_3m9_16) (pc' := 19) rfl (fun T4 X4 e4 => ?_)
  refine ow_i2l X4 hx (hb hby d_prog_3m9_19) (pc' := 20) rfl (fun z5 hz5 => ?_)
  have az5 : z5.toInt = pl.toInt := by rw [hz5]; exact c_i2l pl
  have rz5 := rng64 z5
  refine ow_iloadN X4 hx (hb hby d_prog_3m9_20) rfl (pc' := 21) rfl ?_
  refine ow_i2l X4 hx (hb hby d_prog_3m9_21) (pc' := 22) rfl (fun z6 hz6 => ?_)
  have az6 : z6.toInt = pd.toInt := by rw [hz6]; exact c_i2l pd
  have rz6 := rng64 z6
  refine ow_ladd X4 hx (hb hby d_prog_3m9_22) (pc' := 23) rfl (fun z7 hz7 => ?_)
  have az7 : (z7.toInt - (z5.toInt + z6.toInt)) % 18446744073709551616 = 0 := by rw [hz7]; exact c_ladd z5 z6
  have rz7 := rng64 z7
  refine ow_lstoreN X4 hx (Ls' := #[.val (.ref o), .val (.int pd), .val (.long z7), .second]) (hb hby d_prog_3m9_23) rfl (pc' := 24) rfl ?_
  refine ow_lloadN X4 hx (hb hby d_prog_3m9_24) rfl (pc' := 25) rfl ?_
  refine ow_ldc2Long X4 hx hZ hown (hw _ (List.mem_of_getElem? (i := 121) rfl)) (hb hby d_prog_3m9_25) (pc' := 28) rfl ?_
  refine ow_lcmp X4 hx (hb hby d_prog_3m9_28) (pc' := 29) rfl (fun z8 hz8 => ?_)
  have az8 : (z7.toInt < (2147483639 : Int) → z8.toInt = -1) ∧ (z7.toInt = (2147483639 : Int) → z8.toInt = 0) ∧ ((2147483639 : Int) < z7.toInt → z8.toInt = 1) := by rw [hz8]; exact c_lcmp z7 (2147483639 : Int64)
  have rz8 := rng32 z8
  refine ow_if_le X4 hx (z8.toInt) (hb hby d_prog_3m9_29) rfl (by decide) (pt := 42) (by decide) (pf := 32) rfl (fun c29 => ?_) (fun c29 => absurd c29 (by omega))
  refine ow_aloadN X4 hx (hb hby d_prog_3m9_42) rfl rfl (pc' := 43) rfl ?_
  refine ow_aloadN X4 hx (hb hby d_prog_3m9_43) rfl rfl (pc' := 44) rfl ?_
  refine ow_getF X4 hx hZ hown (host := "") (Or.inl (hw _ (List.mem_of_getElem? (i := 10) rfl))) Via.refl e4 F_b (hb hby d_prog_3m9_44) (pc' := 47) rfl (fun T9 X9 e9 => ?_)
  refine ow_ldc2Long X9 hx hZ hown (hw _ (List.mem_of_getElem? (i := 121) rfl)) (hb hby d_prog_3m9_47) (pc' := 50) rfl ?_
  refine ow_lloadN X9 hx (hb hby d_prog_3m9_50) rfl (pc' := 51) rfl ?_
  refine ow_ldc2Long X9 hx hZ hown (hw _ (List.mem_of_getElem? (i := 122) rfl)) (hb hby d_prog_3m9_51) (pc' := 54) rfl ?_
  refine ow_aloadN X9 hx (hb hby d_prog_3m9_54) rfl rfl (pc' := 55) rfl ?_
  refine ow_getF X9 hx hZ hown (host := "") (Or.inl (hw _ (List.mem_of_getElem? (i := 10) rfl))) Via.refl e9 F_b (hb hby d_prog_3m9_55) (pc' := 58) rfl (fun T10 X10 e10 => ?_)
  refine ow_len X10 hx hZ e10 V_a (hb hby d_prog_3m9_58) (pc' := 59) rfl ?_
  refine ow_i2l X10 hx (hb hby d_prog_3m9_59) (pc' := 60) rfl (fun z11 hz11 => ?_)
  have az11 : z11.toInt = pn.toInt := by rw [hz11]; exact c_i2l pn
  have rz11 := rng64 z11
  refine ow_lmul X10 hx (hb hby d_prog_3m9_60) (pc' := 61) rfl (fun z12 hz12 => ?_)
  have az12 : (z12.toInt - ((2 : Int) * z11.toInt)) % 18446744073709551616 = 0 := by rw [hz12]; exact c_lmul (2 : Int64) z11
  have rz12 := rng64 z12
  refine ow_callPL X10 hx hZ hown (hw _ (List.mem_of_getElem? (i := 123) rfl)) (hw _ (List.mem_of_getElem? (i := 124) rfl)) (hw _ (List.mem_of_getElem? (i := 42) rfl)) (hw _ (List.mem_of_getElem? (i := 125) rfl)) (by decide) (rm_maxJ l Z a0 hw [] z7 z12 h0 ) e10 4 (by decide) (by decide) (by decide) (by decide) [(.long z7), (.long z12)] (by rw [hml]; rfl) pd_2 rfl rfl rfl (Nat.le_of_eq rfl) (hb hby d_prog_3m9_61) (pc' := 64) rfl (fun z13 T13 hz13 X13 e13 => ?_)
  have az13 : (z7.toInt ≥ z12.toInt → z13.toInt = z7.toInt) ∧ (z12.toInt ≥ z7.toInt → z13.toInt = z12.toInt) := hz13
  have rz13 := rng64 z13
  refine ow_callPL X13 hx hZ hown (hw _ (List.mem_of_getElem? (i := 126) rfl)) (hw _ (List.mem_of_getElem? (i := 127) rfl)) (hw _ (List.mem_of_getElem? (i := 42) rfl)) (hw _ (List.mem_of_getElem? (i := 128) rfl)) (by decide) (rm_minJ l Z a0 hw [] (2147483639 : Int64) z13 h0 ) e13 2 (by decide) (by decide) (by decide) (by decide) [(.long (2147483639 : Int64)), (.long z13)] (by rw [hml]; rfl) pd_2 rfl rfl rfl (Nat.le_of_eq rfl) (hb hby d_prog_3m9_64) (pc' := 67) rfl (fun z14 T14 hz14 X14 e14 => ?_)
  have az14 : ((2147483639 : Int) ≤ z13.toInt → z14.toInt = (2147483639 : Int)) ∧ (z13.toInt ≤ (2147483639 : Int) → z14.toInt = z13.toInt) := hz14
  have rz14 := rng64 z14
  refine ow_l2i X14 hx (hb hby d_prog_3m9_67) (pc' := 68) rfl (fun z15 hz15 => ?_)
  have az15 : (z15.toInt - z14.toInt) % 4294967296 = 0 := by rw [hz15]; exact c_l2i z14
  have rz15 := rng32 z15
  rw [show z15 = pd from ow_eq (by omega)]
  refine ow_callS X14 hx hZ hown (hw _ (List.mem_of_getElem? (i := 36) rfl)) (hw _ (List.mem_of_getElem? (i := 37) rfl)) (hw _ (List.mem_of_getElem? (i := 38) rfl)) (hw _ (List.mem_of_getElem? (i := 39) rfl)) (by decide) (rm_cpyN l Z a0 hw [] oa pd ka pn f h0 n0 Z0 V_a (by first | assumption | decide | omega) (by first | assumption | decide | omega) (by first | assumption | decide | omega) (by first | assumption | decide | omega) (by first | assumption | decide | omega)) e14 1 (by decide) (by decide) (by decide) (by decide) [(.ref oa), (.int pd)] (by rw [hml]; rfl) pd_1 rfl rfl rfl (Nat.le_of_eq rfl) (hb hby d_prog_3m9_68) (pc' := 71) rfl (fun v16 T16 L16 hQ16 X16 => ?_)
  obtain ⟨b16, kt_16, fr_16, rfl, Nc16, Kc16, P16_0, P16_1, P16_2⟩ := hQ16
  have E_o_16 := E_o.keep Kc16
  have F_o_bytes_16 := F_b.keep Kc16 nin0
  have F_o_length_16 := F_l.keep Kc16 nin0
  have V_oa_16 := V_a.keep Kc16 nin0
  have ne_o_b16 : o ≠ b16 := Nat.ne_of_lt (Nat.lt_of_lt_of_le E_o.lt P16_2)
  have ne_oa_b16 : oa ≠ b16 := Nat.ne_of_lt (Nat.lt_of_lt_of_le V_a.lt P16_2)
  have sz_b16 : h0.size ≤ b16 := Nat.le_trans (Keep.refl h0 [o]).1 P16_2
  have Zs16 : n0 ≤ T16.heap.size := Nat.le_trans Z0 Kc16.1
  have K16 := (Keep.refl h0 [o]).trans Kc16 all0
  have N16 := Fr.app N0 Nc16
  show Ends _ _ _ _ T16 (mkF m 71 #[.val (.ref o), .val (.int pd), .val (.long z7), .second] [(.ref b16), (.ref o)])
  refine ow_putF X16 hx hZ hown (host := "") (Or.inl (hw _ (List.mem_of_getElem? (i := 10) rfl))) Via.refl rfl F_o_bytes_16 E_o_16 (Or.inl (hw _ (List.mem_of_getElem? (i := 11) rfl))) (hw _ (List.mem_of_getElem? (i := 1) rfl)) (ty := (.array .byte)) (by decide) rfl rfl (hb hby d_prog_3m9_71) (pc' := 74) rfl (fun T17 h17 X17 e17 W17 => ?_)
  have F_o_bytes_17 := F_o_bytes_16.same W17
  have E_o_17 := E_o_16.wr W17
  have F_o_length_17 := F_o_length_16.other W17 (Or.inr (slot_ne (Or.inl (hw _ (List.mem_of_getElem? (i := 25) rfl))) (Or.inl (hw _ (List.mem_of_getElem? (i := 11) rfl))) (by decide) (t := .int) (t' := (.array .byte)) (by decide) (by decide)))
  have V_oa_17 := V_oa_16.other W17 (Ne.symm ne_o_oa)
  have V_b16_17 := P16_0.other W17 (Ne.symm ne_o_b16)
  have Zs17 : n0 ≤ h17.size := Nat.le_trans Zs16 (Keep.of_wr W17).1
  have K17 := K16.wr W17 (Or.inl (List.mem_of_getElem? (i := 0) rfl))
  have N17 := Fr.snoc X17 N16 g_o
  exact ow_retV X17 hx hret hlk (hb hby d_prog_3m9_74) (by decide) (by decide) (show Q_mrN Z o pd oa ka pn f pl h0 n0 _ T17.heap _ from by rw [e17]; exact ⟨b16, kt_16, fr_16, rfl, N17, K17, E_o_17, F_o_length_17, F_o_bytes_17, V_b16_17, P16_1, sz_b16, ne_o_b16⟩)
theorem pd_3 : parseMethodDescriptor "(I)V" = some ⟨[.int], none⟩ := by decide +kernel
theorem d_prog_3m6_0 : decode prog_3_method_6_code 0 = .ok (.aload_n 0, 1) := by decide +kernel
theorem d_prog_3m6_1 : decode prog_3_method_6_code 1 = .ok (.iconst 1, 1) := by decide +kernel
theorem d_prog_3m6_2 : decode prog_3_method_6_code 2 = .ok (.invokevirtual 26, 3) := by decide +kernel
theorem d_prog_3m6_5 : decode prog_3_method_6_code 5 = .ok (.aload_n 0, 1) := by decide +kernel
theorem d_prog_3m6_6 : decode prog_3_method_6_code 6 = .ok (.getfield 11, 3) := by decide +kernel
theorem d_prog_3m6_9 : decode prog_3_method_6_code 9 = .ok (.aload_n 0, 1) := by decide +kernel
theorem d_prog_3m6_10 : decode prog_3_method_6_code 10 = .ok (.dup, 1) := by decide +kernel
theorem d_prog_3m6_11 : decode prog_3_method_6_code 11 = .ok (.getfield 16, 3) := by decide +kernel
theorem d_prog_3m6_14 : decode prog_3_method_6_code 14 = .ok (.dup_x1, 1) := by decide +kernel
theorem d_prog_3m6_15 : decode prog_3_method_6_code 15 = .ok (.iconst 1, 1) := by decide +kernel
theorem d_prog_3m6_16 : decode prog_3_method_6_code 16 = .ok (.iadd, 1) := by decide +kernel
theorem d_prog_3m6_17 : decode prog_3_method_6_code 17 = .ok (.putfield 16, 3) := by decide +kernel
theorem d_prog_3m6_20 : decode prog_3_method_6_code 20 = .ok (.iload_n 1, 1) := by decide +kernel
theorem d_prog_3m6_21 : decode prog_3_method_6_code 21 = .ok (.bastore, 1) := by decide +kernel
theorem d_prog_3m6_22 : decode prog_3_method_6_code 22 = .ok (.return_, 1) := by decide +kernel
theorem ef_lbApp (m : MethodId) (x0 : Addr) (x1 : Int32) : entryFrame m #[(.ref x0), (.int x1)] 2 = mkF m 0 #[.val (.ref x0), .val (.int x1)] [] := by first | (simp [entryFrame, mkF, argsToLocals, Value.category]; done) | rfl
def Q_lbApp (Z : State) (o : Addr) (pv : Int32) (oa : Addr) (ka : ClassId) (pn : Int32) (f : Nat → Int32) (pl : Int32) (h0 : Heap) (n0 : Nat) (v : Option Value) (h : Heap) (L : List Loc) : Prop := ∃ (pz : Int32), (v = none) ∧ (Fr n0 L) ∧ (Keep h0 h [o, oa]) ∧ (Exa Z h o "com/example/strict_audit/strictaudit/format/LineBuffer") ∧ (Fld Z h o "com/example/strict_audit/strictaudit/format/LineBuffer" "bytes" "[B" (.ref oa)) ∧ (Fld Z h o "com/example/strict_audit/strictaudit/format/LineBuffer" "length" "I" (.int pz)) ∧ (Arv Z h oa ka (.byte) pn (BL (upd f pl.toInt.toNat (pv.toInt8.toInt32))) (.int (0 : Int32))) ∧ (pz.toInt = pl.toInt + 1)
set_option maxRecDepth 65536 in
set_option maxHeartbeats 40000000 in
theorem rm_lbApp (l : Launch) (Z : State) (a0 : Array Value) (hw : ∀ d ∈ tables_1, d.before a0 Z = true) (ws : List Jvm.Cond) (o : Addr) (pv : Int32) (oa : Addr) (ka : ClassId) (pn : Int32) (f : Nat → Int32) (pl : Int32) (h0 : Heap) (n0 : Nat) (Z0 : n0 ≤ h0.size) (E_o : Exa Z h0 o "com/example/strict_audit/strictaudit/format/LineBuffer") (F_b : Fld Z h0 o "com/example/strict_audit/strictaudit/format/LineBuffer" "bytes" "[B" (.ref oa)) (F_l : Fld Z h0 o "com/example/strict_audit/strictaudit/format/LineBuffer" "length" "I" (.int pl)) (V_a : Arv Z h0 oa ka (.byte) pn (BL f) (.int (0 : Int32))) (g_o : n0 ≤ o) (ne_o_oa : o ≠ oa) (g_oa : n0 ≤ oa) (hl0 : 0 ≤ pl.toInt) (hl1 : pl.toInt + 1 ≤ pn.toInt) (hn1 : pn.toInt ≤ 65537) :
    MetFree l (⟨"com/example/strict_audit/strictaudit/format/LineBuffer", "append", "(B)V"⟩ : MethodName) (head1 (Jvm.Cond.code (⟨"com/example/strict_audit/strictaudit/format/LineBuffer", "append", "(B)V"⟩ : MethodName) prog_3_method_6_code 2 none :: ws) ({ frames := 1, cells := 0, slots := 0, locals := 15 } : Room)) (fun a_ U_ => a_ = #[(.ref o), (.int pv)] ∧ Z.Warmed39 U_.vm ∧ U_.heap = h0) (fun _ _ _ _ _ => True) (fun _ U_ o_ U_' => ∃ v_ L_, o_ = .returned v_ ∧ (Q_lbApp Z o pv oa ka pn f pl h0 n0) v_ U_'.heap L_ ∧ FrameEnd U_ o_ U_' L_ 0 0) := by
  refine ow_body (plainFor_of_name pn_0) ?_
  intro p e s m below meth c T0 X0 hx hZ hby hml hown hnm hret hlk e0
  have N0 := Fr.nil n0
  refine Ends.cast (ef_lbApp m o pv) ?_
  have r_pv := rng32 pv
  refine ow_aloadN X0 hx (hb hby d_prog_3m6_0) rfl rfl (pc' := 1) rfl ?_
  refine ow_iconst X0 hx (z := (1 : Int32)) (hb hby d_prog_3m6_1) rfl (pc' := 2) rfl ?_
  refine ow_callPr X0 hx hZ hown (hw _ (List.mem_of_getElem? (i := 53) rfl)) (hw _ (List.mem_of_getElem? (i := 55) rfl)) (hw _ (List.mem_of_getElem? (i := 1) rfl)) (hw _ (List.mem_of_getElem? (i := 54) rfl)) (hw _ (List.mem_of_getElem? (i := 2) rfl)) (hw _ (List.mem_of_getElem? (i := 56) rfl)) (by decide) (rm_mr0 l Z a0 hw [] o (1 : Int32) oa ka pn f pl h0 F_b F_l V_a (by first | assumption | decide | omega | (have q0_ : (1 : Int32).toInt = 1 := (by decide); omega)) (by first | assumption | decide | omega | (have q0_ : (1 : Int32).toInt = 1 := (by decide); omega)) (by first | assumption | decide | omega | (have q0_ : (1 : Int32).toInt = 1 := (by decide); omega)) (by first | assumption | decide | omega | (have q0_ : (1 : Int32).toInt = 1 := (by decide); omega))) e0 0 (by decide) (by decide) (by decide) (by decide) [(.int (1 : Int32))] (by rw [hml]; rfl) pd_3 rfl E_o rfl rfl (Nat.le_of_eq rfl) (hb hby d_prog_3m6_2) (pc' := 5) rfl (fun v1 T1 L1 hQ1 X1 => ?_)
  obtain ⟨rfl, rfl, e1⟩ := hQ1
  rw [List.append_nil] at X1
  show Ends _ _ _ _ T1 (mkF m 5 #[.val (.ref o), .val (.int pv)] [])
  refine ow_aloadN X1 hx (hb hby d_prog_3m6_5) rfl rfl (pc' := 6) rfl ?_
  refine ow_getF X1 hx hZ hown (host := "") (Or.inl (hw _ (List.mem_of_getElem? (i := 10) rfl))) Via.refl e1 F_b (hb hby d_prog_3m6_6) (pc' := 9) rfl (fun T2 X2 e2 => ?_)
  refine ow_aloadN X2 hx (hb hby d_prog_3m6_9) rfl rfl (pc' := 10) rfl ?_
  refine ow_dup X2 hx (hb hby d_prog_3m6_10) rfl (pc' := 11) rfl ?_
  refine ow_getF X2 hx hZ hown (host := "") (Or.inl (hw _ (List.mem_of_getElem? (i := 24) rfl))) Via.refl e2 F_l (hb hby d_prog_3m6_11) (pc' := 14) rfl (fun T3 X3 e3 => ?_)
  refine ow_dupX1 X3 hx (hb hby d_prog_3m6_14) rfl rfl (pc' := 15) rfl ?_
  refine ow_iconst X3 hx (z := (1 : Int32)) (hb hby d_prog_3m6_15) rfl (pc' := 16) rfl ?_
  refine ow_iadd X3 hx (hb hby d_prog_3m6_16) (pc' := 17) rfl (fun z4 hz4 => ?_)
  have az4 : (z4.toInt - (pl.toInt + (1 : Int))) % 4294967296 = 0 := by rw [hz4]; exact c_iadd pl (1 : Int32)
  have rz4 := rng32 z4
  refine ow_putF X3 hx hZ hown (host := "") (Or.inl (hw _ (List.mem_of_getElem? (i := 24) rfl))) Via.refl e3 F_l E_o (Or.inl (hw _ (List.mem_of_getElem? (i := 25) rfl))) (hw _ (List.mem_of_getElem? (i := 1) rfl)) (ty := .int) (by decide) rfl rfl (hb hby d_prog_3m6_17) (pc' := 20) rfl (fun T5 h5 X5 e5 W5 => ?_)
  have F_o_length_5 := F_l.same W5
  have E_o_5 := E_o.wr W5
  have F_o_bytes_5 := F_b.other W5 (Or.inr (slot_ne (Or.inl (hw _ (List.mem_of_getElem? (i := 11) rfl))) (Or.inl (hw _ (List.mem_of_getElem? (i := 25) rfl))) (by decide) (t := (.array .byte)) (t' := .int) (by decide) (by decide)))
  have V_oa_5 := V_a.other W5 (Ne.symm ne_o_oa)
  have Zs5 : n0 ≤ h5.size := Nat.le_trans Z0 (Keep.of_wr W5).1
  have K5 := (Keep.refl h0 [o, oa]).wr W5 (Or.inl (List.mem_of_getElem? (i := 0) rfl))
  have N5 := Fr.snoc X5 N0 g_o
  refine ow_iloadN X5 hx (hb hby d_prog_3m6_20) rfl (pc' := 21) rfl ?_
  refine ow_stB X5 hx hZ e5 V_oa_5 (pl.toNatClampNeg) rfl (ow_nlt (y := (0 : Int32)) (show ¬ pl.toInt < 0 from by omega)) (ow_lt (show pl.toInt < pn.toInt from by omega)) (by rw [BL_len]; show pl.toInt.toNat < 65537; omega) (hb hby d_prog_3m6_21) (pc' := 22) rfl (fun T6 h6 X6 e6 W6 V6 => ?_)
  have V_oa_6 : Arv Z h6 oa ka (.byte) pn (BL (upd f pl.toInt.toNat (pv.toInt8.toInt32))) (.int (0 : Int32)) := by rw [← (show (BL f).set pl.toNatClampNeg (.int (pv.toInt8.toInt32)) = BL (upd f pl.toInt.toNat (pv.toInt8.toInt32)) from BL_set _ _ _)]; exact V6
  have E_o_6 := E_o_5.wr W6
  have F_o_bytes_6 := F_o_bytes_5.other W6 (Or.inl ne_o_oa)
  have F_o_length_6 := F_o_length_5.other W6 (Or.inl ne_o_oa)
  have Zs6 : n0 ≤ h6.size := Nat.le_trans Zs5 (Keep.of_wr W6).1
  have K6 := K5.wr W6 (Or.inl (List.mem_of_getElem? (i := 1) rfl))
  have N6 := Fr.snoc X6 N5 g_oa
  exact ow_retV X6 hx hret hlk (hb hby d_prog_3m6_22) (by decide) (by decide) (show Q_lbApp Z o pv oa ka pn f pl h0 n0 _ T6.heap _ from by rw [e6]; exact ⟨z4, rfl, N6, K6, E_o_6, F_o_bytes_6, F_o_length_6, V_oa_6, (show z4.toInt = pl.toInt + 1 from by omega)⟩)
theorem d_jdk_52m21_0 : decode jdk_52_method_21_code 0 = .ok (.iconst 0, 1) := by decide +kernel
theorem d_jdk_52m21_1 : decode jdk_52_method_21_code 1 = .ok (.istore 5, 2) := by decide +kernel
theorem d_jdk_52m21_3 : decode jdk_52_method_21_code 3 = .ok (.iload 5, 2) := by decide +kernel
theorem d_jdk_52m21_5 : decode jdk_52_method_21_code 5 = .ok (.iload 4, 2) := by decide +kernel
theorem d_jdk_52m21_7 : decode jdk_52_method_21_code 7 = .ok (.if_icmp .ge 37, 3) := by decide +kernel
theorem d_jdk_52m21_10 : decode jdk_52_method_21_code 10 = .ok (.aload_n 0, 1) := by decide +kernel
theorem d_jdk_52m21_11 : decode jdk_52_method_21_code 11 = .ok (.iload_n 1, 1) := by decide +kernel
theorem d_jdk_52m21_12 : decode jdk_52_method_21_code 12 = .ok (.caload, 1) := by decide +kernel
theorem d_jdk_52m21_13 : decode jdk_52_method_21_code 13 = .ok (.istore 6, 2) := by decide +kernel
theorem d_jdk_52m21_15 : decode jdk_52_method_21_code 15 = .ok (.iload 6, 2) := by decide +kernel
theorem d_jdk_52m21_17 : decode jdk_52_method_21_code 17 = .ok (.sipush 255, 3) := by decide +kernel
theorem d_jdk_52m21_20 : decode jdk_52_method_21_code 20 = .ok (.if_icmp .le 6, 3) := by decide +kernel
theorem d_jdk_52m21_26 : decode jdk_52_method_21_code 26 = .ok (.aload_n 2, 1) := by decide +kernel
theorem d_jdk_52m21_27 : decode jdk_52_method_21_code 27 = .ok (.iload_n 3, 1) := by decide +kernel
theorem d_jdk_52m21_28 : decode jdk_52_method_21_code 28 = .ok (.iload 6, 2) := by decide +kernel
theorem d_jdk_52m21_30 : decode jdk_52_method_21_code 30 = .ok (.i2b, 1) := by decide +kernel
theorem d_jdk_52m21_31 : decode jdk_52_method_21_code 31 = .ok (.bastore, 1) := by decide +kernel
theorem d_jdk_52m21_32 : decode jdk_52_method_21_code 32 = .ok (.iinc 1 1, 3) := by decide +kernel
theorem d_jdk_52m21_35 : decode jdk_52_method_21_code 35 = .ok (.iinc 3 1, 3) := by decide +kernel
theorem d_jdk_52m21_38 : decode jdk_52_method_21_code 38 = .ok (.iinc 5 1, 3) := by decide +kernel
theorem d_jdk_52m21_41 : decode jdk_52_method_21_code 41 = .ok (.goto (-38), 3) := by decide +kernel
theorem d_jdk_52m21_44 : decode jdk_52_method_21_code 44 = .ok (.iload 4, 2) := by decide +kernel
theorem d_jdk_52m21_46 : decode jdk_52_method_21_code 46 = .ok (.ireturn, 1) := by decide +kernel
theorem ef_cmp5 (m : MethodId) (x0 : Addr) (x1 : Int32) (x2 : Addr) (x3 : Int32) (x4 : Int32) : entryFrame m #[(.ref x0), (.int x1), (.ref x2), (.int x3), (.int x4)] 7 = mkF m 0 #[.val (.ref x0), .val (.int x1), .val (.ref x2), .val (.int x3), .val (.int x4), .unset, .unset] [] := by first | (simp [entryFrame, mkF, argsToLocals, Value.category]; done) | rfl
def Q_cmp5 (Z : State) (oc : Addr) (ps : Int32) (od : Addr) (pd : Int32) (pn : Int32) (kc : ClassId) (f : Nat → Int32) (kd : ClassId) (g : Nat → Int32) (h0 : Heap) (n0 : Nat) (v : Option Value) (h : Heap) (L : List Loc) : Prop := ∃ (fr : Nat → Int32), (v = some (.int pn)) ∧ (Fr n0 L) ∧ (Keep h0 h [od]) ∧ (Arv Z h od kd (.byte) pn (BL fr) (.int (0 : Int32)))
theorem pn_2 : plainName "java/lang/StringUTF16" = true := by first | (simp [plainName, overriddenIn]; done) | decide +kernel
set_option maxRecDepth 65536 in
set_option maxHeartbeats 40000000 in
theorem rm_cmp5 (l : Launch) (Z : State) (a0 : Array Value) (hw : ∀ d ∈ tables_1, d.before a0 Z = true) (ws : List Jvm.Cond) (oc : Addr) (ps : Int32) (od : Addr) (pd : Int32) (pn : Int32) (kc : ClassId) (f : Nat → Int32) (kd : ClassId) (g : Nat → Int32) (h0 : Heap) (n0 : Nat) (Z0 : n0 ≤ h0.size) (V_c : Arv Z h0 oc kc (.char) pn (BL f) (.int (0 : Int32))) (V_d : Arv Z h0 od kd (.byte) pn (BL g) (.int (0 : Int32))) (g_od : n0 ≤ od) (ne_oc_od : oc ≠ od) (hps : ps.toInt = 0) (hpd : pd.toInt = 0) (hn0 : 0 ≤ pn.toInt) (hn1 : pn.toInt ≤ 65537) (hf : ∀ i : Nat, 0 ≤ (f i).toInt ∧ (f i).toInt ≤ 255) :
    MetFree l (⟨"java/lang/StringUTF16", "compress", "([CI[BII)I"⟩ : MethodName) (head1 (Jvm.Cond.code (⟨"java/lang/StringUTF16", "compress", "([CI[BII)I"⟩ : MethodName) jdk_52_method_21_code 7 (some .int) :: ws) ({ frames := 0, cells := 0, slots := 0, locals := 0 } : Room)) (fun a_ U_ => a_ = #[(.ref oc), (.int ps), (.ref od), (.int pd), (.int pn)] ∧ Z.Warmed39 U_.vm ∧ U_.heap = h0) (fun _ _ _ _ _ => True) (fun _ U_ o_ U_' => ∃ v_ L_, o_ = .returned v_ ∧ (Q_cmp5 Z oc ps od pd pn kc f kd g h0 n0) v_ U_'.heap L_ ∧ FrameEnd U_ o_ U_' L_ 0 0) := by
  refine ow_body (plainFor_of_name pn_2) ?_
  intro p e s m below meth c T0 X0 hx hZ hby hml hown hnm hret hlk e0
  have N0 := Fr.nil n0
  refine Ends.cast (ef_cmp5 m oc ps od pd pn) ?_
  have r_ps := rng32 ps
  have r_pd := rng32 pd
  have r_pn := rng32 pn
  refine ow_iconst X0 hx (z := (0 : Int32)) (hb hby d_jdk_52m21_0) rfl (pc' := 1) rfl ?_
  refine ow_istore X0 hx (Ls' := #[.val (.ref oc), .val (.int ps), .val (.ref od), .val (.int pd), .val (.int pn), .val (.int (0 : Int32)), .unset]) (hb hby d_jdk_52m21_1) rfl (pc' := 3) rfl ?_
  have J3 : ∀ (n : Nat) (iv : Int32) (iw : Int32) (ik : Int32) (s6 : Slot) (fj : Nat → Int32) (T1 : State) (hj3 : Heap) (lc3 : List Loc), Stand p l e ({ frames := 0, cells := 0, slots := 0, locals := 0 } : Room) s m #[(.ref oc), (.int ps), (.ref od), (.int pd), (.int pn)] below meth c T1 lc3 0 0 → T1.heap = hj3 → Fr n0 lc3 → (Arv Z hj3 oc kc (.char) pn (BL f) (.int (0 : Int32))) → (Arv Z hj3 od kd (.byte) pn (BL fj) (.int (0 : Int32))) → (Keep h0 hj3 [od]) → (n0 ≤ hj3.size) → (iv.toInt = ik.toInt ∧ iw.toInt = ik.toInt ∧ 0 ≤ ik.toInt ∧ ik.toInt ≤ pn.toInt ∧ ((s6 : Slot) = .unset ∨ ∃ x : Int32, (s6 : Slot) = .val (.int x))) → (pn.toInt - ik.toInt) = (n : Int) → Ends p e below (Out s 0 0 (Q_cmp5 Z oc ps od pd pn kc f kd g h0 n0)) T1 (mkF m 3 #[.val (.ref oc), .val (.int iv), .val (.ref od), .val (.int iw), .val (.int pn), .val (.int ik), s6] []) := by
    intro n
    induction n using Nat.strongRecOn with
    | _ n ih =>
      intro iv iw ik s6 fj T1 hj3 lc3 X1 e1 Nj3 Hf3_0 Hf3_1 HK3 HZ3 hi3 hm3
      have r_iv := rng32 iv
      have r_iw := rng32 iw
      have r_ik := rng32 ik
      refine ow_iload X1 hx (hb hby d_jdk_52m21_3) rfl (pc' := 5) rfl ?_
      refine ow_iload X1 hx (hb hby d_jdk_52m21_5) rfl (pc' := 7) rfl ?_
      refine ow_icmp_ge X1 hx (ik.toInt) (pn.toInt) (hb hby d_jdk_52m21_7) rfl rfl (by decide) (pt := 44) (by decide) (pf := 10) rfl (fun c7 => ?_) (fun c7 => ?_)
      · refine ow_iload X1 hx (hb hby d_jdk_52m21_44) rfl (pc' := 46) rfl ?_
        exact ow_retI X1 hx hret hlk (hb hby d_jdk_52m21_46) (by decide) (by decide) (show Q_cmp5 Z oc ps od pd pn kc f kd g h0 n0 _ T1.heap _ from by rw [e1]; exact ⟨fj, rfl, Nj3, HK3, Hf3_1⟩)
      · refine ow_aloadN X1 hx (hb hby d_jdk_52m21_10) rfl rfl (pc' := 11) rfl ?_
        refine ow_iloadN X1 hx (hb hby d_jdk_52m21_11) rfl (pc' := 12) rfl ?_
        have hf2 := hf iv.toInt.toNat
        obtain ⟨x2, hx2⟩ : ∃ x : Int32, x = f iv.toInt.toNat := ⟨_, rfl⟩
        rw [← hx2] at hf2
        refine ow_ldC X1 hx hZ e1 Hf3_0 (ow_nlt (y := (0 : Int32)) (show ¬ iv.toInt < 0 from by omega)) (ow_lt (show iv.toInt < pn.toInt from by omega)) (show (BL f).getD iv.toNatClampNeg (.int (0 : Int32)) = .int x2 from by rw [hx2]; exact BL_get _ _ (show iv.toInt.toNat < 65537 by omega) _) (hb hby d_jdk_52m21_12) (pc' := 13) rfl ?_
        rcases hi3.2.2.2.2 with hs6 | ⟨w6, hs6⟩ <;> subst hs6
        · refine ow_istore X1 hx (Ls' := #[.val (.ref oc), .val (.int iv), .val (.ref od), .val (.int iw), .val (.int pn), .val (.int ik), .val (.int x2)]) (hb hby d_jdk_52m21_13) rfl (pc' := 15) rfl ?_
          refine ow_iload X1 hx (hb hby d_jdk_52m21_15) rfl (pc' := 17) rfl ?_
          refine ow_sipush X1 hx (z := (255 : Int32)) (hb hby d_jdk_52m21_17) rfl (pc' := 20) rfl ?_
          refine ow_icmp_le X1 hx (x2.toInt) ((255 : Int)) (hb hby d_jdk_52m21_20) rfl rfl (by decide) (pt := 26) (by decide) (pf := 23) rfl (fun c20 => ?_) (fun c20 => absurd c20 (by omega))
          refine ow_aloadN X1 hx (hb hby d_jdk_52m21_26) rfl rfl (pc' := 27) rfl ?_
          refine ow_iloadN X1 hx (hb hby d_jdk_52m21_27) rfl (pc' := 28) rfl ?_
          refine ow_iload X1 hx (hb hby d_jdk_52m21_28) rfl (pc' := 30) rfl ?_
          refine ow_i2b X1 hx (hb hby d_jdk_52m21_30) (pc' := 31) rfl (fun z3 hz3 => ?_)
          have az3 : (z3.toInt - x2.toInt) % 256 = 0 ∧ -128 ≤ z3.toInt ∧ z3.toInt < 128 := by rw [hz3]; exact c_i2b x2
          have rz3 := rng32 z3
          refine ow_stB X1 hx hZ e1 Hf3_1 (iw.toNatClampNeg) rfl (ow_nlt (y := (0 : Int32)) (show ¬ iw.toInt < 0 from by omega)) (ow_lt (show iw.toInt < pn.toInt from by omega)) (by rw [BL_len]; show iw.toInt.toNat < 65537; omega) (hb hby d_jdk_52m21_31) (pc' := 32) rfl (fun T4 h4 X4 e4 W4 V4 => ?_)
          have V_od_4 : Arv Z h4 od kd (.byte) pn (BL (upd fj iw.toInt.toNat (z3.toInt8.toInt32))) (.int (0 : Int32)) := by rw [← (show (BL fj).set iw.toNatClampNeg (.int (z3.toInt8.toInt32)) = BL (upd fj iw.toInt.toNat (z3.toInt8.toInt32)) from BL_set _ _ _)]; exact V4
          have V_oc_4 := Hf3_0.other W4 ne_oc_od
          have Zs4 : n0 ≤ h4.size := Nat.le_trans HZ3 (Keep.of_wr W4).1
          have K4 := HK3.wr W4 (Or.inl (List.mem_of_getElem? (i := 0) rfl))
          have N4 := Fr.snoc X4 Nj3 g_od
          refine ow_iinc X4 hx (Ls' := #[.val (.ref oc), .val (.int iv), .val (.ref od), .val (.int iw), .val (.int pn), .val (.int ik), .val (.int x2)]) (hb hby d_jdk_52m21_32) rfl (fun z => rfl) (pc' := 35) rfl (fun z5 hz5 => ?_)
          show Ends _ _ _ _ T4 (mkF m 35 #[.val (.ref oc), .val (.int z5), .val (.ref od), .val (.int iw), .val (.int pn), .val (.int ik), .val (.int x2)] [])
          have az5 : (z5.toInt - (iv.toInt + 1)) % 4294967296 = 0 := by rw [hz5]; exact c_iadd iv (1 : Int32)
          have rz5 := rng32 z5
          refine ow_iinc X4 hx (Ls' := #[.val (.ref oc), .val (.int z5), .val (.ref od), .val (.int iw), .val (.int pn), .val (.int ik), .val (.int x2)]) (hb hby d_jdk_52m21_35) rfl (fun z => rfl) (pc' := 38) rfl (fun z6 hz6 => ?_)
          show Ends _ _ _ _ T4 (mkF m 38 #[.val (.ref oc), .val (.int z5), .val (.ref od), .val (.int z6), .val (.int pn), .val (.int ik), .val (.int x2)] [])
          have az6 : (z6.toInt - (iw.toInt + 1)) % 4294967296 = 0 := by rw [hz6]; exact c_iadd iw (1 : Int32)
          have rz6 := rng32 z6
          refine ow_iinc X4 hx (Ls' := #[.val (.ref oc), .val (.int z5), .val (.ref od), .val (.int z6), .val (.int pn), .val (.int ik), .val (.int x2)]) (hb hby d_jdk_52m21_38) rfl (fun z => rfl) (pc' := 41) rfl (fun z7 hz7 => ?_)
          show Ends _ _ _ _ T4 (mkF m 41 #[.val (.ref oc), .val (.int z5), .val (.ref od), .val (.int z6), .val (.int pn), .val (.int z7), .val (.int x2)] [])
          have az7 : (z7.toInt - (ik.toInt + 1)) % 4294967296 = 0 := by rw [hz7]; exact c_iadd ik (1 : Int32)
          have rz7 := rng32 z7
          refine ow_goto X4 hx (hb hby d_jdk_52m21_41) (by decide) (pc' := 3) (by decide) ?_
          exact ih (pn.toInt - z7.toInt).toNat (by omega) z5 z6 z7 (.val (.int x2)) (upd fj iw.toInt.toNat (z3.toInt8.toInt32)) T4 h4 _ X4 e4 N4 (show Arv Z h4 oc kc (.char) pn (BL f) (.int (0 : Int32)) from V_oc_4) (show Arv Z h4 od kd (.byte) pn (BL (upd fj iw.toInt.toNat (z3.toInt8.toInt32))) (.int (0 : Int32)) from V_od_4) K4 Zs4 (show z5.toInt = z7.toInt ∧ z6.toInt = z7.toInt ∧ 0 ≤ z7.toInt ∧ z7.toInt ≤ pn.toInt ∧ (((.val (.int x2)) : Slot) = .unset ∨ ∃ x : Int32, ((.val (.int x2)) : Slot) = .val (.int x)) from by exact ⟨by omega, by omega, by omega, by omega, Or.inr ⟨_, rfl⟩⟩) (show (pn.toInt - z7.toInt) = (((pn.toInt - z7.toInt).toNat : Nat) : Int) from by omega)
        · refine ow_istore X1 hx (Ls' := #[.val (.ref oc), .val (.int iv), .val (.ref od), .val (.int iw), .val (.int pn), .val (.int ik), .val (.int x2)]) (hb hby d_jdk_52m21_13) rfl (pc' := 15) rfl ?_
          refine ow_iload X1 hx (hb hby d_jdk_52m21_15) rfl (pc' := 17) rfl ?_
          refine ow_sipush X1 hx (z := (255 : Int32)) (hb hby d_jdk_52m21_17) rfl (pc' := 20) rfl ?_
          refine ow_icmp_le X1 hx (x2.toInt) ((255 : Int)) (hb hby d_jdk_52m21_20) rfl rfl (by decide) (pt := 26) (by decide) (pf := 23) rfl (fun c20 => ?_) (fun c20 => absurd c20 (by omega))
          refine ow_aloadN X1 hx (hb hby d_jdk_52m21_26) rfl rfl (pc' := 27) rfl ?_
          refine ow_iloadN X1 hx (hb hby d_jdk_52m21_27) rfl (pc' := 28) rfl ?_
          refine ow_iload X1 hx (hb hby d_jdk_52m21_28) rfl (pc' := 30) rfl ?_
          refine ow_i2b X1 hx (hb hby d_jdk_52m21_30) (pc' := 31) rfl (fun z8 hz8 => ?_)
          have az8 : (z8.toInt - x2.toInt) % 256 = 0 ∧ -128 ≤ z8.toInt ∧ z8.toInt < 128 := by rw [hz8]; exact c_i2b x2
          have rz8 := rng32 z8
          refine ow_stB X1 hx hZ e1 Hf3_1 (iw.toNatClampNeg) rfl (ow_nlt (y := (0 : Int32)) (show ¬ iw.toInt < 0 from by omega)) (ow_lt (show iw.toInt < pn.toInt from by omega)) (by rw [BL_len]; show iw.toInt.toNat < 65537; omega) (hb hby d_jdk_52m21_31) (pc' := 32) rfl (fun T9 h9 X9 e9 W9 V9 => ?_)
          have V_od_9 : Arv Z h9 od kd (.byte) pn (BL (upd fj iw.toInt.toNat (z8.toInt8.toInt32))) (.int (0 : Int32)) := by rw [← (show (BL fj).set iw.toNatClampNeg (.int (z8.toInt8.toInt32)) = BL (upd fj iw.toInt.toNat (z8.toInt8.toInt32)) from BL_set _ _ _)]; exact V9
          have V_oc_9 := Hf3_0.other W9 ne_oc_od
          have Zs9 : n0 ≤ h9.size := Nat.le_trans HZ3 (Keep.of_wr W9).1
          have K9 := HK3.wr W9 (Or.inl (List.mem_of_getElem? (i := 0) rfl))
          have N9 := Fr.snoc X9 Nj3 g_od
          refine ow_iinc X9 hx (Ls' := #[.val (.ref oc), .val (.int iv), .val (.ref od), .val (.int iw), .val (.int pn), .val (.int ik), .val (.int x2)]) (hb hby d_jdk_52m21_32) rfl (fun z => rfl) (pc' := 35) rfl (fun z10 hz10 => ?_)
          show Ends _ _ _ _ T9 (mkF m 35 #[.val (.ref oc), .val (.int z10), .val (.ref od), .val (.int iw), .val (.int pn), .val (.int ik), .val (.int x2)] [])
          have az10 : (z10.toInt - (iv.toInt + 1)) % 4294967296 = 0 := by rw [hz10]; exact c_iadd iv (1 : Int32)
          have rz10 := rng32 z10
          refine ow_iinc X9 hx (Ls' := #[.val (.ref oc), .val (.int z10), .val (.ref od), .val (.int iw), .val (.int pn), .val (.int ik), .val (.int x2)]) (hb hby d_jdk_52m21_35) rfl (fun z => rfl) (pc' := 38) rfl (fun z11 hz11 => ?_)
          show Ends _ _ _ _ T9 (mkF m 38 #[.val (.ref oc), .val (.int z10), .val (.ref od), .val (.int z11), .val (.int pn), .val (.int ik), .val (.int x2)] [])
          have az11 : (z11.toInt - (iw.toInt + 1)) % 4294967296 = 0 := by rw [hz11]; exact c_iadd iw (1 : Int32)
          have rz11 := rng32 z11
          refine ow_iinc X9 hx (Ls' := #[.val (.ref oc), .val (.int z10), .val (.ref od), .val (.int z11), .val (.int pn), .val (.int ik), .val (.int x2)]) (hb hby d_jdk_52m21_38) rfl (fun z => rfl) (pc' := 41) rfl (fun z12 hz12 => ?_)
          show Ends _ _ _ _ T9 (mkF m 41 #[.val (.ref oc), .val (.int z10), .val (.ref od), .val (.int z11), .val (.int pn), .val (.int z12), .val (.int x2)] [])
          have az12 : (z12.toInt - (ik.toInt + 1)) % 4294967296 = 0 := by rw [hz12]; exact c_iadd ik (1 : Int32)
          have rz12 := rng32 z12
          refine ow_goto X9 hx (hb hby d_jdk_52m21_41) (by decide) (pc' := 3) (by decide) ?_
          exact ih (pn.toInt - z12.toInt).toNat (by omega) z10 z11 z12 (.val (.int x2)) (upd fj iw.toInt.toNat (z8.toInt8.toInt32)) T9 h9 _ X9 e9 N9 (show Arv Z h9 oc kc (.char) pn (BL f) (.int (0 : Int32)) from V_oc_9) (show Arv Z h9 od kd (.byte) pn (BL (upd fj iw.toInt.toNat (z8.toInt8.toInt32))) (.int (0 : Int32)) from V_od_9) K9 Zs9 (show z10.toInt = z12.toInt ∧ z11.toInt = z12.toInt ∧ 0 ≤ z12.toInt ∧ z12.toInt ≤ pn.toInt ∧ (((.val (.int x2)) : Slot) = .unset ∨ ∃ x : Int32, ((.val (.int x2)) : Slot) = .val (.int x)) from by exact ⟨by omega, by omega, by omega, by omega, Or.inr ⟨_, rfl⟩⟩) (show (pn.toInt - z12.toInt) = (((pn.toInt - z12.toInt).toNat : Nat) : Int) from by omega)
  exact J3 (pn.toInt - (0 : Int)).toNat ps pd (0 : Int32) (.unset) g T0 h0 _ X0 e0 N0 (show Arv Z h0 oc kc (.char) pn (BL f) (.int (0 : Int32)) from V_c) (show Arv Z h0 od kd (.byte) pn (BL g) (.int (0 : Int32)) from V_d) (Keep.refl h0 [od]) Z0 (show ps.toInt = (0 : Int) ∧ pd.toInt = (0 : Int) ∧ 0 ≤ (0 : Int) ∧ (0 : Int) ≤ pn.toInt ∧ (((.unset) : Slot) = .unset ∨ ∃ x : Int32, ((.unset) : Slot) = .val (.int x)) from by exact ⟨by omega, by omega, by omega, by omega, Or.inl rfl⟩) (show (pn.toInt - (0 : Int)) = (((pn.toInt - (0 : Int)).toNat : Nat) : Int) from by omega)
theorem pd_4 : parseMethodDescriptor "([CI[BII)I" = some ⟨[(.array .char), .int, (.array .byte), .int, .int], some .int⟩ := by decide +kernel
theorem d_jdk_52m16_0 : decode jdk_52_method_16_code 0 = .ok (.iload_n 2, 1) := by decide +kernel
theorem d_jdk_52m16_1 : decode jdk_52_method_16_code 1 = .ok (.newarray .byte, 2) := by decide +kernel
theorem d_jdk_52m16_3 : decode jdk_52_method_16_code 3 = .ok (.astore_n 3, 1) := by decide +kernel
theorem d_jdk_52m16_4 : decode jdk_52_method_16_code 4 = .ok (.aload_n 0, 1) := by decide +kernel
theorem d_jdk_52m16_5 : decode jdk_52_method_16_code 5 = .ok (.iload_n 1, 1) := by decide +kernel
theorem d_jdk_52m16_6 : decode jdk_52_method_16_code 6 = .ok (.aload_n 3, 1) := by decide +kernel
theorem d_jdk_52m16_7 : decode jdk_52_method_16_code 7 = .ok (.iconst 0, 1) := by decide +kernel
theorem d_jdk_52m16_8 : decode jdk_52_method_16_code 8 = .ok (.iload_n 2, 1) := by decide +kernel
theorem d_jdk_52m16_9 : decode jdk_52_method_16_code 9 = .ok (.invokestatic 115, 3) := by decide +kernel
theorem d_jdk_52m16_12 : decode jdk_52_method_16_code 12 = .ok (.istore 4, 2) := by decide +kernel
theorem d_jdk_52m16_14 : decode jdk_52_method_16_code 14 = .ok (.iload 4, 2) := by decide +kernel
theorem d_jdk_52m16_16 : decode jdk_52_method_16_code 16 = .ok (.iload_n 2, 1) := by decide +kernel
theorem d_jdk_52m16_17 : decode jdk_52_method_16_code 17 = .ok (.if_icmp .eq 40, 3) := by decide +kernel
theorem d_jdk_52m16_57 : decode jdk_52_method_16_code 57 = .ok (.aload_n 3, 1) := by decide +kernel
theorem d_jdk_52m16_58 : decode jdk_52_method_16_code 58 = .ok (.areturn, 1) := by decide +kernel
theorem ef_cmp3 (m : MethodId) (x0 : Addr) (x1 : Int32) (x2 : Int32) : entryFrame m #[(.ref x0), (.int x1), (.int x2)] 6 = mkF m 0 #[.val (.ref x0), .val (.int x1), .val (.int x2), .unset, .unset, .unset] [] := by first | (simp [entryFrame, mkF, argsToLocals, Value.category]; done) | rfl
def Q_cmp3 (Z : State) (oc : Addr) (ps : Int32) (pn : Int32) (kc : ClassId) (f : Nat → Int32) (h0 : Heap) (n0 : Nat) (v : Option Value) (h : Heap) (L : List Loc) : Prop := ∃ (ot : Addr), ∃ (kt : ClassId), ∃ (fr : Nat → Int32), (v = some (.ref ot)) ∧ (Fr n0 L) ∧ (Keep h0 h []) ∧ (Arv Z h ot kt (.byte) pn (BL fr) (.int (0 : Int32))) ∧ (n0 ≤ ot) ∧ (h0.size ≤ ot)
set_option maxRecDepth 65536 in
set_option maxHeartbeats 40000000 in
theorem rm_cmp3 (l : Launch) (Z : State) (a0 : Array Value) (hw : ∀ d ∈ tables_1, d.before a0 Z = true) (ws : List Jvm.Cond) (oc : Addr) (ps : Int32) (pn : Int32) (kc : ClassId) (f : Nat → Int32) (h0 : Heap) (n0 : Nat) (Z0 : n0 ≤ h0.size) (V_c : Arv Z h0 oc kc (.char) pn (BL f) (.int (0 : Int32))) (hps : ps.toInt = 0) (hn0 : 1 ≤ pn.toInt) (hn1 : pn.toInt ≤ 65537) (hf : ∀ i : Nat, 0 ≤ (f i).toInt ∧ (f i).toInt ≤ 255) :
    MetFree l (⟨"java/lang/StringUTF16", "compress", "([CII)[B"⟩ : MethodName) (head1 (Jvm.Cond.code (⟨"java/lang/StringUTF16", "compress", "([CII)[B"⟩ : MethodName) jdk_52_method_16_code 6 (some (.array .byte)) :: ws) ({ frames := 1, cells := 1, slots := 65537, locals := 18 } : Room)) (fun a_ U_ => a_ = #[(.ref oc), (.int ps), (.int pn)] ∧ Z.Warmed39 U_.vm ∧ U_.heap = h0) (fun _ _ _ _ _ => True) (fun _ U_ o_ U_' => ∃ v_ L_, o_ = .returned v_ ∧ (Q_cmp3 Z oc ps pn kc f h0 n0) v_ U_'.heap L_ ∧ FrameEnd U_ o_ U_' L_ 1 65537) := by
  refine ow_body (plainFor_of_name pn_2) ?_
  intro p e s m below meth c T0 X0 hx hZ hby hml hown hnm hret hlk e0
  have N0 := Fr.nil n0
  refine Ends.cast (ef_cmp3 m oc ps pn) ?_
  have r_ps := rng32 ps
  have r_pn := rng32 pn
  refine ow_iloadN X0 hx (hb hby d_jdk_52m16_0) rfl (pc' := 1) rfl ?_
  refine ow_newP X0 hx hZ (hw _ (List.mem_of_getElem? (i := 9) rfl)) e0 (hb hby d_jdk_52m16_1) (ow_nlt (y := (0 : Int32)) (show ¬ pn.toInt < 0 from by omega)) 65537 (show pn.toInt.toNat ≤ 65537 from by omega) (by decide) (by decide) (by decide) (pc' := 3) rfl (fun T1 h1 b1 k1 g1 X1 e1 E1 V1 => ?_)
  have ne_oc_b1 : oc ≠ b1 := Nat.ne_of_lt (Nat.lt_of_lt_of_le V_c.lt (Nat.le_of_eq g1.symm))
  have g_b1 : n0 ≤ b1 := Nat.le_trans Z0 (Nat.le_of_eq g1.symm)
  have sz_b1 : h0.size ≤ b1 := Nat.le_trans (Keep.refl h0 []).1 (Nat.le_of_eq g1.symm)
  have V_oc_1 := V_c.ext E1
  have Zs1 : n0 ≤ h1.size := Nat.le_trans Z0 E1.1
  have K1 := (Keep.refl h0 []).ext E1
  have V_b1 : Arv Z h1 b1 k1 .byte pn (BL (fun _ => 0)) (.int (0 : Int32)) := V1.pad BL_zero
  refine ow_astoreN X1 hx (Ls' := #[.val (.ref oc), .val (.int ps), .val (.int pn), .val (.ref b1), .unset, .unset]) (hb hby d_jdk_52m16_3) rfl rfl (pc' := 4) rfl ?_
  refine ow_aloadN X1 hx (hb hby d_jdk_52m16_4) rfl rfl (pc' := 5) rfl ?_
  refine ow_iloadN X1 hx (hb hby d_jdk_52m16_5) rfl (pc' := 6) rfl ?_
  refine ow_aloadN X1 hx (hb hby d_jdk_52m16_6) rfl rfl (pc' := 7) rfl ?_
  refine ow_iconst X1 hx (z := (0 : Int32)) (hb hby d_jdk_52m16_7) rfl (pc' := 8) rfl ?_
  refine ow_iloadN X1 hx (hb hby d_jdk_52m16_8) rfl (pc' := 9) rfl ?_
  refine ow_callS X1 hx hZ hown (hw _ (List.mem_of_getElem? (i := 74) rfl)) (hw _ (List.mem_of_getElem? (i := 75) rfl)) (hw _ (List.mem_of_getElem? (i := 72) rfl)) (hw _ (List.mem_of_getElem? (i := 76) rfl)) (by decide) (rm_cmp5 l Z a0 hw [] oc ps b1 (0 : Int32) pn kc f k1 (fun _ => 0) h1 n0 Zs1 V_oc_1 V_b1 g_b1 ne_oc_b1 (by first | assumption | decide | omega | (have q0_ : (0 : Int32).toInt = 0 := (by decide); omega)) (by first | assumption | decide | omega | (have q0_ : (0 : Int32).toInt = 0 := (by decide); omega)) (by first | assumption | decide | omega | (have q0_ : (0 : Int32).toInt = 0 := (by decide); omega)) (by first | assumption | decide | omega | (have q0_ : (0 : Int32).toInt = 0 := (by decide); omega)) (by first | assumption | decide | omega | (have q0_ : (0 : Int32).toInt = 0 := (by decide); omega))) e1 0 (by decide) (by decide) (by decide) (by decide) [(.ref oc), (.int ps), (.ref b1), (.int (0 : Int32)), (.int pn)] (by rw [hml]; rfl) pd_4 rfl rfl rfl (Nat.le_of_eq rfl) (hb hby d_jdk_52m16_9) (pc' := 12) rfl (fun v2 T2 L2 hQ2 X2 => ?_)
  obtain ⟨fr_2, rfl, Nc2, Kc2, P2_0⟩ := hQ2
  have V_oc_2 := V_oc_1.keep Kc2 (ninS ne_oc_b1 nin0)
  have Zs2 : n0 ≤ T2.heap.size := Nat.le_trans Zs1 Kc2.1
  have K2 := K1.trans Kc2 (allS (Or.inr sz_b1) all0)
  have N2 := Fr.app N0 Nc2
  show Ends _ _ _ _ T2 (mkF m 12 #[.val (.ref oc), .val (.int ps), .val (.int pn), .val (.ref b1), .unset, .unset] [(.int pn)])
  refine ow_istore X2 hx (Ls' := #[.val (.ref oc), .val (.int ps), .val (.int pn), .val (.ref b1), .val (.int pn), .unset]) (hb hby d_jdk_52m16_12) rfl (pc' := 14) rfl ?_
  refine ow_iload X2 hx (hb hby d_jdk_52m16_14) rfl (pc' := 16) rfl ?_
  refine ow_iloadN X2 hx (hb hby d_jdk_52m16_16) rfl (pc' := 17) rfl ?_
  refine ow_icmp_eq X2 hx (pn.toInt) (pn.toInt) (hb hby d_jdk_52m16_17) rfl rfl (by decide) (pt := 57) (by decide) (pf := 20) rfl (fun c17 => ?_) (fun c17 => absurd c17 (by omega))
  refine ow_aloadN X2 hx (hb hby d_jdk_52m16_57) rfl rfl (pc' := 58) rfl ?_
  exact ow_retA X2 hx hret hlk rfl rfl (hb hby d_jdk_52m16_58) (by decide) (by decide) (show Q_cmp3 Z oc ps pn kc f h0 n0 _ T2.heap _ from ⟨b1, k1, fr_2, rfl, N2, K2, P2_0, g_b1, sz_b1⟩)
theorem d_jdk_52m15_0 : decode jdk_52_method_15_code 0 = .ok (.iload_n 1, 1) := by decide +kernel
theorem d_jdk_52m15_1 : decode jdk_52_method_15_code 1 = .ok (.aload_n 0, 1) := by decide +kernel
theorem d_jdk_52m15_2 : decode jdk_52_method_15_code 2 = .ok (.arraylength, 1) := by decide +kernel
theorem d_jdk_52m15_3 : decode jdk_52_method_15_code 3 = .ok (.isub, 1) := by decide +kernel
theorem d_jdk_52m15_4 : decode jdk_52_method_15_code 4 = .ok (.bipush 31, 2) := by decide +kernel
theorem d_jdk_52m15_6 : decode jdk_52_method_15_code 6 = .ok (.iushr, 1) := by decide +kernel
theorem d_jdk_52m15_7 : decode jdk_52_method_15_code 7 = .ok (.i2b, 1) := by decide +kernel
theorem d_jdk_52m15_8 : decode jdk_52_method_15_code 8 = .ok (.ireturn, 1) := by decide +kernel
theorem ef_cfal (m : MethodId) (x0 : Addr) (x1 : Int32) : entryFrame m #[(.ref x0), (.int x1)] 2 = mkF m 0 #[.val (.ref x0), .val (.int x1)] [] := by first | (simp [entryFrame, mkF, argsToLocals, Value.category]; done) | rfl
set_option maxRecDepth 65536 in
set_option maxHeartbeats 40000000 in
theorem rm_cfal (l : Launch) (Z : State) (a0 : Array Value) (hw : ∀ d ∈ tables_1, d.before a0 Z = true) (ws : List Jvm.Cond) (oa : Addr) (pn : Int32) (ka : ClassId) (f : Nat → Int32) (h0 : Heap) (V_a : Arv Z h0 oa ka (.byte) pn (BL f) (.int (0 : Int32))) :
    MetFree l (⟨"java/lang/StringUTF16", "coderFromArrayLen", "([BI)B"⟩ : MethodName) (head1 (Jvm.Cond.code (⟨"java/lang/StringUTF16", "coderFromArrayLen", "([BI)B"⟩ : MethodName) jdk_52_method_15_code 2 (some .byte) :: ws) ({ frames := 0, cells := 0, slots := 0, locals := 0 } : Room)) (fun a_ U_ => a_ = #[(.ref oa), (.int pn)] ∧ Z.Warmed39 U_.vm ∧ U_.heap = h0) (fun _ _ _ _ _ => True) (fun _ U_ o_ U_' => ∃ v_ L_, o_ = .returned v_ ∧ (QI (fun z => z.toInt = 0) h0) v_ U_'.heap L_ ∧ FrameEnd U_ o_ U_' L_ 0 0) := by
  refine ow_body (plainFor_of_name pn_2) ?_
  intro p e s m below meth c T0 X0 hx hZ hby hml hown hnm hret hlk e0
  refine Ends.cast (ef_cfal m oa pn) ?_
  have r_pn := rng32 pn
  refine ow_iloadN X0 hx (hb hby d_jdk_52m15_0) rfl (pc' := 1) rfl ?_
  refine ow_aloadN X0 hx (hb hby d_jdk_52m15_1) rfl rfl (pc' := 2) rfl ?_
  refine ow_len X0 hx hZ e0 V_a (hb hby d_jdk_52m15_2) (pc' := 3) rfl ?_
  refine ow_isub X0 hx (hb hby d_jdk_52m15_3) (pc' := 4) rfl (fun z1 hz1 => ?_)
  have az1 : (z1.toInt - (pn.toInt - pn.toInt)) % 4294967296 = 0 := by rw [hz1]; exact c_isub pn pn
  have rz1 := rng32 z1
  refine ow_bipush X0 hx (z := (31 : Int32)) (hb hby d_jdk_52m15_4) rfl (pc' := 6) rfl ?_
  refine ow_iushr X0 hx (hb hby d_jdk_52m15_6) (pc' := 7) rfl (fun z2 hz2 => ?_)
  have az2 : z2.toInt = (z1.toInt % 4294967296) / 2147483648 := by rw [hz2]; exact c_iushr z1 (31 : Int32) 31 (by decide) (by decide)
  have rz2 := rng32 z2
  refine ow_i2b X0 hx (hb hby d_jdk_52m15_7) (pc' := 8) rfl (fun z3 hz3 => ?_)
  have az3 : (z3.toInt - z2.toInt) % 256 = 0 ∧ -128 ≤ z3.toInt ∧ z3.toInt < 128 := by rw [hz3]; exact c_i2b z2
  have rz3 := rng32 z3
  exact ow_retY X0 hx hret hlk (hb hby d_jdk_52m15_8) (by decide) (by decide) (z' := z3) (ow_narY (by omega)) ⟨z3, rfl, (show z3.toInt = 0 from by omega), rfl, e0⟩
theorem pd_5 : parseMethodDescriptor "([CII)[B" = some ⟨[(.array .char), .int, .int], some (.array .byte)⟩ := by decide +kernel
theorem pd_6 : parseMethodDescriptor "([BI)B" = some ⟨[(.array .byte), .int], some .byte⟩ := by decide +kernel
theorem d_jdk_42m149_0 : decode jdk_42_method_149_code 0 = .ok (.aload_n 0, 1) := by decide +kernel
theorem d_jdk_42m149_1 : decode jdk_42_method_149_code 1 = .ok (.invokespecial 1, 3) := by decide +kernel
theorem d_jdk_42m149_4 : decode jdk_42_method_149_code 4 = .ok (.iload_n 3, 1) := by decide +kernel
theorem d_jdk_42m149_5 : decode jdk_42_method_149_code 5 = .ok (.ifCond .ne 22, 3) := by decide +kernel
theorem d_jdk_42m149_27 : decode jdk_42_method_149_code 27 = .ok (.getstatic 38, 3) := by decide +kernel
theorem d_jdk_42m149_30 : decode jdk_42_method_149_code 30 = .ok (.ifCond .eq 28, 3) := by decide +kernel
theorem d_jdk_42m149_33 : decode jdk_42_method_149_code 33 = .ok (.aload_n 1, 1) := by decide +kernel
theorem d_jdk_42m149_34 : decode jdk_42_method_149_code 34 = .ok (.iload_n 2, 1) := by decide +kernel
theorem d_jdk_42m149_35 : decode jdk_42_method_149_code 35 = .ok (.iload_n 3, 1) := by decide +kernel
theorem d_jdk_42m149_36 : decode jdk_42_method_149_code 36 = .ok (.invokestatic 177, 3) := by decide +kernel
theorem d_jdk_42m149_39 : decode jdk_42_method_149_code 39 = .ok (.astore 5, 2) := by decide +kernel
theorem d_jdk_42m149_41 : decode jdk_42_method_149_code 41 = .ok (.aload_n 0, 1) := by decide +kernel
theorem d_jdk_42m149_42 : decode jdk_42_method_149_code 42 = .ok (.aload 5, 2) := by decide +kernel
theorem d_jdk_42m149_44 : decode jdk_42_method_149_code 44 = .ok (.iload_n 3, 1) := by decide +kernel
theorem d_jdk_42m149_45 : decode jdk_42_method_149_code 45 = .ok (.invokestatic 47, 3) := by decide +kernel
theorem d_jdk_42m149_48 : decode jdk_42_method_149_code 48 = .ok (.putfield 15, 3) := by decide +kernel
theorem d_jdk_42m149_51 : decode jdk_42_method_149_code 51 = .ok (.aload_n 0, 1) := by decide +kernel
theorem d_jdk_42m149_52 : decode jdk_42_method_149_code 52 = .ok (.aload 5, 2) := by decide +kernel
theorem d_jdk_42m149_54 : decode jdk_42_method_149_code 54 = .ok (.putfield 9, 3) := by decide +kernel
theorem d_jdk_42m149_57 : decode jdk_42_method_149_code 57 = .ok (.return_, 1) := by decide +kernel
theorem ef_sIn4 (m : MethodId) (x0 : Addr) (x1 : Addr) (x2 : Int32) (x3 : Int32) : entryFrame m #[(.ref x0), (.ref x1), (.int x2), (.int x3), .null] 6 = mkF m 0 #[.val (.ref x0), .val (.ref x1), .val (.int x2), .val (.int x3), .val .null, .unset] [] := by first | (simp [entryFrame, mkF, argsToLocals, Value.category]; done) | rfl
def Q_sIn4 (Z : State) (o : Addr) (oc : Addr) (ps : Int32) (pn : Int32) (zc : Int32) (kc : ClassId) (f : Nat → Int32) (h0 : Heap) (n0 : Nat) (v : Option Value) (h : Heap) (L : List Loc) : Prop := ∃ (ot : Addr), ∃ (kt : ClassId), ∃ (fr : Nat → Int32), (v = none) ∧ (Fr n0 L) ∧ (Keep h0 h [o]) ∧ (Exa Z h o "java/lang/String") ∧ (Fld Z h o "java/lang/String" "coder" "B" (.int (0 : Int32))) ∧ (Fld Z h o "java/lang/String" "value" "[B" (.ref ot)) ∧ (Arv Z h ot kt (.byte) pn (BL fr) (.int (0 : Int32))) ∧ (n0 ≤ ot) ∧ (h0.size ≤ ot) ∧ (o ≠ ot)
theorem pn_3 : plainName "java/lang/String" = true := by first | (simp [plainName, overriddenIn]; done) | decide +kernel
set_option maxRecDepth 65536 in
set_option maxHeartbeats 40000000 in
theorem rm_sIn4 (l : Launch) (Z : State) (a0 : Array Value) (hw : ∀ d ∈ tables_1, d.before a0 Z = true) (ws : List Jvm.Cond) (o : Addr) (oc : Addr) (ps : Int32) (pn : Int32) (zc : Int32) (kc : ClassId) (f : Nat → Int32) (h0 : Heap) (n0 : Nat) (Z0 : n0 ≤ h0.size) (S_cs : Sta Z h0 "java/lang/String" "COMPACT_STRINGS" "Z" (.int zc)) (E_o : Exa Z h0 o "java/lang/String") (F_c : Fld Z h0 o "java/lang/String" "coder" "B" (.int (0 : Int32))) (F_v : Fld Z h0 o "java/lang/String" "value" "[B" .null) (V_c : Arv Z h0 oc kc (.char) pn (BL f) (.int (0 : Int32))) (g_o : n0 ≤ o) (ne_o_oc : o ≠ oc) (hz0 : ¬ zc.toInt = 0) (hps : ps.toInt = 0) (hn0 : 1 ≤ pn.toInt) (hn1 : pn.toInt ≤ 65537) (hf : ∀ i : Nat, 0 ≤ (f i).toInt ∧ (f i).toInt ≤ 255) :
    MetFree l (⟨"java/lang/String", "<init>", "([CIILjava/lang/Void;)V"⟩ : MethodName) (head1 (Jvm.Cond.code (⟨"java/lang/String", "<init>", "([CIILjava/lang/Void;)V"⟩ : MethodName) jdk_42_method_149_code 6 none :: ws) ({ frames := 2, cells := 1, slots := 65537, locals := 35 } : Room)) (fun a_ U_ => a_ = #[(.ref o), (.ref oc), (.int ps), (.int pn), .null] ∧ Z.Warmed39 U_.vm ∧ U_.heap = h0) (fun _ _ _ _ _ => True) (fun _ U_ o_ U_' => ∃ v_ L_, o_ = .returned v_ ∧ (Q_sIn4 Z o oc ps pn zc kc f h0 n0) v_ U_'.heap L_ ∧ FrameEnd U_ o_ U_' L_ 1 65537) := by
  refine ow_body (plainFor_of_name pn_3) ?_
  intro p e s m below meth c T0 X0 hx hZ hby hml hown hnm hret hlk e0
  have N0 := Fr.nil n0
  refine Ends.cast (ef_sIn4 m o oc ps pn) ?_
  have r_ps := rng32 ps
  have r_pn := rng32 pn
  refine ow_aloadN X0 hx (hb hby d_jdk_42m149_0) rfl rfl (pc' := 1) rfl ?_
  refine ow_init0 X0 hx hZ hown (hw _ (List.mem_of_getElem? (i := 68) rfl)) (hw _ (List.mem_of_getElem? (i := 7) rfl)) (hw _ (List.mem_of_getElem? (i := 8) rfl)) e0 0 (by decide) (by decide) (by rw [hml]; rfl) (Nat.le_of_eq rfl) (hb hby d_jdk_42m149_1) (pc' := 4) rfl (fun T1 X1 e1 => ?_)
  refine ow_iloadN X1 hx (hb hby d_jdk_42m149_4) rfl (pc' := 5) rfl ?_
  refine ow_if_ne X1 hx (pn.toInt) (hb hby d_jdk_42m149_5) rfl (by decide) (pt := 27) (by decide) (pf := 8) rfl (fun c5 => ?_) (fun c5 => absurd c5 (by omega))
  refine ow_getS X1 hx hZ hown (host := "") (Or.inl (hw _ (List.mem_of_getElem? (i := 69) rfl))) Via.refl e1 S_cs (hb hby d_jdk_42m149_27) (pc' := 30) rfl (fun T2 X2 e2 => ?_)
  refine ow_if_eq X2 hx (zc.toInt) (hb hby d_jdk_42m149_30) rfl (by decide) (pt := 58) (by decide) (pf := 33) rfl (fun c30 => absurd c30 (by omega)) (fun c30 => ?_)
  refine ow_aloadN X2 hx (hb hby d_jdk_42m149_33) rfl rfl (pc' := 34) rfl ?_
  refine ow_iloadN X2 hx (hb hby d_jdk_42m149_34) rfl (pc' := 35) rfl ?_
  refine ow_iloadN X2 hx (hb hby d_jdk_42m149_35) rfl (pc' := 36) rfl ?_
  refine ow_callS X2 hx hZ hown (hw _ (List.mem_of_getElem? (i := 70) rfl)) (hw _ (List.mem_of_getElem? (i := 71) rfl)) (hw _ (List.mem_of_getElem? (i := 72) rfl)) (hw _ (List.mem_of_getElem? (i := 73) rfl)) (by decide) (rm_cmp3 l Z a0 hw [] oc ps pn kc f h0 n0 Z0 V_c (by first | assumption | decide | omega) (by first | assumption | decide | omega) (by first | assumption | decide | omega) (by first | assumption | decide | omega)) e2 0 (by decide) (by decide) (by decide) (by decide) [(.ref oc), (.int ps), (.int pn)] (by rw [hml]; rfl) pd_5 rfl rfl rfl (Nat.le_of_eq rfl) (hb hby d_jdk_42m149_36) (pc' := 39) rfl (fun v3 T3 L3 hQ3 X3 => ?_)
  obtain ⟨b3, kt_3, fr_3, rfl, Nc3, Kc3, P3_0, P3_1, P3_2⟩ := hQ3
  have S_java_lang_String_COMPACT_STRINGS_3 := ow_staKeep S_cs Kc3 all0
  have E_o_3 := E_o.keep Kc3
  have F_o_coder_3 := F_c.keep Kc3 nin0
  have F_o_value_3 := F_v.keep Kc3 nin0
  have V_oc_3 := V_c.keep Kc3 nin0
  have ne_o_b3 : o ≠ b3 := Nat.ne_of_lt (Nat.lt_of_lt_of_le E_o.lt P3_2)
  have ne_oc_b3 : oc ≠ b3 := Nat.ne_of_lt (Nat.lt_of_lt_of_le V_c.lt P3_2)
  have sz_b3 : h0.size ≤ b3 := Nat.le_trans (Keep.refl h0 [o]).1 P3_2
  have Zs3 : n0 ≤ T3.heap.size := Nat.le_trans Z0 Kc3.1
  have K3 := (Keep.refl h0 [o]).trans Kc3 all0
  have N3 := Fr.app N0 Nc3
  show Ends _ _ _ _ T3 (mkF m 39 #[.val (.ref o), .val (.ref oc), .val (.int ps), .val (.int pn), .val .null, .unset] [(.ref b3)])
  refine ow_astore X3 hx (Ls' := #[.val (.ref o), .val (.ref oc), .val (.int ps), .val (.int pn), .val .null, .val (.ref b3)]) (hb hby d_jdk_42m149_39) rfl rfl (pc' := 41) rfl ?_
  refine ow_aloadN X3 hx (hb hby d_jdk_42m149_41) rfl rfl (pc' := 42) rfl ?_
  refine ow_aload X3 hx (hb hby d_jdk_42m149_42) rfl rfl (pc' := 44) rfl ?_
  refine ow_iloadN X3 hx (hb hby d_jdk_42m149_44) rfl (pc' := 45) rfl ?_
  refine ow_callPI X3 hx hZ hown (hw _ (List.mem_of_getElem? (i := 77) rfl)) (hw _ (List.mem_of_getElem? (i := 78) rfl)) (hw _ (List.mem_of_getElem? (i := 72) rfl)) (hw _ (List.mem_of_getElem? (i := 79) rfl)) (by decide) (rm_cfal l Z a0 hw [] b3 pn kt_3 fr_3 T3.heap P3_0) rfl 1 (by decide) (by decide) (by decide) (by decide) [(.ref b3), (.int pn)] (by rw [hml]; rfl) pd_6 rfl rfl rfl (Nat.le_of_eq rfl) (hb hby d_jdk_42m149_45) (pc' := 48) rfl (fun z4 T4 hz4 X4 e4 => ?_)
  have az4 : z4.toInt = 0 := hz4
  have rz4 := rng32 z4
  rw [show z4 = (0 : Int32) from ow_eq (show z4.toInt = 0 from by omega)]
  refine ow_putFN X4 hx hZ hown (hw _ (List.mem_of_getElem? (i := 80) rfl)) Via.refl e4 F_o_coder_3 E_o_3 (Or.inr ⟨(hw _ (List.mem_of_getElem? (i := 81) rfl)), rfl, hnm⟩) (hw _ (List.mem_of_getElem? (i := 59) rfl)) (ty := .byte) (v' := .int ((0 : Int32).toInt8.toInt32)) (by decide) rfl (fits_nar_byte _) (hb hby d_jdk_42m149_48) (pc' := 51) rfl (fun T5 h5 X5 e5 W5 => ?_)
  have F_o_coder_5 := F_o_coder_3.same W5
  have S_java_lang_String_COMPACT_STRINGS_5 := S_java_lang_String_COMPACT_STRINGS_3.wr W5
  have E_o_5 := E_o_3.wr W5
  have F_o_value_5 := F_o_value_3.other W5 (Or.inr (slot_ne (Or.inr (hw _ (List.mem_of_getElem? (i := 83) rfl))) (Or.inr (hw _ (List.mem_of_getElem? (i := 81) rfl))) (by decide) (t := (.array .byte)) (t' := .byte) (by decide) (by decide)))
  have V_oc_5 := V_oc_3.other W5 (Ne.symm ne_o_oc)
  have V_b3_5 := P3_0.other W5 (Ne.symm ne_o_b3)
  have Zs5 : n0 ≤ h5.size := Nat.le_trans Zs3 (Keep.of_wr W5).1
  have K5 := K3.wr W5 (Or.inl (List.mem_of_getElem? (i := 0) rfl))
  have N5 := Fr.snoc X5 N3 g_o
  have F_co : Fld Z h5 o "java/lang/String" "coder" "B" (.int (0 : Int32)) := by have q := F_o_coder_5; rw [show ((0 : Int32).toInt8.toInt32) = (0 : Int32) from by decide] at q; exact q
  refine ow_aloadN X5 hx (hb hby d_jdk_42m149_51) rfl rfl (pc' := 52) rfl ?_
  refine ow_aload X5 hx (hb hby d_jdk_42m149_52) rfl rfl (pc' := 54) rfl ?_
  refine ow_putF X5 hx hZ hown (host := "") (Or.inl (hw _ (List.mem_of_getElem? (i := 82) rfl))) Via.refl e5 F_o_value_5 E_o_5 (Or.inr ⟨(hw _ (List.mem_of_getElem? (i := 83) rfl)), rfl, hnm⟩) (hw _ (List.mem_of_getElem? (i := 59) rfl)) (ty := (.array .byte)) (by decide) rfl rfl (hb hby d_jdk_42m149_54) (pc' := 57) rfl (fun T6 h6 X6 e6 W6 => ?_)
  have F_o_value_6 := F_o_value_5.same W6
  have S_java_lang_String_COMPACT_STRINGS_6 := S_java_lang_String_COMPACT_STRINGS_5.wr W6
  have E_o_6 := E_o_5.wr W6
  have V_oc_6 := V_oc_5.other W6 (Ne.symm ne_o_oc)
  have V_b3_6 := V_b3_5.other W6 (Ne.symm ne_o_b3)
  have F_o_coder_6 := F_co.other W6 (Or.inr (slot_ne (Or.inr (hw _ (List.mem_of_getElem? (i := 81) rfl))) (Or.inr (hw _ (List.mem_of_getElem? (i := 83) rfl))) (by decide) (t := .byte) (t' := (.array .byte)) (by decide) (by decide)))
  have Zs6 : n0 ≤ h6.size := Nat.le_trans Zs5 (Keep.of_wr W6).1
  have K6 := K5.wr W6 (Or.inl (List.mem_of_getElem? (i := 0) rfl))
  have N6 := Fr.snoc X6 N5 g_o
  exact ow_retV X6 hx hret hlk (hb hby d_jdk_42m149_57) (by decide) (by decide) (show Q_sIn4 Z o oc ps pn zc kc f h0 n0 _ T6.heap _ from by rw [e6]; exact ⟨b3, kt_3, fr_3, rfl, N6, K6, E_o_6, F_o_coder_6, F_o_value_6, V_b3_6, P3_1, sz_b3, ne_o_b3⟩)
theorem pd_7 : parseMethodDescriptor "([CIILjava/lang/Void;)V" = some ⟨[(.array .char), .int, .int, (.object "java/lang/Void")], none⟩ := by decide +kernel
theorem d_jdk_42m3_0 : decode jdk_42_method_3_code 0 = .ok (.aload_n 0, 1) := by decide +kernel
theorem d_jdk_42m3_1 : decode jdk_42_method_3_code 1 = .ok (.aload_n 1, 1) := by decide +kernel
theorem d_jdk_42m3_2 : decode jdk_42_method_3_code 2 = .ok (.iconst 0, 1) := by decide +kernel
theorem d_jdk_42m3_3 : decode jdk_42_method_3_code 3 = .ok (.aload_n 1, 1) := by decide +kernel
theorem d_jdk_42m3_4 : decode jdk_42_method_3_code 4 = .ok (.arraylength, 1) := by decide +kernel
theorem d_jdk_42m3_5 : decode jdk_42_method_3_code 5 = .ok (.aconst_null, 1) := by decide +kernel
theorem d_jdk_42m3_6 : decode jdk_42_method_3_code 6 = .ok (.invokespecial 27, 3) := by decide +kernel
theorem d_jdk_42m3_9 : decode jdk_42_method_3_code 9 = .ok (.return_, 1) := by decide +kernel
theorem ef_sIn1 (m : MethodId) (x0 : Addr) (x1 : Addr) : entryFrame m #[(.ref x0), (.ref x1)] 2 = mkF m 0 #[.val (.ref x0), .val (.ref x1)] [] := by first | (simp [entryFrame, mkF, argsToLocals, Value.category]; done) | rfl
def Q_sIn1 (Z : State) (o : Addr) (oc : Addr) (zc : Int32) (kc : ClassId) (f : Nat → Int32) (pn : Int32) (h0 : Heap) (n0 : Nat) (v : Option Value) (h : Heap) (L : List Loc) : Prop := ∃ (ot : Addr), ∃ (kt : ClassId), ∃ (fr : Nat → Int32), (v = none) ∧ (Fr n0 L) ∧ (Keep h0 h [o]) ∧ (Exa Z h o "java/lang/String") ∧ (Fld Z h o "java/lang/String" "coder" "B" (.int (0 : Int32))) ∧ (Fld Z h o "java/lang/String" "value" "[B" (.ref ot)) ∧ (Arv Z h ot kt (.byte) pn (BL fr) (.int (0 : Int32))) ∧ (n0 ≤ ot) ∧ (h0.size ≤ ot) ∧ (o ≠ ot)
set_option maxRecDepth 65536 in
set_option maxHeartbeats 40000000 in
theorem rm_sIn1 (l : Launch) (Z : State) (a0 : Array Value) (hw : ∀ d ∈ tables_1, d.before a0 Z = true) (ws : List Jvm.Cond) (o : Addr) (oc : Addr) (zc : Int32) (kc : ClassId) (f : Nat → Int32) (pn : Int32) (h0 : Heap) (n0 : Nat) (Z0 : n0 ≤ h0.size) (S_cs : Sta Z h0 "java/lang/String" "COMPACT_STRINGS" "Z" (.int zc)) (E_o : Exa Z h0 o "java/lang/String") (F_c : Fld Z h0 o "java/lang/String" "coder" "B" (.int (0 : Int32))) (F_v : Fld Z h0 o "java/lang/String" "value" "[B" .null) (V_c : Arv Z h0 oc kc (.char) pn (BL f) (.int (0 : Int32))) (g_o : n0 ≤ o) (ne_o_oc : o ≠ oc) (hz0 : ¬ zc.toInt = 0) (hn0 : 1 ≤ pn.toInt) (hn1 : pn.toInt ≤ 65537) (hf : ∀ i : Nat, 0 ≤ (f i).toInt ∧ (f i).toInt ≤ 255) :
    MetFree l (⟨"java/lang/String", "<init>", "([C)V"⟩ : MethodName) (head1 (Jvm.Cond.code (⟨"java/lang/String", "<init>", "([C)V"⟩ : MethodName) jdk_42_method_3_code 2 none :: ws) ({ frames := 3, cells := 1, slots := 65537, locals := 52 } : Room)) (fun a_ U_ => a_ = #[(.ref o), (.ref oc)] ∧ Z.Warmed39 U_.vm ∧ U_.heap = h0) (fun _ _ _ _ _ => True) (fun _ U_ o_ U_' => ∃ v_ L_, o_ = .returned v_ ∧ (Q_sIn1 Z o oc zc kc f pn h0 n0) v_ U_'.heap L_ ∧ FrameEnd U_ o_ U_' L_ 1 65537) := by
  refine ow_body (plainFor_of_name pn_3) ?_
  intro p e s m below meth c T0 X0 hx hZ hby hml hown hnm hret hlk e0
  have N0 := Fr.nil n0
  refine Ends.cast (ef_sIn1 m o oc) ?_
  refine ow_aloadN X0 hx (hb hby d_jdk_42m3_0) rfl rfl (pc' := 1) rfl ?_
  refine ow_aloadN X0 hx (hb hby d_jdk_42m3_1) rfl rfl (pc' := 2) rfl ?_
  refine ow_iconst X0 hx (z := (0 : Int32)) (hb hby d_jdk_42m3_2) rfl (pc' := 3) rfl ?_
  refine ow_aloadN X0 hx (hb hby d_jdk_42m3_3) rfl rfl (pc' := 4) rfl ?_
  refine ow_len X0 hx hZ e0 V_c (hb hby d_jdk_42m3_4) (pc' := 5) rfl ?_
  refine ow_aconstNull X0 hx (hb hby d_jdk_42m3_5) (pc' := 6) rfl ?_
  refine ow_callI X0 hx hZ rfl rfl hown (hw _ (List.mem_of_getElem? (i := 64) rfl)) (hw _ (List.mem_of_getElem? (i := 65) rfl)) (hw _ (List.mem_of_getElem? (i := 60) rfl)) (hw _ (List.mem_of_getElem? (i := 67) rfl)) (by decide) (rm_sIn4 l Z a0 hw [] o oc (0 : Int32) pn zc kc f h0 n0 Z0 S_cs E_o F_c F_v V_c g_o ne_o_oc (by first | assumption | decide | omega | (have q0_ : (0 : Int32).toInt = 0 := (by decide); omega)) (by first | assumption | decide | omega | (have q0_ : (0 : Int32).toInt = 0 := (by decide); omega)) (by first | assumption | decide | omega | (have q0_ : (0 : Int32).toInt = 0 := (by decide); omega)) (by first | assumption | decide | omega | (have q0_ : (0 : Int32).toInt = 0 := (by decide); omega)) (by first | assumption | decide | omega | (have q0_ : (0 : Int32).toInt = 0 := (by decide); omega))) e0 0 (by decide) (by decide) (by decide) (by decide) [(.ref oc), (.int (0 : Int32)), (.int pn), .null] (by rw [hml]; rfl) pd_7 rfl rfl rfl (Nat.le_of_eq rfl) (hb hby d_jdk_42m3_6) (pc' := 9) rfl (fun v1 T1 L1 hQ1 X1 => ?_)
  obtain ⟨b1, kt_1, fr_1, rfl, Nc1, Kc1, P1_0, P1_1, P1_2, P1_3, P1_4, P1_5, P1_6⟩ := hQ1
  have S_java_lang_String_COMPACT_STRINGS_1 := ow_staKeep S_cs Kc1 (allS (ow_exaNs E_o) all0)
  have V_oc_1 := V_c.keep Kc1 (ninS (Ne.symm ne_o_oc) nin0)
  have ne_o_b1 : o ≠ b1 := Nat.ne_of_lt (Nat.lt_of_lt_of_le E_o.lt P1_5)
  have ne_oc_b1 : oc ≠ b1 := Nat.ne_of_lt (Nat.lt_of_lt_of_le V_c.lt P1_5)
  have sz_b1 : h0.size ≤ b1 := Nat.le_trans (Keep.refl h0 [o]).1 P1_5
  have Zs1 : n0 ≤ T1.heap.size := Nat.le_trans Z0 Kc1.1
  have K1 := (Keep.refl h0 [o]).trans Kc1 (allS (Or.inl (List.mem_of_getElem? (i := 0) rfl)) all0)
  have N1 := Fr.app N0 Nc1
  show Ends _ _ _ _ T1 (mkF m 9 #[.val (.ref o), .val (.ref oc)] [])
  exact ow_retV X1 hx hret hlk (hb hby d_jdk_42m3_9) (by decide) (by decide) (show Q_sIn1 Z o oc zc kc f pn h0 n0 _ T1.heap _ from ⟨b1, kt_1, fr_1, rfl, N1, K1, P1_0, P1_1, P1_2, P1_3, P1_4, sz_b1, P1_6⟩)
theorem d_jdk_42m152_0 : decode jdk_42_method_152_code 0 = .ok (.getstatic 38, 3) := by decide +kernel
theorem d_jdk_42m152_3 : decode jdk_42_method_152_code 3 = .ok (.ifCond .eq 10, 3) := by decide +kernel
theorem d_jdk_42m152_6 : decode jdk_42_method_152_code 6 = .ok (.aload_n 0, 1) := by decide +kernel
theorem d_jdk_42m152_7 : decode jdk_42_method_152_code 7 = .ok (.getfield 15, 3) := by decide +kernel
theorem d_jdk_42m152_10 : decode jdk_42_method_152_code 10 = .ok (.goto 4, 3) := by decide +kernel
theorem d_jdk_42m152_14 : decode jdk_42_method_152_code 14 = .ok (.ireturn, 1) := by decide +kernel
theorem ef_coder (m : MethodId) (x0 : Addr) : entryFrame m #[(.ref x0)] 1 = mkF m 0 #[.val (.ref x0)] [] := by first | (simp [entryFrame, mkF, argsToLocals, Value.category]; done) | rfl
set_option maxRecDepth 65536 in
set_option maxHeartbeats 40000000 in
theorem rm_coder (l : Launch) (Z : State) (a0 : Array Value) (hw : ∀ d ∈ tables_1, d.before a0 Z = true) (ws : List Jvm.Cond) (o : Addr) (zc : Int32) (h0 : Heap) (S_cs : Sta Z h0 "java/lang/String" "COMPACT_STRINGS" "Z" (.int zc)) (F_c : Fld Z h0 o "java/lang/String" "coder" "B" (.int (0 : Int32))) (hz0 : ¬ zc.toInt = 0) :
    MetFree l (⟨"java/lang/String", "coder", "()B"⟩ : MethodName) (head1 (Jvm.Cond.code (⟨"java/lang/String", "coder", "()B"⟩ : MethodName) jdk_42_method_152_code 1 (some .byte) :: ws) ({ frames := 0, cells := 0, slots := 0, locals := 0 } : Room)) (fun a_ U_ => a_ = #[(.ref o)] ∧ Z.Warmed39 U_.vm ∧ U_.heap = h0) (fun _ _ _ _ _ => True) (fun _ U_ o_ U_' => ∃ v_ L_, o_ = .returned v_ ∧ (QI (fun z => z.toInt = 0) h0) v_ U_'.heap L_ ∧ FrameEnd U_ o_ U_' L_ 0 0) := by
  refine ow_body (plainFor_of_name pn_3) ?_
  intro p e s m below meth c T0 X0 hx hZ hby hml hown hnm hret hlk e0
  refine Ends.cast (ef_coder m o) ?_
  refine ow_getS X0 hx hZ hown (host := "") (Or.inl (hw _ (List.mem_of_getElem? (i := 69) rfl))) Via.refl e0 S_cs (hb hby d_jdk_42m152_0) (pc' := 3) rfl (fun T1 X1 e1 => ?_)
  refine ow_if_eq X1 hx (zc.toInt) (hb hby d_jdk_42m152_3) rfl (by decide) (pt := 13) (by decide) (pf := 6) rfl (fun c3 => absurd c3 (by omega)) (fun c3 => ?_)
  refine ow_aloadN X1 hx (hb hby d_jdk_42m152_6) rfl rfl (pc' := 7) rfl ?_
  refine ow_getF X1 hx hZ hown (host := "") (Or.inl (hw _ (List.mem_of_getElem? (i := 80) rfl))) Via.refl e1 F_c (hb hby d_jdk_42m152_7) (pc' := 10) rfl (fun T2 X2 e2 => ?_)
  refine ow_goto X2 hx (hb hby d_jdk_42m152_10) (by decide) (pc' := 14) (by decide) ?_
  exact ow_retY X2 hx hret hlk (hb hby d_jdk_42m152_14) (by decide) (by decide) (z' := (0 : Int32)) (by decide) ⟨(0 : Int32), rfl, (show (0 : Int) = 0 from by omega), rfl, e2⟩
theorem d_jdk_42m154_0 : decode jdk_42_method_154_code 0 = .ok (.getstatic 38, 3) := by decide +kernel
theorem d_jdk_42m154_3 : decode jdk_42_method_154_code 3 = .ok (.ifCond .eq 14, 3) := by decide +kernel
theorem d_jdk_42m154_6 : decode jdk_42_method_154_code 6 = .ok (.aload_n 0, 1) := by decide +kernel
theorem d_jdk_42m154_7 : decode jdk_42_method_154_code 7 = .ok (.getfield 15, 3) := by decide +kernel
theorem d_jdk_42m154_10 : decode jdk_42_method_154_code 10 = .ok (.ifCond .ne 7, 3) := by decide +kernel
theorem d_jdk_42m154_13 : decode jdk_42_method_154_code 13 = .ok (.iconst 1, 1) := by decide +kernel
theorem d_jdk_42m154_14 : decode jdk_42_method_154_code 14 = .ok (.goto 4, 3) := by decide +kernel
theorem d_jdk_42m154_18 : decode jdk_42_method_154_code 18 = .ok (.ireturn, 1) := by decide +kernel
theorem ef_isLatin1 (m : MethodId) (x0 : Addr) : entryFrame m #[(.ref x0)] 1 = mkF m 0 #[.val (.ref x0)] [] := by first | (simp [entryFrame, mkF, argsToLocals, Value.category]; done) | rfl
set_option maxRecDepth 65536 in
set_option maxHeartbeats 40000000 in
theorem rm_isLatin1 (l : Launch) (Z : State) (a0 : Array Value) (hw : ∀ d ∈ tables_1, d.before a0 Z = true) (ws : List Jvm.Cond) (o : Addr) (zc : Int32) (h0 : Heap) (S_cs : Sta Z h0 "java/lang/String" "COMPACT_STRINGS" "Z" (.int zc)) (F_c : Fld Z h0 o "java/lang/String" "coder" "B" (.int (0 : Int32))) (hz0 : ¬ zc.toInt = 0) :
    MetFree l (⟨"java/lang/String", "isLatin1", "()Z"⟩ : MethodName) (head1 (Jvm.Cond.code (⟨"java/lang/String", "isLatin1", "()Z"⟩ : MethodName) jdk_42_method_154_code 1 (some .boolean) :: ws) ({ frames := 0, cells := 0, slots := 0, locals := 0 } : Room)) (fun a_ U_ => a_ = #[(.ref o)] ∧ Z.Warmed39 U_.vm ∧ U_.heap = h0) (fun _ _ _ _ _ => True) (fun _ U_ o_ U_' => ∃ v_ L_, o_ = .returned v_ ∧ (QI (fun z => z.toInt = 1) h0) v_ U_'.heap L_ ∧ FrameEnd U_ o_ U_' L_ 0 0) := by
  refine ow_body (plainFor_of_name pn_3) ?_
  intro p e s m below meth c T0 X0 hx hZ hby hml hown hnm hret hlk e0
  refine Ends.cast (ef_isLatin1 m o) ?_
  refine ow_getS X0 hx hZ hown (host := "") (Or.inl (hw _ (List.mem_of_getElem? (i := 69) rfl))) Via.refl e0 S_cs (hb hby d_jdk_42m154_0) (pc' := 3) rfl (fun T1 X1 e1 => ?_)
  refine ow_if_eq X1 hx (zc.toInt) (hb hby d_jdk_42m154_3) rfl (by decide) (pt := 17) (by decide) (pf := 6) rfl (fun c3 => absurd c3 (by omega)) (fun c3 => ?_)
  refine ow_aloadN X1 hx (hb hby d_jdk_42m154_6) rfl rfl (pc' := 7) rfl ?_
  refine ow_getF X1 hx hZ hown (host := "") (Or.inl (hw _ (List.mem_of_getElem? (i := 80) rfl))) Via.refl e1 F_c (hb hby d_jdk_42m154_7) (pc' := 10) rfl (fun T2 X2 e2 => ?_)
  refine ow_ifN X2 hx (hb hby d_jdk_42m154_10) (by decide) (pc' := 13) rfl ?_
  refine ow_iconst X2 hx (z := (1 : Int32)) (hb hby d_jdk_42m154_13) rfl (pc' := 14) rfl ?_
  refine ow_goto X2 hx (hb hby d_jdk_42m154_14) (by decide) (pc' := 18) (by decide) ?_
  exact ow_retB X2 hx hret hlk (hb hby d_jdk_42m154_18) (by decide) (by decide) (z' := (1 : Int32)) rfl ⟨(1 : Int32), rfl, (show (1 : Int) = 1 from by omega), rfl, e2⟩
theorem pd_8 : parseMethodDescriptor "()B" = some ⟨[], some .byte⟩ := by decide +kernel
theorem d_jdk_42m54_0 : decode jdk_42_method_54_code 0 = .ok (.aload_n 0, 1) := by decide +kernel
theorem d_jdk_42m54_1 : decode jdk_42_method_54_code 1 = .ok (.getfield 9, 3) := by decide +kernel
theorem d_jdk_42m54_4 : decode jdk_42_method_54_code 4 = .ok (.arraylength, 1) := by decide +kernel
theorem d_jdk_42m54_5 : decode jdk_42_method_54_code 5 = .ok (.aload_n 0, 1) := by decide +kernel
theorem d_jdk_42m54_6 : decode jdk_42_method_54_code 6 = .ok (.invokevirtual 335, 3) := by decide +kernel
theorem d_jdk_42m54_9 : decode jdk_42_method_54_code 9 = .ok (.ishr, 1) := by decide +kernel
theorem d_jdk_42m54_10 : decode jdk_42_method_54_code 10 = .ok (.ireturn, 1) := by decide +kernel
theorem ef_strLen (m : MethodId) (x0 : Addr) : entryFrame m #[(.ref x0)] 1 = mkF m 0 #[.val (.ref x0)] [] := by first | (simp [entryFrame, mkF, argsToLocals, Value.category]; done) | rfl
set_option maxRecDepth 65536 in
set_option maxHeartbeats 40000000 in
theorem rm_strLen (l : Launch) (Z : State) (a0 : Array Value) (hw : ∀ d ∈ tables_1, d.before a0 Z = true) (ws : List Jvm.Cond) (o : Addr) (zc : Int32) (oa : Addr) (ka : ClassId) (pn : Int32) (f : Nat → Int32) (h0 : Heap) (S_cs : Sta Z h0 "java/lang/String" "COMPACT_STRINGS" "Z" (.int zc)) (E_o : Exa Z h0 o "java/lang/String") (F_c : Fld Z h0 o "java/lang/String" "coder" "B" (.int (0 : Int32))) (F_v : Fld Z h0 o "java/lang/String" "value" "[B" (.ref oa)) (V_a : Arv Z h0 oa ka (.byte) pn (BL f) (.int (0 : Int32))) (hz0 : ¬ zc.toInt = 0) :
    MetFree l (⟨"java/lang/String", "length", "()I"⟩ : MethodName) (head1 (Jvm.Cond.code (⟨"java/lang/String", "length", "()I"⟩ : MethodName) jdk_42_method_54_code 1 (some .int) :: ws) ({ frames := 1, cells := 0, slots := 0, locals := 13 } : Room)) (fun a_ U_ => a_ = #[(.ref o)] ∧ Z.Warmed39 U_.vm ∧ U_.heap = h0) (fun _ _ _ _ _ => True) (fun _ U_ o_ U_' => ∃ v_ L_, o_ = .returned v_ ∧ (QI (fun z => z.toInt = pn.toInt) h0) v_ U_'.heap L_ ∧ FrameEnd U_ o_ U_' L_ 0 0) := by
  refine ow_body (plainFor_of_name pn_3) ?_
  intro p e s m below meth c T0 X0 hx hZ hby hml hown hnm hret hlk e0
  refine Ends.cast (ef_strLen m o) ?_
  refine ow_aloadN X0 hx (hb hby d_jdk_42m54_0) rfl rfl (pc' := 1) rfl ?_
  refine ow_getF X0 hx hZ hown (host := "") (Or.inl (hw _ (List.mem_of_getElem? (i := 82) rfl))) Via.refl e0 F_v (hb hby d_jdk_42m54_1) (pc' := 4) rfl (fun T1 X1 e1 => ?_)
  refine ow_len X1 hx hZ e1 V_a (hb hby d_jdk_42m54_4) (pc' := 5) rfl ?_
  refine ow_aloadN X1 hx (hb hby d_jdk_42m54_5) rfl rfl (pc' := 6) rfl ?_
  refine ow_callVPI X1 hx hZ rfl hown (hw _ (List.mem_of_getElem? (i := 94) rfl)) (hw _ (List.mem_of_getElem? (i := 95) rfl)) (hw _ (List.mem_of_getElem? (i := 97) rfl)) (hw _ (List.mem_of_getElem? (i := 96) rfl)) (hw _ (List.mem_of_getElem? (i := 60) rfl)) (hw _ (List.mem_of_getElem? (i := 98) rfl)) (by decide) (rm_coder l Z a0 hw [] o zc h0 S_cs F_c (by first | assumption | decide | omega)) e1 1 (by decide) (by decide) (by decide) (by decide) [] (by rw [hml]; rfl) pd_8 rfl E_o rfl rfl (Nat.le_of_eq rfl) (hb hby d_jdk_42m54_6) (pc' := 9) rfl (fun z2 T2 hz2 X2 e2 => ?_)
  have az2 : z2.toInt = 0 := hz2
  have rz2 := rng32 z2
  obtain rfl : z2 = (0 : Int32) := ow_eq (show z2.toInt = 0 from by omega)
  refine ow_ishr X2 hx (hb hby d_jdk_42m54_9) (pc' := 10) rfl (fun z3 hz3 => ?_)
  have az3 : z3.toInt = pn.toInt / 1 := by rw [hz3]; exact c_ishr pn (0 : Int32) 0 (by decide)
  have rz3 := rng32 z3
  exact ow_retI X2 hx hret hlk (hb hby d_jdk_42m54_10) (by decide) (by decide) ⟨z3, rfl, (show z3.toInt = pn.toInt from by omega), rfl, e2⟩
theorem d_jdk_41m11_0 : decode jdk_41_method_11_code 0 = .ok (.iload_n 0, 1) := by decide +kernel
theorem d_jdk_41m11_1 : decode jdk_41_method_11_code 1 = .ok (.ifCond .lt 8, 3) := by decide +kernel
theorem d_jdk_41m11_4 : decode jdk_41_method_11_code 4 = .ok (.iload_n 0, 1) := by decide +kernel
theorem d_jdk_41m11_5 : decode jdk_41_method_11_code 5 = .ok (.iload_n 1, 1) := by decide +kernel
theorem d_jdk_41m11_6 : decode jdk_41_method_11_code 6 = .ok (.if_icmp .lt 10, 3) := by decide +kernel
theorem d_jdk_41m11_16 : decode jdk_41_method_11_code 16 = .ok (.iload_n 0, 1) := by decide +kernel
theorem d_jdk_41m11_17 : decode jdk_41_method_11_code 17 = .ok (.ireturn, 1) := by decide +kernel
theorem ef_pchkl (m : MethodId) (x0 : Int32) (x1 : Int32) : entryFrame m #[(.int x0), (.int x1), .null] 3 = mkF m 0 #[.val (.int x0), .val (.int x1), .val .null] [] := by first | (simp [entryFrame, mkF, argsToLocals, Value.category]; done) | rfl
theorem pn_4 : plainName "jdk/internal/util/Preconditions" = true := by first | (simp [plainName, overriddenIn]; done) | decide +kernel
set_option maxRecDepth 65536 in
set_option maxHeartbeats 40000000 in
theorem rm_pchkl (l : Launch) (Z : State) (a0 : Array Value) (hw : ∀ d ∈ tables_1, d.before a0 Z = true) (ws : List Jvm.Cond) (pi : Int32) (pn : Int32) (h0 : Heap) (hi0 : 0 ≤ pi.toInt) (hi1 : pi.toInt < pn.toInt) :
    MetFree l (⟨"jdk/internal/util/Preconditions", "checkIndex", "(IILjava/util/function/BiFunction;)I"⟩ : MethodName) (head1 (Jvm.Cond.code (⟨"jdk/internal/util/Preconditions", "checkIndex", "(IILjava/util/function/BiFunction;)I"⟩ : MethodName) jdk_41_method_11_code 3 (some .int) :: ws) ({ frames := 0, cells := 0, slots := 0, locals := 0 } : Room)) (fun a_ U_ => a_ = #[(.int pi), (.int pn), .null] ∧ Z.Warmed39 U_.vm ∧ U_.heap = h0) (fun _ _ _ _ _ => True) (fun _ U_ o_ U_' => ∃ v_ L_, o_ = .returned v_ ∧ (QI (fun z => z.toInt = pi.toInt) h0) v_ U_'.heap L_ ∧ FrameEnd U_ o_ U_' L_ 0 0) := by
  refine ow_body (plainFor_of_name pn_4) ?_
  intro p e s m below meth c T0 X0 hx hZ hby hml hown hnm hret hlk e0
  refine Ends.cast (ef_pchkl m pi pn) ?_
  have r_pi := rng32 pi
  have r_pn := rng32 pn
  refine ow_iloadN X0 hx (hb hby d_jdk_41m11_0) rfl (pc' := 1) rfl ?_
  refine ow_if_lt X0 hx (pi.toInt) (hb hby d_jdk_41m11_1) rfl (by decide) (pt := 9) (by decide) (pf := 4) rfl (fun c1 => absurd c1 (by omega)) (fun c1 => ?_)
  refine ow_iloadN X0 hx (hb hby d_jdk_41m11_4) rfl (pc' := 5) rfl ?_
  refine ow_iloadN X0 hx (hb hby d_jdk_41m11_5) rfl (pc' := 6) rfl ?_
  refine ow_icmp_lt X0 hx (pi.toInt) (pn.toInt) (hb hby d_jdk_41m11_6) rfl rfl (by decide) (pt := 16) (by decide) (pf := 9) rfl (fun c6 => ?_) (fun c6 => absurd c6 (by omega))
  refine ow_iloadN X0 hx (hb hby d_jdk_41m11_16) rfl (pc' := 17) rfl ?_
  exact ow_retI X0 hx hret hlk (hb hby d_jdk_41m11_17) (by decide) (by decide) ⟨pi, rfl, (show pi.toInt = pi.toInt from by omega), rfl, e0⟩
theorem ef_pchkf (m : MethodId) (x0 : Int32) (x1 : Int32) (x2 : Addr) : entryFrame m #[(.int x0), (.int x1), (.ref x2)] 3 = mkF m 0 #[.val (.int x0), .val (.int x1), .val (.ref x2)] [] := by first | (simp [entryFrame, mkF, argsToLocals, Value.category]; done) | rfl
set_option maxRecDepth 65536 in
set_option maxHeartbeats 40000000 in
theorem rm_pchkf (l : Launch) (Z : State) (a0 : Array Value) (hw : ∀ d ∈ tables_1, d.before a0 Z = true) (ws : List Jvm.Cond) (pi : Int32) (pn : Int32) (of : Addr) (h0 : Heap) (hi0 : 0 ≤ pi.toInt) (hi1 : pi.toInt < pn.toInt) :
    MetFree l (⟨"jdk/internal/util/Preconditions", "checkIndex", "(IILjava/util/function/BiFunction;)I"⟩ : MethodName) (head1 (Jvm.Cond.code (⟨"jdk/internal/util/Preconditions", "checkIndex", "(IILjava/util/function/BiFunction;)I"⟩ : MethodName) jdk_41_method_11_code 3 (some .int) :: ws) ({ frames := 0, cells := 0, slots := 0, locals := 0 } : Room)) (fun a_ U_ => a_ = #[(.int pi), (.int pn), (.ref of)] ∧ Z.Warmed39 U_.vm ∧ U_.heap = h0) (fun _ _ _ _ _ => True) (fun _ U_ o_ U_' => ∃ v_ L_, o_ = .returned v_ ∧ (QI (fun z => z.toInt = pi.toInt) h0) v_ U_'.heap L_ ∧ FrameEnd U_ o_ U_' L_ 0 0) := by
  refine ow_body (plainFor_of_name pn_4) ?_
  intro p e s m below meth c T0 X0 hx hZ hby hml hown hnm hret hlk e0
  refine Ends.cast (ef_pchkf m pi pn of) ?_
  have r_pi := rng32 pi
  have r_pn := rng32 pn
  refine ow_iloadN X0 hx (hb hby d_jdk_41m11_0) rfl (pc' := 1) rfl ?_
  refine ow_if_lt X0 hx (pi.toInt) (hb hby d_jdk_41m11_1) rfl (by decide) (pt := 9) (by decide) (pf := 4) rfl (fun c1 => absurd c1 (by omega)) (fun c1 => ?_)
  refine ow_iloadN X0 hx (hb hby d_jdk_41m11_4) rfl (pc' := 5) rfl ?_
  refine ow_iloadN X0 hx (hb hby d_jdk_41m11_5) rfl (pc' := 6) rfl ?_
  refine ow_icmp_lt X0 hx (pi.toInt) (pn.toInt) (hb hby d_jdk_41m11_6) rfl rfl (by decide) (pt := 16) (by decide) (pf := 9) rfl (fun c6 => ?_) (fun c6 => absurd c6 (by omega))
  refine ow_iloadN X0 hx (hb hby d_jdk_41m11_16) rfl (pc' := 17) rfl ?_
  exact ow_retI X0 hx hret hlk (hb hby d_jdk_41m11_17) (by decide) (by decide) ⟨pi, rfl, (show pi.toInt = pi.toInt from by omega), rfl, e0⟩
theorem pd_9 : parseMethodDescriptor "(IILjava/util/function/BiFunction;)I" = some ⟨[.int, .int, (.object "java/util/function/BiFunction")], some .int⟩ := by decide +kernel
theorem d_jdk_42m155_0 : decode jdk_42_method_155_code 0 = .ok (.iload_n 0, 1) := by decide +kernel
theorem d_jdk_42m155_1 : decode jdk_42_method_155_code 1 = .ok (.iload_n 1, 1) := by decide +kernel
theorem d_jdk_42m155_2 : decode jdk_42_method_155_code 2 = .ok (.getstatic 1053, 3) := by decide +kernel
theorem d_jdk_42m155_5 : decode jdk_42_method_155_code 5 = .ok (.invokestatic 1059, 3) := by decide +kernel
theorem d_jdk_42m155_8 : decode jdk_42_method_155_code 8 = .ok (.pop, 1) := by decide +kernel
theorem d_jdk_42m155_9 : decode jdk_42_method_155_code 9 = .ok (.return_, 1) := by decide +kernel
theorem ef_schk (m : MethodId) (x0 : Int32) (x1 : Int32) : entryFrame m #[(.int x0), (.int x1)] 2 = mkF m 0 #[.val (.int x0), .val (.int x1)] [] := by first | (simp [entryFrame, mkF, argsToLocals, Value.category]; done) | rfl
set_option maxRecDepth 65536 in
set_option maxHeartbeats 40000000 in
theorem rm_schk (l : Launch) (Z : State) (a0 : Array Value) (hw : ∀ d ∈ tables_1, d.before a0 Z = true) (ws : List Jvm.Cond) (pi : Int32) (pn : Int32) (wf : Value) (h0 : Heap) (S_f : Sta Z h0 "jdk/internal/util/Preconditions" "SIOOBE_FORMATTER" "Ljava/util/function/BiFunction;" wf) (hwf : wf = .null ∨ ∃ a, wf = .ref a) (hi0 : 0 ≤ pi.toInt) (hi1 : pi.toInt < pn.toInt) :
    MetFree l (⟨"java/lang/String", "checkIndex", "(II)V"⟩ : MethodName) (head1 (Jvm.Cond.code (⟨"java/lang/String", "checkIndex", "(II)V"⟩ : MethodName) jdk_42_method_155_code 2 none :: ws) ({ frames := 1, cells := 0, slots := 0, locals := 14 } : Room)) (fun a_ U_ => a_ = #[(.int pi), (.int pn)] ∧ Z.Warmed39 U_.vm ∧ U_.heap = h0) (fun _ _ _ _ _ => True) (fun _ U_ o_ U_' => ∃ v_ L_, o_ = .returned v_ ∧ (QN h0) v_ U_'.heap L_ ∧ FrameEnd U_ o_ U_' L_ 0 0) := by
  refine ow_body (plainFor_of_name pn_3) ?_
  intro p e s m below meth c T0 X0 hx hZ hby hml hown hnm hret hlk e0
  refine Ends.cast (ef_schk m pi pn) ?_
  have r_pi := rng32 pi
  have r_pn := rng32 pn
  rcases hwf with rfl | ⟨of, rfl⟩
  · refine ow_iloadN X0 hx (hb hby d_jdk_42m155_0) rfl (pc' := 1) rfl ?_
    refine ow_iloadN X0 hx (hb hby d_jdk_42m155_1) rfl (pc' := 2) rfl ?_
    refine ow_getS X0 hx hZ hown (host := "") (Or.inl (hw _ (List.mem_of_getElem? (i := 116) rfl))) Via.refl e0 S_f (hb hby d_jdk_42m155_2) (pc' := 5) rfl (fun T1 X1 e1 => ?_)
    refine ow_callPI X1 hx hZ hown (hw _ (List.mem_of_getElem? (i := 118) rfl)) (hw _ (List.mem_of_getElem? (i := 119) rfl)) (hw _ (List.mem_of_getElem? (i := 117) rfl)) (hw _ (List.mem_of_getElem? (i := 120) rfl)) (by decide) (rm_pchkl l Z a0 hw [] pi pn h0 (by first | assumption | decide | omega) (by first | assumption | decide | omega)) e1 0 (by decide) (by decide) (by decide) (by decide) [(.int pi), (.int pn), .null] (by rw [hml]; rfl) pd_9 rfl rfl rfl (Nat.le_of_eq rfl) (hb hby d_jdk_42m155_5) (pc' := 8) rfl (fun z2 T2 hz2 X2 e2 => ?_)
    have az2 : z2.toInt = pi.toInt := hz2
    have rz2 := rng32 z2
    refine ow_pop X2 hx (hb hby d_jdk_42m155_8) rfl (pc' := 9) rfl ?_
    exact ow_retV X2 hx hret hlk (hb hby d_jdk_42m155_9) (by decide) (by decide) ⟨rfl, rfl, e2⟩
  · refine ow_iloadN X0 hx (hb hby d_jdk_42m155_0) rfl (pc' := 1) rfl ?_
    refine ow_iloadN X0 hx (hb hby d_jdk_42m155_1) rfl (pc' := 2) rfl ?_
    refine ow_getS X0 hx hZ hown (host := "") (Or.inl (hw _ (List.mem_of_getElem? (i := 116) rfl))) Via.refl e0 S_f (hb hby d_jdk_42m155_2) (pc' := 5) rfl (fun T3 X3 e3 => ?_)
    refine ow_callPI X3 hx hZ hown (hw _ (List.mem_of_getElem? (i := 118) rfl)) (hw _ (List.mem_of_getElem? (i := 119) rfl)) (hw _ (List.mem_of_getElem? (i := 117) rfl)) (hw _ (List.mem_of_getElem? (i := 120) rfl)) (by decide) (rm_pchkf l Z a0 hw [] pi pn of h0 (by first | assumption | decide | omega) (by first | assumption | decide | omega)) e3 0 (by decide) (by decide) (by decide) (by decide) [(.int pi), (.int pn), (.ref of)] (by rw [hml]; rfl) pd_9 rfl rfl rfl (Nat.le_of_eq rfl) (hb hby d_jdk_42m155_5) (pc' := 8) rfl (fun z4 T4 hz4 X4 e4 => ?_)
    have az4 : z4.toInt = pi.toInt := hz4
    have rz4 := rng32 z4
    refine ow_pop X4 hx (hb hby d_jdk_42m155_8) rfl (pc' := 9) rfl ?_
    exact ow_retV X4 hx hret hlk (hb hby d_jdk_42m155_9) (by decide) (by decide) ⟨rfl, rfl, e4⟩
theorem pd_10 : parseMethodDescriptor "(II)V" = some ⟨[.int, .int], none⟩ := by decide +kernel
theorem d_jdk_43m2_0 : decode jdk_43_method_2_code 0 = .ok (.iload_n 1, 1) := by decide +kernel
theorem d_jdk_43m2_1 : decode jdk_43_method_2_code 1 = .ok (.aload_n 0, 1) := by decide +kernel
theorem d_jdk_43m2_2 : decode jdk_43_method_2_code 2 = .ok (.arraylength, 1) := by decide +kernel
theorem d_jdk_43m2_3 : decode jdk_43_method_2_code 3 = .ok (.invokestatic 9, 3) := by decide +kernel
theorem d_jdk_43m2_6 : decode jdk_43_method_2_code 6 = .ok (.aload_n 0, 1) := by decide +kernel
theorem d_jdk_43m2_7 : decode jdk_43_method_2_code 7 = .ok (.iload_n 1, 1) := by decide +kernel
theorem d_jdk_43m2_8 : decode jdk_43_method_2_code 8 = .ok (.baload, 1) := by decide +kernel
theorem d_jdk_43m2_9 : decode jdk_43_method_2_code 9 = .ok (.sipush 255, 3) := by decide +kernel
theorem d_jdk_43m2_12 : decode jdk_43_method_2_code 12 = .ok (.iand, 1) := by decide +kernel
theorem d_jdk_43m2_13 : decode jdk_43_method_2_code 13 = .ok (.i2c, 1) := by decide +kernel
theorem d_jdk_43m2_14 : decode jdk_43_method_2_code 14 = .ok (.ireturn, 1) := by decide +kernel
theorem ef_lchA (m : MethodId) (x0 : Addr) (x1 : Int32) : entryFrame m #[(.ref x0), (.int x1)] 2 = mkF m 0 #[.val (.ref x0), .val (.int x1)] [] := by first | (simp [entryFrame, mkF, argsToLocals, Value.category]; done) | rfl
theorem pn_5 : plainName "java/lang/StringLatin1" = true := by first | (simp [plainName, overriddenIn]; done) | decide +kernel
set_option maxRecDepth 65536 in
set_option maxHeartbeats 40000000 in
theorem rm_lchA (l : Launch) (Z : State) (a0 : Array Value) (hw : ∀ d ∈ tables_1, d.before a0 Z = true) (ws : List Jvm.Cond) (oa : Addr) (pi : Int32) (ka : ClassId) (pn : Int32) (f : Nat → Int32) (wf : Value) (h0 : Heap) (V_a : Arv Z h0 oa ka (.byte) pn (BL f) (.int (0 : Int32))) (S_f : Sta Z h0 "jdk/internal/util/Preconditions" "SIOOBE_FORMATTER" "Ljava/util/function/BiFunction;" wf) (hwf : wf = .null ∨ ∃ a, wf = .ref a) (hn1 : pn.toInt ≤ 65537) (hi0 : 0 ≤ pi.toInt) (hi1 : pi.toInt < pn.toInt) :
    MetFree l (⟨"java/lang/StringLatin1", "charAt", "([BI)C"⟩ : MethodName) (head1 (Jvm.Cond.code (⟨"java/lang/StringLatin1", "charAt", "([BI)C"⟩ : MethodName) jdk_43_method_2_code 2 (some .char) :: ws) ({ frames := 2, cells := 0, slots := 0, locals := 27 } : Room)) (fun a_ U_ => a_ = #[(.ref oa), (.int pi)] ∧ Z.Warmed39 U_.vm ∧ U_.heap = h0) (fun _ _ _ _ _ => True) (fun _ U_ o_ U_' => ∃ v_ L_, o_ = .returned v_ ∧ (QI (fun z => 0 ≤ z.toInt ∧ z.toInt ≤ 65535) h0) v_ U_'.heap L_ ∧ FrameEnd U_ o_ U_' L_ 0 0) := by
  refine ow_body (plainFor_of_name pn_5) ?_
  intro p e s m below meth c T0 X0 hx hZ hby hml hown hnm hret hlk e0
  refine Ends.cast (ef_lchA m oa pi) ?_
  have r_pi := rng32 pi
  refine ow_iloadN X0 hx (hb hby d_jdk_43m2_0) rfl (pc' := 1) rfl ?_
  refine ow_aloadN X0 hx (hb hby d_jdk_43m2_1) rfl rfl (pc' := 2) rfl ?_
  refine ow_len X0 hx hZ e0 V_a (hb hby d_jdk_43m2_2) (pc' := 3) rfl ?_
  refine ow_callS X0 hx hZ hown (hw _ (List.mem_of_getElem? (i := 113) rfl)) (hw _ (List.mem_of_getElem? (i := 114) rfl)) (hw _ (List.mem_of_getElem? (i := 60) rfl)) (hw _ (List.mem_of_getElem? (i := 115) rfl)) (by decide) (rm_schk l Z a0 hw [] pi pn wf h0 S_f (by first | assumption | decide | omega) (by first | assumption | decide | omega) (by first | assumption | decide | omega)) e0 0 (by decide) (by decide) (by decide) (by decide) [(.int pi), (.int pn)] (by rw [hml]; rfl) pd_10 rfl rfl rfl (Nat.le_of_eq rfl) (hb hby d_jdk_43m2_3) (pc' := 6) rfl (fun v1 T1 L1 hQ1 X1 => ?_)
  obtain ⟨rfl, rfl, e1⟩ := hQ1
  rw [List.append_nil] at X1
  show Ends _ _ _ _ T1 (mkF m 6 #[.val (.ref oa), .val (.int pi)] [])
  refine ow_aloadN X1 hx (hb hby d_jdk_43m2_6) rfl rfl (pc' := 7) rfl ?_
  refine ow_iloadN X1 hx (hb hby d_jdk_43m2_7) rfl (pc' := 8) rfl ?_
  refine ow_ldB X1 hx hZ e1 V_a (ow_nlt (y := (0 : Int32)) (show ¬ pi.toInt < 0 from by omega)) (ow_lt (show pi.toInt < pn.toInt from by omega)) (show (BL f).getD pi.toNatClampNeg (.int (0 : Int32)) = .int (f pi.toInt.toNat) from BL_get _ _ (show pi.toInt.toNat < 65537 by omega) _) (hb hby d_jdk_43m2_8) (pc' := 9) rfl ?_
  refine ow_sipush X1 hx (z := (255 : Int32)) (hb hby d_jdk_43m2_9) rfl (pc' := 12) rfl ?_
  refine ow_iand X1 hx (hb hby d_jdk_43m2_12) (pc' := 13) rfl (fun z2 hz2 => ?_)
  have az2 : z2.toInt = (f pi.toInt.toNat).toInt % 256 := by rw [hz2]; exact c_mask (f pi.toInt.toNat) (255 : Int32) 8 (by decide) (by decide)
  have rz2 := rng32 z2
  refine ow_i2c X1 hx (hb hby d_jdk_43m2_13) (pc' := 14) rfl (fun z3 hz3 => ?_)
  have az3 : (z3.toInt - z2.toInt) % 65536 = 0 ∧ 0 ≤ z3.toInt ∧ z3.toInt < 65536 := by rw [hz3]; exact c_i2c z2
  have rz3 := rng32 z3
  exact ow_retC X1 hx hret hlk (hb hby d_jdk_43m2_14) (by decide) (by decide) (z' := z3) (ow_narC (by omega)) ⟨z3, rfl, (show 0 ≤ z3.toInt ∧ z3.toInt ≤ 65535 from by omega), rfl, e1⟩
theorem pd_11 : parseMethodDescriptor "()Z" = some ⟨[], some .boolean⟩ := by decide +kernel
theorem pd_12 : parseMethodDescriptor "([BI)C" = some ⟨[(.array .byte), .int], some .char⟩ := by decide +kernel
theorem d_jdk_42m56_0 : decode jdk_42_method_56_code 0 = .ok (.aload_n 0, 1) := by decide +kernel
theorem d_jdk_42m56_1 : decode jdk_42_method_56_code 1 = .ok (.invokevirtual 492, 3) := by decide +kernel
theorem d_jdk_42m56_4 : decode jdk_42_method_56_code 4 = .ok (.ifCond .eq 12, 3) := by decide +kernel
theorem d_jdk_42m56_7 : decode jdk_42_method_56_code 7 = .ok (.aload_n 0, 1) := by decide +kernel
theorem d_jdk_42m56_8 : decode jdk_42_method_56_code 8 = .ok (.getfield 9, 3) := by decide +kernel
theorem d_jdk_42m56_11 : decode jdk_42_method_56_code 11 = .ok (.iload_n 1, 1) := by decide +kernel
theorem d_jdk_42m56_12 : decode jdk_42_method_56_code 12 = .ok (.invokestatic 495, 3) := by decide +kernel
theorem d_jdk_42m56_15 : decode jdk_42_method_56_code 15 = .ok (.ireturn, 1) := by decide +kernel
theorem ef_schA (m : MethodId) (x0 : Addr) (x1 : Int32) : entryFrame m #[(.ref x0), (.int x1)] 2 = mkF m 0 #[.val (.ref x0), .val (.int x1)] [] := by first | (simp [entryFrame, mkF, argsToLocals, Value.category]; done) | rfl
set_option maxRecDepth 65536 in
set_option maxHeartbeats 40000000 in
theorem rm_schA (l : Launch) (Z : State) (a0 : Array Value) (hw : ∀ d ∈ tables_1, d.before a0 Z = true) (ws : List Jvm.Cond) (o : Addr) (pi : Int32) (zc : Int32) (oa : Addr) (ka : ClassId) (pn : Int32) (f : Nat → Int32) (wf : Value) (h0 : Heap) (S_cs : Sta Z h0 "java/lang/String" "COMPACT_STRINGS" "Z" (.int zc)) (E_o : Exa Z h0 o "java/lang/String") (F_c : Fld Z h0 o "java/lang/String" "coder" "B" (.int (0 : Int32))) (F_v : Fld Z h0 o "java/lang/String" "value" "[B" (.ref oa)) (V_a : Arv Z h0 oa ka (.byte) pn (BL f) (.int (0 : Int32))) (hz0 : ¬ zc.toInt = 0) (S_f : Sta Z h0 "jdk/internal/util/Preconditions" "SIOOBE_FORMATTER" "Ljava/util/function/BiFunction;" wf) (hwf : wf = .null ∨ ∃ a, wf = .ref a) (hn1 : pn.toInt ≤ 65537) (hi0 : 0 ≤ pi.toInt) (hi1 : pi.toInt < pn.toInt) :
    MetFree l (⟨"java/lang/String", "charAt", "(I)C"⟩ : MethodName) (head1 (Jvm.Cond.code (⟨"java/lang/String", "charAt", "(I)C"⟩ : MethodName) jdk_42_method_56_code 2 (some .char) :: ws) ({ frames := 3, cells := 0, slots := 0, locals := 40 } : Room)) (fun a_ U_ => a_ = #[(.ref o), (.int pi)] ∧ Z.Warmed39 U_.vm ∧ U_.heap = h0) (fun _ _ _ _ _ => True) (fun _ U_ o_ U_' => ∃ v_ L_, o_ = .returned v_ ∧ (QI (fun z => 0 ≤ z.toInt ∧ z.toInt ≤ 65535) h0) v_ U_'.heap L_ ∧ FrameEnd U_ o_ U_' L_ 0 0) := by
  refine ow_body (plainFor_of_name pn_3) ?_
  intro p e s m below meth c T0 X0 hx hZ hby hml hown hnm hret hlk e0
  refine Ends.cast (ef_schA m o pi) ?_
  have r_pi := rng32 pi
  refine ow_aloadN X0 hx (hb hby d_jdk_42m56_0) rfl rfl (pc' := 1) rfl ?_
  refine ow_callVPI X0 hx hZ rfl hown (hw _ (List.mem_of_getElem? (i := 104) rfl)) (hw _ (List.mem_of_getElem? (i := 105) rfl)) (hw _ (List.mem_of_getElem? (i := 107) rfl)) (hw _ (List.mem_of_getElem? (i := 106) rfl)) (hw _ (List.mem_of_getElem? (i := 60) rfl)) (hw _ (List.mem_of_getElem? (i := 108) rfl)) (by decide) (rm_isLatin1 l Z a0 hw [] o zc h0 S_cs F_c (by first | assumption | decide | omega)) e0 0 (by decide) (by decide) (by decide) (by decide) [] (by rw [hml]; rfl) pd_11 rfl E_o rfl rfl (Nat.le_of_eq rfl) (hb hby d_jdk_42m56_1) (pc' := 4) rfl (fun z1 T1 hz1 X1 e1 => ?_)
  have az1 : z1.toInt = 1 := hz1
  have rz1 := rng32 z1
  refine ow_if_eq X1 hx (z1.toInt) (hb hby d_jdk_42m56_4) rfl (by decide) (pt := 16) (by decide) (pf := 7) rfl (fun c4 => absurd c4 (by omega)) (fun c4 => ?_)
  refine ow_aloadN X1 hx (hb hby d_jdk_42m56_7) rfl rfl (pc' := 8) rfl ?_
  refine ow_getF X1 hx hZ hown (host := "") (Or.inl (hw _ (List.mem_of_getElem? (i := 82) rfl))) Via.refl e1 F_v (hb hby d_jdk_42m56_8) (pc' := 11) rfl (fun T2 X2 e2 => ?_)
  refine ow_iloadN X2 hx (hb hby d_jdk_42m56_11) rfl (pc' := 12) rfl ?_
  refine ow_callPI X2 hx hZ hown (hw _ (List.mem_of_getElem? (i := 109) rfl)) (hw _ (List.mem_of_getElem? (i := 110) rfl)) (hw _ (List.mem_of_getElem? (i := 111) rfl)) (hw _ (List.mem_of_getElem? (i := 112) rfl)) (by decide) (rm_lchA l Z a0 hw [] oa pi ka pn f wf h0 V_a S_f (by first | assumption | decide | omega) (by first | assumption | decide | omega) (by first | assumption | decide | omega) (by first | assumption | decide | omega)) e2 0 (by decide) (by decide) (by decide) (by decide) [(.ref oa), (.int pi)] (by rw [hml]; rfl) pd_12 rfl rfl rfl (Nat.le_of_eq rfl) (hb hby d_jdk_42m56_12) (pc' := 15) rfl (fun z3 T3 hz3 X3 e3 => ?_)
  have az3 : 0 ≤ z3.toInt ∧ z3.toInt ≤ 65535 := hz3
  have rz3 := rng32 z3
  exact ow_retC X3 hx hret hlk (hb hby d_jdk_42m56_15) (by decide) (by decide) (z' := z3) (ow_narC (by omega)) ⟨z3, rfl, (show 0 ≤ z3.toInt ∧ z3.toInt ≤ 65535 from by omega), rfl, e3⟩
theorem pd_13 : parseMethodDescriptor "()I" = some ⟨[], some .int⟩ := by decide +kernel
theorem pd_14 : parseMethodDescriptor "(I)C" = some ⟨[.int], some .char⟩ := by decide +kernel
theorem d_prog_3m7_0 : decode prog_3_method_7_code 0 = .ok (.aload_n 0, 1) := by decide +kernel
theorem d_prog_3m7_1 : decode prog_3_method_7_code 1 = .ok (.aload_n 1, 1) := by decide +kernel
theorem d_prog_3m7_2 : decode prog_3_method_7_code 2 = .ok (.invokevirtual 30, 3) := by decide +kernel
theorem d_prog_3m7_5 : decode prog_3_method_7_code 5 = .ok (.invokevirtual 26, 3) := by decide +kernel
theorem d_prog_3m7_8 : decode prog_3_method_7_code 8 = .ok (.iconst 0, 1) := by decide +kernel
theorem d_prog_3m7_9 : decode prog_3_method_7_code 9 = .ok (.istore_n 2, 1) := by decide +kernel
theorem d_prog_3m7_10 : decode prog_3_method_7_code 10 = .ok (.iload_n 2, 1) := by decide +kernel
theorem d_prog_3m7_11 : decode prog_3_method_7_code 11 = .ok (.aload_n 1, 1) := by decide +kernel
theorem d_prog_3m7_12 : decode prog_3_method_7_code 12 = .ok (.invokevirtual 30, 3) := by decide +kernel
theorem d_prog_3m7_15 : decode prog_3_method_7_code 15 = .ok (.if_icmp .ge 31, 3) := by decide +kernel
theorem d_prog_3m7_18 : decode prog_3_method_7_code 18 = .ok (.aload_n 0, 1) := by decide +kernel
theorem d_prog_3m7_19 : decode prog_3_method_7_code 19 = .ok (.getfield 11, 3) := by decide +kernel
theorem d_prog_3m7_22 : decode prog_3_method_7_code 22 = .ok (.aload_n 0, 1) := by decide +kernel
theorem d_prog_3m7_23 : decode prog_3_method_7_code 23 = .ok (.dup, 1) := by decide +kernel
theorem d_prog_3m7_24 : decode prog_3_method_7_code 24 = .ok (.getfield 16, 3) := by decide +kernel
theorem d_prog_3m7_27 : decode prog_3_method_7_code 27 = .ok (.dup_x1, 1) := by decide +kernel
theorem d_prog_3m7_28 : decode prog_3_method_7_code 28 = .ok (.iconst 1, 1) := by decide +kernel
theorem d_prog_3m7_29 : decode prog_3_method_7_code 29 = .ok (.iadd, 1) := by decide +kernel
theorem d_prog_3m7_30 : decode prog_3_method_7_code 30 = .ok (.putfield 16, 3) := by decide +kernel
theorem d_prog_3m7_33 : decode prog_3_method_7_code 33 = .ok (.aload_n 1, 1) := by decide +kernel
theorem d_prog_3m7_34 : decode prog_3_method_7_code 34 = .ok (.iload_n 2, 1) := by decide +kernel
theorem d_prog_3m7_35 : decode prog_3_method_7_code 35 = .ok (.invokevirtual 35, 3) := by decide +kernel
theorem d_prog_3m7_38 : decode prog_3_method_7_code 38 = .ok (.i2b, 1) := by decide +kernel
theorem d_prog_3m7_39 : decode prog_3_method_7_code 39 = .ok (.bastore, 1) := by decide +kernel
theorem d_prog_3m7_40 : decode prog_3_method_7_code 40 = .ok (.iinc 2 1, 3) := by decide +kernel
theorem d_prog_3m7_43 : decode prog_3_method_7_code 43 = .ok (.goto (-33), 3) := by decide +kernel
theorem d_prog_3m7_46 : decode prog_3_method_7_code 46 = .ok (.return_, 1) := by decide +kernel
theorem ef_apS (m : MethodId) (x0 : Addr) (x1 : Addr) : entryFrame m #[(.ref x0), (.ref x1)] 3 = mkF m 0 #[.val (.ref x0), .val (.ref x1), .unset] [] := by first | (simp [entryFrame, mkF, argsToLocals, Value.category]; done) | rfl
def Q_apS (Z : State) (o : Addr) (os : Addr) (zc : Int32) (wf : Value) (oa : Addr) (ka : ClassId) (f : Nat → Int32) (ow : Addr) (kw : ClassId) (pm : Int32) (g : Nat → Int32) (h0 : Heap) (n0 : Nat) (v : Option Value) (h : Heap) (L : List Loc) : Prop := ∃ (pz : Int32), ∃ (fr : Nat → Int32), (v = none) ∧ (Fr n0 L) ∧ (Keep h0 h [o, oa]) ∧ (Exa Z h o "com/example/strict_audit/strictaudit/format/LineBuffer") ∧ (Fld Z h o "com/example/strict_audit/strictaudit/format/LineBuffer" "length" "I" (.int pz)) ∧ (Fld Z h o "com/example/strict_audit/strictaudit/format/LineBuffer" "bytes" "[B" (.ref oa)) ∧ (Arv Z h oa ka (.byte) (512 : Int32) (BL fr) (.int (0 : Int32)))
set_option maxRecDepth 65536 in
set_option maxHeartbeats 40000000 in
theorem rm_apS (l : Launch) (Z : State) (a0 : Array Value) (hw : ∀ d ∈ tables_1, d.before a0 Z = true) (ws : List Jvm.Cond) (o : Addr) (os : Addr) (zc : Int32) (wf : Value) (oa : Addr) (ka : ClassId) (f : Nat → Int32) (ow : Addr) (kw : ClassId) (pm : Int32) (g : Nat → Int32) (h0 : Heap) (n0 : Nat) (Z0 : n0 ≤ h0.size) (S_cs : Sta Z h0 "java/lang/String" "COMPACT_STRINGS" "Z" (.int zc)) (S_f : Sta Z h0 "jdk/internal/util/Preconditions" "SIOOBE_FORMATTER" "Ljava/util/function/BiFunction;" wf) (hwf : wf = .null ∨ ∃ a, wf = .ref a) (hz0 : ¬ zc.toInt = 0) (E_o : Exa Z h0 o "com/example/strict_audit/strictaudit/format/LineBuffer") (F_b : Fld Z h0 o "com/example/strict_audit/strictaudit/format/LineBuffer" "bytes" "[B" (.ref oa)) (F_l : Fld Z h0 o "com/example/strict_audit/strictaudit/format/LineBuffer" "length" "I" (.int (0 : Int32))) (V_a : Arv Z h0 oa ka (.byte) (512 : Int32) (BL f) (.int (0 : Int32))) (E_s : Exa Z h0 os "java/lang/String") (F_sc : Fld Z h0 os "java/lang/String" "coder" "B" (.int (0 : Int32))) (F_sv : Fld Z h0 os "java/lang/String" "value" "[B" (.ref ow)) (V_w : Arv Z h0 ow kw (.byte) pm (BL g) (.int (0 : Int32))) (g_o : n0 ≤ o) (g_oa : n0 ≤ oa) (ne_o_oa : o ≠ oa) (ne_o_os : o ≠ os) (ne_o_ow : o ≠ ow) (ne_oa_os : oa ≠ os) (ne_oa_ow : oa ≠ ow) (hm0 : 0 ≤ pm.toInt) (hm1 : pm.toInt ≤ 512) :
    MetFree l (⟨"com/example/strict_audit/strictaudit/format/LineBuffer", "appendAscii", "(Ljava/lang/String;)V"⟩ : MethodName) (head1 (Jvm.Cond.code (⟨"com/example/strict_audit/strictaudit/format/LineBuffer", "appendAscii", "(Ljava/lang/String;)V"⟩ : MethodName) prog_3_method_7_code 3 none :: ws) ({ frames := 4, cells := 0, slots := 0, locals := 55 } : Room)) (fun a_ U_ => a_ = #[(.ref o), (.ref os)] ∧ Z.Warmed39 U_.vm ∧ U_.heap = h0) (fun _ _ _ _ _ => True) (fun _ U_ o_ U_' => ∃ v_ L_, o_ = .returned v_ ∧ (Q_apS Z o os zc wf oa ka f ow kw pm g h0 n0) v_ U_'.heap L_ ∧ FrameEnd U_ o_ U_' L_ 0 0) := by
  refine ow_body (plainFor_of_name pn_0) ?_
  intro p e s m below meth c T0 X0 hx hZ hby hml hown hnm hret hlk e0
  have N0 := Fr.nil n0
  refine Ends.cast (ef_apS m o os) ?_
  refine ow_aloadN X0 hx (hb hby d_prog_3m7_0) rfl rfl (pc' := 1) rfl ?_
  refine ow_aloadN X0 hx (hb hby d_prog_3m7_1) rfl rfl (pc' := 2) rfl ?_
  refine ow_callVPI X0 hx hZ rfl hown (hw _ (List.mem_of_getElem? (i := 89) rfl)) (hw _ (List.mem_of_getElem? (i := 90) rfl)) (hw _ (List.mem_of_getElem? (i := 92) rfl)) (hw _ (List.mem_of_getElem? (i := 91) rfl)) (hw _ (List.mem_of_getElem? (i := 60) rfl)) (hw _ (List.mem_of_getElem? (i := 93) rfl)) (by decide) (rm_strLen l Z a0 hw [] os zc ow kw pm g h0 S_cs E_s F_sc F_sv V_w (by first | assumption | decide | omega)) e0 1 (by decide) (by decide) (by decide) (by decide) [] (by rw [hml]; rfl) pd_13 rfl E_s rfl rfl (Nat.le_of_eq rfl) (hb hby d_prog_3m7_2) (pc' := 5) rfl (fun z1 T1 hz1 X1 e1 => ?_)
  have az1 : z1.toInt = pm.toInt := hz1
  have rz1 := rng32 z1
  rw [show z1 = pm from ow_eq (by omega)]
  refine ow_callPr X1 hx hZ hown (hw _ (List.mem_of_getElem? (i := 53) rfl)) (hw _ (List.mem_of_getElem? (i := 55) rfl)) (hw _ (List.mem_of_getElem? (i := 1) rfl)) (hw _ (List.mem_of_getElem? (i := 54) rfl)) (hw _ (List.mem_of_getElem? (i := 2) rfl)) (hw _ (List.mem_of_getElem? (i := 56) rfl)) (by decide) (rm_mr0 l Z a0 hw [] o pm oa ka (512 : Int32) f (0 : Int32) h0 F_b F_l V_a (by first | assumption | decide | omega | (have q0_ : (0 : Int32).toInt = 0 := (by decide); have q1_ : (512 : Int32).toInt = 512 := (by decide); omega)) (by first | assumption | decide | omega | (have q0_ : (0 : Int32).toInt = 0 := (by decide); have q1_ : (512 : Int32).toInt = 512 := (by decide); omega)) (by first | assumption | decide | omega | (have q0_ : (0 : Int32).toInt = 0 := (by decide); have q1_ : (512 : Int32).toInt = 512 := (by decide); omega)) (by first | assumption | decide | omega | (have q0_ : (0 : Int32).toInt = 0 := (by decide); have q1_ : (512 : Int32).toInt = 512 := (by decide); omega))) e1 0 (by decide) (by decide) (by decide) (by decide) [(.int pm)] (by rw [hml]; rfl) pd_3 rfl E_o rfl rfl (Nat.le_of_eq rfl) (hb hby d_prog_3m7_5) (pc' := 8) rfl (fun v2 T2 L2 hQ2 X2 => ?_)
  obtain ⟨rfl, rfl, e2⟩ := hQ2
  rw [List.append_nil] at X2
  show Ends _ _ _ _ T2 (mkF m 8 #[.val (.ref o), .val (.ref os), .unset] [])
  refine ow_iconst X2 hx (z := (0 : Int32)) (hb hby d_prog_3m7_8) rfl (pc' := 9) rfl ?_
  refine ow_istoreN X2 hx (Ls' := #[.val (.ref o), .val (.ref os), .val (.int (0 : Int32))]) (hb hby d_prog_3m7_9) rfl (pc' := 10) rfl ?_
  have J10 : ∀ (n : Nat) (ik : Int32) (il : Int32) (fj : Nat → Int32) (T3 : State) (hj10 : Heap) (lc10 : List Loc), Stand p l e ({ frames := 4, cells := 0, slots := 0, locals := 55 } : Room) s m #[(.ref o), (.ref os)] below meth c T3 lc10 0 0 → T3.heap = hj10 → Fr n0 lc10 → (Sta Z hj10 "java/lang/String" "COMPACT_STRINGS" "Z" (.int zc)) → (Sta Z hj10 "jdk/internal/util/Preconditions" "SIOOBE_FORMATTER" "Ljava/util/function/BiFunction;" wf) → (Exa Z hj10 o "com/example/strict_audit/strictaudit/format/LineBuffer") → (Fld Z hj10 o "com/example/strict_audit/strictaudit/format/LineBuffer" "bytes" "[B" (.ref oa)) → (Exa Z hj10 os "java/lang/String") → (Fld Z hj10 os "java/lang/String" "coder" "B" (.int (0 : Int32))) → (Fld Z hj10 os "java/lang/String" "value" "[B" (.ref ow)) → (Arv Z hj10 ow kw (.byte) pm (BL g) (.int (0 : Int32))) → (Fld Z hj10 o "com/example/strict_audit/strictaudit/format/LineBuffer" "length" "I" (.int il)) → (Arv Z hj10 oa ka (.byte) (512 : Int32) (BL fj) (.int (0 : Int32))) → (Keep h0 hj10 [o, oa]) → (n0 ≤ hj10.size) → (il.toInt = ik.toInt ∧ 0 ≤ ik.toInt ∧ ik.toInt ≤ pm.toInt) → (pm.toInt - ik.toInt) = (n : Int) → Ends p e below (Out s 0 0 (Q_apS Z o os zc wf oa ka f ow kw pm g h0 n0)) T3 (mkF m 10 #[.val (.ref o), .val (.ref os), .val (.int ik)] []) := by
    intro n
    induction n using Nat.strongRecOn with
    | _ n ih =>
      intro ik il fj T3 hj10 lc10 X3 e3 Nj10 Hf10_0 Hf10_1 Hf10_2 Hf10_3 Hf10_4 Hf10_5 Hf10_6 Hf10_7 Hf10_8 Hf10_9 HK10 HZ10 hi10 hm10
      have r_ik := rng32 ik
      have r_il := rng32 il
      refine ow_iloadN X3 hx (hb hby d_prog_3m7_10) rfl (pc' := 11) rfl ?_
      refine ow_aloadN X3 hx (hb hby d_prog_3m7_11) rfl rfl (pc' := 12) rfl ?_
      refine ow_callVPI X3 hx hZ rfl hown (hw _ (List.mem_of_getElem? (i := 89) rfl)) (hw _ (List.mem_of_getElem? (i := 90) rfl)) (hw _ (List.mem_of_getElem? (i := 92) rfl)) (hw _ (List.mem_of_getElem? (i := 91) rfl)) (hw _ (List.mem_of_getElem? (i := 60) rfl)) (hw _ (List.mem_of_getElem? (i := 93) rfl)) (by decide) (rm_strLen l Z a0 hw [] os zc ow kw pm g hj10 Hf10_0 Hf10_4 Hf10_5 Hf10_6 Hf10_7 (by first | assumption | decide | omega)) e3 1 (by decide) (by decide) (by decide) (by decide) [] (by rw [hml]; rfl) pd_13 rfl Hf10_4 rfl rfl (Nat.le_of_eq rfl) (hb hby d_prog_3m7_12) (pc' := 15) rfl (fun z4 T4 hz4 X4 e4 => ?_)
      have az4 : z4.toInt = pm.toInt := hz4
      have rz4 := rng32 z4
      rw [show z4 = pm from ow_eq (by omega)]
      refine ow_icmp_ge X4 hx (ik.toInt) (pm.toInt) (hb hby d_prog_3m7_15) rfl rfl (by decide) (pt := 46) (by decide) (pf := 18) rfl (fun c15 => ?_) (fun c15 => ?_)
      · exact ow_retV X4 hx hret hlk (hb hby d_prog_3m7_46) (by decide) (by decide) (show Q_apS Z o os zc wf oa ka f ow kw pm g h0 n0 _ T4.heap _ from by rw [e4]; exact ⟨il, fj, rfl, Nj10, HK10, Hf10_2, Hf10_8, Hf10_3, Hf10_9⟩)
      · refine ow_aloadN X4 hx (hb hby d_prog_3m7_18) rfl rfl (pc' := 19) rfl ?_
        refine ow_getF X4 hx hZ hown (host := "") (Or.inl (hw _ (List.mem_of_getElem? (i := 10) rfl))) Via.refl e4 Hf10_3 (hb hby d_prog_3m7_19) (pc' := 22) rfl (fun T5 X5 e5 => ?_)
        refine ow_aloadN X5 hx (hb hby d_prog_3m7_22) rfl rfl (pc' := 23) rfl ?_
        refine ow_dup X5 hx (hb hby d_prog_3m7_23) rfl (pc' := 24) rfl ?_
        refine ow_getF X5 hx hZ hown (host := "") (Or.inl (hw _ (List.mem_of_getElem? (i := 24) rfl))) Via.refl e5 Hf10_8 (hb hby d_prog_3m7_24) (pc' := 27) rfl (fun T6 X6 e6 => ?_)
        refine ow_dupX1 X6 hx (hb hby d_prog_3m7_27) rfl rfl (pc' := 28) rfl ?_
        refine ow_iconst X6 hx (z := (1 : Int32)) (hb hby d_prog_3m7_28) rfl (pc' := 29) rfl ?_
        refine ow_iadd X6 hx (hb hby d_prog_3m7_29) (pc' := 30) rfl (fun z7 hz7 => ?_)
        have az7 : (z7.toInt - (il.toInt + (1 : Int))) % 4294967296 = 0 := by rw [hz7]; exact c_iadd il (1 : Int32)
        have rz7 := rng32 z7
        refine ow_putF X6 hx hZ hown (host := "") (Or.inl (hw _ (List.mem_of_getElem? (i := 24) rfl))) Via.refl e6 Hf10_8 Hf10_2 (Or.inl (hw _ (List.mem_of_getElem? (i := 25) rfl))) (hw _ (List.mem_of_getElem? (i := 1) rfl)) (ty := .int) (by decide) rfl rfl (hb hby d_prog_3m7_30) (pc' := 33) rfl (fun T8 h8 X8 e8 W8 => ?_)
        have F_o_length_8 := Hf10_8.same W8
        have S_java_lang_String_COMPACT_STRINGS_8 := Hf10_0.wr W8
        have S_jdk_internal_util_Preconditions_SIOOBE_FORMATTER_8 := Hf10_1.wr W8
        have E_o_8 := Hf10_2.wr W8
        have F_o_bytes_8 := Hf10_3.other W8 (Or.inr (slot_ne (Or.inl (hw _ (List.mem_of_getElem? (i := 11) rfl))) (Or.inl (hw _ (List.mem_of_getElem? (i := 25) rfl))) (by decide) (t := (.array .byte)) (t' := .int) (by decide) (by decide)))
        have E_os_8 := Hf10_4.wr W8
        have F_os_coder_8 := Hf10_5.other W8 (Or.inl (Ne.symm ne_o_os))
        have F_os_value_8 := Hf10_6.other W8 (Or.inl (Ne.symm ne_o_os))
        have V_ow_8 := Hf10_7.other W8 (Ne.symm ne_o_ow)
        have V_oa_8 := Hf10_9.other W8 (Ne.symm ne_o_oa)
        have Zs8 : n0 ≤ h8.size := Nat.le_trans HZ10 (Keep.of_wr W8).1
        have K8 := HK10.wr W8 (Or.inl (List.mem_of_getElem? (i := 0) rfl))
        have N8 := Fr.snoc X8 Nj10 g_o
        refine ow_aloadN X8 hx (hb hby d_prog_3m7_33) rfl rfl (pc' := 34) rfl ?_
        refine ow_iloadN X8 hx (hb hby d_prog_3m7_34) rfl (pc' := 35) rfl ?_
        refine ow_callVPI X8 hx hZ rfl hown (hw _ (List.mem_of_getElem? (i := 99) rfl)) (hw _ (List.mem_of_getElem? (i := 100) rfl)) (hw _ (List.mem_of_getElem? (i := 102) rfl)) (hw _ (List.mem_of_getElem? (i := 101) rfl)) (hw _ (List.mem_of_getElem? (i := 60) rfl)) (hw _ (List.mem_of_getElem? (i := 103) rfl)) (by decide) (rm_schA l Z a0 hw [] os ik zc ow kw pm g wf h8 S_java_lang_String_COMPACT_STRINGS_8 E_os_8 F_os_coder_8 F_os_value_8 V_ow_8 (by first | assumption | decide | omega) S_jdk_internal_util_Preconditions_SIOOBE_FORMATTER_8 (by first | assumption | decide | omega) (by first | assumption | decide | omega) (by first | assumption | decide | omega) (by first | assumption | decide | omega)) e8 2 (by decide) (by decide) (by decide) (by decide) [(.int ik)] (by rw [hml]; rfl) pd_14 rfl E_os_8 rfl rfl (Nat.le_of_eq rfl) (hb hby d_prog_3m7_35) (pc' := 38) rfl (fun z9 T9 hz9 X9 e9 => ?_)
        have az9 : 0 ≤ z9.toInt ∧ z9.toInt ≤ 65535 := hz9
        have rz9 := rng32 z9
        refine ow_i2b X9 hx (hb hby d_prog_3m7_38) (pc' := 39) rfl (fun z10 hz10 => ?_)
        have az10 : (z10.toInt - z9.toInt) % 256 = 0 ∧ -128 ≤ z10.toInt ∧ z10.toInt < 128 := by rw [hz10]; exact c_i2b z9
        have rz10 := rng32 z10
        refine ow_stB X9 hx hZ e9 V_oa_8 (il.toNatClampNeg) rfl (ow_nlt (y := (0 : Int32)) (show ¬ il.toInt < 0 from by omega)) (ow_lt (show il.toInt < (512 : Int) from by omega)) (by rw [BL_len]; show il.toInt.toNat < 65537; omega) (hb hby d_prog_3m7_39) (pc' := 40) rfl (fun T11 h11 X11 e11 W11 V11 => ?_)
        have V_oa_11 : Arv Z h11 oa ka (.byte) (512 : Int32) (BL (upd fj il.toInt.toNat (z10.toInt8.toInt32))) (.int (0 : Int32)) := by rw [← (show (BL fj).set il.toNatClampNeg (.int (z10.toInt8.toInt32)) = BL (upd fj il.toInt.toNat (z10.toInt8.toInt32)) from BL_set _ _ _)]; exact V11
        have S_java_lang_String_COMPACT_STRINGS_11 := S_java_lang_String_COMPACT_STRINGS_8.wr W11
        have S_jdk_internal_util_Preconditions_SIOOBE_FORMATTER_11 := S_jdk_internal_util_Preconditions_SIOOBE_FORMATTER_8.wr W11
        have E_o_11 := E_o_8.wr W11
        have F_o_bytes_11 := F_o_bytes_8.other W11 (Or.inl ne_o_oa)
        have E_os_11 := E_os_8.wr W11
        have F_os_coder_11 := F_os_coder_8.other W11 (Or.inl (Ne.symm ne_oa_os))
        have F_os_value_11 := F_os_value_8.other W11 (Or.inl (Ne.symm ne_oa_os))
        have V_ow_11 := V_ow_8.other W11 (Ne.symm ne_oa_ow)
        have F_o_length_11 := F_o_length_8.other W11 (Or.inl ne_o_oa)
        have Zs11 : n0 ≤ h11.size := Nat.le_trans Zs8 (Keep.of_wr W11).1
        have K11 := K8.wr W11 (Or.inl (List.mem_of_getElem? (i := 1) rfl))
        have N11 := Fr.snoc X11 N8 g_oa
        refine ow_iinc X11 hx (Ls' := #[.val (.ref o), .val (.ref os), .val (.int ik)]) (hb hby d_prog_3m7_40) rfl (fun z => rfl) (pc' := 43) rfl (fun z12 hz12 => ?_)
        show Ends _ _ _ _ T11 (mkF m 43 #[.val (.ref o), .val (.ref os), .val (.int z12)] [])
        have az12 : (z12.toInt - (ik.toInt + 1)) % 4294967296 = 0 := by rw [hz12]; exact c_iadd ik (1 : Int32)
        have rz12 := rng32 z12
        refine ow_goto X11 hx (hb hby d_prog_3m7_43) (by decide) (pc' := 10) (by decide) ?_
        exact ih (pm.toInt - z12.toInt).toNat (by omega) z12 z7 (upd fj il.toInt.toNat (z10.toInt8.toInt32)) T11 h11 _ X11 e11 N11 (show Sta Z h11 "java/lang/String" "COMPACT_STRINGS" "Z" (.int zc) from S_java_lang_String_COMPACT_STRINGS_11) (show Sta Z h11 "jdk/internal/util/Preconditions" "SIOOBE_FORMATTER" "Ljava/util/function/BiFunction;" wf from S_jdk_internal_util_Preconditions_SIOOBE_FORMATTER_11) (show Exa Z h11 o "com/example/strict_audit/strictaudit/format/LineBuffer" from E_o_11) (show Fld Z h11 o "com/example/strict_audit/strictaudit/format/LineBuffer" "bytes" "[B" (.ref oa) from F_o_bytes_11) (show Exa Z h11 os "java/lang/String" from E_os_11) (show Fld Z h11 os "java/lang/String" "coder" "B" (.int (0 : Int32)) from F_os_coder_11) (show Fld Z h11 os "java/lang/String" "value" "[B" (.ref ow) from F_os_value_11) (show Arv Z h11 ow kw (.byte) pm (BL g) (.int (0 : Int32)) from V_ow_11) (show Fld Z h11 o "com/example/strict_audit/strictaudit/format/LineBuffer" "length" "I" (.int z7) from F_o_length_11) (show Arv Z h11 oa ka (.byte) (512 : Int32) (BL (upd fj il.toInt.toNat (z10.toInt8.toInt32))) (.int (0 : Int32)) from V_oa_11) K11 Zs11 (show z7.toInt = z12.toInt ∧ 0 ≤ z12.toInt ∧ z12.toInt ≤ pm.toInt from by omega) (show (pm.toInt - z12.toInt) = (((pm.toInt - z12.toInt).toNat : Nat) : Int) from by omega)
  exact J10 (pm.toInt - (0 : Int)).toNat (0 : Int32) (0 : Int32) f T2 h0 _ X2 e2 N0 (show Sta Z h0 "java/lang/String" "COMPACT_STRINGS" "Z" (.int zc) from S_cs) (show Sta Z h0 "jdk/internal/util/Preconditions" "SIOOBE_FORMATTER" "Ljava/util/function/BiFunction;" wf from S_f) (show Exa Z h0 o "com/example/strict_audit/strictaudit/format/LineBuffer" from E_o) (show Fld Z h0 o "com/example/strict_audit/strictaudit/format/LineBuffer" "bytes" "[B" (.ref oa) from F_b) (show Exa Z h0 os "java/lang/String" from E_s) (show Fld Z h0 os "java/lang/String" "coder" "B" (.int (0 : Int32)) from F_sc) (show Fld Z h0 os "java/lang/String" "value" "[B" (.ref ow) from F_sv) (show Arv Z h0 ow kw (.byte) pm (BL g) (.int (0 : Int32)) from V_w) (show Fld Z h0 o "com/example/strict_audit/strictaudit/format/LineBuffer" "length" "I" (.int (0 : Int32)) from F_l) (show Arv Z h0 oa ka (.byte) (512 : Int32) (BL f) (.int (0 : Int32)) from V_a) (Keep.refl h0 [o, oa]) Z0 (show (0 : Int) = (0 : Int) ∧ 0 ≤ (0 : Int) ∧ (0 : Int) ≤ pm.toInt from by omega) (show (pm.toInt - (0 : Int)) = (((pm.toInt - (0 : Int)).toNat : Nat) : Int) from by omega)
def Q_apB (Z : State) (o : Addr) (os : Addr) (zc : Int32) (wf : Value) (oa : Addr) (ka : ClassId) (f : Nat → Int32) (ow : Addr) (kw : ClassId) (pm : Int32) (g : Nat → Int32) (h0 : Heap) (n0 : Nat) (v : Option Value) (h : Heap) (L : List Loc) : Prop := ∃ (pz : Int32), ∃ (ot : Addr), ∃ (kt : ClassId), ∃ (fr : Nat → Int32), (v = none) ∧ (Fr n0 L) ∧ (Keep h0 h [o]) ∧ (Exa Z h o "com/example/strict_audit/strictaudit/format/LineBuffer") ∧ (Fld Z h o "com/example/strict_audit/strictaudit/format/LineBuffer" "length" "I" (.int pz)) ∧ (Fld Z h o "com/example/strict_audit/strictaudit/format/LineBuffer" "bytes" "[B" (.ref ot)) ∧ (Arv Z h ot kt (.byte) pm (BL fr) (.int (0 : Int32))) ∧ (n0 ≤ ot) ∧ (h0.size ≤ ot) ∧ (o ≠ ot)
set_option maxRecDepth 65536 in
set_option maxHeartbeats 40000000 in
theorem rm_apB (l : Launch) (Z : State) (a0 : Array Value) (hw : ∀ d ∈ tables_1, d.before a0 Z = true) (ws : List Jvm.Cond) (o : Addr) (os : Addr) (zc : Int32) (wf : Value) (oa : Addr) (ka : ClassId) (f : Nat → Int32) (ow : Addr) (kw : ClassId) (pm : Int32) (g : Nat → Int32) (h0 : Heap) (n0 : Nat) (Z0 : n0 ≤ h0.size) (S_cs : Sta Z h0 "java/lang/String" "COMPACT_STRINGS" "Z" (.int zc)) (S_f : Sta Z h0 "jdk/internal/util/Preconditions" "SIOOBE_FORMATTER" "Ljava/util/function/BiFunction;" wf) (hwf : wf = .null ∨ ∃ a, wf = .ref a) (hz0 : ¬ zc.toInt = 0) (E_o : Exa Z h0 o "com/example/strict_audit/strictaudit/format/LineBuffer") (F_b : Fld Z h0 o "com/example/strict_audit/strictaudit/format/LineBuffer" "bytes" "[B" (.ref oa)) (F_l : Fld Z h0 o "com/example/strict_audit/strictaudit/format/LineBuffer" "length" "I" (.int (0 : Int32))) (V_a : Arv Z h0 oa ka (.byte) (512 : Int32) (BL f) (.int (0 : Int32))) (E_s : Exa Z h0 os "java/lang/String") (F_sc : Fld Z h0 os "java/lang/String" "coder" "B" (.int (0 : Int32))) (F_sv : Fld Z h0 os "java/lang/String" "value" "[B" (.ref ow)) (V_w : Arv Z h0 ow kw (.byte) pm (BL g) (.int (0 : Int32))) (g_o : n0 ≤ o) (g_oa : n0 ≤ oa) (ne_o_oa : o ≠ oa) (ne_o_os : o ≠ os) (ne_o_ow : o ≠ ow) (ne_oa_os : oa ≠ os) (ne_oa_ow : oa ≠ ow) (hm0 : 65534 ≤ pm.toInt) (hm1 : pm.toInt ≤ 65537) :
    MetFree l (⟨"com/example/strict_audit/strictaudit/format/LineBuffer", "appendAscii", "(Ljava/lang/String;)V"⟩ : MethodName) (head1 (Jvm.Cond.code (⟨"com/example/strict_audit/strictaudit/format/LineBuffer", "appendAscii", "(Ljava/lang/String;)V"⟩ : MethodName) prog_3_method_7_code 3 none :: ws) ({ frames := 4, cells := 1, slots := 65537, locals := 70 } : Room)) (fun a_ U_ => a_ = #[(.ref o), (.ref os)] ∧ Z.Warmed39 U_.vm ∧ U_.heap = h0) (fun _ _ _ _ _ => True) (fun _ U_ o_ U_' => ∃ v_ L_, o_ = .returned v_ ∧ (Q_apB Z o os zc wf oa ka f ow kw pm g h0 n0) v_ U_'.heap L_ ∧ FrameEnd U_ o_ U_' L_ 1 65537) := by
  refine ow_body (plainFor_of_name pn_0) ?_
  intro p e s m below meth c T0 X0 hx hZ hby hml hown hnm hret hlk e0
  have N0 := Fr.nil n0
  refine Ends.cast (ef_apS m o os) ?_
  refine ow_aloadN X0 hx (hb hby d_prog_3m7_0) rfl rfl (pc' := 1) rfl ?_
  refine ow_aloadN X0 hx (hb hby d_prog_3m7_1) rfl rfl (pc' := 2) rfl ?_
  refine ow_callVPI X0 hx hZ rfl hown (hw _ (List.mem_of_getElem? (i := 89) rfl)) (hw _ (List.mem_of_getElem? (i := 90) rfl)) (hw _ (List.mem_of_getElem? (i := 92) rfl)) (hw _ (List.mem_of_getElem? (i := 91) rfl)) (hw _ (List.mem_of_getElem? (i := 60) rfl)) (hw _ (List.mem_of_getElem? (i := 93) rfl)) (by decide) (rm_strLen l Z a0 hw [] os zc ow kw pm g h0 S_cs E_s F_sc F_sv V_w (by first | assumption | decide | omega)) e0 1 (by decide) (by decide) (by decide) (by decide) [] (by rw [hml]; rfl) pd_13 rfl E_s rfl rfl (Nat.le_of_eq rfl) (hb hby d_prog_3m7_2) (pc' := 5) rfl (fun z1 T1 hz1 X1 e1 => ?_)
  have az1 : z1.toInt = pm.toInt := hz1
  have rz1 := rng32 z1
  rw [show z1 = pm from ow_eq (by omega)]
  refine ow_callPr X1 hx hZ hown (hw _ (List.mem_of_getElem? (i := 53) rfl)) (hw _ (List.mem_of_getElem? (i := 55) rfl)) (hw _ (List.mem_of_getElem? (i := 1) rfl)) (hw _ (List.mem_of_getElem? (i := 54) rfl)) (hw _ (List.mem_of_getElem? (i := 2) rfl)) (hw _ (List.mem_of_getElem? (i := 56) rfl)) (by decide) (rm_mrN l Z a0 hw [] o pm oa ka (512 : Int32) f (0 : Int32) h0 n0 Z0 E_o F_b F_l V_a g_o ne_o_oa (by first | assumption | decide | omega | (have q0_ : (0 : Int32).toInt = 0 := (by decide); have q1_ : (512 : Int32).toInt = 512 := (by decide); omega)) (by first | assumption | decide | omega | (have q0_ : (0 : Int32).toInt = 0 := (by decide); have q1_ : (512 : Int32).toInt = 512 := (by decide); omega)) (by first | assumption | decide | omega | (have q0_ : (0 : Int32).toInt = 0 := (by decide); have q1_ : (512 : Int32).toInt = 512 := (by decide); omega)) (by first | assumption | decide | omega | (have q0_ : (0 : Int32).toInt = 0 := (by decide); have q1_ : (512 : Int32).toInt = 512 := (by decide); omega))) e1 0 (by decide) (by decide) (by decide) (by decide) [(.int pm)] (by rw [hml]; rfl) pd_3 rfl E_o rfl rfl (Nat.le_of_eq rfl) (hb hby d_prog_3m7_5) (pc' := 8) rfl (fun v2 T2 L2 hQ2 X2 => ?_)
  obtain ⟨b2, kt_2, fr_2, rfl, Nc2, Kc2, P2_0, P2_1, P2_2, P2_3, P2_4, P2_5, P2_6⟩ := hQ2
  have S_java_lang_String_COMPACT_STRINGS_2 := ow_staKeep S_cs Kc2 (allS (ow_exaNs E_o) all0)
  have S_jdk_internal_util_Preconditions_SIOOBE_FORMATTER_2 := ow_staKeep S_f Kc2 (allS (ow_exaNs E_o) all0)
  have V_oa_2 := V_a.keep Kc2 (ninS (Ne.symm ne_o_oa) nin0)
  have E_os_2 := E_s.keep Kc2
  have F_os_coder_2 := F_sc.keep Kc2 (ninS (Ne.symm ne_o_os) nin0)
  have F_os_value_2 := F_sv.keep Kc2 (ninS (Ne.symm ne_o_os) nin0)
  have V_ow_2 := V_w.keep Kc2 (ninS (Ne.symm ne_o_ow) nin0)
  have ne_o_b2 : o ≠ b2 := Nat.ne_of_lt (Nat.lt_of_lt_of_le E_o.lt P2_5)
  have ne_oa_b2 : oa ≠ b2 := Nat.ne_of_lt (Nat.lt_of_lt_of_le V_a.lt P2_5)
  have ne_os_b2 : os ≠ b2 := Nat.ne_of_lt (Nat.lt_of_lt_of_le E_s.lt P2_5)
  have ne_ow_b2 : ow ≠ b2 := Nat.ne_of_lt (Nat.lt_of_lt_of_le V_w.lt P2_5)
  have sz_b2 : h0.size ≤ b2 := Nat.le_trans (Keep.refl h0 [o]).1 P2_5
  have Zs2 : n0 ≤ T2.heap.size := Nat.le_trans Z0 Kc2.1
  have K2 := (Keep.refl h0 [o]).trans Kc2 (allS (Or.inl (List.mem_of_getElem? (i := 0) rfl)) all0)
  have N2 := Fr.app N0 Nc2
  show Ends _ _ _ _ T2 (mkF m 8 #[.val (.ref o), .val (.ref os), .unset] [])
  refine ow_iconst X2 hx (z := (0 : Int32)) (hb hby d_prog_3m7_8) rfl (pc' := 9) rfl ?_
  refine ow_istoreN X2 hx (Ls' := #[.val (.ref o), .val (.ref os), .val (.int (0 : Int32))]) (hb hby d_prog_3m7_9) rfl (pc' := 10) rfl ?_
  have J10 : ∀ (n : Nat) (ik : Int32) (il : Int32) (fj : Nat → Int32) (T3 : State) (hj10 : Heap) (lc10 : List Loc), Stand p l e ({ frames := 4, cells := 1, slots := 65537, locals := 70 } : Room) s m #[(.ref o), (.ref os)] below meth c T3 lc10 1 65537 → T3.heap = hj10 → Fr n0 lc10 → (Sta Z hj10 "java/lang/String" "COMPACT_STRINGS" "Z" (.int zc)) → (Sta Z hj10 "jdk/internal/util/Preconditions" "SIOOBE_FORMATTER" "Ljava/util/function/BiFunction;" wf) → (Exa Z hj10 o "com/example/strict_audit/strictaudit/format/LineBuffer") → (Fld Z hj10 o "com/example/strict_audit/strictaudit/format/LineBuffer" "bytes" "[B" (.ref b2)) → (Exa Z hj10 os "java/lang/String") → (Fld Z hj10 os "java/lang/String" "coder" "B" (.int (0 : Int32))) → (Fld Z hj10 os "java/lang/String" "value" "[B" (.ref ow)) → (Arv Z hj10 ow kw (.byte) pm (BL g) (.int (0 : Int32))) → (Fld Z hj10 o "com/example/strict_audit/strictaudit/format/LineBuffer" "length" "I" (.int il)) → (Arv Z hj10 b2 kt_2 (.byte) pm (BL fj) (.int (0 : Int32))) → (Keep h0 hj10 [o]) → (n0 ≤ hj10.size) → (il.toInt = ik.toInt ∧ 0 ≤ ik.toInt ∧ ik.toInt ≤ pm.toInt) → (pm.toInt - ik.toInt) = (n : Int) → Ends p e below (Out s 1 65537 (Q_apB Z o os zc wf oa ka f ow kw pm g h0 n0)) T3 (mkF m 10 #[.val (.ref o), .val (.ref os), .val (.int ik)] []) := by
    intro n
    induction n using Nat.strongRecOn with
    | _ n ih =>
      intro ik il fj T3 hj10 lc10 X3 e3 Nj10 Hf10_0 Hf10_1 Hf10_2 Hf10_3 Hf10_4 Hf10_5 Hf10_6 Hf10_7 Hf10_8 Hf10_9 HK10 HZ10 hi10 hm10
      have r_ik := rng32 ik
      have r_il := rng32 il
      refine ow_iloadN X3 hx (hb hby d_prog_3m7_10) rfl (pc' := 11) rfl ?_
      refine ow_aloadN X3 hx (hb hby d_prog_3m7_11) rfl rfl (pc' := 12) rfl ?_
      refine ow_callVPI X3 hx hZ rfl hown (hw _ (List.mem_of_getElem? (i := 89) rfl)) (hw _ (List.mem_of_getElem? (i := 90) rfl)) (hw _ (List.mem_of_getElem? (i := 92) rfl)) (hw _ (List.mem_of_getElem? (i := 91) rfl)) (hw _ (List.mem_of_getElem? (i := 60) rfl)) (hw _ (List.mem_of_getElem? (i := 93) rfl)) (by decide) (rm_strLen l Z a0 hw [] os zc ow kw pm g hj10 Hf10_0 Hf10_4 Hf10_5 Hf10_6 Hf10_7 (by first | assumption | decide | omega)) e3 1 (by decide) (by decide) (by decide) (by decide) [] (by rw [hml]; rfl) pd_13 rfl Hf10_4 rfl rfl (Nat.le_of_eq rfl) (hb hby d_prog_3m7_12) (pc' := 15) rfl (fun z4 T4 hz4 X4 e4 => ?_)
      have az4 : z4.toInt = pm.toInt := hz4
      have rz4 := rng32 z4
      rw [show z4 = pm from ow_eq (by omega)]
      refine ow_icmp_ge X4 hx (ik.toInt) (pm.toInt) (hb hby d_prog_3m7_15) rfl rfl (by decide) (pt := 46) (by decide) (pf := 18) rfl (fun c15 => ?_) (fun c15 => ?_)
      · exact ow_retV X4 hx hret hlk (hb hby d_prog_3m7_46) (by decide) (by decide) (show Q_apB Z o os zc wf oa ka f ow kw pm g h0 n0 _ T4.heap _ from by rw [e4]; exact ⟨il, b2, kt_2, fj, rfl, Nj10, HK10, Hf10_2, Hf10_8, Hf10_3, Hf10_9, P2_4, sz_b2, P2_6⟩)
      · refine ow_aloadN X4 hx (hb hby d_prog_3m7_18) rfl rfl (pc' := 19) rfl ?_
        refine ow_getF X4 hx hZ hown (host := "") (Or.inl (hw _ (List.mem_of_getElem? (i := 10) rfl))) Via.refl e4 Hf10_3 (hb hby d_prog_3m7_19) (pc' := 22) rfl (fun T5 X5 e5 => ?_)
        refine ow_aloadN X5 hx (hb hby d_prog_3m7_22) rfl rfl (pc' := 23) rfl ?_
        refine ow_dup X5 hx (hb hby d_prog_3m7_23) rfl (pc' := 24) rfl ?_
        refine ow_getF X5 hx hZ hown (host := "") (Or.inl (hw _ (List.mem_of_getElem? (i := 24) rfl))) Via.refl e5 Hf10_8 (hb hby d_prog_3m7_24) (pc' := 27) rfl (fun T6 X6 e6 => ?_)
        refine ow_dupX1 X6 hx (hb hby d_prog_3m7_27) rfl rfl (pc' := 28) rfl ?_
        refine ow_iconst X6 hx (z := (1 : Int32)) (hb hby d_prog_3m7_28) rfl (pc' := 29) rfl ?_
        refine ow_iadd X6 hx (hb hby d_prog_3m7_29) (pc' := 30) rfl (fun z7 hz7 => ?_)
        have az7 : (z7.toInt - (il.toInt + (1 : Int))) % 4294967296 = 0 := by rw [hz7]; exact c_iadd il (1 : Int32)
        have rz7 := rng32 z7
        refine ow_putF X6 hx hZ hown (host := "") (Or.inl (hw _ (List.mem_of_getElem? (i := 24) rfl))) Via.refl e6 Hf10_8 Hf10_2 (Or.inl (hw _ (List.mem_of_getElem? (i := 25) rfl))) (hw _ (List.mem_of_getElem? (i := 1) rfl)) (ty := .int) (by decide) rfl rfl (hb hby d_prog_3m7_30) (pc' := 33) rfl (fun T8 h8 X8 e8 W8 => ?_)
        have F_o_length_8 := Hf10_8.same W8
        have S_java_lang_String_COMPACT_STRINGS_8 := Hf10_0.wr W8
        have S_jdk_internal_util_Preconditions_SIOOBE_FORMATTER_8 := Hf10_1.wr W8
        have E_o_8 := Hf10_2.wr W8
        have F_o_bytes_8 := Hf10_3.other W8 (Or.inr (slot_ne (Or.inl (hw _ (List.mem_of_getElem? (i := 11) rfl))) (Or.inl (hw _ (List.mem_of_getElem? (i := 25) rfl))) (by decide) (t := (.array .byte)) (t' := .int) (by decide) (by decide)))
        have E_os_8 := Hf10_4.wr W8
        have F_os_coder_8 := Hf10_5.other W8 (Or.inl (Ne.symm ne_o_os))
        have F_os_value_8 := Hf10_6.other W8 (Or.inl (Ne.symm ne_o_os))
        have V_ow_8 := Hf10_7.other W8 (Ne.symm ne_o_ow)
        have V_b2_8 := Hf10_9.other W8 (Ne.symm P2_6)
        have Zs8 : n0 ≤ h8.size := Nat.le_trans HZ10 (Keep.of_wr W8).1
        have K8 := HK10.wr W8 (Or.inl (List.mem_of_getElem? (i := 0) rfl))
        have N8 := Fr.snoc X8 Nj10 g_o
        refine ow_aloadN X8 hx (hb hby d_prog_3m7_33) rfl rfl (pc' := 34) rfl ?_
        refine ow_iloadN X8 hx (hb hby d_prog_3m7_34) rfl (pc' := 35) rfl ?_
        refine ow_callVPI X8 hx hZ rfl hown (hw _ (List.mem_of_getElem? (i := 99) rfl)) (hw _ (List.mem_of_getElem? (i := 100) rfl)) (hw _ (List.mem_of_getElem? (i := 102) rfl)) (hw _ (List.mem_of_getElem? (i := 101) rfl)) (hw _ (List.mem_of_getElem? (i := 60) rfl)) (hw _ (List.mem_of_getElem? (i := 103) rfl)) (by decide) (rm_schA l Z a0 hw [] os ik zc ow kw pm g wf h8 S_java_lang_String_COMPACT_STRINGS_8 E_os_8 F_os_coder_8 F_os_value_8 V_ow_8 (by first | assumption | decide | omega) S_jdk_internal_util_Preconditions_SIOOBE_FORMATTER_8 (by first | assumption | decide | omega) (by first | assumption | decide | omega) (by first | assumption | decide | omega) (by first | assumption | decide | omega)) e8 2 (by decide) (by decide) (by decide) (by decide) [(.int ik)] (by rw [hml]; rfl) pd_14 rfl E_os_8 rfl rfl (Nat.le_of_eq rfl) (hb hby d_prog_3m7_35) (pc' := 38) rfl (fun z9 T9 hz9 X9 e9 => ?_)
        have az9 : 0 ≤ z9.toInt ∧ z9.toInt ≤ 65535 := hz9
        have rz9 := rng32 z9
        refine ow_i2b X9 hx (hb hby d_prog_3m7_38) (pc' := 39) rfl (fun z10 hz10 => ?_)
        have az10 : (z10.toInt - z9.toInt) % 256 = 0 ∧ -128 ≤ z10.toInt ∧ z10.toInt < 128 := by rw [hz10]; exact c_i2b z9
        have rz10 := rng32 z10
        refine ow_stB X9 hx hZ e9 V_b2_8 (il.toNatClampNeg) rfl (ow_nlt (y := (0 : Int32)) (show ¬ il.toInt < 0 from by omega)) (ow_lt (show il.toInt < pm.toInt from by omega)) (by rw [BL_len]; show il.toInt.toNat < 65537; omega) (hb hby d_prog_3m7_39) (pc' := 40) rfl (fun T11 h11 X11 e11 W11 V11 => ?_)
        have V_b2_11 : Arv Z h11 b2 kt_2 (.byte) pm (BL (upd fj il.toInt.toNat (z10.toInt8.toInt32))) (.int (0 : Int32)) := by rw [← (show (BL fj).set il.toNatClampNeg (.int (z10.toInt8.toInt32)) = BL (upd fj il.toInt.toNat (z10.toInt8.toInt32)) from BL_set _ _ _)]; exact V11
        have S_java_lang_String_COMPACT_STRINGS_11 := S_java_lang_String_COMPACT_STRINGS_8.wr W11
        have S_jdk_internal_util_Preconditions_SIOOBE_FORMATTER_11 := S_jdk_internal_util_Preconditions_SIOOBE_FORMATTER_8.wr W11
        have E_o_11 := E_o_8.wr W11
        have F_o_bytes_11 := F_o_bytes_8.other W11 (Or.inl P2_6)
        have E_os_11 := E_os_8.wr W11
        have F_os_coder_11 := F_os_coder_8.other W11 (Or.inl ne_os_b2)
        have F_os_value_11 := F_os_value_8.other W11 (Or.inl ne_os_b2)
        have V_ow_11 := V_ow_8.other W11 ne_ow_b2
        have F_o_length_11 := F_o_length_8.other W11 (Or.inl P2_6)
        have Zs11 : n0 ≤ h11.size := Nat.le_trans Zs8 (Keep.of_wr W11).1
        have K11 := K8.wr W11 (Or.inr sz_b2)
        have N11 := Fr.snoc X11 N8 P2_4
        refine ow_iinc X11 hx (Ls' := #[.val (.ref o), .val (.ref os), .val (.int ik)]) (hb hby d_prog_3m7_40) rfl (fun z => rfl) (pc' := 43) rfl (fun z12 hz12 => ?_)
        show Ends _ _ _ _ T11 (mkF m 43 #[.val (.ref o), .val (.ref os), .val (.int z12)] [])
        have az12 : (z12.toInt - (ik.toInt + 1)) % 4294967296 = 0 := by rw [hz12]; exact c_iadd ik (1 : Int32)
        have rz12 := rng32 z12
        refine ow_goto X11 hx (hb hby d_prog_3m7_43) (by decide) (pc' := 10) (by decide) ?_
        exact ih (pm.toInt - z12.toInt).toNat (by omega) z12 z7 (upd fj il.toInt.toNat (z10.toInt8.toInt32)) T11 h11 _ X11 e11 N11 (show Sta Z h11 "java/lang/String" "COMPACT_STRINGS" "Z" (.int zc) from S_java_lang_String_COMPACT_STRINGS_11) (show Sta Z h11 "jdk/internal/util/Preconditions" "SIOOBE_FORMATTER" "Ljava/util/function/BiFunction;" wf from S_jdk_internal_util_Preconditions_SIOOBE_FORMATTER_11) (show Exa Z h11 o "com/example/strict_audit/strictaudit/format/LineBuffer" from E_o_11) (show Fld Z h11 o "com/example/strict_audit/strictaudit/format/LineBuffer" "bytes" "[B" (.ref b2) from F_o_bytes_11) (show Exa Z h11 os "java/lang/String" from E_os_11) (show Fld Z h11 os "java/lang/String" "coder" "B" (.int (0 : Int32)) from F_os_coder_11) (show Fld Z h11 os "java/lang/String" "value" "[B" (.ref ow) from F_os_value_11) (show Arv Z h11 ow kw (.byte) pm (BL g) (.int (0 : Int32)) from V_ow_11) (show Fld Z h11 o "com/example/strict_audit/strictaudit/format/LineBuffer" "length" "I" (.int z7) from F_o_length_11) (show Arv Z h11 b2 kt_2 (.byte) pm (BL (upd fj il.toInt.toNat (z10.toInt8.toInt32))) (.int (0 : Int32)) from V_b2_11) K11 Zs11 (show z7.toInt = z12.toInt ∧ 0 ≤ z12.toInt ∧ z12.toInt ≤ pm.toInt from by omega) (show (pm.toInt - z12.toInt) = (((pm.toInt - z12.toInt).toNat : Nat) : Int) from by omega)
  exact J10 (pm.toInt - (0 : Int)).toNat (0 : Int32) (0 : Int32) fr_2 T2 T2.heap _ X2 rfl N2 (show Sta Z T2.heap "java/lang/String" "COMPACT_STRINGS" "Z" (.int zc) from S_java_lang_String_COMPACT_STRINGS_2) (show Sta Z T2.heap "jdk/internal/util/Preconditions" "SIOOBE_FORMATTER" "Ljava/util/function/BiFunction;" wf from S_jdk_internal_util_Preconditions_SIOOBE_FORMATTER_2) (show Exa Z T2.heap o "com/example/strict_audit/strictaudit/format/LineBuffer" from P2_0) (show Fld Z T2.heap o "com/example/strict_audit/strictaudit/format/LineBuffer" "bytes" "[B" (.ref b2) from P2_2) (show Exa Z T2.heap os "java/lang/String" from E_os_2) (show Fld Z T2.heap os "java/lang/String" "coder" "B" (.int (0 : Int32)) from F_os_coder_2) (show Fld Z T2.heap os "java/lang/String" "value" "[B" (.ref ow) from F_os_value_2) (show Arv Z T2.heap ow kw (.byte) pm (BL g) (.int (0 : Int32)) from V_ow_2) (show Fld Z T2.heap o "com/example/strict_audit/strictaudit/format/LineBuffer" "length" "I" (.int (0 : Int32)) from P2_1) (show Arv Z T2.heap b2 kt_2 (.byte) pm (BL fr_2) (.int (0 : Int32)) from P2_3) K2 Zs2 (show (0 : Int) = (0 : Int) ∧ 0 ≤ (0 : Int) ∧ (0 : Int) ≤ pm.toInt from by omega) (show (pm.toInt - (0 : Int)) = (((pm.toInt - (0 : Int)).toNat : Nat) : Int) from by omega)
theorem pd_15 : parseMethodDescriptor "()V" = some ⟨[], none⟩ := by decide +kernel
theorem pd_16 : parseMethodDescriptor "()[B" = some ⟨[], some (.array .byte)⟩ := by decide +kernel
theorem pd_17 : parseMethodDescriptor "(B)V" = some ⟨[.byte], none⟩ := by decide +kernel
theorem pd_18 : parseMethodDescriptor "([C)V" = some ⟨[(.array .char)], none⟩ := by decide +kernel
theorem pd_19 : parseMethodDescriptor "(Ljava/lang/String;)V" = some ⟨[(.object "java/lang/String")], none⟩ := by decide +kernel
theorem ef_law (m : MethodId) (x0 : Int32) (x1 : Int32) (x2 : Int32) (x3 : Int32) : entryFrame m #[(.int x0), (.int x1), (.int x2), (.int x3)] maxLocals = mkF m 0 #[.val (.int x0), .val (.int x1), .val (.int x2), .val (.int x3), .unset, .unset, .unset, .unset, .unset, .unset, .unset, .unset, .unset, .unset, .unset, .unset] [] := by first | (simp [entryFrame, mkF, argsToLocals, Value.category, maxLocals]; done) | rfl
def Q_law (pm : Int32) (ps : Int32) (pa : Int32) (pb : Int32) (zc : Int32) (wf : Value) (h0 : Heap) (n0 : Nat) (v : Option Value) (h : Heap) (L : List Loc) : Prop := v = some (.int 1) ∧ Fr n0 L
theorem pn_6 : plainName "com/example/strict_audit/strictaudit/format/LineBufferClearPinLaw" = true := by first | (simp [plainName, overriddenIn]; done) | decide +kernel
set_option maxRecDepth 65536 in
set_option maxHeartbeats 40000000 in
theorem rm_law (l : Launch) (Z : State) (a0 : Array Value) (hw : ∀ d ∈ tables_1, d.before a0 Z = true) (ws : List Jvm.Cond) (pm : Int32) (ps : Int32) (pa : Int32) (pb : Int32) (zc : Int32) (wf : Value) (h0 : Heap) (n0 : Nat) (Z0 : n0 ≤ h0.size) (S_cs : Sta Z h0 "java/lang/String" "COMPACT_STRINGS" "Z" (.int zc)) (S_f : Sta Z h0 "jdk/internal/util/Preconditions" "SIOOBE_FORMATTER" "Ljava/util/function/BiFunction;" wf) (hz0 : ¬ zc.toInt = 0) (hwf : wf = .null ∨ ∃ a, wf = .ref a) :
    MetFree l x (head1 (Jvm.Cond.code x code maxLocals ret :: ws) room_1) (fun a_ U_ => a_ = #[(.int pm), (.int ps), (.int pa), (.int pb)] ∧ Z.Warmed39 U_.vm ∧ U_.heap = h0) (fun _ _ _ _ _ => True) (fun _ U_ o_ U_' => ∃ v_ L_, o_ = .returned v_ ∧ (Q_law pm ps pa pb zc wf h0 n0) v_ U_'.heap L_ ∧ FrameEnd U_ o_ U_' L_ 24 237184) := by
  refine ow_body (plainFor_of_name pn_6) ?_
  intro p e s m below meth c T0 X0 hx hZ hby hml hown hnm hret hlk e0
  have N0 := Fr.nil n0
  have hret : meth.sig.returnType = (some .boolean) := hret
  refine Ends.cast (ef_law m pm ps pa pb) ?_
  have r_pm := rng32 pm
  have r_ps := rng32 ps
  have r_pa := rng32 pa
  have r_pb := rng32 pb
  refine ow_new X0 hx hZ hown (hw _ (List.mem_of_getElem? (i := 0) rfl)) (hw _ (List.mem_of_getElem? (i := 1) rfl)) (hw _ (List.mem_of_getElem? (i := 2) rfl)) e0 (hb hby at_0) (by decide) (by decide) (pc' := 3) rfl (fun T1 h1 b1 g1 X1 e1 E1 A1 D1 => ?_)
  have g_b1 : n0 ≤ b1 := Nat.le_trans Z0 (Nat.le_of_eq g1.symm)
  have sz_b1 : h0.size ≤ b1 := Nat.le_trans (Keep.refl h0 []).1 (Nat.le_of_eq g1.symm)
  have Zs1 : n0 ≤ h1.size := Nat.le_trans Z0 E1.1
  have K1 := (Keep.refl h0 []).ext E1
  have F_b1_bytes : Fld Z h1 b1 "com/example/strict_audit/strictaudit/format/LineBuffer" "bytes" "[B" .null := D1 (Or.inl (hw _ (List.mem_of_getElem? (i := 11) rfl))) (ty := (.array .byte)) (by decide)
  have F_b1_length : Fld Z h1 b1 "com/example/strict_audit/strictaudit/format/LineBuffer" "length" "I" (.int (0 : Int32)) := D1 (Or.inl (hw _ (List.mem_of_getElem? (i := 25) rfl))) (ty := .int) (by decide)
  refine ow_dup X1 hx (hb hby at_3) rfl (pc' := 4) rfl ?_
  refine ow_callI X1 hx hZ rfl rfl hown (hw _ (List.mem_of_getElem? (i := 3) rfl)) (hw _ (List.mem_of_getElem? (i := 4) rfl)) (hw _ (List.mem_of_getElem? (i := 2) rfl)) (hw _ (List.mem_of_getElem? (i := 5) rfl)) (by decide) (rm_lbInit l Z a0 hw [] b1 h1 n0 Zs1 A1 F_b1_bytes F_b1_length g_b1) e1 1 (by decide) (by decide) (by decide) (by decide) [] (by rw [hml]; rfl) pd_15 rfl rfl rfl (Nat.le_of_eq rfl) (hb hby at_4) (pc' := 7) rfl (fun v2 T2 L2 hQ2 X2 => ?_)
  obtain ⟨b2, kt_2, fr_2, rfl, Nc2, Kc2, P2_0, P2_1, P2_2, P2_3, P2_4, P2_5, P2_6⟩ := hQ2
  have ne_b1_b2 : b1 ≠ b2 := Nat.ne_of_lt (Nat.lt_of_lt_of_le A1.lt P2_5)
  have sz_b2 : h0.size ≤ b2 := Nat.le_trans K1.1 P2_5
  have Zs2 : n0 ≤ T2.heap.size := Nat.le_trans Zs1 Kc2.1
  have K2 := K1.trans Kc2 (allS (Or.inr sz_b1) all0)
  have N2 := Fr.app N0 Nc2
  show Ends _ _ _ _ T2 (mkF m 7 #[.val (.int pm), .val (.int ps), .val (.int pa), .val (.int pb), .unset, .unset, .unset, .unset, .unset, .unset, .unset, .unset, .unset, .unset, .unset, .unset] [(.ref b1)])
  refine ow_astore X2 hx (Ls' := #[.val (.int pm), .val (.int ps), .val (.int pa), .val (.int pb), .val (.ref b1), .unset, .unset, .unset, .unset, .unset, .unset, .unset, .unset, .unset, .unset, .unset]) (hb hby at_7) rfl rfl (pc' := 9) rfl ?_
  refine ow_iloadN X2 hx (hb hby at_9) rfl (pc' := 10) rfl ?_
  refine ow_iconst X2 hx (z := (3 : Int32)) (hb hby at_10) rfl (pc' := 11) rfl ?_
  refine ow_iand X2 hx (hb hby at_11) (pc' := 12) rfl (fun z3 hz3 => ?_)
  have az3 : z3.toInt = pm.toInt % 4 := by rw [hz3]; exact c_mask pm (3 : Int32) 2 (by decide) (by decide)
  have rz3 := rng32 z3
  refine ow_istore X2 hx (Ls' := #[.val (.int pm), .val (.int ps), .val (.int pa), .val (.int pb), .val (.ref b1), .val (.int z3), .unset, .unset, .unset, .unset, .unset, .unset, .unset, .unset, .unset, .unset]) (hb hby at_12) rfl (pc' := 14) rfl ?_
  refine ow_iloadN X2 hx (hb hby at_14) rfl (pc' := 15) rfl ?_
  refine ow_iconst X2 hx (z := (4 : Int32)) (hb hby at_15) rfl (pc' := 16) rfl ?_
  refine ow_iand X2 hx (hb hby at_16) (pc' := 17) rfl (fun z4 hz4 => ?_)
  have az4 : z4.toInt = (((pm.toInt % 256).toNat / 4 % 2 * 4 : Nat) : Int) := by rw [hz4]; exact ow_lowbits pm (4 : Int32) (fun r => ((r / 4 % 2 * 4 : Nat) : Int)) (by decide) (by decide +kernel)
  have rz4 := rng32 z4
  refine ow_if_eq X2 hx (z4.toInt) (hb hby at_17) rfl (by decide) (pt := 24) (by decide) (pf := 20) rfl (fun c17 => ?_) (fun c17 => ?_)
  · refine ow_iconst X2 hx (z := (0 : Int32)) (hb hby at_24) rfl (pc' := 25) rfl ?_
    refine ow_istore X2 hx (Ls' := #[.val (.int pm), .val (.int ps), .val (.int pa), .val (.int pb), .val (.ref b1), .val (.int z3), .val (.int (0 : Int32)), .unset, .unset, .unset, .unset, .unset, .unset, .unset, .unset, .unset]) (hb hby at_25) rfl (pc' := 27) rfl ?_
    refine ow_ldcInt X2 hx hZ hown (hw _ (List.mem_of_getElem? (i := 12) rfl)) (hb hby at_27) (pc' := 29) rfl ?_
    refine ow_iloadN X2 hx (hb hby at_29) rfl (pc' := 30) rfl ?_
    refine ow_iconst X2 hx (z := (3 : Int32)) (hb hby at_30) rfl (pc' := 31) rfl ?_
    refine ow_iand X2 hx (hb hby at_31) (pc' := 32) rfl (fun z5 hz5 => ?_)
    have az5 : z5.toInt = ps.toInt % 4 := by rw [hz5]; exact c_mask ps (3 : Int32) 2 (by decide) (by decide)
    have rz5 := rng32 z5
    refine ow_iadd X2 hx (hb hby at_32) (pc' := 33) rfl (fun z6 hz6 => ?_)
    have az6 : (z6.toInt - ((65534 : Int) + z5.toInt)) % 4294967296 = 0 := by rw [hz6]; exact c_iadd (65534 : Int32) z5
    have rz6 := rng32 z6
    refine ow_istore X2 hx (Ls' := #[.val (.int pm), .val (.int ps), .val (.int pa), .val (.int pb), .val (.ref b1), .val (.int z3), .val (.int (0 : Int32)), .val (.int z6), .unset, .unset, .unset, .unset, .unset, .unset, .unset, .unset]) (hb hby at_33) rfl (pc' := 35) rfl ?_
    refine ow_iload X2 hx (hb hby at_35) rfl (pc' := 37) rfl ?_
    refine ow_iconst X2 hx (z := (1 : Int32)) (hb hby at_37) rfl (pc' := 38) rfl ?_
    refine ow_icmp_ne X2 hx (z3.toInt) ((1 : Int)) (hb hby at_38) rfl rfl (by decide) (pt := 58) (by decide) (pf := 41) rfl (fun c38 => ?_) (fun c38 => ?_)
    · refine ow_iload X2 hx (hb hby at_58) rfl (pc' := 60) rfl ?_
      refine ow_iconst X2 hx (z := (2 : Int32)) (hb hby at_60) rfl (pc' := 61) rfl ?_
      refine ow_icmp_ne X2 hx (z3.toInt) ((2 : Int)) (hb hby at_61) rfl rfl (by decide) (pt := 108) (by decide) (pf := 64) rfl (fun c61 => ?_) (fun c61 => ?_)
      · refine ow_iload X2 hx (hb hby at_108) rfl (pc' := 110) rfl ?_
        refine ow_iconst X2 hx (z := (3 : Int32)) (hb hby at_110) rfl (pc' := 111) rfl ?_
        refine ow_icmp_ne X2 hx (z3.toInt) ((3 : Int)) (hb hby at_111) rfl rfl (by decide) (pt := 163) (by decide) (pf := 114) rfl (fun c111 => ?_) (fun c111 => ?_)
        · refine ow_aload X2 hx (hb hby at_163) rfl rfl (pc' := 165) rfl ?_
          refine ow_callV X2 hx hZ rfl hown (hw _ (List.mem_of_getElem? (i := 13) rfl)) (hw _ (List.mem_of_getElem? (i := 14) rfl)) (hw _ (List.mem_of_getElem? (i := 16) rfl)) (hw _ (List.mem_of_getElem? (i := 15) rfl)) (hw _ (List.mem_of_getElem? (i := 2) rfl)) (hw _ (List.mem_of_getElem? (i := 17) rfl)) (by decide) (rm_lbBytes l Z a0 hw [] b1 b2 T2.heap P2_2) rfl 0 (by decide) (by decide) (by decide) (by decide) [] (by rw [hml]; rfl) pd_16 rfl P2_0 rfl rfl (Nat.le_of_eq rfl) (hb hby at_165) (pc' := 168) rfl (fun v7 T7 L7 hQ7 X7 => ?_)
          obtain ⟨rfl, rfl, e7⟩ := hQ7
          rw [List.append_nil] at X7
          show Ends _ _ _ _ T7 (mkF m 168 #[.val (.int pm), .val (.int ps), .val (.int pa), .val (.int pb), .val (.ref b1), .val (.int z3), .val (.int (0 : Int32)), .val (.int z6), .unset, .unset, .unset, .unset, .unset, .unset, .unset, .unset] [(.ref b2)])
          refine ow_astore X7 hx (Ls' := #[.val (.int pm), .val (.int ps), .val (.int pa), .val (.int pb), .val (.ref b1), .val (.int z3), .val (.int (0 : Int32)), .val (.int z6), .val (.ref b2), .unset, .unset, .unset, .unset, .unset, .unset, .unset]) (hb hby at_168) rfl rfl (pc' := 170) rfl ?_
          refine ow_iload X7 hx (hb hby at_170) rfl (pc' := 172) rfl ?_
          refine ow_iconst X7 hx (z := (2 : Int32)) (hb hby at_172) rfl (pc' := 173) rfl ?_
          refine ow_icmp_ne X7 hx (z3.toInt) ((2 : Int)) (hb hby at_173) rfl rfl (by decide) (pt := 180) (by decide) (pf := 176) rfl (fun c173 => ?_) (fun c173 => absurd c173 (by omega))
          refine ow_iconst X7 hx (z := (0 : Int32)) (hb hby at_180) rfl (pc' := 181) rfl ?_
          refine ow_istore X7 hx (Ls' := #[.val (.int pm), .val (.int ps), .val (.int pa), .val (.int pb), .val (.ref b1), .val (.int z3), .val (.int (0 : Int32)), .val (.int z6), .val (.ref b2), .val (.int (0 : Int32)), .unset, .unset, .unset, .unset, .unset, .unset]) (hb hby at_181) rfl (pc' := 183) rfl ?_
          refine ow_iload X7 hx (hb hby at_183) rfl (pc' := 185) rfl ?_
          refine ow_ifY X7 hx (hb hby at_185) (by decide) (by decide) (pc' := 193) (by decide) ?_
          refine ow_sipush X7 hx (z := (512 : Int32)) (hb hby at_193) rfl (pc' := 196) rfl ?_
          refine ow_istore X7 hx (Ls' := #[.val (.int pm), .val (.int ps), .val (.int pa), .val (.int pb), .val (.ref b1), .val (.int z3), .val (.int (0 : Int32)), .val (.int z6), .val (.ref b2), .val (.int (0 : Int32)), .val (.int (512 : Int32)), .unset, .unset, .unset, .unset, .unset]) (hb hby at_196) rfl (pc' := 198) rfl ?_
          refine ow_aload X7 hx (hb hby at_198) rfl rfl (pc' := 200) rfl ?_
          refine ow_len X7 hx hZ e7 P2_3 (hb hby at_200) (pc' := 201) rfl ?_
          refine ow_iload X7 hx (hb hby at_201) rfl (pc' := 203) rfl ?_
          refine ow_icmpY X7 hx (hb hby at_203) (by decide) (by decide) (pc' := 208) (by decide) ?_
          refine ow_aload X7 hx (hb hby at_208) rfl rfl (pc' := 210) rfl ?_
          refine ow_callV X7 hx hZ rfl hown (hw _ (List.mem_of_getElem? (i := 18) rfl)) (hw _ (List.mem_of_getElem? (i := 19) rfl)) (hw _ (List.mem_of_getElem? (i := 21) rfl)) (hw _ (List.mem_of_getElem? (i := 20) rfl)) (hw _ (List.mem_of_getElem? (i := 2) rfl)) (hw _ (List.mem_of_getElem? (i := 22) rfl)) (by decide) (rm_clrA l Z a0 hw [] b1 b2 kt_2 (512 : Int32) fr_2 (0 : Int32) T2.heap n0 Zs2 P2_0 P2_2 P2_1 P2_3 g_b1 P2_6 (by first | assumption | decide | omega | (have q0_ : (0 : Int32).toInt = 0 := (by decide); have q1_ : (512 : Int32).toInt = 512 := (by decide); omega))) e7 0 (by decide) (by decide) (by decide) (by decide) [] (by rw [hml]; rfl) pd_15 rfl P2_0 rfl rfl (Nat.le_of_eq rfl) (hb hby at_210) (pc' := 213) rfl (fun v8 T8 L8 hQ8 X8 => ?_)
          obtain ⟨rfl, Nc8, Kc8, P8_0, P8_1, P8_2⟩ := hQ8
          have V_b2_8 := P2_3.keep Kc8 (ninS (Ne.symm P2_6) nin0)
          have Zs8 : n0 ≤ T8.heap.size := Nat.le_trans Zs2 Kc8.1
          have K8 := K2.trans Kc8 (allS (Or.inr sz_b1) all0)
          have N8 := Fr.app N2 Nc8
          show Ends _ _ _ _ T8 (mkF m 213 #[.val (.int pm), .val (.int ps), .val (.int pa), .val (.int pb), .val (.ref b1), .val (.int z3), .val (.int (0 : Int32)), .val (.int z6), .val (.ref b2), .val (.int (0 : Int32)), .val (.int (512 : Int32)), .unset, .unset, .unset, .unset, .unset] [])
          refine ow_iload X8 hx (hb hby at_213) rfl (pc' := 215) rfl ?_
          refine ow_ifY X8 hx (hb hby at_215) (by decide) (by decide) (pc' := 223) (by decide) ?_
          refine ow_aload X8 hx (hb hby at_223) rfl rfl (pc' := 225) rfl ?_
          refine ow_callV X8 hx hZ rfl hown (hw _ (List.mem_of_getElem? (i := 13) rfl)) (hw _ (List.mem_of_getElem? (i := 14) rfl)) (hw _ (List.mem_of_getElem? (i := 16) rfl)) (hw _ (List.mem_of_getElem? (i := 15) rfl)) (hw _ (List.mem_of_getElem? (i := 2) rfl)) (hw _ (List.mem_of_getElem? (i := 17) rfl)) (by decide) (rm_lbBytes l Z a0 hw [] b1 b2 T8.heap P8_2) rfl 0 (by decide) (by decide) (by decide) (by decide) [] (by rw [hml]; rfl) pd_16 rfl P8_0 rfl rfl (Nat.le_of_eq rfl) (hb hby at_225) (pc' := 228) rfl (fun v9 T9 L9 hQ9 X9 => ?_)
          obtain ⟨rfl, rfl, e9⟩ := hQ9
          rw [List.append_nil] at X9
          show Ends _ _ _ _ T9 (mkF m 228 #[.val (.int pm), .val (.int ps), .val (.int pa), .val (.int pb), .val (.ref b1), .val (.int z3), .val (.int (0 : Int32)), .val (.int z6), .val (.ref b2), .val (.int (0 : Int32)), .val (.int (512 : Int32)), .unset, .unset, .unset, .unset, .unset] [(.ref b2)])
          refine ow_astore X9 hx (Ls' := #[.val (.int pm), .val (.int ps), .val (.int pa), .val (.int pb), .val (.ref b1), .val (.int z3), .val (.int (0 : Int32)), .val (.int z6), .val (.ref b2), .val (.int (0 : Int32)), .val (.int (512 : Int32)), .val (.ref b2), .unset, .unset, .unset, .unset]) (hb hby at_228) rfl rfl (pc' := 230) rfl ?_
          refine ow_iload X9 hx (hb hby at_230) rfl (pc' := 232) rfl ?_
          refine ow_ifY X9 hx (hb hby at_232) (by decide) (by decide) (pc' := 246) (by decide) ?_
          refine ow_iconst X9 hx (z := (0 : Int32)) (hb hby at_246) rfl (pc' := 247) rfl ?_
          refine ow_istore X9 hx (Ls' := #[.val (.int pm), .val (.int ps), .val (.int pa), .val (.int pb), .val (.ref b1), .val (.int z3), .val (.int (0 : Int32)), .val (.int z6), .val (.ref b2), .val (.int (0 : Int32)), .val (.int (512 : Int32)), .val (.ref b2), .val (.int (0 : Int32)), .unset, .unset, .unset]) (hb hby at_247) rfl (pc' := 249) rfl ?_
          refine ow_iload X9 hx (hb hby at_249) rfl (pc' := 251) rfl ?_
          refine ow_ifY X9 hx (hb hby at_251) (by decide) (by decide) (pc' := 278) (by decide) ?_
          refine ow_aload X9 hx (hb hby at_278) rfl rfl (pc' := 280) rfl ?_
          refine ow_aload X9 hx (hb hby at_280) rfl rfl (pc' := 282) rfl ?_
          refine ow_acmp X9 hx rfl rfl (same := true) (hb hby at_282) (decide_eq_true rfl) (by decide) (pc' := 285) rfl ?_
          refine ow_iconst X9 hx (z := (1 : Int32)) (hb hby at_285) rfl (pc' := 286) rfl ?_
          refine ow_goto X9 hx (hb hby at_286) (by decide) (pc' := 290) (by decide) ?_
          refine ow_istore X9 hx (Ls' := #[.val (.int pm), .val (.int ps), .val (.int pa), .val (.int pb), .val (.ref b1), .val (.int z3), .val (.int (0 : Int32)), .val (.int z6), .val (.ref b2), .val (.int (0 : Int32)), .val (.int (512 : Int32)), .val (.ref b2), .val (.int (0 : Int32)), .val (.int (1 : Int32)), .unset, .unset]) (hb hby at_290) rfl (pc' := 292) rfl ?_
          refine ow_aload X9 hx (hb hby at_292) rfl rfl (pc' := 294) rfl ?_
          refine ow_callVPI X9 hx hZ rfl hown (hw _ (List.mem_of_getElem? (i := 26) rfl)) (hw _ (List.mem_of_getElem? (i := 27) rfl)) (hw _ (List.mem_of_getElem? (i := 29) rfl)) (hw _ (List.mem_of_getElem? (i := 28) rfl)) (hw _ (List.mem_of_getElem? (i := 2) rfl)) (hw _ (List.mem_of_getElem? (i := 30) rfl)) (by decide) (rm_lbLen l Z a0 hw [] b1 (0 : Int32) T8.heap P8_1) e9 0 (by decide) (by decide) (by decide) (by decide) [] (by rw [hml]; rfl) pd_13 rfl P8_0 rfl rfl (Nat.le_of_eq rfl) (hb hby at_294) (pc' := 297) rfl (fun z10 T10 hz10 X10 e10 => ?_)
          have az10 : z10.toInt = (0 : Int) := hz10
          have rz10 := rng32 z10
          refine ow_if_ne X10 hx (z10.toInt) (hb hby at_297) rfl (by decide) (pt := 313) (by decide) (pf := 300) rfl (fun c297 => absurd c297 (by omega)) (fun c297 => ?_)
          refine ow_aload X10 hx (hb hby at_300) rfl rfl (pc' := 302) rfl ?_
          refine ow_callV X10 hx hZ rfl hown (hw _ (List.mem_of_getElem? (i := 31) rfl)) (hw _ (List.mem_of_getElem? (i := 32) rfl)) (hw _ (List.mem_of_getElem? (i := 34) rfl)) (hw _ (List.mem_of_getElem? (i := 33) rfl)) (hw _ (List.mem_of_getElem? (i := 2) rfl)) (hw _ (List.mem_of_getElem? (i := 35) rfl)) (by decide) (rm_toBA l Z a0 hw [] b1 b2 kt_2 (512 : Int32) fr_2 T8.heap n0 Zs8 P8_2 P8_1 V_b2_8 (by first | assumption | decide | omega | (have q0_ : (512 : Int32).toInt = 512 := (by decide); omega)) (by first | assumption | decide | omega | (have q0_ : (512 : Int32).toInt = 512 := (by decide); omega))) e10 0 (by decide) (by decide) (by decide) (by decide) [] (by rw [hml]; rfl) pd_16 rfl P8_0 rfl rfl (Nat.le_of_eq rfl) (hb hby at_302) (pc' := 305) rfl (fun v11 T11 L11 hQ11 X11 => ?_)
          obtain ⟨b11, kt_11, fr_11, rfl, Nc11, Kc11, P11_0, P11_1, P11_2⟩ := hQ11
          have E_b1_11 := P8_0.keep Kc11
          have F_b1_bytes_11 := P8_2.keep Kc11 nin0
          have F_b1_length_11 := P8_1.keep Kc11 nin0
          have V_b2_11 := V_b2_8.keep Kc11 nin0
          have ne_b1_b11 : b1 ≠ b11 := Nat.ne_of_lt (Nat.lt_of_lt_of_le P8_0.lt P11_2)
          have ne_b2_b11 : b2 ≠ b11 := Nat.ne_of_lt (Nat.lt_of_lt_of_le V_b2_8.lt P11_2)
          have sz_b11 : h0.size ≤ b11 := Nat.le_trans K8.1 P11_2
          have Zs11 : n0 ≤ T11.heap.size := Nat.le_trans Zs8 Kc11.1
          have K11 := K8.trans Kc11 all0
          have N11 := Fr.app N8 Nc11
          show Ends _ _ _ _ T11 (mkF m 305 #[.val (.int pm), .val (.int ps), .val (.int pa), .val (.int pb), .val (.ref b1), .val (.int z3), .val (.int (0 : Int32)), .val (.int z6), .val (.ref b2), .val (.int (0 : Int32)), .val (.int (512 : Int32)), .val (.ref b2), .val (.int (0 : Int32)), .val (.int (1 : Int32)), .unset, .unset] [(.ref b11)])
          refine ow_len X11 hx hZ rfl P11_0 (hb hby at_305) (pc' := 306) rfl ?_
          refine ow_ifN X11 hx (hb hby at_306) (by decide) (pc' := 309) rfl ?_
          refine ow_iconst X11 hx (z := (1 : Int32)) (hb hby at_309) rfl (pc' := 310) rfl ?_
          refine ow_goto X11 hx (hb hby at_310) (by decide) (pc' := 314) (by decide) ?_
          refine ow_istore X11 hx (Ls' := #[.val (.int pm), .val (.int ps), .val (.int pa), .val (.int pb), .val (.ref b1), .val (.int z3), .val (.int (0 : Int32)), .val (.int z6), .val (.ref b2), .val (.int (0 : Int32)), .val (.int (512 : Int32)), .val (.ref b2), .val (.int (0 : Int32)), .val (.int (1 : Int32)), .val (.int (1 : Int32)), .unset]) (hb hby at_314) rfl (pc' := 316) rfl ?_
          refine ow_aload X11 hx (hb hby at_316) rfl rfl (pc' := 318) rfl ?_
          refine ow_iloadN X11 hx (hb hby at_318) rfl (pc' := 319) rfl ?_
          refine ow_i2b X11 hx (hb hby at_319) (pc' := 320) rfl (fun z12 hz12 => ?_)
          have az12 : (z12.toInt - pb.toInt) % 256 = 0 ∧ -128 ≤ z12.toInt ∧ z12.toInt < 128 := by rw [hz12]; exact c_i2b pb
          have rz12 := rng32 z12
          refine ow_callV X11 hx hZ rfl hown (hw _ (List.mem_of_getElem? (i := 48) rfl)) (hw _ (List.mem_of_getElem? (i := 49) rfl)) (hw _ (List.mem_of_getElem? (i := 51) rfl)) (hw _ (List.mem_of_getElem? (i := 50) rfl)) (hw _ (List.mem_of_getElem? (i := 2) rfl)) (hw _ (List.mem_of_getElem? (i := 52) rfl)) (by decide) (rm_lbApp l Z a0 hw [] b1 z12 b2 kt_2 (512 : Int32) fr_2 (0 : Int32) T11.heap n0 Zs11 E_b1_11 F_b1_bytes_11 F_b1_length_11 V_b2_11 g_b1 P2_6 P2_4 (by first | assumption | decide | omega | (have q0_ : (0 : Int32).toInt = 0 := (by decide); have q1_ : (512 : Int32).toInt = 512 := (by decide); omega)) (by first | assumption | decide | omega | (have q0_ : (0 : Int32).toInt = 0 := (by decide); have q1_ : (512 : Int32).toInt = 512 := (by decide); omega)) (by first | assumption | decide | omega | (have q0_ : (0 : Int32).toInt = 0 := (by decide); have q1_ : (512 : Int32).toInt = 512 := (by decide); omega))) rfl 0 (by decide) (by decide) (by decide) (by decide) [(.int z12)] (by rw [hml]; rfl) pd_17 rfl E_b1_11 rfl rfl (Nat.le_of_eq rfl) (hb hby at_320) (pc' := 323) rfl (fun v13 T13 L13 hQ13 X13 => ?_)
          obtain ⟨pz_13, rfl, Nc13, Kc13, P13_0, P13_1, P13_2, P13_3, P13_4⟩ := hQ13
          have P13_4 : pz_13.toInt = (0 : Int) + 1 := P13_4
          have V_b11_13 := P11_0.keep Kc13 (ninS (Ne.symm ne_b1_b11) (ninS (Ne.symm ne_b2_b11) nin0))
          have Zs13 : n0 ≤ T13.heap.size := Nat.le_trans Zs11 Kc13.1
          have K13 := K11.trans Kc13 (allS (Or.inr sz_b1) (allS (Or.inr sz_b2) all0))
          have N13 := Fr.app N11 Nc13
          show Ends _ _ _ _ T13 (mkF m 323 #[.val (.int pm), .val (.int ps), .val (.int pa), .val (.int pb), .val (.ref b1), .val (.int z3), .val (.int (0 : Int32)), .val (.int z6), .val (.ref b2), .val (.int (0 : Int32)), .val (.int (512 : Int32)), .val (.ref b2), .val (.int (0 : Int32)), .val (.int (1 : Int32)), .val (.int (1 : Int32)), .unset] [])
          refine ow_aload X13 hx (hb hby at_323) rfl rfl (pc' := 325) rfl ?_
          refine ow_callVPI X13 hx hZ rfl hown (hw _ (List.mem_of_getElem? (i := 26) rfl)) (hw _ (List.mem_of_getElem? (i := 27) rfl)) (hw _ (List.mem_of_getElem? (i := 29) rfl)) (hw _ (List.mem_of_getElem? (i := 28) rfl)) (hw _ (List.mem_of_getElem? (i := 2) rfl)) (hw _ (List.mem_of_getElem? (i := 30) rfl)) (by decide) (rm_lbLen l Z a0 hw [] b1 pz_13 T13.heap P13_2) rfl 0 (by decide) (by decide) (by decide) (by decide) [] (by rw [hml]; rfl) pd_13 rfl P13_0 rfl rfl (Nat.le_of_eq rfl) (hb hby at_325) (pc' := 328) rfl (fun z14 T14 hz14 X14 e14 => ?_)
          have az14 : z14.toInt = pz_13.toInt := hz14
          have rz14 := rng32 z14
          refine ow_iconst X14 hx (z := (1 : Int32)) (hb hby at_328) rfl (pc' := 329) rfl ?_
          refine ow_icmp_ne X14 hx (z14.toInt) ((1 : Int)) (hb hby at_329) rfl rfl (by decide) (pt := 348) (by decide) (pf := 332) rfl (fun c329 => absurd c329 (by omega)) (fun c329 => ?_)
          refine ow_aload X14 hx (hb hby at_332) rfl rfl (pc' := 334) rfl ?_
          refine ow_callV X14 hx hZ rfl hown (hw _ (List.mem_of_getElem? (i := 13) rfl)) (hw _ (List.mem_of_getElem? (i := 14) rfl)) (hw _ (List.mem_of_getElem? (i := 16) rfl)) (hw _ (List.mem_of_getElem? (i := 15) rfl)) (hw _ (List.mem_of_getElem? (i := 2) rfl)) (hw _ (List.mem_of_getElem? (i := 17) rfl)) (by decide) (rm_lbBytes l Z a0 hw [] b1 b2 T13.heap P13_1) e14 0 (by decide) (by decide) (by decide) (by decide) [] (by rw [hml]; rfl) pd_16 rfl P13_0 rfl rfl (Nat.le_of_eq rfl) (hb hby at_334) (pc' := 337) rfl (fun v15 T15 L15 hQ15 X15 => ?_)
          obtain ⟨rfl, rfl, e15⟩ := hQ15
          rw [List.append_nil] at X15
          show Ends _ _ _ _ T15 (mkF m 337 #[.val (.int pm), .val (.int ps), .val (.int pa), .val (.int pb), .val (.ref b1), .val (.int z3), .val (.int (0 : Int32)), .val (.int z6), .val (.ref b2), .val (.int (0 : Int32)), .val (.int (512 : Int32)), .val (.ref b2), .val (.int (0 : Int32)), .val (.int (1 : Int32)), .val (.int (1 : Int32)), .unset] [(.ref b2)])
          refine ow_iconst X15 hx (z := (0 : Int32)) (hb hby at_337) rfl (pc' := 338) rfl ?_
          obtain ⟨x16, hx16⟩ : ∃ x : Int32, x = z12.toInt8.toInt32 := ⟨_, rfl⟩
          have ax16 := c_i2b z12
          rw [← hx16] at ax16
          refine ow_ldB X15 hx hZ e15 P13_3 (by decide) (ow_lt (show (0 : Int) < (512 : Int) from by omega)) (show (BL (upd fr_2 (0 : Int32).toInt.toNat (z12.toInt8.toInt32))).getD ((0 : Int32).toNatClampNeg) (.int (0 : Int32)) = .int x16 from by rw [hx16]; exact (BL_get _ _ (show (0 : Int32).toNatClampNeg < 65537 from by decide) _).trans (congrArg Value.int (upd_same _ _ _))) (hb hby at_338) (pc' := 339) rfl ?_
          refine ow_iloadN X15 hx (hb hby at_339) rfl (pc' := 340) rfl ?_
          refine ow_i2b X15 hx (hb hby at_340) (pc' := 341) rfl (fun z17 hz17 => ?_)
          have az17 : (z17.toInt - pb.toInt) % 256 = 0 ∧ -128 ≤ z17.toInt ∧ z17.toInt < 128 := by rw [hz17]; exact c_i2b pb
          have rz17 := rng32 z17
          refine ow_icmp_ne X15 hx (x16.toInt) (z17.toInt) (hb hby at_341) rfl rfl (by decide) (pt := 348) (by decide) (pf := 344) rfl (fun c341 => absurd c341 (by omega)) (fun c341 => ?_)
          refine ow_iconst X15 hx (z := (1 : Int32)) (hb hby at_344) rfl (pc' := 345) rfl ?_
          refine ow_goto X15 hx (hb hby at_345) (by decide) (pc' := 349) (by decide) ?_
          refine ow_istore X15 hx (Ls' := #[.val (.int pm), .val (.int ps), .val (.int pa), .val (.int pb), .val (.ref b1), .val (.int z3), .val (.int (0 : Int32)), .val (.int z6), .val (.ref b2), .val (.int (0 : Int32)), .val (.int (512 : Int32)), .val (.ref b2), .val (.int (0 : Int32)), .val (.int (1 : Int32)), .val (.int (1 : Int32)), .val (.int (1 : Int32))]) (hb hby at_349) rfl (pc' := 351) rfl ?_
          refine ow_iload X15 hx (hb hby at_351) rfl (pc' := 353) rfl ?_
          refine ow_ifN X15 hx (hb hby at_353) (by decide) (pc' := 356) rfl ?_
          refine ow_iload X15 hx (hb hby at_356) rfl (pc' := 358) rfl ?_
          refine ow_ifN X15 hx (hb hby at_358) (by decide) (pc' := 361) rfl ?_
          refine ow_iload X15 hx (hb hby at_361) rfl (pc' := 363) rfl ?_
          refine ow_ifN X15 hx (hb hby at_363) (by decide) (pc' := 366) rfl ?_
          refine ow_iconst X15 hx (z := (1 : Int32)) (hb hby at_366) rfl (pc' := 367) rfl ?_
          refine ow_goto X15 hx (hb hby at_367) (by decide) (pc' := 371) (by decide) ?_
          exact ow_retB X15 hx hret hlk (hb hby at_371) (by decide) (by decide) (z' := (1 : Int32)) rfl ⟨rfl, N13⟩
        · refine ow_iconst X2 hx (z := (3 : Int32)) (hb hby at_114) rfl (pc' := 115) rfl ?_
          refine ow_newP X2 hx hZ (hw _ (List.mem_of_getElem? (i := 57) rfl)) rfl (hb hby at_115) (by decide) 3 (by decide) (by decide) (by decide) (by decide) (pc' := 117) rfl (fun T18 h18 b18 k18 g18 X18 e18 E18 V18 => ?_)
          have ne_b1_b18 : b1 ≠ b18 := Nat.ne_of_lt (Nat.lt_of_lt_of_le P2_0.lt (Nat.le_of_eq g18.symm))
          have ne_b2_b18 : b2 ≠ b18 := Nat.ne_of_lt (Nat.lt_of_lt_of_le P2_3.lt (Nat.le_of_eq g18.symm))
          have g_b18 : n0 ≤ b18 := Nat.le_trans Zs2 (Nat.le_of_eq g18.symm)
          have sz_b18 : h0.size ≤ b18 := Nat.le_trans K2.1 (Nat.le_of_eq g18.symm)
          have E_b1_18 := P2_0.ext E18
          have F_b1_bytes_18 := P2_2.ext E18
          have F_b1_length_18 := P2_1.ext E18
          have V_b2_18 := P2_3.ext E18
          have Zs18 : n0 ≤ h18.size := Nat.le_trans Zs2 E18.1
          have K18 := K2.ext E18
          have V_b18 : Arv Z h18 b18 k18 .char (3 : Int32) (BL (fun _ => 0)) (.int (0 : Int32)) := V18.pad BL_zero
          refine ow_astore X18 hx (Ls' := #[.val (.int pm), .val (.int ps), .val (.int pa), .val (.int pb), .val (.ref b1), .val (.int z3), .val (.int (0 : Int32)), .val (.int z6), .val (.ref b18), .unset, .unset, .unset, .unset, .unset, .unset, .unset]) (hb hby at_117) rfl rfl (pc' := 119) rfl ?_
          refine ow_aload X18 hx (hb hby at_119) rfl rfl (pc' := 121) rfl ?_
          refine ow_iconst X18 hx (z := (0 : Int32)) (hb hby at_121) rfl (pc' := 122) rfl ?_
          refine ow_iloadN X18 hx (hb hby at_122) rfl (pc' := 123) rfl ?_
          refine ow_bipush X18 hx (z := (127 : Int32)) (hb hby at_123) rfl (pc' := 125) rfl ?_
          refine ow_iand X18 hx (hb hby at_125) (pc' := 126) rfl (fun z19 hz19 => ?_)
          have az19 : z19.toInt = pa.toInt % 128 := by rw [hz19]; exact c_mask pa (127 : Int32) 7 (by decide) (by decide)
          have rz19 := rng32 z19
          refine ow_i2c X18 hx (hb hby at_126) (pc' := 127) rfl (fun z20 hz20 => ?_)
          have az20 : (z20.toInt - z19.toInt) % 65536 = 0 ∧ 0 ≤ z20.toInt ∧ z20.toInt < 65536 := by rw [hz20]; exact c_i2c z19
          have rz20 := rng32 z20
          refine ow_stC X18 hx hZ e18 V_b18 ((0 : Int32).toNatClampNeg) rfl (ow_nlt (y := (0 : Int32)) (show ¬ (0 : Int) < 0 from by omega)) (ow_lt (show (0 : Int) < (3 : Int) from by omega)) (by rw [BL_len]; decide) (hb hby at_127) (pc' := 128) rfl (fun T21 h21 X21 e21 W21 V21 => ?_)
          have V_b18_21 : Arv Z h21 b18 k18 (.char) (3 : Int32) (BL (upd (fun _ => 0) (0 : Int32).toInt.toNat (nar .char z20))) (.int (0 : Int32)) := by rw [← (show (BL (fun _ => 0)).set (0 : Int32).toNatClampNeg (.int (nar .char z20)) = BL (upd (fun _ => 0) (0 : Int32).toInt.toNat (nar .char z20)) from BL_set _ _ _)]; exact V21
          have E_b1_21 := E_b1_18.wr W21
          have F_b1_bytes_21 := F_b1_bytes_18.other W21 (Or.inl ne_b1_b18)
          have F_b1_length_21 := F_b1_length_18.other W21 (Or.inl ne_b1_b18)
          have V_b2_21 := V_b2_18.other W21 ne_b2_b18
          have Zs21 : n0 ≤ h21.size := Nat.le_trans Zs18 (Keep.of_wr W21).1
          have K21 := K18.wr W21 (Or.inr sz_b18)
          have N21 := Fr.snoc X21 N2 g_b18
          refine ow_aload X21 hx (hb hby at_128) rfl rfl (pc' := 130) rfl ?_
          refine ow_iconst X21 hx (z := (1 : Int32)) (hb hby at_130) rfl (pc' := 131) rfl ?_
          refine ow_iloadN X21 hx (hb hby at_131) rfl (pc' := 132) rfl ?_
          refine ow_bipush X21 hx (z := (127 : Int32)) (hb hby at_132) rfl (pc' := 134) rfl ?_
          refine ow_iand X21 hx (hb hby at_134) (pc' := 135) rfl (fun z22 hz22 => ?_)
          have az22 : z22.toInt = pb.toInt % 128 := by rw [hz22]; exact c_mask pb (127 : Int32) 7 (by decide) (by decide)
          have rz22 := rng32 z22
          refine ow_i2c X21 hx (hb hby at_135) (pc' := 136) rfl (fun z23 hz23 => ?_)
          have az23 : (z23.toInt - z22.toInt) % 65536 = 0 ∧ 0 ≤ z23.toInt ∧ z23.toInt < 65536 := by rw [hz23]; exact c_i2c z22
          have rz23 := rng32 z23
          refine ow_stC X21 hx hZ e21 V_b18_21 ((1 : Int32).toNatClampNeg) rfl (ow_nlt (y := (0 : Int32)) (show ¬ (1 : Int) < 0 from by omega)) (ow_lt (show (1 : Int) < (3 : Int) from by omega)) (by rw [BL_len]; decide) (hb hby at_136) (pc' := 137) rfl (fun T24 h24 X24 e24 W24 V24 => ?_)
          have V_b18_24 : Arv Z h24 b18 k18 (.char) (3 : Int32) (BL (upd (upd (fun _ => 0) (0 : Int32).toInt.toNat (nar .char z20)) (1 : Int32).toInt.toNat (nar .char z23))) (.int (0 : Int32)) := by rw [← (show (BL (upd (fun _ => 0) (0 : Int32).toInt.toNat (nar .char z20))).set (1 : Int32).toNatClampNeg (.int (nar .char z23)) = BL (upd (upd (fun _ => 0) (0 : Int32).toInt.toNat (nar .char z20)) (1 : Int32).toInt.toNat (nar .char z23)) from BL_set _ _ _)]; exact V24
          have E_b1_24 := E_b1_21.wr W24
          have F_b1_bytes_24 := F_b1_bytes_21.other W24 (Or.inl ne_b1_b18)
          have F_b1_length_24 := F_b1_length_21.other W24 (Or.inl ne_b1_b18)
          have V_b2_24 := V_b2_21.other W24 ne_b2_b18
          have Zs24 : n0 ≤ h24.size := Nat.le_trans Zs21 (Keep.of_wr W24).1
          have K24 := K21.wr W24 (Or.inr sz_b18)
          have N24 := Fr.snoc X24 N21 g_b18
          refine ow_aload X24 hx (hb hby at_137) rfl rfl (pc' := 139) rfl ?_
          refine ow_iconst X24 hx (z := (2 : Int32)) (hb hby at_139) rfl (pc' := 140) rfl ?_
          refine ow_iloadN X24 hx (hb hby at_140) rfl (pc' := 141) rfl ?_
          refine ow_bipush X24 hx (z := (8 : Int32)) (hb hby at_141) rfl (pc' := 143) rfl ?_
          refine ow_iushr X24 hx (hb hby at_143) (pc' := 144) rfl (fun z25 hz25 => ?_)
          have az25 : z25.toInt = (pa.toInt % 4294967296) / 256 := by rw [hz25]; exact c_iushr pa (8 : Int32) 8 (by decide) (by decide)
          have rz25 := rng32 z25
          refine ow_bipush X24 hx (z := (127 : Int32)) (hb hby at_144) rfl (pc' := 146) rfl ?_
          refine ow_iand X24 hx (hb hby at_146) (pc' := 147) rfl (fun z26 hz26 => ?_)
          have az26 : z26.toInt = z25.toInt % 128 := by rw [hz26]; exact c_mask z25 (127 : Int32) 7 (by decide) (by decide)
          have rz26 := rng32 z26
          refine ow_i2c X24 hx (hb hby at_147) (pc' := 148) rfl (fun z27 hz27 => ?_)
          have az27 : (z27.toInt - z26.toInt) % 65536 = 0 ∧ 0 ≤ z27.toInt ∧ z27.toInt < 65536 := by rw [hz27]; exact c_i2c z26
          have rz27 := rng32 z27
          refine ow_stC X24 hx hZ e24 V_b18_24 ((2 : Int32).toNatClampNeg) rfl (ow_nlt (y := (0 : Int32)) (show ¬ (2 : Int) < 0 from by omega)) (ow_lt (show (2 : Int) < (3 : Int) from by omega)) (by rw [BL_len]; decide) (hb hby at_148) (pc' := 149) rfl (fun T28 h28 X28 e28 W28 V28 => ?_)
          have V_b18_28 : Arv Z h28 b18 k18 (.char) (3 : Int32) (BL (upd (upd (upd (fun _ => 0) (0 : Int32).toInt.toNat (nar .char z20)) (1 : Int32).toInt.toNat (nar .char z23)) (2 : Int32).toInt.toNat (nar .char z27))) (.int (0 : Int32)) := by rw [← (show (BL (upd (upd (fun _ => 0) (0 : Int32).toInt.toNat (nar .char z20)) (1 : Int32).toInt.toNat (nar .char z23))).set (2 : Int32).toNatClampNeg (.int (nar .char z27)) = BL (upd (upd (upd (fun _ => 0) (0 : Int32).toInt.toNat (nar .char z20)) (1 : Int32).toInt.toNat (nar .char z23)) (2 : Int32).toInt.toNat (nar .char z27)) from BL_set _ _ _)]; exact V28
          have E_b1_28 := E_b1_24.wr W28
          have F_b1_bytes_28 := F_b1_bytes_24.other W28 (Or.inl ne_b1_b18)
          have F_b1_length_28 := F_b1_length_24.other W28 (Or.inl ne_b1_b18)
          have V_b2_28 := V_b2_24.other W28 ne_b2_b18
          have Zs28 : n0 ≤ h28.size := Nat.le_trans Zs24 (Keep.of_wr W28).1
          have K28 := K24.wr W28 (Or.inr sz_b18)
          have N28 := Fr.snoc X28 N24 g_b18
          refine ow_aload X28 hx (hb hby at_149) rfl rfl (pc' := 151) rfl ?_
          refine ow_new X28 hx hZ hown (hw _ (List.mem_of_getElem? (i := 58) rfl)) (hw _ (List.mem_of_getElem? (i := 59) rfl)) (hw _ (List.mem_of_getElem? (i := 60) rfl)) e28 (hb hby at_151) (by decide) (by decide) (pc' := 154) rfl (fun T29 h29 b29 g29 X29 e29 E29 A29 D29 => ?_)
          have ne_b1_b29 : b1 ≠ b29 := Nat.ne_of_lt (Nat.lt_of_lt_of_le E_b1_28.lt (Nat.le_of_eq g29.symm))
          have ne_b2_b29 : b2 ≠ b29 := Nat.ne_of_lt (Nat.lt_of_lt_of_le V_b2_28.lt (Nat.le_of_eq g29.symm))
          have ne_b18_b29 : b18 ≠ b29 := Nat.ne_of_lt (Nat.lt_of_lt_of_le V_b18_28.lt (Nat.le_of_eq g29.symm))
          have g_b29 : n0 ≤ b29 := Nat.le_trans Zs28 (Nat.le_of_eq g29.symm)
          have sz_b29 : h0.size ≤ b29 := Nat.le_trans K28.1 (Nat.le_of_eq g29.symm)
          have E_b1_29 := E_b1_28.ext E29
          have F_b1_bytes_29 := F_b1_bytes_28.ext E29
          have F_b1_length_29 := F_b1_length_28.ext E29
          have V_b2_29 := V_b2_28.ext E29
          have V_b18_29 := V_b18_28.ext E29
          have Zs29 : n0 ≤ h29.size := Nat.le_trans Zs28 E29.1
          have K29 := K28.ext E29
          have F_b29_coder : Fld Z h29 b29 "java/lang/String" "coder" "B" (.int (0 : Int32)) := D29 (Or.inr (hw _ (List.mem_of_getElem? (i := 81) rfl))) (ty := .byte) (by decide)
          have F_b29_value : Fld Z h29 b29 "java/lang/String" "value" "[B" .null := D29 (Or.inr (hw _ (List.mem_of_getElem? (i := 83) rfl))) (ty := (.array .byte)) (by decide)
          refine ow_dup X29 hx (hb hby at_154) rfl (pc' := 155) rfl ?_
          refine ow_aload X29 hx (hb hby at_155) rfl rfl (pc' := 157) rfl ?_
          have hf30 : ∀ i : Nat, 0 ≤ ((upd (upd (upd (fun _ => 0) (0 : Int32).toInt.toNat (nar .char z20)) (1 : Int32).toInt.toNat (nar .char z23)) (2 : Int32).toInt.toNat (nar .char z27)) i).toInt ∧ ((upd (upd (upd (fun _ => 0) (0 : Int32).toInt.toNat (nar .char z20)) (1 : Int32).toInt.toNat (nar .char z23)) (2 : Int32).toInt.toNat (nar .char z27)) i).toInt ≤ 255 := (upd_rng (upd_rng (upd_rng (fun _ => show 0 ≤ (0 : Int32).toInt ∧ (0 : Int32).toInt ≤ 255 from by decide) (nar_c _ (by omega))) (nar_c _ (by omega))) (nar_c _ (by omega)))
          refine ow_callI X29 hx hZ rfl rfl hown (hw _ (List.mem_of_getElem? (i := 61) rfl)) (hw _ (List.mem_of_getElem? (i := 62) rfl)) (hw _ (List.mem_of_getElem? (i := 60) rfl)) (hw _ (List.mem_of_getElem? (i := 63) rfl)) (by decide) (rm_sIn1 l Z a0 hw [] b29 b18 zc k18 (upd (upd (upd (fun _ => 0) (0 : Int32).toInt.toNat (nar .char z20)) (1 : Int32).toInt.toNat (nar .char z23)) (2 : Int32).toInt.toNat (nar .char z27)) (3 : Int32) h29 n0 Zs29 (ow_staKeep S_cs K29 all0) A29 F_b29_coder F_b29_value V_b18_29 g_b29 (Ne.symm ne_b18_b29) (by first | assumption | decide | omega | (have q0_ : (3 : Int32).toInt = 3 := (by decide); omega)) (by first | assumption | decide | omega | (have q0_ : (3 : Int32).toInt = 3 := (by decide); omega)) (by first | assumption | decide | omega | (have q0_ : (3 : Int32).toInt = 3 := (by decide); omega)) (by first | assumption | decide | omega | (have q0_ : (3 : Int32).toInt = 3 := (by decide); omega))) e29 2 (by decide) (by decide) (by decide) (by decide) [(.ref b18)] (by rw [hml]; rfl) pd_18 rfl rfl rfl (Nat.le_of_eq rfl) (hb hby at_157) (pc' := 160) rfl (fun v31 T31 L31 hQ31 X31 => ?_)
          obtain ⟨b31, kt_31, fr_31, rfl, Nc31, Kc31, P31_0, P31_1, P31_2, P31_3, P31_4, P31_5, P31_6⟩ := hQ31
          have E_b1_31 := E_b1_29.keep Kc31
          have F_b1_bytes_31 := F_b1_bytes_29.keep Kc31 (ninS ne_b1_b29 nin0)
          have F_b1_length_31 := F_b1_length_29.keep Kc31 (ninS ne_b1_b29 nin0)
          have V_b2_31 := V_b2_29.keep Kc31 (ninS ne_b2_b29 nin0)
          have V_b18_31 := V_b18_29.keep Kc31 (ninS ne_b18_b29 nin0)
          have ne_b1_b31 : b1 ≠ b31 := Nat.ne_of_lt (Nat.lt_of_lt_of_le E_b1_29.lt P31_5)
          have ne_b2_b31 : b2 ≠ b31 := Nat.ne_of_lt (Nat.lt_of_lt_of_le V_b2_29.lt P31_5)
          have ne_b18_b31 : b18 ≠ b31 := Nat.ne_of_lt (Nat.lt_of_lt_of_le V_b18_29.lt P31_5)
          have ne_b29_b31 : b29 ≠ b31 := Nat.ne_of_lt (Nat.lt_of_lt_of_le A29.lt P31_5)
          have sz_b31 : h0.size ≤ b31 := Nat.le_trans K29.1 P31_5
          have Zs31 : n0 ≤ T31.heap.size := Nat.le_trans Zs29 Kc31.1
          have K31 := K29.trans Kc31 (allS (Or.inr sz_b29) all0)
          have N31 := Fr.app N28 Nc31
          show Ends _ _ _ _ T31 (mkF m 160 #[.val (.int pm), .val (.int ps), .val (.int pa), .val (.int pb), .val (.ref b1), .val (.int z3), .val (.int (0 : Int32)), .val (.int z6), .val (.ref b18), .unset, .unset, .unset, .unset, .unset, .unset, .unset] [(.ref b29), (.ref b1)])
          refine ow_callV X31 hx hZ rfl hown (hw _ (List.mem_of_getElem? (i := 84) rfl)) (hw _ (List.mem_of_getElem? (i := 85) rfl)) (hw _ (List.mem_of_getElem? (i := 87) rfl)) (hw _ (List.mem_of_getElem? (i := 86) rfl)) (hw _ (List.mem_of_getElem? (i := 2) rfl)) (hw _ (List.mem_of_getElem? (i := 88) rfl)) (by decide) (rm_apS l Z a0 hw [] b1 b29 zc wf b2 kt_2 fr_2 b31 kt_31 (3 : Int32) fr_31 T31.heap n0 Zs31 (ow_staKeep S_cs K31 all0) (ow_staKeep S_f K31 all0) (by first | assumption | decide | omega | (have q0_ : (3 : Int32).toInt = 3 := (by decide); omega)) (by first | assumption | decide | omega | (have q0_ : (3 : Int32).toInt = 3 := (by decide); omega)) E_b1_31 F_b1_bytes_31 F_b1_length_31 V_b2_31 P31_0 P31_1 P31_2 P31_3 g_b1 P2_4 P2_6 ne_b1_b29 ne_b1_b31 ne_b2_b29 ne_b2_b31 (by first | assumption | decide | omega | (have q0_ : (3 : Int32).toInt = 3 := (by decide); omega)) (by first | assumption | decide | omega | (have q0_ : (3 : Int32).toInt = 3 := (by decide); omega))) rfl 0 (by decide) (by decide) (by decide) (by decide) [(.ref b29)] (by rw [hml]; rfl) pd_19 rfl E_b1_31 rfl rfl (Nat.le_of_eq rfl) (hb hby at_160) (pc' := 163) rfl (fun v32 T32 L32 hQ32 X32 => ?_)
          obtain ⟨pz_32, fr_32, rfl, Nc32, Kc32, P32_0, P32_1, P32_2, P32_3⟩ := hQ32
          have V_b18_32 := V_b18_31.keep Kc32 (ninS (Ne.symm ne_b1_b18) (ninS (Ne.symm ne_b2_b18) nin0))
          have E_b29_32 := P31_0.keep Kc32
          have F_b29_coder_32 := P31_1.keep Kc32 (ninS (Ne.symm ne_b1_b29) (ninS (Ne.symm ne_b2_b29) nin0))
          have F_b29_value_32 := P31_2.keep Kc32 (ninS (Ne.symm ne_b1_b29) (ninS (Ne.symm ne_b2_b29) nin0))
          have V_b31_32 := P31_3.keep Kc32 (ninS (Ne.symm ne_b1_b31) (ninS (Ne.symm ne_b2_b31) nin0))
          have Zs32 : n0 ≤ T32.heap.size := Nat.le_trans Zs31 Kc32.1
          have K32 := K31.trans Kc32 (allS (Or.inr sz_b1) (allS (Or.inr sz_b2) all0))
          have N32 := Fr.app N31 Nc32
          show Ends _ _ _ _ T32 (mkF m 163 #[.val (.int pm), .val (.int ps), .val (.int pa), .val (.int pb), .val (.ref b1), .val (.int z3), .val (.int (0 : Int32)), .val (.int z6), .val (.ref b18), .unset, .unset, .unset, .unset, .unset, .unset, .unset] [])
          refine ow_aload X32 hx (hb hby at_163) rfl rfl (pc' := 165) rfl ?_
          refine ow_callV X32 hx hZ rfl hown (hw _ (List.mem_of_getElem? (i := 13) rfl)) (hw _ (List.mem_of_getElem? (i := 14) rfl)) (hw _ (List.mem_of_getElem? (i := 16) rfl)) (hw _ (List.mem_of_getElem? (i := 15) rfl)) (hw _ (List.mem_of_getElem? (i := 2) rfl)) (hw _ (List.mem_of_getElem? (i := 17) rfl)) (by decide) (rm_lbBytes l Z a0 hw [] b1 b2 T32.heap P32_2) rfl 0 (by decide) (by decide) (by decide) (by decide) [] (by rw [hml]; rfl) pd_16 rfl P32_0 rfl rfl (Nat.le_of_eq rfl) (hb hby at_165) (pc' := 168) rfl (fun v33 T33 L33 hQ33 X33 => ?_)
          obtain ⟨rfl, rfl, e33⟩ := hQ33
          rw [List.append_nil] at X33
          show Ends _ _ _ _ T33 (mkF m 168 #[.val (.int pm), .val (.int ps), .val (.int pa), .val (.int pb), .val (.ref b1), .val (.int z3), .val (.int (0 : Int32)), .val (.int z6), .val (.ref b18), .unset, .unset, .unset, .unset, .unset, .unset, .unset] [(.ref b2)])
          refine ow_astore X33 hx (Ls' := #[.val (.int pm), .val (.int ps), .val (.int pa), .val (.int pb), .val (.ref b1), .val (.int z3), .val (.int (0 : Int32)), .val (.int z6), .val (.ref b2), .unset, .unset, .unset, .unset, .unset, .unset, .unset]) (hb hby at_168) rfl rfl (pc' := 170) rfl ?_
          refine ow_iload X33 hx (hb hby at_170) rfl (pc' := 172) rfl ?_
          refine ow_iconst X33 hx (z := (2 : Int32)) (hb hby at_172) rfl (pc' := 173) rfl ?_
          refine ow_icmp_ne X33 hx (z3.toInt) ((2 : Int)) (hb hby at_173) rfl rfl (by decide) (pt := 180) (by decide) (pf := 176) rfl (fun c173 => ?_) (fun c173 => absurd c173 (by omega))
          refine ow_iconst X33 hx (z := (0 : Int32)) (hb hby at_180) rfl (pc' := 181) rfl ?_
          refine ow_istore X33 hx (Ls' := #[.val (.int pm), .val (.int ps), .val (.int pa), .val (.int pb), .val (.ref b1), .val (.int z3), .val (.int (0 : Int32)), .val (.int z6), .val (.ref b2), .val (.int (0 : Int32)), .unset, .unset, .unset, .unset, .unset, .unset]) (hb hby at_181) rfl (pc' := 183) rfl ?_
          refine ow_iload X33 hx (hb hby at_183) rfl (pc' := 185) rfl ?_
          refine ow_ifY X33 hx (hb hby at_185) (by decide) (by decide) (pc' := 193) (by decide) ?_
          refine ow_sipush X33 hx (z := (512 : Int32)) (hb hby at_193) rfl (pc' := 196) rfl ?_
          refine ow_istore X33 hx (Ls' := #[.val (.int pm), .val (.int ps), .val (.int pa), .val (.int pb), .val (.ref b1), .val (.int z3), .val (.int (0 : Int32)), .val (.int z6), .val (.ref b2), .val (.int (0 : Int32)), .val (.int (512 : Int32)), .unset, .unset, .unset, .unset, .unset]) (hb hby at_196) rfl (pc' := 198) rfl ?_
          refine ow_aload X33 hx (hb hby at_198) rfl rfl (pc' := 200) rfl ?_
          refine ow_len X33 hx hZ e33 P32_3 (hb hby at_200) (pc' := 201) rfl ?_
          refine ow_iload X33 hx (hb hby at_201) rfl (pc' := 203) rfl ?_
          refine ow_icmpY X33 hx (hb hby at_203) (by decide) (by decide) (pc' := 208) (by decide) ?_
          refine ow_aload X33 hx (hb hby at_208) rfl rfl (pc' := 210) rfl ?_
          refine ow_callV X33 hx hZ rfl hown (hw _ (List.mem_of_getElem? (i := 18) rfl)) (hw _ (List.mem_of_getElem? (i := 19) rfl)) (hw _ (List.mem_of_getElem? (i := 21) rfl)) (hw _ (List.mem_of_getElem? (i := 20) rfl)) (hw _ (List.mem_of_getElem? (i := 2) rfl)) (hw _ (List.mem_of_getElem? (i := 22) rfl)) (by decide) (rm_clrA l Z a0 hw [] b1 b2 kt_2 (512 : Int32) fr_32 pz_32 T32.heap n0 Zs32 P32_0 P32_2 P32_1 P32_3 g_b1 P2_6 (by first | assumption | decide | omega | (have q0_ : (512 : Int32).toInt = 512 := (by decide); omega))) e33 0 (by decide) (by decide) (by decide) (by decide) [] (by rw [hml]; rfl) pd_15 rfl P32_0 rfl rfl (Nat.le_of_eq rfl) (hb hby at_210) (pc' := 213) rfl (fun v34 T34 L34 hQ34 X34 => ?_)
          obtain ⟨rfl, Nc34, Kc34, P34_0, P34_1, P34_2⟩ := hQ34
          have V_b2_34 := P32_3.keep Kc34 (ninS (Ne.symm P2_6) nin0)
          have V_b18_34 := V_b18_32.keep Kc34 (ninS (Ne.symm ne_b1_b18) nin0)
          have E_b29_34 := E_b29_32.keep Kc34
          have F_b29_coder_34 := F_b29_coder_32.keep Kc34 (ninS (Ne.symm ne_b1_b29) nin0)
          have F_b29_value_34 := F_b29_value_32.keep Kc34 (ninS (Ne.symm ne_b1_b29) nin0)
          have V_b31_34 := V_b31_32.keep Kc34 (ninS (Ne.symm ne_b1_b31) nin0)
          have Zs34 : n0 ≤ T34.heap.size := Nat.le_trans Zs32 Kc34.1
          have K34 := K32.trans Kc34 (allS (Or.inr sz_b1) all0)
          have N34 := Fr.app N32 Nc34
          show Ends _ _ _ _ T34 (mkF m 213 #[.val (.int pm), .val (.int ps), .val (.int pa), .val (.int pb), .val (.ref b1), .val (.int z3), .val (.int (0 : Int32)), .val (.int z6), .val (.ref b2), .val (.int (0 : Int32)), .val (.int (512 : Int32)), .unset, .unset, .unset, .unset, .unset] [])
          refine ow_iload X34 hx (hb hby at_213) rfl (pc' := 215) rfl ?_
          refine ow_ifY X34 hx (hb hby at_215) (by decide) (by decide) (pc' := 223) (by decide) ?_
          refine ow_aload X34 hx (hb hby at_223) rfl rfl (pc' := 225) rfl ?_
          refine ow_callV X34 hx hZ rfl hown (hw _ (List.mem_of_getElem? (i := 13) rfl)) (hw _ (List.mem_of_getElem? (i := 14) rfl)) (hw _ (List.mem_of_getElem? (i := 16) rfl)) (hw _ (List.mem_of_getElem? (i := 15) rfl)) (hw _ (List.mem_of_getElem? (i := 2) rfl)) (hw _ (List.mem_of_getElem? (i := 17) rfl)) (by decide) (rm_lbBytes l Z a0 hw [] b1 b2 T34.heap P34_2) rfl 0 (by decide) (by decide) (by decide) (by decide) [] (by rw [hml]; rfl) pd_16 rfl P34_0 rfl rfl (Nat.le_of_eq rfl) (hb hby at_225) (pc' := 228) rfl (fun v35 T35 L35 hQ35 X35 => ?_)
          obtain ⟨rfl, rfl, e35⟩ := hQ35
          rw [List.append_nil] at X35
          show Ends _ _ _ _ T35 (mkF m 228 #[.val (.int pm), .val (.int ps), .val (.int pa), .val (.int pb), .val (.ref b1), .val (.int z3), .val (.int (0 : Int32)), .val (.int z6), .val (.ref b2), .val (.int (0 : Int32)), .val (.int (512 : Int32)), .unset, .unset, .unset, .unset, .unset] [(.ref b2)])
          refine ow_astore X35 hx (Ls' := #[.val (.int pm), .val (.int ps), .val (.int pa), .val (.int pb), .val (.ref b1), .val (.int z3), .val (.int (0 : Int32)), .val (.int z6), .val (.ref b2), .val (.int (0 : Int32)), .val (.int (512 : Int32)), .val (.ref b2), .unset, .unset, .unset, .unset]) (hb hby at_228) rfl rfl (pc' := 230) rfl ?_
          refine ow_iload X35 hx (hb hby at_230) rfl (pc' := 232) rfl ?_
          refine ow_ifY X35 hx (hb hby at_232) (by decide) (by decide) (pc' := 246) (by decide) ?_
          refine ow_iconst X35 hx (z := (0 : Int32)) (hb hby at_246) rfl (pc' := 247) rfl ?_
          refine ow_istore X35 hx (Ls' := #[.val (.int pm), .val (.int ps), .val (.int pa), .val (.int pb), .val (.ref b1), .val (.int z3), .val (.int (0 : Int32)), .val (.int z6), .val (.ref b2), .val (.int (0 : Int32)), .val (.int (512 : Int32)), .val (.ref b2), .val (.int (0 : Int32)), .unset, .unset, .unset]) (hb hby at_247) rfl (pc' := 249) rfl ?_
          refine ow_iload X35 hx (hb hby at_249) rfl (pc' := 251) rfl ?_
          refine ow_ifY X35 hx (hb hby at_251) (by decide) (by decide) (pc' := 278) (by decide) ?_
          refine ow_aload X35 hx (hb hby at_278) rfl rfl (pc' := 280) rfl ?_
          refine ow_aload X35 hx (hb hby at_280) rfl rfl (pc' := 282) rfl ?_
          refine ow_acmp X35 hx rfl rfl (same := true) (hb hby at_282) (decide_eq_true rfl) (by decide) (pc' := 285) rfl ?_
          refine ow_iconst X35 hx (z := (1 : Int32)) (hb hby at_285) rfl (pc' := 286) rfl ?_
          refine ow_goto X35 hx (hb hby at_286) (by decide) (pc' := 290) (by decide) ?_
          refine ow_istore X35 hx (Ls' := #[.val (.int pm), .val (.int ps), .val (.int pa), .val (.int pb), .val (.ref b1), .val (.int z3), .val (.int (0 : Int32)), .val (.int z6), .val (.ref b2), .val (.int (0 : Int32)), .val (.int (512 : Int32)), .val (.ref b2), .val (.int (0 : Int32)), .val (.int (1 : Int32)), .unset, .unset]) (hb hby at_290) rfl (pc' := 292) rfl ?_
          refine ow_aload X35 hx (hb hby at_292) rfl rfl (pc' := 294) rfl ?_
          refine ow_callVPI X35 hx hZ rfl hown (hw _ (List.mem_of_getElem? (i := 26) rfl)) (hw _ (List.mem_of_getElem? (i := 27) rfl)) (hw _ (List.mem_of_getElem? (i := 29) rfl)) (hw _ (List.mem_of_getElem? (i := 28) rfl)) (hw _ (List.mem_of_getElem? (i := 2) rfl)) (hw _ (List.mem_of_getElem? (i := 30) rfl)) (by decide) (rm_lbLen l Z a0 hw [] b1 (0 : Int32) T34.heap P34_1) e35 0 (by decide) (by decide) (by decide) (by decide) [] (by rw [hml]; rfl) pd_13 rfl P34_0 rfl rfl (Nat.le_of_eq rfl) (hb hby at_294) (pc' := 297) rfl (fun z36 T36 hz36 X36 e36 => ?_)
          have az36 : z36.toInt = (0 : Int) := hz36
          have rz36 := rng32 z36
          refine ow_if_ne X36 hx (z36.toInt) (hb hby at_297) rfl (by decide) (pt := 313) (by decide) (pf := 300) rfl (fun c297 => absurd c297 (by omega)) (fun c297 => ?_)
          refine ow_aload X36 hx (hb hby at_300) rfl rfl (pc' := 302) rfl ?_
          refine ow_callV X36 hx hZ rfl hown (hw _ (List.mem_of_getElem? (i := 31) rfl)) (hw _ (List.mem_of_getElem? (i := 32) rfl)) (hw _ (List.mem_of_getElem? (i := 34) rfl)) (hw _ (List.mem_of_getElem? (i := 33) rfl)) (hw _ (List.mem_of_getElem? (i := 2) rfl)) (hw _ (List.mem_of_getElem? (i := 35) rfl)) (by decide) (rm_toBA l Z a0 hw [] b1 b2 kt_2 (512 : Int32) fr_32 T34.heap n0 Zs34 P34_2 P34_1 V_b2_34 (by first | assumption | decide | omega | (have q0_ : (512 : Int32).toInt = 512 := (by decide); omega)) (by first | assumption | decide | omega | (have q0_ : (512 : Int32).toInt = 512 := (by decide); omega))) e36 0 (by decide) (by decide) (by decide) (by decide) [] (by rw [hml]; rfl) pd_16 rfl P34_0 rfl rfl (Nat.le_of_eq rfl) (hb hby at_302) (pc' := 305) rfl (fun v37 T37 L37 hQ37 X37 => ?_)
          obtain ⟨b37, kt_37, fr_37, rfl, Nc37, Kc37, P37_0, P37_1, P37_2⟩ := hQ37
          have E_b1_37 := P34_0.keep Kc37
          have F_b1_bytes_37 := P34_2.keep Kc37 nin0
          have F_b1_length_37 := P34_1.keep Kc37 nin0
          have V_b2_37 := V_b2_34.keep Kc37 nin0
          have V_b18_37 := V_b18_34.keep Kc37 nin0
          have E_b29_37 := E_b29_34.keep Kc37
          have F_b29_coder_37 := F_b29_coder_34.keep Kc37 nin0
          have F_b29_value_37 := F_b29_value_34.keep Kc37 nin0
          have V_b31_37 := V_b31_34.keep Kc37 nin0
          have ne_b1_b37 : b1 ≠ b37 := Nat.ne_of_lt (Nat.lt_of_lt_of_le P34_0.lt P37_2)
          have ne_b2_b37 : b2 ≠ b37 := Nat.ne_of_lt (Nat.lt_of_lt_of_le V_b2_34.lt P37_2)
          have ne_b18_b37 : b18 ≠ b37 := Nat.ne_of_lt (Nat.lt_of_lt_of_le V_b18_34.lt P37_2)
          have ne_b29_b37 : b29 ≠ b37 := Nat.ne_of_lt (Nat.lt_of_lt_of_le E_b29_34.lt P37_2)
          have ne_b31_b37 : b31 ≠ b37 := Nat.ne_of_lt (Nat.lt_of_lt_of_le V_b31_34.lt P37_2)
          have sz_b37 : h0.size ≤ b37 := Nat.le_trans K34.1 P37_2
          have Zs37 : n0 ≤ T37.heap.size := Nat.le_trans Zs34 Kc37.1
          have K37 := K34.trans Kc37 all0
          have N37 := Fr.app N34 Nc37
          show Ends _ _ _ _ T37 (mkF m 305 #[.val (.int pm), .val (.int ps), .val (.int pa), .val (.int pb), .val (.ref b1), .val (.int z3), .val (.int (0 : Int32)), .val (.int z6), .val (.ref b2), .val (.int (0 : Int32)), .val (.int (512 : Int32)), .val (.ref b2), .val (.int (0 : Int32)), .val (.int (1 : Int32)), .unset, .unset] [(.ref b37)])
          refine ow_len X37 hx hZ rfl P37_0 (hb hby at_305) (pc' := 306) rfl ?_
          refine ow_ifN X37 hx (hb hby at_306) (by decide) (pc' := 309) rfl ?_
          refine ow_iconst X37 hx (z := (1 : Int32)) (hb hby at_309) rfl (pc' := 310) rfl ?_
          refine ow_goto X37 hx (hb hby at_310) (by decide) (pc' := 314) (by decide) ?_
          refine ow_istore X37 hx (Ls' := #[.val (.int pm), .val (.int ps), .val (.int pa), .val (.int pb), .val (.ref b1), .val (.int z3), .val (.int (0 : Int32)), .val (.int z6), .val (.ref b2), .val (.int (0 : Int32)), .val (.int (512 : Int32)), .val (.ref b2), .val (.int (0 : Int32)), .val (.int (1 : Int32)), .val (.int (1 : Int32)), .unset]) (hb hby at_314) rfl (pc' := 316) rfl ?_
          refine ow_aload X37 hx (hb hby at_316) rfl rfl (pc' := 318) rfl ?_
          refine ow_iloadN X37 hx (hb hby at_318) rfl (pc' := 319) rfl ?_
          refine ow_i2b X37 hx (hb hby at_319) (pc' := 320) rfl (fun z38 hz38 => ?_)
          have az38 : (z38.toInt - pb.toInt) % 256 = 0 ∧ -128 ≤ z38.toInt ∧ z38.toInt < 128 := by rw [hz38]; exact c_i2b pb
          have rz38 := rng32 z38
          refine ow_callV X37 hx hZ rfl hown (hw _ (List.mem_of_getElem? (i := 48) rfl)) (hw _ (List.mem_of_getElem? (i := 49) rfl)) (hw _ (List.mem_of_getElem? (i := 51) rfl)) (hw _ (List.mem_of_getElem? (i := 50) rfl)) (hw _ (List.mem_of_getElem? (i := 2) rfl)) (hw _ (List.mem_of_getElem? (i := 52) rfl)) (by decide) (rm_lbApp l Z a0 hw [] b1 z38 b2 kt_2 (512 : Int32) fr_32 (0 : Int32) T37.heap n0 Zs37 E_b1_37 F_b1_bytes_37 F_b1_length_37 V_b2_37 g_b1 P2_6 P2_4 (by first | assumption | decide | omega | (have q0_ : (0 : Int32).toInt = 0 := (by decide); have q1_ : (512 : Int32).toInt = 512 := (by decide); omega)) (by first | assumption | decide | omega | (have q0_ : (0 : Int32).toInt = 0 := (by decide); have q1_ : (512 : Int32).toInt = 512 := (by decide); omega)) (by first | assumption | decide | omega | (have q0_ : (0 : Int32).toInt = 0 := (by decide); have q1_ : (512 : Int32).toInt = 512 := (by decide); omega))) rfl 0 (by decide) (by decide) (by decide) (by decide) [(.int z38)] (by rw [hml]; rfl) pd_17 rfl E_b1_37 rfl rfl (Nat.le_of_eq rfl) (hb hby at_320) (pc' := 323) rfl (fun v39 T39 L39 hQ39 X39 => ?_)
          obtain ⟨pz_39, rfl, Nc39, Kc39, P39_0, P39_1, P39_2, P39_3, P39_4⟩ := hQ39
          have P39_4 : pz_39.toInt = (0 : Int) + 1 := P39_4
          have V_b18_39 := V_b18_37.keep Kc39 (ninS (Ne.symm ne_b1_b18) (ninS (Ne.symm ne_b2_b18) nin0))
          have E_b29_39 := E_b29_37.keep Kc39
          have F_b29_coder_39 := F_b29_coder_37.keep Kc39 (ninS (Ne.symm ne_b1_b29) (ninS (Ne.symm ne_b2_b29) nin0))
          have F_b29_value_39 := F_b29_value_37.keep Kc39 (ninS (Ne.symm ne_b1_b29) (ninS (Ne.symm ne_b2_b29) nin0))
          have V_b31_39 := V_b31_37.keep Kc39 (ninS (Ne.symm ne_b1_b31) (ninS (Ne.symm ne_b2_b31) nin0))
          have V_b37_39 := P37_0.keep Kc39 (ninS (Ne.symm ne_b1_b37) (ninS (Ne.symm ne_b2_b37) nin0))
          have Zs39 : n0 ≤ T39.heap.size := Nat.le_trans Zs37 Kc39.1
          have K39 := K37.trans Kc39 (allS (Or.inr sz_b1) (allS (Or.inr sz_b2) all0))
          have N39 := Fr.app N37 Nc39
          show Ends _ _ _ _ T39 (mkF m 323 #[.val (.int pm), .val (.int ps), .val (.int pa), .val (.int pb), .val (.ref b1), .val (.int z3), .val (.int (0 : Int32)), .val (.int z6), .val (.ref b2), .val (.int (0 : Int32)), .val (.int (512 : Int32)), .val (.ref b2), .val (.int (0 : Int32)), .val (.int (1 : Int32)), .val (.int (1 : Int32)), .unset] [])
          refine ow_aload X39 hx (hb hby at_323) rfl rfl (pc' := 325) rfl ?_
          refine ow_callVPI X39 hx hZ rfl hown (hw _ (List.mem_of_getElem? (i := 26) rfl)) (hw _ (List.mem_of_getElem? (i := 27) rfl)) (hw _ (List.mem_of_getElem? (i := 29) rfl)) (hw _ (List.mem_of_getElem? (i := 28) rfl)) (hw _ (List.mem_of_getElem? (i := 2) rfl)) (hw _ (List.mem_of_getElem? (i := 30) rfl)) (by decide) (rm_lbLen l Z a0 hw [] b1 pz_39 T39.heap P39_2) rfl 0 (by decide) (by decide) (by decide) (by decide) [] (by rw [hml]; rfl) pd_13 rfl P39_0 rfl rfl (Nat.le_of_eq rfl) (hb hby at_325) (pc' := 328) rfl (fun z40 T40 hz40 X40 e40 => ?_)
          have az40 : z40.toInt = pz_39.toInt := hz40
          have rz40 := rng32 z40
          refine ow_iconst X40 hx (z := (1 : Int32)) (hb hby at_328) rfl (pc' := 329) rfl ?_
          refine ow_icmp_ne X40 hx (z40.toInt) ((1 : Int)) (hb hby at_329) rfl rfl (by decide) (pt := 348) (by decide) (pf := 332) rfl (fun c329 => absurd c329 (by omega)) (fun c329 => ?_)
          refine ow_aload X40 hx (hb hby at_332) rfl rfl (pc' := 334) rfl ?_
          refine ow_callV X40 hx hZ rfl hown (hw _ (List.mem_of_getElem? (i := 13) rfl)) (hw _ (List.mem_of_getElem? (i := 14) rfl)) (hw _ (List.mem_of_getElem? (i := 16) rfl)) (hw _ (List.mem_of_getElem? (i := 15) rfl)) (hw _ (List.mem_of_getElem? (i := 2) rfl)) (hw _ (List.mem_of_getElem? (i := 17) rfl)) (by decide) (rm_lbBytes l Z a0 hw [] b1 b2 T39.heap P39_1) e40 0 (by decide) (by decide) (by decide) (by decide) [] (by rw [hml]; rfl) pd_16 rfl P39_0 rfl rfl (Nat.le_of_eq rfl) (hb hby at_334) (pc' := 337) rfl (fun v41 T41 L41 hQ41 X41 => ?_)
          obtain ⟨rfl, rfl, e41⟩ := hQ41
          rw [List.append_nil] at X41
          show Ends _ _ _ _ T41 (mkF m 337 #[.val (.int pm), .val (.int ps), .val (.int pa), .val (.int pb), .val (.ref b1), .val (.int z3), .val (.int (0 : Int32)), .val (.int z6), .val (.ref b2), .val (.int (0 : Int32)), .val (.int (512 : Int32)), .val (.ref b2), .val (.int (0 : Int32)), .val (.int (1 : Int32)), .val (.int (1 : Int32)), .unset] [(.ref b2)])
          refine ow_iconst X41 hx (z := (0 : Int32)) (hb hby at_337) rfl (pc' := 338) rfl ?_
          obtain ⟨x42, hx42⟩ : ∃ x : Int32, x = z38.toInt8.toInt32 := ⟨_, rfl⟩
          have ax42 := c_i2b z38
          rw [← hx42] at ax42
          refine ow_ldB X41 hx hZ e41 P39_3 (by decide) (ow_lt (show (0 : Int) < (512 : Int) from by omega)) (show (BL (upd fr_32 (0 : Int32).toInt.toNat (z38.toInt8.toInt32))).getD ((0 : Int32).toNatClampNeg) (.int (0 : Int32)) = .int x42 from by rw [hx42]; exact (BL_get _ _ (show (0 : Int32).toNatClampNeg < 65537 from by decide) _).trans (congrArg Value.int (upd_same _ _ _))) (hb hby at_338) (pc' := 339) rfl ?_
          refine ow_iloadN X41 hx (hb hby at_339) rfl (pc' := 340) rfl ?_
          refine ow_i2b X41 hx (hb hby at_340) (pc' := 341) rfl (fun z43 hz43 => ?_)
          have az43 : (z43.toInt - pb.toInt) % 256 = 0 ∧ -128 ≤ z43.toInt ∧ z43.toInt < 128 := by rw [hz43]; exact c_i2b pb
          have rz43 := rng32 z43
          refine ow_icmp_ne X41 hx (x42.toInt) (z43.toInt) (hb hby at_341) rfl rfl (by decide) (pt := 348) (by decide) (pf := 344) rfl (fun c341 => absurd c341 (by omega)) (fun c341 => ?_)
          refine ow_iconst X41 hx (z := (1 : Int32)) (hb hby at_344) rfl (pc' := 345) rfl ?_
          refine ow_goto X41 hx (hb hby at_345) (by decide) (pc' := 349) (by decide) ?_
          refine ow_istore X41 hx (Ls' := #[.val (.int pm), .val (.int ps), .val (.int pa), .val (.int pb), .val (.ref b1), .val (.int z3), .val (.int (0 : Int32)), .val (.int z6), .val (.ref b2), .val (.int (0 : Int32)), .val (.int (512 : Int32)), .val (.ref b2), .val (.int (0 : Int32)), .val (.int (1 : Int32)), .val (.int (1 : Int32)), .val (.int (1 : Int32))]) (hb hby at_349) rfl (pc' := 351) rfl ?_
          refine ow_iload X41 hx (hb hby at_351) rfl (pc' := 353) rfl ?_
          refine ow_ifN X41 hx (hb hby at_353) (by decide) (pc' := 356) rfl ?_
          refine ow_iload X41 hx (hb hby at_356) rfl (pc' := 358) rfl ?_
          refine ow_ifN X41 hx (hb hby at_358) (by decide) (pc' := 361) rfl ?_
          refine ow_iload X41 hx (hb hby at_361) rfl (pc' := 363) rfl ?_
          refine ow_ifN X41 hx (hb hby at_363) (by decide) (pc' := 366) rfl ?_
          refine ow_iconst X41 hx (z := (1 : Int32)) (hb hby at_366) rfl (pc' := 367) rfl ?_
          refine ow_goto X41 hx (hb hby at_367) (by decide) (pc' := 371) (by decide) ?_
          exact ow_retB X41 hx hret hlk (hb hby at_371) (by decide) (by decide) (z' := (1 : Int32)) rfl ⟨rfl, N39⟩
      · refine ow_iload X2 hx (hb hby at_64) rfl (pc' := 66) rfl ?_
        refine ow_newP X2 hx hZ (hw _ (List.mem_of_getElem? (i := 57) rfl)) rfl (hb hby at_66) (ow_nlt (y := (0 : Int32)) (show ¬ z6.toInt < 0 from by omega)) 65537 (show z6.toInt.toNat ≤ 65537 from by omega) (by decide) (by decide) (by decide) (pc' := 68) rfl (fun T44 h44 b44 k44 g44 X44 e44 E44 V44 => ?_)
        have ne_b1_b44 : b1 ≠ b44 := Nat.ne_of_lt (Nat.lt_of_lt_of_le P2_0.lt (Nat.le_of_eq g44.symm))
        have ne_b2_b44 : b2 ≠ b44 := Nat.ne_of_lt (Nat.lt_of_lt_of_le P2_3.lt (Nat.le_of_eq g44.symm))
        have g_b44 : n0 ≤ b44 := Nat.le_trans Zs2 (Nat.le_of_eq g44.symm)
        have sz_b44 : h0.size ≤ b44 := Nat.le_trans K2.1 (Nat.le_of_eq g44.symm)
        have E_b1_44 := P2_0.ext E44
        have F_b1_bytes_44 := P2_2.ext E44
        have F_b1_length_44 := P2_1.ext E44
        have V_b2_44 := P2_3.ext E44
        have Zs44 : n0 ≤ h44.size := Nat.le_trans Zs2 E44.1
        have K44 := K2.ext E44
        have V_b44 : Arv Z h44 b44 k44 .char z6 (BL (fun _ => 0)) (.int (0 : Int32)) := V44.pad BL_zero
        refine ow_astore X44 hx (Ls' := #[.val (.int pm), .val (.int ps), .val (.int pa), .val (.int pb), .val (.ref b1), .val (.int z3), .val (.int (0 : Int32)), .val (.int z6), .val (.ref b44), .unset, .unset, .unset, .unset, .unset, .unset, .unset]) (hb hby at_68) rfl rfl (pc' := 70) rfl ?_
        refine ow_aload X44 hx (hb hby at_70) rfl rfl (pc' := 72) rfl ?_
        refine ow_iconst X44 hx (z := (0 : Int32)) (hb hby at_72) rfl (pc' := 73) rfl ?_
        refine ow_iloadN X44 hx (hb hby at_73) rfl (pc' := 74) rfl ?_
        refine ow_bipush X44 hx (z := (127 : Int32)) (hb hby at_74) rfl (pc' := 76) rfl ?_
        refine ow_iand X44 hx (hb hby at_76) (pc' := 77) rfl (fun z45 hz45 => ?_)
        have az45 : z45.toInt = pa.toInt % 128 := by rw [hz45]; exact c_mask pa (127 : Int32) 7 (by decide) (by decide)
        have rz45 := rng32 z45
        refine ow_i2c X44 hx (hb hby at_77) (pc' := 78) rfl (fun z46 hz46 => ?_)
        have az46 : (z46.toInt - z45.toInt) % 65536 = 0 ∧ 0 ≤ z46.toInt ∧ z46.toInt < 65536 := by rw [hz46]; exact c_i2c z45
        have rz46 := rng32 z46
        refine ow_stC X44 hx hZ e44 V_b44 ((0 : Int32).toNatClampNeg) rfl (ow_nlt (y := (0 : Int32)) (show ¬ (0 : Int) < 0 from by omega)) (ow_lt (show (0 : Int) < z6.toInt from by omega)) (by rw [BL_len]; decide) (hb hby at_78) (pc' := 79) rfl (fun T47 h47 X47 e47 W47 V47 => ?_)
        have V_b44_47 : Arv Z h47 b44 k44 (.char) z6 (BL (upd (fun _ => 0) (0 : Int32).toInt.toNat (nar .char z46))) (.int (0 : Int32)) := by rw [← (show (BL (fun _ => 0)).set (0 : Int32).toNatClampNeg (.int (nar .char z46)) = BL (upd (fun _ => 0) (0 : Int32).toInt.toNat (nar .char z46)) from BL_set _ _ _)]; exact V47
        have E_b1_47 := E_b1_44.wr W47
        have F_b1_bytes_47 := F_b1_bytes_44.other W47 (Or.inl ne_b1_b44)
        have F_b1_length_47 := F_b1_length_44.other W47 (Or.inl ne_b1_b44)
        have V_b2_47 := V_b2_44.other W47 ne_b2_b44
        have Zs47 : n0 ≤ h47.size := Nat.le_trans Zs44 (Keep.of_wr W47).1
        have K47 := K44.wr W47 (Or.inr sz_b44)
        have N47 := Fr.snoc X47 N2 g_b44
        refine ow_aload X47 hx (hb hby at_79) rfl rfl (pc' := 81) rfl ?_
        refine ow_iload X47 hx (hb hby at_81) rfl (pc' := 83) rfl ?_
        refine ow_iconst X47 hx (z := (1 : Int32)) (hb hby at_83) rfl (pc' := 84) rfl ?_
        refine ow_isub X47 hx (hb hby at_84) (pc' := 85) rfl (fun z48 hz48 => ?_)
        have az48 : (z48.toInt - (z6.toInt - (1 : Int))) % 4294967296 = 0 := by rw [hz48]; exact c_isub z6 (1 : Int32)
        have rz48 := rng32 z48
        refine ow_iloadN X47 hx (hb hby at_85) rfl (pc' := 86) rfl ?_
        refine ow_bipush X47 hx (z := (127 : Int32)) (hb hby at_86) rfl (pc' := 88) rfl ?_
        refine ow_iand X47 hx (hb hby at_88) (pc' := 89) rfl (fun z49 hz49 => ?_)
        have az49 : z49.toInt = pb.toInt % 128 := by rw [hz49]; exact c_mask pb (127 : Int32) 7 (by decide) (by decide)
        have rz49 := rng32 z49
        refine ow_i2c X47 hx (hb hby at_89) (pc' := 90) rfl (fun z50 hz50 => ?_)
        have az50 : (z50.toInt - z49.toInt) % 65536 = 0 ∧ 0 ≤ z50.toInt ∧ z50.toInt < 65536 := by rw [hz50]; exact c_i2c z49
        have rz50 := rng32 z50
        refine ow_stC X47 hx hZ e47 V_b44_47 (z48.toNatClampNeg) rfl (ow_nlt (y := (0 : Int32)) (show ¬ z48.toInt < 0 from by omega)) (ow_lt (show z48.toInt < z6.toInt from by omega)) (by rw [BL_len]; show z48.toInt.toNat < 65537; omega) (hb hby at_90) (pc' := 91) rfl (fun T51 h51 X51 e51 W51 V51 => ?_)
        have V_b44_51 : Arv Z h51 b44 k44 (.char) z6 (BL (upd (upd (fun _ => 0) (0 : Int32).toInt.toNat (nar .char z46)) z48.toInt.toNat (nar .char z50))) (.int (0 : Int32)) := by rw [← (show (BL (upd (fun _ => 0) (0 : Int32).toInt.toNat (nar .char z46))).set z48.toNatClampNeg (.int (nar .char z50)) = BL (upd (upd (fun _ => 0) (0 : Int32).toInt.toNat (nar .char z46)) z48.toInt.toNat (nar .char z50)) from BL_set _ _ _)]; exact V51
        have E_b1_51 := E_b1_47.wr W51
        have F_b1_bytes_51 := F_b1_bytes_47.other W51 (Or.inl ne_b1_b44)
        have F_b1_length_51 := F_b1_length_47.other W51 (Or.inl ne_b1_b44)
        have V_b2_51 := V_b2_47.other W51 ne_b2_b44
        have Zs51 : n0 ≤ h51.size := Nat.le_trans Zs47 (Keep.of_wr W51).1
        have K51 := K47.wr W51 (Or.inr sz_b44)
        have N51 := Fr.snoc X51 N47 g_b44
        refine ow_aload X51 hx (hb hby at_91) rfl rfl (pc' := 93) rfl ?_
        refine ow_new X51 hx hZ hown (hw _ (List.mem_of_getElem? (i := 58) rfl)) (hw _ (List.mem_of_getElem? (i := 59) rfl)) (hw _ (List.mem_of_getElem? (i := 60) rfl)) e51 (hb hby at_93) (by decide) (by decide) (pc' := 96) rfl (fun T52 h52 b52 g52 X52 e52 E52 A52 D52 => ?_)
        have ne_b1_b52 : b1 ≠ b52 := Nat.ne_of_lt (Nat.lt_of_lt_of_le E_b1_51.lt (Nat.le_of_eq g52.symm))
        have ne_b2_b52 : b2 ≠ b52 := Nat.ne_of_lt (Nat.lt_of_lt_of_le V_b2_51.lt (Nat.le_of_eq g52.symm))
        have ne_b44_b52 : b44 ≠ b52 := Nat.ne_of_lt (Nat.lt_of_lt_of_le V_b44_51.lt (Nat.le_of_eq g52.symm))
        have g_b52 : n0 ≤ b52 := Nat.le_trans Zs51 (Nat.le_of_eq g52.symm)
        have sz_b52 : h0.size ≤ b52 := Nat.le_trans K51.1 (Nat.le_of_eq g52.symm)
        have E_b1_52 := E_b1_51.ext E52
        have F_b1_bytes_52 := F_b1_bytes_51.ext E52
        have F_b1_length_52 := F_b1_length_51.ext E52
        have V_b2_52 := V_b2_51.ext E52
        have V_b44_52 := V_b44_51.ext E52
        have Zs52 : n0 ≤ h52.size := Nat.le_trans Zs51 E52.1
        have K52 := K51.ext E52
        have F_b52_coder : Fld Z h52 b52 "java/lang/String" "coder" "B" (.int (0 : Int32)) := D52 (Or.inr (hw _ (List.mem_of_getElem? (i := 81) rfl))) (ty := .byte) (by decide)
        have F_b52_value : Fld Z h52 b52 "java/lang/String" "value" "[B" .null := D52 (Or.inr (hw _ (List.mem_of_getElem? (i := 83) rfl))) (ty := (.array .byte)) (by decide)
        refine ow_dup X52 hx (hb hby at_96) rfl (pc' := 97) rfl ?_
        refine ow_aload X52 hx (hb hby at_97) rfl rfl (pc' := 99) rfl ?_
        have hf53 : ∀ i : Nat, 0 ≤ ((upd (upd (fun _ => 0) (0 : Int32).toInt.toNat (nar .char z46)) z48.toInt.toNat (nar .char z50)) i).toInt ∧ ((upd (upd (fun _ => 0) (0 : Int32).toInt.toNat (nar .char z46)) z48.toInt.toNat (nar .char z50)) i).toInt ≤ 255 := (upd_rng (upd_rng (fun _ => show 0 ≤ (0 : Int32).toInt ∧ (0 : Int32).toInt ≤ 255 from by decide) (nar_c _ (by omega))) (nar_c _ (by omega)))
        refine ow_callI X52 hx hZ rfl rfl hown (hw _ (List.mem_of_getElem? (i := 61) rfl)) (hw _ (List.mem_of_getElem? (i := 62) rfl)) (hw _ (List.mem_of_getElem? (i := 60) rfl)) (hw _ (List.mem_of_getElem? (i := 63) rfl)) (by decide) (rm_sIn1 l Z a0 hw [] b52 b44 zc k44 (upd (upd (fun _ => 0) (0 : Int32).toInt.toNat (nar .char z46)) z48.toInt.toNat (nar .char z50)) z6 h52 n0 Zs52 (ow_staKeep S_cs K52 all0) A52 F_b52_coder F_b52_value V_b44_52 g_b52 (Ne.symm ne_b44_b52) (by first | assumption | decide | omega) (by first | assumption | decide | omega) (by first | assumption | decide | omega) (by first | assumption | decide | omega)) e52 2 (by decide) (by decide) (by decide) (by decide) [(.ref b44)] (by rw [hml]; rfl) pd_18 rfl rfl rfl (Nat.le_of_eq rfl) (hb hby at_99) (pc' := 102) rfl (fun v54 T54 L54 hQ54 X54 => ?_)
        obtain ⟨b54, kt_54, fr_54, rfl, Nc54, Kc54, P54_0, P54_1, P54_2, P54_3, P54_4, P54_5, P54_6⟩ := hQ54
        have E_b1_54 := E_b1_52.keep Kc54
        have F_b1_bytes_54 := F_b1_bytes_52.keep Kc54 (ninS ne_b1_b52 nin0)
        have F_b1_length_54 := F_b1_length_52.keep Kc54 (ninS ne_b1_b52 nin0)
        have V_b2_54 := V_b2_52.keep Kc54 (ninS ne_b2_b52 nin0)
        have V_b44_54 := V_b44_52.keep Kc54 (ninS ne_b44_b52 nin0)
        have ne_b1_b54 : b1 ≠ b54 := Nat.ne_of_lt (Nat.lt_of_lt_of_le E_b1_52.lt P54_5)
        have ne_b2_b54 : b2 ≠ b54 := Nat.ne_of_lt (Nat.lt_of_lt_of_le V_b2_52.lt P54_5)
        have ne_b44_b54 : b44 ≠ b54 := Nat.ne_of_lt (Nat.lt_of_lt_of_le V_b44_52.lt P54_5)
        have ne_b52_b54 : b52 ≠ b54 := Nat.ne_of_lt (Nat.lt_of_lt_of_le A52.lt P54_5)
        have sz_b54 : h0.size ≤ b54 := Nat.le_trans K52.1 P54_5
        have Zs54 : n0 ≤ T54.heap.size := Nat.le_trans Zs52 Kc54.1
        have K54 := K52.trans Kc54 (allS (Or.inr sz_b52) all0)
        have N54 := Fr.app N51 Nc54
        show Ends _ _ _ _ T54 (mkF m 102 #[.val (.int pm), .val (.int ps), .val (.int pa), .val (.int pb), .val (.ref b1), .val (.int z3), .val (.int (0 : Int32)), .val (.int z6), .val (.ref b44), .unset, .unset, .unset, .unset, .unset, .unset, .unset] [(.ref b52), (.ref b1)])
        refine ow_callV X54 hx hZ rfl hown (hw _ (List.mem_of_getElem? (i := 84) rfl)) (hw _ (List.mem_of_getElem? (i := 85) rfl)) (hw _ (List.mem_of_getElem? (i := 87) rfl)) (hw _ (List.mem_of_getElem? (i := 86) rfl)) (hw _ (List.mem_of_getElem? (i := 2) rfl)) (hw _ (List.mem_of_getElem? (i := 88) rfl)) (by decide) (rm_apB l Z a0 hw [] b1 b52 zc wf b2 kt_2 fr_2 b54 kt_54 z6 fr_54 T54.heap n0 Zs54 (ow_staKeep S_cs K54 all0) (ow_staKeep S_f K54 all0) (by first | assumption | decide | omega) (by first | assumption | decide | omega) E_b1_54 F_b1_bytes_54 F_b1_length_54 V_b2_54 P54_0 P54_1 P54_2 P54_3 g_b1 P2_4 P2_6 ne_b1_b52 ne_b1_b54 ne_b2_b52 ne_b2_b54 (by first | assumption | decide | omega) (by first | assumption | decide | omega)) rfl 0 (by decide) (by decide) (by decide) (by decide) [(.ref b52)] (by rw [hml]; rfl) pd_19 rfl E_b1_54 rfl rfl (Nat.le_of_eq rfl) (hb hby at_102) (pc' := 105) rfl (fun v55 T55 L55 hQ55 X55 => ?_)
        obtain ⟨pz_55, b55a, kt_55, fr_55, rfl, Nc55, Kc55, P55_0, P55_1, P55_2, P55_3, P55_4, P55_5, P55_6⟩ := hQ55
        have V_b2_55 := V_b2_54.keep Kc55 (ninS (Ne.symm P2_6) nin0)
        have V_b44_55 := V_b44_54.keep Kc55 (ninS (Ne.symm ne_b1_b44) nin0)
        have E_b52_55 := P54_0.keep Kc55
        have F_b52_coder_55 := P54_1.keep Kc55 (ninS (Ne.symm ne_b1_b52) nin0)
        have F_b52_value_55 := P54_2.keep Kc55 (ninS (Ne.symm ne_b1_b52) nin0)
        have V_b54_55 := P54_3.keep Kc55 (ninS (Ne.symm ne_b1_b54) nin0)
        have ne_b1_b55a : b1 ≠ b55a := Nat.ne_of_lt (Nat.lt_of_lt_of_le E_b1_54.lt P55_5)
        have ne_b2_b55a : b2 ≠ b55a := Nat.ne_of_lt (Nat.lt_of_lt_of_le V_b2_54.lt P55_5)
        have ne_b44_b55a : b44 ≠ b55a := Nat.ne_of_lt (Nat.lt_of_lt_of_le V_b44_54.lt P55_5)
        have ne_b52_b55a : b52 ≠ b55a := Nat.ne_of_lt (Nat.lt_of_lt_of_le P54_0.lt P55_5)
        have ne_b54_b55a : b54 ≠ b55a := Nat.ne_of_lt (Nat.lt_of_lt_of_le P54_3.lt P55_5)
        have sz_b55a : h0.size ≤ b55a := Nat.le_trans K54.1 P55_5
        have Zs55 : n0 ≤ T55.heap.size := Nat.le_trans Zs54 Kc55.1
        have K55 := K54.trans Kc55 (allS (Or.inr sz_b1) all0)
        have N55 := Fr.app N54 Nc55
        show Ends _ _ _ _ T55 (mkF m 105 #[.val (.int pm), .val (.int ps), .val (.int pa), .val (.int pb), .val (.ref b1), .val (.int z3), .val (.int (0 : Int32)), .val (.int z6), .val (.ref b44), .unset, .unset, .unset, .unset, .unset, .unset, .unset] [])
        refine ow_goto X55 hx (hb hby at_105) (by decide) (pc' := 163) (by decide) ?_
        refine ow_aload X55 hx (hb hby at_163) rfl rfl (pc' := 165) rfl ?_
        refine ow_callV X55 hx hZ rfl hown (hw _ (List.mem_of_getElem? (i := 13) rfl)) (hw _ (List.mem_of_getElem? (i := 14) rfl)) (hw _ (List.mem_of_getElem? (i := 16) rfl)) (hw _ (List.mem_of_getElem? (i := 15) rfl)) (hw _ (List.mem_of_getElem? (i := 2) rfl)) (hw _ (List.mem_of_getElem? (i := 17) rfl)) (by decide) (rm_lbBytes l Z a0 hw [] b1 b55a T55.heap P55_2) rfl 0 (by decide) (by decide) (by decide) (by decide) [] (by rw [hml]; rfl) pd_16 rfl P55_0 rfl rfl (Nat.le_of_eq rfl) (hb hby at_165) (pc' := 168) rfl (fun v56 T56 L56 hQ56 X56 => ?_)
        obtain ⟨rfl, rfl, e56⟩ := hQ56
        rw [List.append_nil] at X56
        show Ends _ _ _ _ T56 (mkF m 168 #[.val (.int pm), .val (.int ps), .val (.int pa), .val (.int pb), .val (.ref b1), .val (.int z3), .val (.int (0 : Int32)), .val (.int z6), .val (.ref b44), .unset, .unset, .unset, .unset, .unset, .unset, .unset] [(.ref b55a)])
        refine ow_astore X56 hx (Ls' := #[.val (.int pm), .val (.int ps), .val (.int pa), .val (.int pb), .val (.ref b1), .val (.int z3), .val (.int (0 : Int32)), .val (.int z6), .val (.ref b55a), .unset, .unset, .unset, .unset, .unset, .unset, .unset]) (hb hby at_168) rfl rfl (pc' := 170) rfl ?_
        refine ow_iload X56 hx (hb hby at_170) rfl (pc' := 172) rfl ?_
        refine ow_iconst X56 hx (z := (2 : Int32)) (hb hby at_172) rfl (pc' := 173) rfl ?_
        refine ow_icmp_ne X56 hx (z3.toInt) ((2 : Int)) (hb hby at_173) rfl rfl (by decide) (pt := 180) (by decide) (pf := 176) rfl (fun c173 => absurd c173 (by omega)) (fun c173 => ?_)
        refine ow_iconst X56 hx (z := (1 : Int32)) (hb hby at_176) rfl (pc' := 177) rfl ?_
        refine ow_goto X56 hx (hb hby at_177) (by decide) (pc' := 181) (by decide) ?_
        refine ow_istore X56 hx (Ls' := #[.val (.int pm), .val (.int ps), .val (.int pa), .val (.int pb), .val (.ref b1), .val (.int z3), .val (.int (0 : Int32)), .val (.int z6), .val (.ref b55a), .val (.int (1 : Int32)), .unset, .unset, .unset, .unset, .unset, .unset]) (hb hby at_181) rfl (pc' := 183) rfl ?_
        refine ow_iload X56 hx (hb hby at_183) rfl (pc' := 185) rfl ?_
        refine ow_ifN X56 hx (hb hby at_185) (by decide) (pc' := 188) rfl ?_
        refine ow_iload X56 hx (hb hby at_188) rfl (pc' := 190) rfl ?_
        refine ow_goto X56 hx (hb hby at_190) (by decide) (pc' := 196) (by decide) ?_
        refine ow_istore X56 hx (Ls' := #[.val (.int pm), .val (.int ps), .val (.int pa), .val (.int pb), .val (.ref b1), .val (.int z3), .val (.int (0 : Int32)), .val (.int z6), .val (.ref b55a), .val (.int (1 : Int32)), .val (.int z6), .unset, .unset, .unset, .unset, .unset]) (hb hby at_196) rfl (pc' := 198) rfl ?_
        refine ow_aload X56 hx (hb hby at_198) rfl rfl (pc' := 200) rfl ?_
        refine ow_len X56 hx hZ e56 P55_3 (hb hby at_200) (pc' := 201) rfl ?_
        refine ow_iload X56 hx (hb hby at_201) rfl (pc' := 203) rfl ?_
        refine ow_icmp_eq X56 hx (z6.toInt) (z6.toInt) (hb hby at_203) rfl rfl (by decide) (pt := 208) (by decide) (pf := 206) rfl (fun c203 => ?_) (fun c203 => absurd c203 (by omega))
        rcases (show z6.toInt ≤ 65536 ∨ 65536 < z6.toInt from by omega) with hbig | hbig
        · refine ow_aload X56 hx (hb hby at_208) rfl rfl (pc' := 210) rfl ?_
          refine ow_callV X56 hx hZ rfl hown (hw _ (List.mem_of_getElem? (i := 18) rfl)) (hw _ (List.mem_of_getElem? (i := 19) rfl)) (hw _ (List.mem_of_getElem? (i := 21) rfl)) (hw _ (List.mem_of_getElem? (i := 20) rfl)) (hw _ (List.mem_of_getElem? (i := 2) rfl)) (hw _ (List.mem_of_getElem? (i := 22) rfl)) (by decide) (rm_clrA l Z a0 hw [] b1 b55a kt_55 z6 fr_55 pz_55 T55.heap n0 Zs55 P55_0 P55_2 P55_1 P55_3 g_b1 P55_6 (by first | assumption | decide | omega)) e56 0 (by decide) (by decide) (by decide) (by decide) [] (by rw [hml]; rfl) pd_15 rfl P55_0 rfl rfl (Nat.le_of_eq rfl) (hb hby at_210) (pc' := 213) rfl (fun v57 T57 L57 hQ57 X57 => ?_)
          obtain ⟨rfl, Nc57, Kc57, P57_0, P57_1, P57_2⟩ := hQ57
          have V_b2_57 := V_b2_55.keep Kc57 (ninS (Ne.symm P2_6) nin0)
          have V_b44_57 := V_b44_55.keep Kc57 (ninS (Ne.symm ne_b1_b44) nin0)
          have E_b52_57 := E_b52_55.keep Kc57
          have F_b52_coder_57 := F_b52_coder_55.keep Kc57 (ninS (Ne.symm ne_b1_b52) nin0)
          have F_b52_value_57 := F_b52_value_55.keep Kc57 (ninS (Ne.symm ne_b1_b52) nin0)
          have V_b54_57 := V_b54_55.keep Kc57 (ninS (Ne.symm ne_b1_b54) nin0)
          have V_b55a_57 := P55_3.keep Kc57 (ninS (Ne.symm P55_6) nin0)
          have Zs57 : n0 ≤ T57.heap.size := Nat.le_trans Zs55 Kc57.1
          have K57 := K55.trans Kc57 (allS (Or.inr sz_b1) all0)
          have N57 := Fr.app N55 Nc57
          show Ends _ _ _ _ T57 (mkF m 213 #[.val (.int pm), .val (.int ps), .val (.int pa), .val (.int pb), .val (.ref b1), .val (.int z3), .val (.int (0 : Int32)), .val (.int z6), .val (.ref b55a), .val (.int (1 : Int32)), .val (.int z6), .unset, .unset, .unset, .unset, .unset] [])
          refine ow_iload X57 hx (hb hby at_213) rfl (pc' := 215) rfl ?_
          refine ow_ifY X57 hx (hb hby at_215) (by decide) (by decide) (pc' := 223) (by decide) ?_
          refine ow_aload X57 hx (hb hby at_223) rfl rfl (pc' := 225) rfl ?_
          refine ow_callV X57 hx hZ rfl hown (hw _ (List.mem_of_getElem? (i := 13) rfl)) (hw _ (List.mem_of_getElem? (i := 14) rfl)) (hw _ (List.mem_of_getElem? (i := 16) rfl)) (hw _ (List.mem_of_getElem? (i := 15) rfl)) (hw _ (List.mem_of_getElem? (i := 2) rfl)) (hw _ (List.mem_of_getElem? (i := 17) rfl)) (by decide) (rm_lbBytes l Z a0 hw [] b1 b55a T57.heap P57_2) rfl 0 (by decide) (by decide) (by decide) (by decide) [] (by rw [hml]; rfl) pd_16 rfl P57_0 rfl rfl (Nat.le_of_eq rfl) (hb hby at_225) (pc' := 228) rfl (fun v58 T58 L58 hQ58 X58 => ?_)
          obtain ⟨rfl, rfl, e58⟩ := hQ58
          rw [List.append_nil] at X58
          show Ends _ _ _ _ T58 (mkF m 228 #[.val (.int pm), .val (.int ps), .val (.int pa), .val (.int pb), .val (.ref b1), .val (.int z3), .val (.int (0 : Int32)), .val (.int z6), .val (.ref b55a), .val (.int (1 : Int32)), .val (.int z6), .unset, .unset, .unset, .unset, .unset] [(.ref b55a)])
          refine ow_astore X58 hx (Ls' := #[.val (.int pm), .val (.int ps), .val (.int pa), .val (.int pb), .val (.ref b1), .val (.int z3), .val (.int (0 : Int32)), .val (.int z6), .val (.ref b55a), .val (.int (1 : Int32)), .val (.int z6), .val (.ref b55a), .unset, .unset, .unset, .unset]) (hb hby at_228) rfl rfl (pc' := 230) rfl ?_
          refine ow_iload X58 hx (hb hby at_230) rfl (pc' := 232) rfl ?_
          refine ow_ifN X58 hx (hb hby at_232) (by decide) (pc' := 235) rfl ?_
          refine ow_iload X58 hx (hb hby at_235) rfl (pc' := 237) rfl ?_
          refine ow_ldcInt X58 hx hZ hown (hw _ (List.mem_of_getElem? (i := 129) rfl)) (hb hby at_237) (pc' := 239) rfl ?_
          refine ow_icmp_le X58 hx (z6.toInt) ((65536 : Int)) (hb hby at_239) rfl rfl (by decide) (pt := 246) (by decide) (pf := 242) rfl (fun c239 => ?_) (fun c239 => absurd c239 (by omega))
          refine ow_iconst X58 hx (z := (0 : Int32)) (hb hby at_246) rfl (pc' := 247) rfl ?_
          refine ow_istore X58 hx (Ls' := #[.val (.int pm), .val (.int ps), .val (.int pa), .val (.int pb), .val (.ref b1), .val (.int z3), .val (.int (0 : Int32)), .val (.int z6), .val (.ref b55a), .val (.int (1 : Int32)), .val (.int z6), .val (.ref b55a), .val (.int (0 : Int32)), .unset, .unset, .unset]) (hb hby at_247) rfl (pc' := 249) rfl ?_
          refine ow_iload X58 hx (hb hby at_249) rfl (pc' := 251) rfl ?_
          refine ow_ifY X58 hx (hb hby at_251) (by decide) (by decide) (pc' := 278) (by decide) ?_
          refine ow_aload X58 hx (hb hby at_278) rfl rfl (pc' := 280) rfl ?_
          refine ow_aload X58 hx (hb hby at_280) rfl rfl (pc' := 282) rfl ?_
          refine ow_acmp X58 hx rfl rfl (same := true) (hb hby at_282) (decide_eq_true rfl) (by decide) (pc' := 285) rfl ?_
          refine ow_iconst X58 hx (z := (1 : Int32)) (hb hby at_285) rfl (pc' := 286) rfl ?_
          refine ow_goto X58 hx (hb hby at_286) (by decide) (pc' := 290) (by decide) ?_
          refine ow_istore X58 hx (Ls' := #[.val (.int pm), .val (.int ps), .val (.int pa), .val (.int pb), .val (.ref b1), .val (.int z3), .val (.int (0 : Int32)), .val (.int z6), .val (.ref b55a), .val (.int (1 : Int32)), .val (.int z6), .val (.ref b55a), .val (.int (0 : Int32)), .val (.int (1 : Int32)), .unset, .unset]) (hb hby at_290) rfl (pc' := 292) rfl ?_
          refine ow_aload X58 hx (hb hby at_292) rfl rfl (pc' := 294) rfl ?_
          refine ow_callVPI X58 hx hZ rfl hown (hw _ (List.mem_of_getElem? (i := 26) rfl)) (hw _ (List.mem_of_getElem? (i := 27) rfl)) (hw _ (List.mem_of_getElem? (i := 29) rfl)) (hw _ (List.mem_of_getElem? (i := 28) rfl)) (hw _ (List.mem_of_getElem? (i := 2) rfl)) (hw _ (List.mem_of_getElem? (i := 30) rfl)) (by decide) (rm_lbLen l Z a0 hw [] b1 (0 : Int32) T57.heap P57_1) e58 0 (by decide) (by decide) (by decide) (by decide) [] (by rw [hml]; rfl) pd_13 rfl P57_0 rfl rfl (Nat.le_of_eq rfl) (hb hby at_294) (pc' := 297) rfl (fun z59 T59 hz59 X59 e59 => ?_)
          have az59 : z59.toInt = (0 : Int) := hz59
          have rz59 := rng32 z59
          refine ow_if_ne X59 hx (z59.toInt) (hb hby at_297) rfl (by decide) (pt := 313) (by decide) (pf := 300) rfl (fun c297 => absurd c297 (by omega)) (fun c297 => ?_)
          refine ow_aload X59 hx (hb hby at_300) rfl rfl (pc' := 302) rfl ?_
          refine ow_callV X59 hx hZ rfl hown (hw _ (List.mem_of_getElem? (i := 31) rfl)) (hw _ (List.mem_of_getElem? (i := 32) rfl)) (hw _ (List.mem_of_getElem? (i := 34) rfl)) (hw _ (List.mem_of_getElem? (i := 33) rfl)) (hw _ (List.mem_of_getElem? (i := 2) rfl)) (hw _ (List.mem_of_getElem? (i := 35) rfl)) (by decide) (rm_toBA l Z a0 hw [] b1 b55a kt_55 z6 fr_55 T57.heap n0 Zs57 P57_2 P57_1 V_b55a_57 (by first | assumption | decide | omega) (by first | assumption | decide | omega)) e59 0 (by decide) (by decide) (by decide) (by decide) [] (by rw [hml]; rfl) pd_16 rfl P57_0 rfl rfl (Nat.le_of_eq rfl) (hb hby at_302) (pc' := 305) rfl (fun v60 T60 L60 hQ60 X60 => ?_)
          obtain ⟨b60, kt_60, fr_60, rfl, Nc60, Kc60, P60_0, P60_1, P60_2⟩ := hQ60
          have E_b1_60 := P57_0.keep Kc60
          have F_b1_bytes_60 := P57_2.keep Kc60 nin0
          have F_b1_length_60 := P57_1.keep Kc60 nin0
          have V_b2_60 := V_b2_57.keep Kc60 nin0
          have V_b44_60 := V_b44_57.keep Kc60 nin0
          have E_b52_60 := E_b52_57.keep Kc60
          have F_b52_coder_60 := F_b52_coder_57.keep Kc60 nin0
          have F_b52_value_60 := F_b52_value_57.keep Kc60 nin0
          have V_b54_60 := V_b54_57.keep Kc60 nin0
          have V_b55a_60 := V_b55a_57.keep Kc60 nin0
          have ne_b1_b60 : b1 ≠ b60 := Nat.ne_of_lt (Nat.lt_of_lt_of_le P57_0.lt P60_2)
          have ne_b2_b60 : b2 ≠ b60 := Nat.ne_of_lt (Nat.lt_of_lt_of_le V_b2_57.lt P60_2)
          have ne_b44_b60 : b44 ≠ b60 := Nat.ne_of_lt (Nat.lt_of_lt_of_le V_b44_57.lt P60_2)
          have ne_b52_b60 : b52 ≠ b60 := Nat.ne_of_lt (Nat.lt_of_lt_of_le E_b52_57.lt P60_2)
          have ne_b54_b60 : b54 ≠ b60 := Nat.ne_of_lt (Nat.lt_of_lt_of_le V_b54_57.lt P60_2)
          have ne_b55a_b60 : b55a ≠ b60 := Nat.ne_of_lt (Nat.lt_of_lt_of_le V_b55a_57.lt P60_2)
          have sz_b60 : h0.size ≤ b60 := Nat.le_trans K57.1 P60_2
          have Zs60 : n0 ≤ T60.heap.size := Nat.le_trans Zs57 Kc60.1
          have K60 := K57.trans Kc60 all0
          have N60 := Fr.app N57 Nc60
          show Ends _ _ _ _ T60 (mkF m 305 #[.val (.int pm), .val (.int ps), .val (.int pa), .val (.int pb), .val (.ref b1), .val (.int z3), .val (.int (0 : Int32)), .val (.int z6), .val (.ref b55a), .val (.int (1 : Int32)), .val (.int z6), .val (.ref b55a), .val (.int (0 : Int32)), .val (.int (1 : Int32)), .unset, .unset] [(.ref b60)])
          refine ow_len X60 hx hZ rfl P60_0 (hb hby at_305) (pc' := 306) rfl ?_
          refine ow_ifN X60 hx (hb hby at_306) (by decide) (pc' := 309) rfl ?_
          refine ow_iconst X60 hx (z := (1 : Int32)) (hb hby at_309) rfl (pc' := 310) rfl ?_
          refine ow_goto X60 hx (hb hby at_310) (by decide) (pc' := 314) (by decide) ?_
          refine ow_istore X60 hx (Ls' := #[.val (.int pm), .val (.int ps), .val (.int pa), .val (.int pb), .val (.ref b1), .val (.int z3), .val (.int (0 : Int32)), .val (.int z6), .val (.ref b55a), .val (.int (1 : Int32)), .val (.int z6), .val (.ref b55a), .val (.int (0 : Int32)), .val (.int (1 : Int32)), .val (.int (1 : Int32)), .unset]) (hb hby at_314) rfl (pc' := 316) rfl ?_
          refine ow_aload X60 hx (hb hby at_316) rfl rfl (pc' := 318) rfl ?_
          refine ow_iloadN X60 hx (hb hby at_318) rfl (pc' := 319) rfl ?_
          refine ow_i2b X60 hx (hb hby at_319) (pc' := 320) rfl (fun z61 hz61 => ?_)
          have az61 : (z61.toInt - pb.toInt) % 256 = 0 ∧ -128 ≤ z61.toInt ∧ z61.toInt < 128 := by rw [hz61]; exact c_i2b pb
          have rz61 := rng32 z61
          refine ow_callV X60 hx hZ rfl hown (hw _ (List.mem_of_getElem? (i := 48) rfl)) (hw _ (List.mem_of_getElem? (i := 49) rfl)) (hw _ (List.mem_of_getElem? (i := 51) rfl)) (hw _ (List.mem_of_getElem? (i := 50) rfl)) (hw _ (List.mem_of_getElem? (i := 2) rfl)) (hw _ (List.mem_of_getElem? (i := 52) rfl)) (by decide) (rm_lbApp l Z a0 hw [] b1 z61 b55a kt_55 z6 fr_55 (0 : Int32) T60.heap n0 Zs60 E_b1_60 F_b1_bytes_60 F_b1_length_60 V_b55a_60 g_b1 P55_6 P55_4 (by first | assumption | decide | omega | (have q0_ : (0 : Int32).toInt = 0 := (by decide); omega)) (by first | assumption | decide | omega | (have q0_ : (0 : Int32).toInt = 0 := (by decide); omega)) (by first | assumption | decide | omega | (have q0_ : (0 : Int32).toInt = 0 := (by decide); omega))) rfl 0 (by decide) (by decide) (by decide) (by decide) [(.int z61)] (by rw [hml]; rfl) pd_17 rfl E_b1_60 rfl rfl (Nat.le_of_eq rfl) (hb hby at_320) (pc' := 323) rfl (fun v62 T62 L62 hQ62 X62 => ?_)
          obtain ⟨pz_62, rfl, Nc62, Kc62, P62_0, P62_1, P62_2, P62_3, P62_4⟩ := hQ62
          have P62_4 : pz_62.toInt = (0 : Int) + 1 := P62_4
          have V_b2_62 := V_b2_60.keep Kc62 (ninS (Ne.symm P2_6) (ninS ne_b2_b55a nin0))
          have V_b44_62 := V_b44_60.keep Kc62 (ninS (Ne.symm ne_b1_b44) (ninS ne_b44_b55a nin0))
          have E_b52_62 := E_b52_60.keep Kc62
          have F_b52_coder_62 := F_b52_coder_60.keep Kc62 (ninS (Ne.symm ne_b1_b52) (ninS ne_b52_b55a nin0))
          have F_b52_value_62 := F_b52_value_60.keep Kc62 (ninS (Ne.symm ne_b1_b52) (ninS ne_b52_b55a nin0))
          have V_b54_62 := V_b54_60.keep Kc62 (ninS (Ne.symm ne_b1_b54) (ninS ne_b54_b55a nin0))
          have V_b60_62 := P60_0.keep Kc62 (ninS (Ne.symm ne_b1_b60) (ninS (Ne.symm ne_b55a_b60) nin0))
          have Zs62 : n0 ≤ T62.heap.size := Nat.le_trans Zs60 Kc62.1
          have K62 := K60.trans Kc62 (allS (Or.inr sz_b1) (allS (Or.inr sz_b55a) all0))
          have N62 := Fr.app N60 Nc62
          show Ends _ _ _ _ T62 (mkF m 323 #[.val (.int pm), .val (.int ps), .val (.int pa), .val (.int pb), .val (.ref b1), .val (.int z3), .val (.int (0 : Int32)), .val (.int z6), .val (.ref b55a), .val (.int (1 : Int32)), .val (.int z6), .val (.ref b55a), .val (.int (0 : Int32)), .val (.int (1 : Int32)), .val (.int (1 : Int32)), .unset] [])
          refine ow_aload X62 hx (hb hby at_323) rfl rfl (pc' := 325) rfl ?_
          refine ow_callVPI X62 hx hZ rfl hown (hw _ (List.mem_of_getElem? (i := 26) rfl)) (hw _ (List.mem_of_getElem? (i := 27) rfl)) (hw _ (List.mem_of_getElem? (i := 29) rfl)) (hw _ (List.mem_of_getElem? (i := 28) rfl)) (hw _ (List.mem_of_getElem? (i := 2) rfl)) (hw _ (List.mem_of_getElem? (i := 30) rfl)) (by decide) (rm_lbLen l Z a0 hw [] b1 pz_62 T62.heap P62_2) rfl 0 (by decide) (by decide) (by decide) (by decide) [] (by rw [hml]; rfl) pd_13 rfl P62_0 rfl rfl (Nat.le_of_eq rfl) (hb hby at_325) (pc' := 328) rfl (fun z63 T63 hz63 X63 e63 => ?_)
          have az63 : z63.toInt = pz_62.toInt := hz63
          have rz63 := rng32 z63
          refine ow_iconst X63 hx (z := (1 : Int32)) (hb hby at_328) rfl (pc' := 329) rfl ?_
          refine ow_icmp_ne X63 hx (z63.toInt) ((1 : Int)) (hb hby at_329) rfl rfl (by decide) (pt := 348) (by decide) (pf := 332) rfl (fun c329 => absurd c329 (by omega)) (fun c329 => ?_)
          refine ow_aload X63 hx (hb hby at_332) rfl rfl (pc' := 334) rfl ?_
          refine ow_callV X63 hx hZ rfl hown (hw _ (List.mem_of_getElem? (i := 13) rfl)) (hw _ (List.mem_of_getElem? (i := 14) rfl)) (hw _ (List.mem_of_getElem? (i := 16) rfl)) (hw _ (List.mem_of_getElem? (i := 15) rfl)) (hw _ (List.mem_of_getElem? (i := 2) rfl)) (hw _ (List.mem_of_getElem? (i := 17) rfl)) (by decide) (rm_lbBytes l Z a0 hw [] b1 b55a T62.heap P62_1) e63 0 (by decide) (by decide) (by decide) (by decide) [] (by rw [hml]; rfl) pd_16 rfl P62_0 rfl rfl (Nat.le_of_eq rfl) (hb hby at_334) (pc' := 337) rfl (fun v64 T64 L64 hQ64 X64 => ?_)
          obtain ⟨rfl, rfl, e64⟩ := hQ64
          rw [List.append_nil] at X64
          show Ends _ _ _ _ T64 (mkF m 337 #[.val (.int pm), .val (.int ps), .val (.int pa), .val (.int pb), .val (.ref b1), .val (.int z3), .val (.int (0 : Int32)), .val (.int z6), .val (.ref b55a), .val (.int (1 : Int32)), .val (.int z6), .val (.ref b55a), .val (.int (0 : Int32)), .val (.int (1 : Int32)), .val (.int (1 : Int32)), .unset] [(.ref b55a)])
          refine ow_iconst X64 hx (z := (0 : Int32)) (hb hby at_337) rfl (pc' := 338) rfl ?_
          obtain ⟨x65, hx65⟩ : ∃ x : Int32, x = z61.toInt8.toInt32 := ⟨_, rfl⟩
          have ax65 := c_i2b z61
          rw [← hx65] at ax65
          refine ow_ldB X64 hx hZ e64 P62_3 (by decide) (ow_lt (show (0 : Int) < z6.toInt from by omega)) (show (BL (upd fr_55 (0 : Int32).toInt.toNat (z61.toInt8.toInt32))).getD ((0 : Int32).toNatClampNeg) (.int (0 : Int32)) = .int x65 from by rw [hx65]; exact (BL_get _ _ (show (0 : Int32).toNatClampNeg < 65537 from by decide) _).trans (congrArg Value.int (upd_same _ _ _))) (hb hby at_338) (pc' := 339) rfl ?_
          refine ow_iloadN X64 hx (hb hby at_339) rfl (pc' := 340) rfl ?_
          refine ow_i2b X64 hx (hb hby at_340) (pc' := 341) rfl (fun z66 hz66 => ?_)
          have az66 : (z66.toInt - pb.toInt) % 256 = 0 ∧ -128 ≤ z66.toInt ∧ z66.toInt < 128 := by rw [hz66]; exact c_i2b pb
          have rz66 := rng32 z66
          refine ow_icmp_ne X64 hx (x65.toInt) (z66.toInt) (hb hby at_341) rfl rfl (by decide) (pt := 348) (by decide) (pf := 344) rfl (fun c341 => absurd c341 (by omega)) (fun c341 => ?_)
          refine ow_iconst X64 hx (z := (1 : Int32)) (hb hby at_344) rfl (pc' := 345) rfl ?_
          refine ow_goto X64 hx (hb hby at_345) (by decide) (pc' := 349) (by decide) ?_
          refine ow_istore X64 hx (Ls' := #[.val (.int pm), .val (.int ps), .val (.int pa), .val (.int pb), .val (.ref b1), .val (.int z3), .val (.int (0 : Int32)), .val (.int z6), .val (.ref b55a), .val (.int (1 : Int32)), .val (.int z6), .val (.ref b55a), .val (.int (0 : Int32)), .val (.int (1 : Int32)), .val (.int (1 : Int32)), .val (.int (1 : Int32))]) (hb hby at_349) rfl (pc' := 351) rfl ?_
          refine ow_iload X64 hx (hb hby at_351) rfl (pc' := 353) rfl ?_
          refine ow_ifN X64 hx (hb hby at_353) (by decide) (pc' := 356) rfl ?_
          refine ow_iload X64 hx (hb hby at_356) rfl (pc' := 358) rfl ?_
          refine ow_ifN X64 hx (hb hby at_358) (by decide) (pc' := 361) rfl ?_
          refine ow_iload X64 hx (hb hby at_361) rfl (pc' := 363) rfl ?_
          refine ow_ifN X64 hx (hb hby at_363) (by decide) (pc' := 366) rfl ?_
          refine ow_iconst X64 hx (z := (1 : Int32)) (hb hby at_366) rfl (pc' := 367) rfl ?_
          refine ow_goto X64 hx (hb hby at_367) (by decide) (pc' := 371) (by decide) ?_
          exact ow_retB X64 hx hret hlk (hb hby at_371) (by decide) (by decide) (z' := (1 : Int32)) rfl ⟨rfl, N62⟩
        · refine ow_aload X56 hx (hb hby at_208) rfl rfl (pc' := 210) rfl ?_
          refine ow_callV X56 hx hZ rfl hown (hw _ (List.mem_of_getElem? (i := 18) rfl)) (hw _ (List.mem_of_getElem? (i := 19) rfl)) (hw _ (List.mem_of_getElem? (i := 21) rfl)) (hw _ (List.mem_of_getElem? (i := 20) rfl)) (hw _ (List.mem_of_getElem? (i := 2) rfl)) (hw _ (List.mem_of_getElem? (i := 22) rfl)) (by decide) (rm_clrB l Z a0 hw [] b1 b55a kt_55 z6 fr_55 pz_55 T55.heap n0 Zs55 P55_0 P55_2 P55_1 P55_3 g_b1 P55_6 (by first | assumption | decide | omega)) e56 0 (by decide) (by decide) (by decide) (by decide) [] (by rw [hml]; rfl) pd_15 rfl P55_0 rfl rfl (Nat.le_of_eq rfl) (hb hby at_210) (pc' := 213) rfl (fun v67 T67 L67 hQ67 X67 => ?_)
          obtain ⟨b67, kt_67, fr_67, rfl, Nc67, Kc67, P67_0, P67_1, P67_2, P67_3, P67_4, P67_5, P67_6⟩ := hQ67
          have V_b2_67 := V_b2_55.keep Kc67 (ninS (Ne.symm P2_6) nin0)
          have V_b44_67 := V_b44_55.keep Kc67 (ninS (Ne.symm ne_b1_b44) nin0)
          have E_b52_67 := E_b52_55.keep Kc67
          have F_b52_coder_67 := F_b52_coder_55.keep Kc67 (ninS (Ne.symm ne_b1_b52) nin0)
          have F_b52_value_67 := F_b52_value_55.keep Kc67 (ninS (Ne.symm ne_b1_b52) nin0)
          have V_b54_67 := V_b54_55.keep Kc67 (ninS (Ne.symm ne_b1_b54) nin0)
          have V_b55a_67 := P55_3.keep Kc67 (ninS (Ne.symm P55_6) nin0)
          have ne_b1_b67 : b1 ≠ b67 := Nat.ne_of_lt (Nat.lt_of_lt_of_le P55_0.lt P67_5)
          have ne_b2_b67 : b2 ≠ b67 := Nat.ne_of_lt (Nat.lt_of_lt_of_le V_b2_55.lt P67_5)
          have ne_b44_b67 : b44 ≠ b67 := Nat.ne_of_lt (Nat.lt_of_lt_of_le V_b44_55.lt P67_5)
          have ne_b52_b67 : b52 ≠ b67 := Nat.ne_of_lt (Nat.lt_of_lt_of_le E_b52_55.lt P67_5)
          have ne_b54_b67 : b54 ≠ b67 := Nat.ne_of_lt (Nat.lt_of_lt_of_le V_b54_55.lt P67_5)
          have ne_b55a_b67 : b55a ≠ b67 := Nat.ne_of_lt (Nat.lt_of_lt_of_le P55_3.lt P67_5)
          have sz_b67 : h0.size ≤ b67 := Nat.le_trans K55.1 P67_5
          have Zs67 : n0 ≤ T67.heap.size := Nat.le_trans Zs55 Kc67.1
          have K67 := K55.trans Kc67 (allS (Or.inr sz_b1) all0)
          have N67 := Fr.app N55 Nc67
          show Ends _ _ _ _ T67 (mkF m 213 #[.val (.int pm), .val (.int ps), .val (.int pa), .val (.int pb), .val (.ref b1), .val (.int z3), .val (.int (0 : Int32)), .val (.int z6), .val (.ref b55a), .val (.int (1 : Int32)), .val (.int z6), .unset, .unset, .unset, .unset, .unset] [])
          refine ow_iload X67 hx (hb hby at_213) rfl (pc' := 215) rfl ?_
          refine ow_ifY X67 hx (hb hby at_215) (by decide) (by decide) (pc' := 223) (by decide) ?_
          refine ow_aload X67 hx (hb hby at_223) rfl rfl (pc' := 225) rfl ?_
          refine ow_callV X67 hx hZ rfl hown (hw _ (List.mem_of_getElem? (i := 13) rfl)) (hw _ (List.mem_of_getElem? (i := 14) rfl)) (hw _ (List.mem_of_getElem? (i := 16) rfl)) (hw _ (List.mem_of_getElem? (i := 15) rfl)) (hw _ (List.mem_of_getElem? (i := 2) rfl)) (hw _ (List.mem_of_getElem? (i := 17) rfl)) (by decide) (rm_lbBytes l Z a0 hw [] b1 b67 T67.heap P67_2) rfl 0 (by decide) (by decide) (by decide) (by decide) [] (by rw [hml]; rfl) pd_16 rfl P67_0 rfl rfl (Nat.le_of_eq rfl) (hb hby at_225) (pc' := 228) rfl (fun v68 T68 L68 hQ68 X68 => ?_)
          obtain ⟨rfl, rfl, e68⟩ := hQ68
          rw [List.append_nil] at X68
          show Ends _ _ _ _ T68 (mkF m 228 #[.val (.int pm), .val (.int ps), .val (.int pa), .val (.int pb), .val (.ref b1), .val (.int z3), .val (.int (0 : Int32)), .val (.int z6), .val (.ref b55a), .val (.int (1 : Int32)), .val (.int z6), .unset, .unset, .unset, .unset, .unset] [(.ref b67)])
          refine ow_astore X68 hx (Ls' := #[.val (.int pm), .val (.int ps), .val (.int pa), .val (.int pb), .val (.ref b1), .val (.int z3), .val (.int (0 : Int32)), .val (.int z6), .val (.ref b55a), .val (.int (1 : Int32)), .val (.int z6), .val (.ref b67), .unset, .unset, .unset, .unset]) (hb hby at_228) rfl rfl (pc' := 230) rfl ?_
          refine ow_iload X68 hx (hb hby at_230) rfl (pc' := 232) rfl ?_
          refine ow_ifN X68 hx (hb hby at_232) (by decide) (pc' := 235) rfl ?_
          refine ow_iload X68 hx (hb hby at_235) rfl (pc' := 237) rfl ?_
          refine ow_ldcInt X68 hx hZ hown (hw _ (List.mem_of_getElem? (i := 129) rfl)) (hb hby at_237) (pc' := 239) rfl ?_
          refine ow_icmp_le X68 hx (z6.toInt) ((65536 : Int)) (hb hby at_239) rfl rfl (by decide) (pt := 246) (by decide) (pf := 242) rfl (fun c239 => absurd c239 (by omega)) (fun c239 => ?_)
          refine ow_iconst X68 hx (z := (1 : Int32)) (hb hby at_242) rfl (pc' := 243) rfl ?_
          refine ow_goto X68 hx (hb hby at_243) (by decide) (pc' := 247) (by decide) ?_
          refine ow_istore X68 hx (Ls' := #[.val (.int pm), .val (.int ps), .val (.int pa), .val (.int pb), .val (.ref b1), .val (.int z3), .val (.int (0 : Int32)), .val (.int z6), .val (.ref b55a), .val (.int (1 : Int32)), .val (.int z6), .val (.ref b67), .val (.int (1 : Int32)), .unset, .unset, .unset]) (hb hby at_247) rfl (pc' := 249) rfl ?_
          refine ow_iload X68 hx (hb hby at_249) rfl (pc' := 251) rfl ?_
          refine ow_ifN X68 hx (hb hby at_251) (by decide) (pc' := 254) rfl ?_
          refine ow_aload X68 hx (hb hby at_254) rfl rfl (pc' := 256) rfl ?_
          refine ow_aload X68 hx (hb hby at_256) rfl rfl (pc' := 258) rfl ?_
          refine ow_acmp X68 hx rfl rfl (same := false) (hb hby at_258) (decide_eq_false fun q => (Ne.symm ne_b55a_b67) (Value.ref.inj q)) (by decide) (pc' := 261) rfl ?_
          refine ow_aload X68 hx (hb hby at_261) rfl rfl (pc' := 263) rfl ?_
          refine ow_len X68 hx hZ e68 P67_3 (hb hby at_263) (pc' := 264) rfl ?_
          refine ow_sipush X68 hx (z := (512 : Int32)) (hb hby at_264) rfl (pc' := 267) rfl ?_
          refine ow_icmpN X68 hx (hb hby at_267) (by decide) (pc' := 270) rfl ?_
          refine ow_iconst X68 hx (z := (1 : Int32)) (hb hby at_270) rfl (pc' := 271) rfl ?_
          refine ow_goto X68 hx (hb hby at_271) (by decide) (pc' := 290) (by decide) ?_
          refine ow_istore X68 hx (Ls' := #[.val (.int pm), .val (.int ps), .val (.int pa), .val (.int pb), .val (.ref b1), .val (.int z3), .val (.int (0 : Int32)), .val (.int z6), .val (.ref b55a), .val (.int (1 : Int32)), .val (.int z6), .val (.ref b67), .val (.int (1 : Int32)), .val (.int (1 : Int32)), .unset, .unset]) (hb hby at_290) rfl (pc' := 292) rfl ?_
          refine ow_aload X68 hx (hb hby at_292) rfl rfl (pc' := 294) rfl ?_
          refine ow_callVPI X68 hx hZ rfl hown (hw _ (List.mem_of_getElem? (i := 26) rfl)) (hw _ (List.mem_of_getElem? (i := 27) rfl)) (hw _ (List.mem_of_getElem? (i := 29) rfl)) (hw _ (List.mem_of_getElem? (i := 28) rfl)) (hw _ (List.mem_of_getElem? (i := 2) rfl)) (hw _ (List.mem_of_getElem? (i := 30) rfl)) (by decide) (rm_lbLen l Z a0 hw [] b1 (0 : Int32) T67.heap P67_1) e68 0 (by decide) (by decide) (by decide) (by decide) [] (by rw [hml]; rfl) pd_13 rfl P67_0 rfl rfl (Nat.le_of_eq rfl) (hb hby at_294) (pc' := 297) rfl (fun z69 T69 hz69 X69 e69 => ?_)
          have az69 : z69.toInt = (0 : Int) := hz69
          have rz69 := rng32 z69
          refine ow_if_ne X69 hx (z69.toInt) (hb hby at_297) rfl (by decide) (pt := 313) (by decide) (pf := 300) rfl (fun c297 => absurd c297 (by omega)) (fun c297 => ?_)
          refine ow_aload X69 hx (hb hby at_300) rfl rfl (pc' := 302) rfl ?_
          refine ow_callV X69 hx hZ rfl hown (hw _ (List.mem_of_getElem? (i := 31) rfl)) (hw _ (List.mem_of_getElem? (i := 32) rfl)) (hw _ (List.mem_of_getElem? (i := 34) rfl)) (hw _ (List.mem_of_getElem? (i := 33) rfl)) (hw _ (List.mem_of_getElem? (i := 2) rfl)) (hw _ (List.mem_of_getElem? (i := 35) rfl)) (by decide) (rm_toBA l Z a0 hw [] b1 b67 kt_67 (512 : Int32) fr_67 T67.heap n0 Zs67 P67_2 P67_1 P67_3 (by first | assumption | decide | omega | (have q0_ : (512 : Int32).toInt = 512 := (by decide); omega)) (by first | assumption | decide | omega | (have q0_ : (512 : Int32).toInt = 512 := (by decide); omega))) e69 0 (by decide) (by decide) (by decide) (by decide) [] (by rw [hml]; rfl) pd_16 rfl P67_0 rfl rfl (Nat.le_of_eq rfl) (hb hby at_302) (pc' := 305) rfl (fun v70 T70 L70 hQ70 X70 => ?_)
          obtain ⟨b70, kt_70, fr_70, rfl, Nc70, Kc70, P70_0, P70_1, P70_2⟩ := hQ70
          have E_b1_70 := P67_0.keep Kc70
          have F_b1_bytes_70 := P67_2.keep Kc70 nin0
          have F_b1_length_70 := P67_1.keep Kc70 nin0
          have V_b2_70 := V_b2_67.keep Kc70 nin0
          have V_b44_70 := V_b44_67.keep Kc70 nin0
          have E_b52_70 := E_b52_67.keep Kc70
          have F_b52_coder_70 := F_b52_coder_67.keep Kc70 nin0
          have F_b52_value_70 := F_b52_value_67.keep Kc70 nin0
          have V_b54_70 := V_b54_67.keep Kc70 nin0
          have V_b55a_70 := V_b55a_67.keep Kc70 nin0
          have V_b67_70 := P67_3.keep Kc70 nin0
          have ne_b1_b70 : b1 ≠ b70 := Nat.ne_of_lt (Nat.lt_of_lt_of_le P67_0.lt P70_2)
          have ne_b2_b70 : b2 ≠ b70 := Nat.ne_of_lt (Nat.lt_of_lt_of_le V_b2_67.lt P70_2)
          have ne_b44_b70 : b44 ≠ b70 := Nat.ne_of_lt (Nat.lt_of_lt_of_le V_b44_67.lt P70_2)
          have ne_b52_b70 : b52 ≠ b70 := Nat.ne_of_lt (Nat.lt_of_lt_of_le E_b52_67.lt P70_2)
          have ne_b54_b70 : b54 ≠ b70 := Nat.ne_of_lt (Nat.lt_of_lt_of_le V_b54_67.lt P70_2)
          have ne_b55a_b70 : b55a ≠ b70 := Nat.ne_of_lt (Nat.lt_of_lt_of_le V_b55a_67.lt P70_2)
          have ne_b67_b70 : b67 ≠ b70 := Nat.ne_of_lt (Nat.lt_of_lt_of_le P67_3.lt P70_2)
          have sz_b70 : h0.size ≤ b70 := Nat.le_trans K67.1 P70_2
          have Zs70 : n0 ≤ T70.heap.size := Nat.le_trans Zs67 Kc70.1
          have K70 := K67.trans Kc70 all0
          have N70 := Fr.app N67 Nc70
          show Ends _ _ _ _ T70 (mkF m 305 #[.val (.int pm), .val (.int ps), .val (.int pa), .val (.int pb), .val (.ref b1), .val (.int z3), .val (.int (0 : Int32)), .val (.int z6), .val (.ref b55a), .val (.int (1 : Int32)), .val (.int z6), .val (.ref b67), .val (.int (1 : Int32)), .val (.int (1 : Int32)), .unset, .unset] [(.ref b70)])
          refine ow_len X70 hx hZ rfl P70_0 (hb hby at_305) (pc' := 306) rfl ?_
          refine ow_ifN X70 hx (hb hby at_306) (by decide) (pc' := 309) rfl ?_
          refine ow_iconst X70 hx (z := (1 : Int32)) (hb hby at_309) rfl (pc' := 310) rfl ?_
          refine ow_goto X70 hx (hb hby at_310) (by decide) (pc' := 314) (by decide) ?_
          refine ow_istore X70 hx (Ls' := #[.val (.int pm), .val (.int ps), .val (.int pa), .val (.int pb), .val (.ref b1), .val (.int z3), .val (.int (0 : Int32)), .val (.int z6), .val (.ref b55a), .val (.int (1 : Int32)), .val (.int z6), .val (.ref b67), .val (.int (1 : Int32)), .val (.int (1 : Int32)), .val (.int (1 : Int32)), .unset]) (hb hby at_314) rfl (pc' := 316) rfl ?_
          refine ow_aload X70 hx (hb hby at_316) rfl rfl (pc' := 318) rfl ?_
          refine ow_iloadN X70 hx (hb hby at_318) rfl (pc' := 319) rfl ?_
          refine ow_i2b X70 hx (hb hby at_319) (pc' := 320) rfl (fun z71 hz71 => ?_)
          have az71 : (z71.toInt - pb.toInt) % 256 = 0 ∧ -128 ≤ z71.toInt ∧ z71.toInt < 128 := by rw [hz71]; exact c_i2b pb
          have rz71 := rng32 z71
          refine ow_callV X70 hx hZ rfl hown (hw _ (List.mem_of_getElem? (i := 48) rfl)) (hw _ (List.mem_of_getElem? (i := 49) rfl)) (hw _ (List.mem_of_getElem? (i := 51) rfl)) (hw _ (List.mem_of_getElem? (i := 50) rfl)) (hw _ (List.mem_of_getElem? (i := 2) rfl)) (hw _ (List.mem_of_getElem? (i := 52) rfl)) (by decide) (rm_lbApp l Z a0 hw [] b1 z71 b67 kt_67 (512 : Int32) fr_67 (0 : Int32) T70.heap n0 Zs70 E_b1_70 F_b1_bytes_70 F_b1_length_70 V_b67_70 g_b1 P67_6 P67_4 (by first | assumption | decide | omega | (have q0_ : (0 : Int32).toInt = 0 := (by decide); have q1_ : (512 : Int32).toInt = 512 := (by decide); omega)) (by first | assumption | decide | omega | (have q0_ : (0 : Int32).toInt = 0 := (by decide); have q1_ : (512 : Int32).toInt = 512 := (by decide); omega)) (by first | assumption | decide | omega | (have q0_ : (0 : Int32).toInt = 0 := (by decide); have q1_ : (512 : Int32).toInt = 512 := (by decide); omega))) rfl 0 (by decide) (by decide) (by decide) (by decide) [(.int z71)] (by rw [hml]; rfl) pd_17 rfl E_b1_70 rfl rfl (Nat.le_of_eq rfl) (hb hby at_320) (pc' := 323) rfl (fun v72 T72 L72 hQ72 X72 => ?_)
          obtain ⟨pz_72, rfl, Nc72, Kc72, P72_0, P72_1, P72_2, P72_3, P72_4⟩ := hQ72
          have P72_4 : pz_72.toInt = (0 : Int) + 1 := P72_4
          have V_b2_72 := V_b2_70.keep Kc72 (ninS (Ne.symm P2_6) (ninS ne_b2_b67 nin0))
          have V_b44_72 := V_b44_70.keep Kc72 (ninS (Ne.symm ne_b1_b44) (ninS ne_b44_b67 nin0))
          have E_b52_72 := E_b52_70.keep Kc72
          have F_b52_coder_72 := F_b52_coder_70.keep Kc72 (ninS (Ne.symm ne_b1_b52) (ninS ne_b52_b67 nin0))
          have F_b52_value_72 := F_b52_value_70.keep Kc72 (ninS (Ne.symm ne_b1_b52) (ninS ne_b52_b67 nin0))
          have V_b54_72 := V_b54_70.keep Kc72 (ninS (Ne.symm ne_b1_b54) (ninS ne_b54_b67 nin0))
          have V_b55a_72 := V_b55a_70.keep Kc72 (ninS (Ne.symm P55_6) (ninS ne_b55a_b67 nin0))
          have V_b70_72 := P70_0.keep Kc72 (ninS (Ne.symm ne_b1_b70) (ninS (Ne.symm ne_b67_b70) nin0))
          have Zs72 : n0 ≤ T72.heap.size := Nat.le_trans Zs70 Kc72.1
          have K72 := K70.trans Kc72 (allS (Or.inr sz_b1) (allS (Or.inr sz_b67) all0))
          have N72 := Fr.app N70 Nc72
          show Ends _ _ _ _ T72 (mkF m 323 #[.val (.int pm), .val (.int ps), .val (.int pa), .val (.int pb), .val (.ref b1), .val (.int z3), .val (.int (0 : Int32)), .val (.int z6), .val (.ref b55a), .val (.int (1 : Int32)), .val (.int z6), .val (.ref b67), .val (.int (1 : Int32)), .val (.int (1 : Int32)), .val (.int (1 : Int32)), .unset] [])
          refine ow_aload X72 hx (hb hby at_323) rfl rfl (pc' := 325) rfl ?_
          refine ow_callVPI X72 hx hZ rfl hown (hw _ (List.mem_of_getElem? (i := 26) rfl)) (hw _ (List.mem_of_getElem? (i := 27) rfl)) (hw _ (List.mem_of_getElem? (i := 29) rfl)) (hw _ (List.mem_of_getElem? (i := 28) rfl)) (hw _ (List.mem_of_getElem? (i := 2) rfl)) (hw _ (List.mem_of_getElem? (i := 30) rfl)) (by decide) (rm_lbLen l Z a0 hw [] b1 pz_72 T72.heap P72_2) rfl 0 (by decide) (by decide) (by decide) (by decide) [] (by rw [hml]; rfl) pd_13 rfl P72_0 rfl rfl (Nat.le_of_eq rfl) (hb hby at_325) (pc' := 328) rfl (fun z73 T73 hz73 X73 e73 => ?_)
          have az73 : z73.toInt = pz_72.toInt := hz73
          have rz73 := rng32 z73
          refine ow_iconst X73 hx (z := (1 : Int32)) (hb hby at_328) rfl (pc' := 329) rfl ?_
          refine ow_icmp_ne X73 hx (z73.toInt) ((1 : Int)) (hb hby at_329) rfl rfl (by decide) (pt := 348) (by decide) (pf := 332) rfl (fun c329 => absurd c329 (by omega)) (fun c329 => ?_)
          refine ow_aload X73 hx (hb hby at_332) rfl rfl (pc' := 334) rfl ?_
          refine ow_callV X73 hx hZ rfl hown (hw _ (List.mem_of_getElem? (i := 13) rfl)) (hw _ (List.mem_of_getElem? (i := 14) rfl)) (hw _ (List.mem_of_getElem? (i := 16) rfl)) (hw _ (List.mem_of_getElem? (i := 15) rfl)) (hw _ (List.mem_of_getElem? (i := 2) rfl)) (hw _ (List.mem_of_getElem? (i := 17) rfl)) (by decide) (rm_lbBytes l Z a0 hw [] b1 b67 T72.heap P72_1) e73 0 (by decide) (by decide) (by decide) (by decide) [] (by rw [hml]; rfl) pd_16 rfl P72_0 rfl rfl (Nat.le_of_eq rfl) (hb hby at_334) (pc' := 337) rfl (fun v74 T74 L74 hQ74 X74 => ?_)
          obtain ⟨rfl, rfl, e74⟩ := hQ74
          rw [List.append_nil] at X74
          show Ends _ _ _ _ T74 (mkF m 337 #[.val (.int pm), .val (.int ps), .val (.int pa), .val (.int pb), .val (.ref b1), .val (.int z3), .val (.int (0 : Int32)), .val (.int z6), .val (.ref b55a), .val (.int (1 : Int32)), .val (.int z6), .val (.ref b67), .val (.int (1 : Int32)), .val (.int (1 : Int32)), .val (.int (1 : Int32)), .unset] [(.ref b67)])
          refine ow_iconst X74 hx (z := (0 : Int32)) (hb hby at_337) rfl (pc' := 338) rfl ?_
          obtain ⟨x75, hx75⟩ : ∃ x : Int32, x = z71.toInt8.toInt32 := ⟨_, rfl⟩
          have ax75 := c_i2b z71
          rw [← hx75] at ax75
          refine ow_ldB X74 hx hZ e74 P72_3 (by decide) (ow_lt (show (0 : Int) < (512 : Int) from by omega)) (show (BL (upd fr_67 (0 : Int32).toInt.toNat (z71.toInt8.toInt32))).getD ((0 : Int32).toNatClampNeg) (.int (0 : Int32)) = .int x75 from by rw [hx75]; exact (BL_get _ _ (show (0 : Int32).toNatClampNeg < 65537 from by decide) _).trans (congrArg Value.int (upd_same _ _ _))) (hb hby at_338) (pc' := 339) rfl ?_
          refine ow_iloadN X74 hx (hb hby at_339) rfl (pc' := 340) rfl ?_
          refine ow_i2b X74 hx (hb hby at_340) (pc' := 341) rfl (fun z76 hz76 => ?_)
          have az76 : (z76.toInt - pb.toInt) % 256 = 0 ∧ -128 ≤ z76.toInt ∧ z76.toInt < 128 := by rw [hz76]; exact c_i2b pb
          have rz76 := rng32 z76
          refine ow_icmp_ne X74 hx (x75.toInt) (z76.toInt) (hb hby at_341) rfl rfl (by decide) (pt := 348) (by decide) (pf := 344) rfl (fun c341 => absurd c341 (by omega)) (fun c341 => ?_)
          refine ow_iconst X74 hx (z := (1 : Int32)) (hb hby at_344) rfl (pc' := 345) rfl ?_
          refine ow_goto X74 hx (hb hby at_345) (by decide) (pc' := 349) (by decide) ?_
          refine ow_istore X74 hx (Ls' := #[.val (.int pm), .val (.int ps), .val (.int pa), .val (.int pb), .val (.ref b1), .val (.int z3), .val (.int (0 : Int32)), .val (.int z6), .val (.ref b55a), .val (.int (1 : Int32)), .val (.int z6), .val (.ref b67), .val (.int (1 : Int32)), .val (.int (1 : Int32)), .val (.int (1 : Int32)), .val (.int (1 : Int32))]) (hb hby at_349) rfl (pc' := 351) rfl ?_
          refine ow_iload X74 hx (hb hby at_351) rfl (pc' := 353) rfl ?_
          refine ow_ifN X74 hx (hb hby at_353) (by decide) (pc' := 356) rfl ?_
          refine ow_iload X74 hx (hb hby at_356) rfl (pc' := 358) rfl ?_
          refine ow_ifN X74 hx (hb hby at_358) (by decide) (pc' := 361) rfl ?_
          refine ow_iload X74 hx (hb hby at_361) rfl (pc' := 363) rfl ?_
          refine ow_ifN X74 hx (hb hby at_363) (by decide) (pc' := 366) rfl ?_
          refine ow_iconst X74 hx (z := (1 : Int32)) (hb hby at_366) rfl (pc' := 367) rfl ?_
          refine ow_goto X74 hx (hb hby at_367) (by decide) (pc' := 371) (by decide) ?_
          exact ow_retB X74 hx hret hlk (hb hby at_371) (by decide) (by decide) (z' := (1 : Int32)) rfl ⟨rfl, N72⟩
    · refine ow_aload X2 hx (hb hby at_41) rfl rfl (pc' := 43) rfl ?_
      refine ow_iloadN X2 hx (hb hby at_43) rfl (pc' := 44) rfl ?_
      refine ow_i2b X2 hx (hb hby at_44) (pc' := 45) rfl (fun z77 hz77 => ?_)
      have az77 : (z77.toInt - pa.toInt) % 256 = 0 ∧ -128 ≤ z77.toInt ∧ z77.toInt < 128 := by rw [hz77]; exact c_i2b pa
      have rz77 := rng32 z77
      refine ow_callV X2 hx hZ rfl hown (hw _ (List.mem_of_getElem? (i := 48) rfl)) (hw _ (List.mem_of_getElem? (i := 49) rfl)) (hw _ (List.mem_of_getElem? (i := 51) rfl)) (hw _ (List.mem_of_getElem? (i := 50) rfl)) (hw _ (List.mem_of_getElem? (i := 2) rfl)) (hw _ (List.mem_of_getElem? (i := 52) rfl)) (by decide) (rm_lbApp l Z a0 hw [] b1 z77 b2 kt_2 (512 : Int32) fr_2 (0 : Int32) T2.heap n0 Zs2 P2_0 P2_2 P2_1 P2_3 g_b1 P2_6 P2_4 (by first | assumption | decide | omega | (have q0_ : (0 : Int32).toInt = 0 := (by decide); have q1_ : (512 : Int32).toInt = 512 := (by decide); omega)) (by first | assumption | decide | omega | (have q0_ : (0 : Int32).toInt = 0 := (by decide); have q1_ : (512 : Int32).toInt = 512 := (by decide); omega)) (by first | assumption | decide | omega | (have q0_ : (0 : Int32).toInt = 0 := (by decide); have q1_ : (512 : Int32).toInt = 512 := (by decide); omega))) rfl 0 (by decide) (by decide) (by decide) (by decide) [(.int z77)] (by rw [hml]; rfl) pd_17 rfl P2_0 rfl rfl (Nat.le_of_eq rfl) (hb hby at_45) (pc' := 48) rfl (fun v78 T78 L78 hQ78 X78 => ?_)
      obtain ⟨pz_78, rfl, Nc78, Kc78, P78_0, P78_1, P78_2, P78_3, P78_4⟩ := hQ78
      have P78_4 : pz_78.toInt = (0 : Int) + 1 := P78_4
      have Zs78 : n0 ≤ T78.heap.size := Nat.le_trans Zs2 Kc78.1
      have K78 := K2.trans Kc78 (allS (Or.inr sz_b1) (allS (Or.inr sz_b2) all0))
      have N78 := Fr.app N2 Nc78
      show Ends _ _ _ _ T78 (mkF m 48 #[.val (.int pm), .val (.int ps), .val (.int pa), .val (.int pb), .val (.ref b1), .val (.int z3), .val (.int (0 : Int32)), .val (.int z6), .unset, .unset, .unset, .unset, .unset, .unset, .unset, .unset] [])
      refine ow_aload X78 hx (hb hby at_48) rfl rfl (pc' := 50) rfl ?_
      refine ow_iloadN X78 hx (hb hby at_50) rfl (pc' := 51) rfl ?_
      refine ow_i2b X78 hx (hb hby at_51) (pc' := 52) rfl (fun z79 hz79 => ?_)
      have az79 : (z79.toInt - pb.toInt) % 256 = 0 ∧ -128 ≤ z79.toInt ∧ z79.toInt < 128 := by rw [hz79]; exact c_i2b pb
      have rz79 := rng32 z79
      refine ow_callV X78 hx hZ rfl hown (hw _ (List.mem_of_getElem? (i := 48) rfl)) (hw _ (List.mem_of_getElem? (i := 49) rfl)) (hw _ (List.mem_of_getElem? (i := 51) rfl)) (hw _ (List.mem_of_getElem? (i := 50) rfl)) (hw _ (List.mem_of_getElem? (i := 2) rfl)) (hw _ (List.mem_of_getElem? (i := 52) rfl)) (by decide) (rm_lbApp l Z a0 hw [] b1 z79 b2 kt_2 (512 : Int32) (upd fr_2 (0 : Int32).toInt.toNat (z77.toInt8.toInt32)) pz_78 T78.heap n0 Zs78 P78_0 P78_1 P78_2 P78_3 g_b1 P2_6 P2_4 (by first | assumption | decide | omega | (have q0_ : (512 : Int32).toInt = 512 := (by decide); omega)) (by first | assumption | decide | omega | (have q0_ : (512 : Int32).toInt = 512 := (by decide); omega)) (by first | assumption | decide | omega | (have q0_ : (512 : Int32).toInt = 512 := (by decide); omega))) rfl 0 (by decide) (by decide) (by decide) (by decide) [(.int z79)] (by rw [hml]; rfl) pd_17 rfl P78_0 rfl rfl (Nat.le_of_eq rfl) (hb hby at_52) (pc' := 55) rfl (fun v80 T80 L80 hQ80 X80 => ?_)
      obtain ⟨pz_80, rfl, Nc80, Kc80, P80_0, P80_1, P80_2, P80_3, P80_4⟩ := hQ80
      have P80_4 : pz_80.toInt = pz_78.toInt + 1 := P80_4
      have Zs80 : n0 ≤ T80.heap.size := Nat.le_trans Zs78 Kc80.1
      have K80 := K78.trans Kc80 (allS (Or.inr sz_b1) (allS (Or.inr sz_b2) all0))
      have N80 := Fr.app N78 Nc80
      show Ends _ _ _ _ T80 (mkF m 55 #[.val (.int pm), .val (.int ps), .val (.int pa), .val (.int pb), .val (.ref b1), .val (.int z3), .val (.int (0 : Int32)), .val (.int z6), .unset, .unset, .unset, .unset, .unset, .unset, .unset, .unset] [])
      refine ow_goto X80 hx (hb hby at_55) (by decide) (pc' := 163) (by decide) ?_
      refine ow_aload X80 hx (hb hby at_163) rfl rfl (pc' := 165) rfl ?_
      refine ow_callV X80 hx hZ rfl hown (hw _ (List.mem_of_getElem? (i := 13) rfl)) (hw _ (List.mem_of_getElem? (i := 14) rfl)) (hw _ (List.mem_of_getElem? (i := 16) rfl)) (hw _ (List.mem_of_getElem? (i := 15) rfl)) (hw _ (List.mem_of_getElem? (i := 2) rfl)) (hw _ (List.mem_of_getElem? (i := 17) rfl)) (by decide) (rm_lbBytes l Z a0 hw [] b1 b2 T80.heap P80_1) rfl 0 (by decide) (by decide) (by decide) (by decide) [] (by rw [hml]; rfl) pd_16 rfl P80_0 rfl rfl (Nat.le_of_eq rfl) (hb hby at_165) (pc' := 168) rfl (fun v81 T81 L81 hQ81 X81 => ?_)
      obtain ⟨rfl, rfl, e81⟩ := hQ81
      rw [List.append_nil] at X81
      show Ends _ _ _ _ T81 (mkF m 168 #[.val (.int pm), .val (.int ps), .val (.int pa), .val (.int pb), .val (.ref b1), .val (.int z3), .val (.int (0 : Int32)), .val (.int z6), .unset, .unset, .unset, .unset, .unset, .unset, .unset, .unset] [(.ref b2)])
      refine ow_astore X81 hx (Ls' := #[.val (.int pm), .val (.int ps), .val (.int pa), .val (.int pb), .val (.ref b1), .val (.int z3), .val (.int (0 : Int32)), .val (.int z6), .val (.ref b2), .unset, .unset, .unset, .unset, .unset, .unset, .unset]) (hb hby at_168) rfl rfl (pc' := 170) rfl ?_
      refine ow_iload X81 hx (hb hby at_170) rfl (pc' := 172) rfl ?_
      refine ow_iconst X81 hx (z := (2 : Int32)) (hb hby at_172) rfl (pc' := 173) rfl ?_
      refine ow_icmp_ne X81 hx (z3.toInt) ((2 : Int)) (hb hby at_173) rfl rfl (by decide) (pt := 180) (by decide) (pf := 176) rfl (fun c173 => ?_) (fun c173 => absurd c173 (by omega))
      refine ow_iconst X81 hx (z := (0 : Int32)) (hb hby at_180) rfl (pc' := 181) rfl ?_
      refine ow_istore X81 hx (Ls' := #[.val (.int pm), .val (.int ps), .val (.int pa), .val (.int pb), .val (.ref b1), .val (.int z3), .val (.int (0 : Int32)), .val (.int z6), .val (.ref b2), .val (.int (0 : Int32)), .unset, .unset, .unset, .unset, .unset, .unset]) (hb hby at_181) rfl (pc' := 183) rfl ?_
      refine ow_iload X81 hx (hb hby at_183) rfl (pc' := 185) rfl ?_
      refine ow_ifY X81 hx (hb hby at_185) (by decide) (by decide) (pc' := 193) (by decide) ?_
      refine ow_sipush X81 hx (z := (512 : Int32)) (hb hby at_193) rfl (pc' := 196) rfl ?_
      refine ow_istore X81 hx (Ls' := #[.val (.int pm), .val (.int ps), .val (.int pa), .val (.int pb), .val (.ref b1), .val (.int z3), .val (.int (0 : Int32)), .val (.int z6), .val (.ref b2), .val (.int (0 : Int32)), .val (.int (512 : Int32)), .unset, .unset, .unset, .unset, .unset]) (hb hby at_196) rfl (pc' := 198) rfl ?_
      refine ow_aload X81 hx (hb hby at_198) rfl rfl (pc' := 200) rfl ?_
      refine ow_len X81 hx hZ e81 P80_3 (hb hby at_200) (pc' := 201) rfl ?_
      refine ow_iload X81 hx (hb hby at_201) rfl (pc' := 203) rfl ?_
      refine ow_icmpY X81 hx (hb hby at_203) (by decide) (by decide) (pc' := 208) (by decide) ?_
      refine ow_aload X81 hx (hb hby at_208) rfl rfl (pc' := 210) rfl ?_
      refine ow_callV X81 hx hZ rfl hown (hw _ (List.mem_of_getElem? (i := 18) rfl)) (hw _ (List.mem_of_getElem? (i := 19) rfl)) (hw _ (List.mem_of_getElem? (i := 21) rfl)) (hw _ (List.mem_of_getElem? (i := 20) rfl)) (hw _ (List.mem_of_getElem? (i := 2) rfl)) (hw _ (List.mem_of_getElem? (i := 22) rfl)) (by decide) (rm_clrA l Z a0 hw [] b1 b2 kt_2 (512 : Int32) (upd (upd fr_2 (0 : Int32).toInt.toNat (z77.toInt8.toInt32)) pz_78.toInt.toNat (z79.toInt8.toInt32)) pz_80 T80.heap n0 Zs80 P80_0 P80_1 P80_2 P80_3 g_b1 P2_6 (by first | assumption | decide | omega | (have q0_ : (512 : Int32).toInt = 512 := (by decide); omega))) e81 0 (by decide) (by decide) (by decide) (by decide) [] (by rw [hml]; rfl) pd_15 rfl P80_0 rfl rfl (Nat.le_of_eq rfl) (hb hby at_210) (pc' := 213) rfl (fun v82 T82 L82 hQ82 X82 => ?_)
      obtain ⟨rfl, Nc82, Kc82, P82_0, P82_1, P82_2⟩ := hQ82
      have V_b2_82 := P80_3.keep Kc82 (ninS (Ne.symm P2_6) nin0)
      have Zs82 : n0 ≤ T82.heap.size := Nat.le_trans Zs80 Kc82.1
      have K82 := K80.trans Kc82 (allS (Or.inr sz_b1) all0)
      have N82 := Fr.app N80 Nc82
      show Ends _ _ _ _ T82 (mkF m 213 #[.val (.int pm), .val (.int ps), .val (.int pa), .val (.int pb), .val (.ref b1), .val (.int z3), .val (.int (0 : Int32)), .val (.int z6), .val (.ref b2), .val (.int (0 : Int32)), .val (.int (512 : Int32)), .unset, .unset, .unset, .unset, .unset] [])
      refine ow_iload X82 hx (hb hby at_213) rfl (pc' := 215) rfl ?_
      refine ow_ifY X82 hx (hb hby at_215) (by decide) (by decide) (pc' := 223) (by decide) ?_
      refine ow_aload X82 hx (hb hby at_223) rfl rfl (pc' := 225) rfl ?_
      refine ow_callV X82 hx hZ rfl hown (hw _ (List.mem_of_getElem? (i := 13) rfl)) (hw _ (List.mem_of_getElem? (i := 14) rfl)) (hw _ (List.mem_of_getElem? (i := 16) rfl)) (hw _ (List.mem_of_getElem? (i := 15) rfl)) (hw _ (List.mem_of_getElem? (i := 2) rfl)) (hw _ (List.mem_of_getElem? (i := 17) rfl)) (by decide) (rm_lbBytes l Z a0 hw [] b1 b2 T82.heap P82_2) rfl 0 (by decide) (by decide) (by decide) (by decide) [] (by rw [hml]; rfl) pd_16 rfl P82_0 rfl rfl (Nat.le_of_eq rfl) (hb hby at_225) (pc' := 228) rfl (fun v83 T83 L83 hQ83 X83 => ?_)
      obtain ⟨rfl, rfl, e83⟩ := hQ83
      rw [List.append_nil] at X83
      show Ends _ _ _ _ T83 (mkF m 228 #[.val (.int pm), .val (.int ps), .val (.int pa), .val (.int pb), .val (.ref b1), .val (.int z3), .val (.int (0 : Int32)), .val (.int z6), .val (.ref b2), .val (.int (0 : Int32)), .val (.int (512 : Int32)), .unset, .unset, .unset, .unset, .unset] [(.ref b2)])
      refine ow_astore X83 hx (Ls' := #[.val (.int pm), .val (.int ps), .val (.int pa), .val (.int pb), .val (.ref b1), .val (.int z3), .val (.int (0 : Int32)), .val (.int z6), .val (.ref b2), .val (.int (0 : Int32)), .val (.int (512 : Int32)), .val (.ref b2), .unset, .unset, .unset, .unset]) (hb hby at_228) rfl rfl (pc' := 230) rfl ?_
      refine ow_iload X83 hx (hb hby at_230) rfl (pc' := 232) rfl ?_
      refine ow_ifY X83 hx (hb hby at_232) (by decide) (by decide) (pc' := 246) (by decide) ?_
      refine ow_iconst X83 hx (z := (0 : Int32)) (hb hby at_246) rfl (pc' := 247) rfl ?_
      refine ow_istore X83 hx (Ls' := #[.val (.int pm), .val (.int ps), .val (.int pa), .val (.int pb), .val (.ref b1), .val (.int z3), .val (.int (0 : Int32)), .val (.int z6), .val (.ref b2), .val (.int (0 : Int32)), .val (.int (512 : Int32)), .val (.ref b2), .val (.int (0 : Int32)), .unset, .unset, .unset]) (hb hby at_247) rfl (pc' := 249) rfl ?_
      refine ow_iload X83 hx (hb hby at_249) rfl (pc' := 251) rfl ?_
      refine ow_ifY X83 hx (hb hby at_251) (by decide) (by decide) (pc' := 278) (by decide) ?_
      refine ow_aload X83 hx (hb hby at_278) rfl rfl (pc' := 280) rfl ?_
      refine ow_aload X83 hx (hb hby at_280) rfl rfl (pc' := 282) rfl ?_
      refine ow_acmp X83 hx rfl rfl (same := true) (hb hby at_282) (decide_eq_true rfl) (by decide) (pc' := 285) rfl ?_
      refine ow_iconst X83 hx (z := (1 : Int32)) (hb hby at_285) rfl (pc' := 286) rfl ?_
      refine ow_goto X83 hx (hb hby at_286) (by decide) (pc' := 290) (by decide) ?_
      refine ow_istore X83 hx (Ls' := #[.val (.int pm), .val (.int ps), .val (.int pa), .val (.int pb), .val (.ref b1), .val (.int z3), .val (.int (0 : Int32)), .val (.int z6), .val (.ref b2), .val (.int (0 : Int32)), .val (.int (512 : Int32)), .val (.ref b2), .val (.int (0 : Int32)), .val (.int (1 : Int32)), .unset, .unset]) (hb hby at_290) rfl (pc' := 292) rfl ?_
      refine ow_aload X83 hx (hb hby at_292) rfl rfl (pc' := 294) rfl ?_
      refine ow_callVPI X83 hx hZ rfl hown (hw _ (List.mem_of_getElem? (i := 26) rfl)) (hw _ (List.mem_of_getElem? (i := 27) rfl)) (hw _ (List.mem_of_getElem? (i := 29) rfl)) (hw _ (List.mem_of_getElem? (i := 28) rfl)) (hw _ (List.mem_of_getElem? (i := 2) rfl)) (hw _ (List.mem_of_getElem? (i := 30) rfl)) (by decide) (rm_lbLen l Z a0 hw [] b1 (0 : Int32) T82.heap P82_1) e83 0 (by decide) (by decide) (by decide) (by decide) [] (by rw [hml]; rfl) pd_13 rfl P82_0 rfl rfl (Nat.le_of_eq rfl) (hb hby at_294) (pc' := 297) rfl (fun z84 T84 hz84 X84 e84 => ?_)
      have az84 : z84.toInt = (0 : Int) := hz84
      have rz84 := rng32 z84
      refine ow_if_ne X84 hx (z84.toInt) (hb hby at_297) rfl (by decide) (pt := 313) (by decide) (pf := 300) rfl (fun c297 => absurd c297 (by omega)) (fun c297 => ?_)
      refine ow_aload X84 hx (hb hby at_300) rfl rfl (pc' := 302) rfl ?_
      refine ow_callV X84 hx hZ rfl hown (hw _ (List.mem_of_getElem? (i := 31) rfl)) (hw _ (List.mem_of_getElem? (i := 32) rfl)) (hw _ (List.mem_of_getElem? (i := 34) rfl)) (hw _ (List.mem_of_getElem? (i := 33) rfl)) (hw _ (List.mem_of_getElem? (i := 2) rfl)) (hw _ (List.mem_of_getElem? (i := 35) rfl)) (by decide) (rm_toBA l Z a0 hw [] b1 b2 kt_2 (512 : Int32) (upd (upd fr_2 (0 : Int32).toInt.toNat (z77.toInt8.toInt32)) pz_78.toInt.toNat (z79.toInt8.toInt32)) T82.heap n0 Zs82 P82_2 P82_1 V_b2_82 (by first | assumption | decide | omega | (have q0_ : (512 : Int32).toInt = 512 := (by decide); omega)) (by first | assumption | decide | omega | (have q0_ : (512 : Int32).toInt = 512 := (by decide); omega))) e84 0 (by decide) (by decide) (by decide) (by decide) [] (by rw [hml]; rfl) pd_16 rfl P82_0 rfl rfl (Nat.le_of_eq rfl) (hb hby at_302) (pc' := 305) rfl (fun v85 T85 L85 hQ85 X85 => ?_)
      obtain ⟨b85, kt_85, fr_85, rfl, Nc85, Kc85, P85_0, P85_1, P85_2⟩ := hQ85
      have E_b1_85 := P82_0.keep Kc85
      have F_b1_bytes_85 := P82_2.keep Kc85 nin0
      have F_b1_length_85 := P82_1.keep Kc85 nin0
      have V_b2_85 := V_b2_82.keep Kc85 nin0
      have ne_b1_b85 : b1 ≠ b85 := Nat.ne_of_lt (Nat.lt_of_lt_of_le P82_0.lt P85_2)
      have ne_b2_b85 : b2 ≠ b85 := Nat.ne_of_lt (Nat.lt_of_lt_of_le V_b2_82.lt P85_2)
      have sz_b85 : h0.size ≤ b85 := Nat.le_trans K82.1 P85_2
      have Zs85 : n0 ≤ T85.heap.size := Nat.le_trans Zs82 Kc85.1
      have K85 := K82.trans Kc85 all0
      have N85 := Fr.app N82 Nc85
      show Ends _ _ _ _ T85 (mkF m 305 #[.val (.int pm), .val (.int ps), .val (.int pa), .val (.int pb), .val (.ref b1), .val (.int z3), .val (.int (0 : Int32)), .val (.int z6), .val (.ref b2), .val (.int (0 : Int32)), .val (.int (512 : Int32)), .val (.ref b2), .val (.int (0 : Int32)), .val (.int (1 : Int32)), .unset, .unset] [(.ref b85)])
      refine ow_len X85 hx hZ rfl P85_0 (hb hby at_305) (pc' := 306) rfl ?_
      refine ow_ifN X85 hx (hb hby at_306) (by decide) (pc' := 309) rfl ?_
      refine ow_iconst X85 hx (z := (1 : Int32)) (hb hby at_309) rfl (pc' := 310) rfl ?_
      refine ow_goto X85 hx (hb hby at_310) (by decide) (pc' := 314) (by decide) ?_
      refine ow_istore X85 hx (Ls' := #[.val (.int pm), .val (.int ps), .val (.int pa), .val (.int pb), .val (.ref b1), .val (.int z3), .val (.int (0 : Int32)), .val (.int z6), .val (.ref b2), .val (.int (0 : Int32)), .val (.int (512 : Int32)), .val (.ref b2), .val (.int (0 : Int32)), .val (.int (1 : Int32)), .val (.int (1 : Int32)), .unset]) (hb hby at_314) rfl (pc' := 316) rfl ?_
      refine ow_aload X85 hx (hb hby at_316) rfl rfl (pc' := 318) rfl ?_
      refine ow_iloadN X85 hx (hb hby at_318) rfl (pc' := 319) rfl ?_
      refine ow_i2b X85 hx (hb hby at_319) (pc' := 320) rfl (fun z86 hz86 => ?_)
      have az86 : (z86.toInt - pb.toInt) % 256 = 0 ∧ -128 ≤ z86.toInt ∧ z86.toInt < 128 := by rw [hz86]; exact c_i2b pb
      have rz86 := rng32 z86
      refine ow_callV X85 hx hZ rfl hown (hw _ (List.mem_of_getElem? (i := 48) rfl)) (hw _ (List.mem_of_getElem? (i := 49) rfl)) (hw _ (List.mem_of_getElem? (i := 51) rfl)) (hw _ (List.mem_of_getElem? (i := 50) rfl)) (hw _ (List.mem_of_getElem? (i := 2) rfl)) (hw _ (List.mem_of_getElem? (i := 52) rfl)) (by decide) (rm_lbApp l Z a0 hw [] b1 z86 b2 kt_2 (512 : Int32) (upd (upd fr_2 (0 : Int32).toInt.toNat (z77.toInt8.toInt32)) pz_78.toInt.toNat (z79.toInt8.toInt32)) (0 : Int32) T85.heap n0 Zs85 E_b1_85 F_b1_bytes_85 F_b1_length_85 V_b2_85 g_b1 P2_6 P2_4 (by first | assumption | decide | omega | (have q0_ : (0 : Int32).toInt = 0 := (by decide); have q1_ : (512 : Int32).toInt = 512 := (by decide); omega)) (by first | assumption | decide | omega | (have q0_ : (0 : Int32).toInt = 0 := (by decide); have q1_ : (512 : Int32).toInt = 512 := (by decide); omega)) (by first | assumption | decide | omega | (have q0_ : (0 : Int32).toInt = 0 := (by decide); have q1_ : (512 : Int32).toInt = 512 := (by decide); omega))) rfl 0 (by decide) (by decide) (by decide) (by decide) [(.int z86)] (by rw [hml]; rfl) pd_17 rfl E_b1_85 rfl rfl (Nat.le_of_eq rfl) (hb hby at_320) (pc' := 323) rfl (fun v87 T87 L87 hQ87 X87 => ?_)
      obtain ⟨pz_87, rfl, Nc87, Kc87, P87_0, P87_1, P87_2, P87_3, P87_4⟩ := hQ87
      have P87_4 : pz_87.toInt = (0 : Int) + 1 := P87_4
      have V_b85_87 := P85_0.keep Kc87 (ninS (Ne.symm ne_b1_b85) (ninS (Ne.symm ne_b2_b85) nin0))
      have Zs87 : n0 ≤ T87.heap.size := Nat.le_trans Zs85 Kc87.1
      have K87 := K85.trans Kc87 (allS (Or.inr sz_b1) (allS (Or.inr sz_b2) all0))
      have N87 := Fr.app N85 Nc87
      show Ends _ _ _ _ T87 (mkF m 323 #[.val (.int pm), .val (.int ps), .val (.int pa), .val (.int pb), .val (.ref b1), .val (.int z3), .val (.int (0 : Int32)), .val (.int z6), .val (.ref b2), .val (.int (0 : Int32)), .val (.int (512 : Int32)), .val (.ref b2), .val (.int (0 : Int32)), .val (.int (1 : Int32)), .val (.int (1 : Int32)), .unset] [])
      refine ow_aload X87 hx (hb hby at_323) rfl rfl (pc' := 325) rfl ?_
      refine ow_callVPI X87 hx hZ rfl hown (hw _ (List.mem_of_getElem? (i := 26) rfl)) (hw _ (List.mem_of_getElem? (i := 27) rfl)) (hw _ (List.mem_of_getElem? (i := 29) rfl)) (hw _ (List.mem_of_getElem? (i := 28) rfl)) (hw _ (List.mem_of_getElem? (i := 2) rfl)) (hw _ (List.mem_of_getElem? (i := 30) rfl)) (by decide) (rm_lbLen l Z a0 hw [] b1 pz_87 T87.heap P87_2) rfl 0 (by decide) (by decide) (by decide) (by decide) [] (by rw [hml]; rfl) pd_13 rfl P87_0 rfl rfl (Nat.le_of_eq rfl) (hb hby at_325) (pc' := 328) rfl (fun z88 T88 hz88 X88 e88 => ?_)
      have az88 : z88.toInt = pz_87.toInt := hz88
      have rz88 := rng32 z88
      refine ow_iconst X88 hx (z := (1 : Int32)) (hb hby at_328) rfl (pc' := 329) rfl ?_
      refine ow_icmp_ne X88 hx (z88.toInt) ((1 : Int)) (hb hby at_329) rfl rfl (by decide) (pt := 348) (by decide) (pf := 332) rfl (fun c329 => absurd c329 (by omega)) (fun c329 => ?_)
      refine ow_aload X88 hx (hb hby at_332) rfl rfl (pc' := 334) rfl ?_
      refine ow_callV X88 hx hZ rfl hown (hw _ (List.mem_of_getElem? (i := 13) rfl)) (hw _ (List.mem_of_getElem? (i := 14) rfl)) (hw _ (List.mem_of_getElem? (i := 16) rfl)) (hw _ (List.mem_of_getElem? (i := 15) rfl)) (hw _ (List.mem_of_getElem? (i := 2) rfl)) (hw _ (List.mem_of_getElem? (i := 17) rfl)) (by decide) (rm_lbBytes l Z a0 hw [] b1 b2 T87.heap P87_1) e88 0 (by decide) (by decide) (by decide) (by decide) [] (by rw [hml]; rfl) pd_16 rfl P87_0 rfl rfl (Nat.le_of_eq rfl) (hb hby at_334) (pc' := 337) rfl (fun v89 T89 L89 hQ89 X89 => ?_)
      obtain ⟨rfl, rfl, e89⟩ := hQ89
      rw [List.append_nil] at X89
      show Ends _ _ _ _ T89 (mkF m 337 #[.val (.int pm), .val (.int ps), .val (.int pa), .val (.int pb), .val (.ref b1), .val (.int z3), .val (.int (0 : Int32)), .val (.int z6), .val (.ref b2), .val (.int (0 : Int32)), .val (.int (512 : Int32)), .val (.ref b2), .val (.int (0 : Int32)), .val (.int (1 : Int32)), .val (.int (1 : Int32)), .unset] [(.ref b2)])
      refine ow_iconst X89 hx (z := (0 : Int32)) (hb hby at_337) rfl (pc' := 338) rfl ?_
      obtain ⟨x90, hx90⟩ : ∃ x : Int32, x = z86.toInt8.toInt32 := ⟨_, rfl⟩
      have ax90 := c_i2b z86
      rw [← hx90] at ax90
      refine ow_ldB X89 hx hZ e89 P87_3 (by decide) (ow_lt (show (0 : Int) < (512 : Int) from by omega)) (show (BL (upd (upd (upd fr_2 (0 : Int32).toInt.toNat (z77.toInt8.toInt32)) pz_78.toInt.toNat (z79.toInt8.toInt32)) (0 : Int32).toInt.toNat (z86.toInt8.toInt32))).getD ((0 : Int32).toNatClampNeg) (.int (0 : Int32)) = .int x90 from by rw [hx90]; exact (BL_get _ _ (show (0 : Int32).toNatClampNeg < 65537 from by decide) _).trans (congrArg Value.int (upd_same _ _ _))) (hb hby at_338) (pc' := 339) rfl ?_
      refine ow_iloadN X89 hx (hb hby at_339) rfl (pc' := 340) rfl ?_
      refine ow_i2b X89 hx (hb hby at_340) (pc' := 341) rfl (fun z91 hz91 => ?_)
      have az91 : (z91.toInt - pb.toInt) % 256 = 0 ∧ -128 ≤ z91.toInt ∧ z91.toInt < 128 := by rw [hz91]; exact c_i2b pb
      have rz91 := rng32 z91
      refine ow_icmp_ne X89 hx (x90.toInt) (z91.toInt) (hb hby at_341) rfl rfl (by decide) (pt := 348) (by decide) (pf := 344) rfl (fun c341 => absurd c341 (by omega)) (fun c341 => ?_)
      refine ow_iconst X89 hx (z := (1 : Int32)) (hb hby at_344) rfl (pc' := 345) rfl ?_
      refine ow_goto X89 hx (hb hby at_345) (by decide) (pc' := 349) (by decide) ?_
      refine ow_istore X89 hx (Ls' := #[.val (.int pm), .val (.int ps), .val (.int pa), .val (.int pb), .val (.ref b1), .val (.int z3), .val (.int (0 : Int32)), .val (.int z6), .val (.ref b2), .val (.int (0 : Int32)), .val (.int (512 : Int32)), .val (.ref b2), .val (.int (0 : Int32)), .val (.int (1 : Int32)), .val (.int (1 : Int32)), .val (.int (1 : Int32))]) (hb hby at_349) rfl (pc' := 351) rfl ?_
      refine ow_iload X89 hx (hb hby at_351) rfl (pc' := 353) rfl ?_
      refine ow_ifN X89 hx (hb hby at_353) (by decide) (pc' := 356) rfl ?_
      refine ow_iload X89 hx (hb hby at_356) rfl (pc' := 358) rfl ?_
      refine ow_ifN X89 hx (hb hby at_358) (by decide) (pc' := 361) rfl ?_
      refine ow_iload X89 hx (hb hby at_361) rfl (pc' := 363) rfl ?_
      refine ow_ifN X89 hx (hb hby at_363) (by decide) (pc' := 366) rfl ?_
      refine ow_iconst X89 hx (z := (1 : Int32)) (hb hby at_366) rfl (pc' := 367) rfl ?_
      refine ow_goto X89 hx (hb hby at_367) (by decide) (pc' := 371) (by decide) ?_
      exact ow_retB X89 hx hret hlk (hb hby at_371) (by decide) (by decide) (z' := (1 : Int32)) rfl ⟨rfl, N87⟩
  · refine ow_iconst X2 hx (z := (1 : Int32)) (hb hby at_20) rfl (pc' := 21) rfl ?_
    refine ow_goto X2 hx (hb hby at_21) (by decide) (pc' := 25) (by decide) ?_
    refine ow_istore X2 hx (Ls' := #[.val (.int pm), .val (.int ps), .val (.int pa), .val (.int pb), .val (.ref b1), .val (.int z3), .val (.int (1 : Int32)), .unset, .unset, .unset, .unset, .unset, .unset, .unset, .unset, .unset]) (hb hby at_25) rfl (pc' := 27) rfl ?_
    refine ow_ldcInt X2 hx hZ hown (hw _ (List.mem_of_getElem? (i := 12) rfl)) (hb hby at_27) (pc' := 29) rfl ?_
    refine ow_iloadN X2 hx (hb hby at_29) rfl (pc' := 30) rfl ?_
    refine ow_iconst X2 hx (z := (3 : Int32)) (hb hby at_30) rfl (pc' := 31) rfl ?_
    refine ow_iand X2 hx (hb hby at_31) (pc' := 32) rfl (fun z92 hz92 => ?_)
    have az92 : z92.toInt = ps.toInt % 4 := by rw [hz92]; exact c_mask ps (3 : Int32) 2 (by decide) (by decide)
    have rz92 := rng32 z92
    refine ow_iadd X2 hx (hb hby at_32) (pc' := 33) rfl (fun z93 hz93 => ?_)
    have az93 : (z93.toInt - ((65534 : Int) + z92.toInt)) % 4294967296 = 0 := by rw [hz93]; exact c_iadd (65534 : Int32) z92
    have rz93 := rng32 z93
    refine ow_istore X2 hx (Ls' := #[.val (.int pm), .val (.int ps), .val (.int pa), .val (.int pb), .val (.ref b1), .val (.int z3), .val (.int (1 : Int32)), .val (.int z93), .unset, .unset, .unset, .unset, .unset, .unset, .unset, .unset]) (hb hby at_33) rfl (pc' := 35) rfl ?_
    refine ow_iload X2 hx (hb hby at_35) rfl (pc' := 37) rfl ?_
    refine ow_iconst X2 hx (z := (1 : Int32)) (hb hby at_37) rfl (pc' := 38) rfl ?_
    refine ow_icmp_ne X2 hx (z3.toInt) ((1 : Int)) (hb hby at_38) rfl rfl (by decide) (pt := 58) (by decide) (pf := 41) rfl (fun c38 => ?_) (fun c38 => ?_)
    · refine ow_iload X2 hx (hb hby at_58) rfl (pc' := 60) rfl ?_
      refine ow_iconst X2 hx (z := (2 : Int32)) (hb hby at_60) rfl (pc' := 61) rfl ?_
      refine ow_icmp_ne X2 hx (z3.toInt) ((2 : Int)) (hb hby at_61) rfl rfl (by decide) (pt := 108) (by decide) (pf := 64) rfl (fun c61 => ?_) (fun c61 => ?_)
      · refine ow_iload X2 hx (hb hby at_108) rfl (pc' := 110) rfl ?_
        refine ow_iconst X2 hx (z := (3 : Int32)) (hb hby at_110) rfl (pc' := 111) rfl ?_
        refine ow_icmp_ne X2 hx (z3.toInt) ((3 : Int)) (hb hby at_111) rfl rfl (by decide) (pt := 163) (by decide) (pf := 114) rfl (fun c111 => ?_) (fun c111 => ?_)
        · refine ow_aload X2 hx (hb hby at_163) rfl rfl (pc' := 165) rfl ?_
          refine ow_callV X2 hx hZ rfl hown (hw _ (List.mem_of_getElem? (i := 13) rfl)) (hw _ (List.mem_of_getElem? (i := 14) rfl)) (hw _ (List.mem_of_getElem? (i := 16) rfl)) (hw _ (List.mem_of_getElem? (i := 15) rfl)) (hw _ (List.mem_of_getElem? (i := 2) rfl)) (hw _ (List.mem_of_getElem? (i := 17) rfl)) (by decide) (rm_lbBytes l Z a0 hw [] b1 b2 T2.heap P2_2) rfl 0 (by decide) (by decide) (by decide) (by decide) [] (by rw [hml]; rfl) pd_16 rfl P2_0 rfl rfl (Nat.le_of_eq rfl) (hb hby at_165) (pc' := 168) rfl (fun v94 T94 L94 hQ94 X94 => ?_)
          obtain ⟨rfl, rfl, e94⟩ := hQ94
          rw [List.append_nil] at X94
          show Ends _ _ _ _ T94 (mkF m 168 #[.val (.int pm), .val (.int ps), .val (.int pa), .val (.int pb), .val (.ref b1), .val (.int z3), .val (.int (1 : Int32)), .val (.int z93), .unset, .unset, .unset, .unset, .unset, .unset, .unset, .unset] [(.ref b2)])
          refine ow_astore X94 hx (Ls' := #[.val (.int pm), .val (.int ps), .val (.int pa), .val (.int pb), .val (.ref b1), .val (.int z3), .val (.int (1 : Int32)), .val (.int z93), .val (.ref b2), .unset, .unset, .unset, .unset, .unset, .unset, .unset]) (hb hby at_168) rfl rfl (pc' := 170) rfl ?_
          refine ow_iload X94 hx (hb hby at_170) rfl (pc' := 172) rfl ?_
          refine ow_iconst X94 hx (z := (2 : Int32)) (hb hby at_172) rfl (pc' := 173) rfl ?_
          refine ow_icmp_ne X94 hx (z3.toInt) ((2 : Int)) (hb hby at_173) rfl rfl (by decide) (pt := 180) (by decide) (pf := 176) rfl (fun c173 => ?_) (fun c173 => absurd c173 (by omega))
          refine ow_iconst X94 hx (z := (0 : Int32)) (hb hby at_180) rfl (pc' := 181) rfl ?_
          refine ow_istore X94 hx (Ls' := #[.val (.int pm), .val (.int ps), .val (.int pa), .val (.int pb), .val (.ref b1), .val (.int z3), .val (.int (1 : Int32)), .val (.int z93), .val (.ref b2), .val (.int (0 : Int32)), .unset, .unset, .unset, .unset, .unset, .unset]) (hb hby at_181) rfl (pc' := 183) rfl ?_
          refine ow_iload X94 hx (hb hby at_183) rfl (pc' := 185) rfl ?_
          refine ow_ifY X94 hx (hb hby at_185) (by decide) (by decide) (pc' := 193) (by decide) ?_
          refine ow_sipush X94 hx (z := (512 : Int32)) (hb hby at_193) rfl (pc' := 196) rfl ?_
          refine ow_istore X94 hx (Ls' := #[.val (.int pm), .val (.int ps), .val (.int pa), .val (.int pb), .val (.ref b1), .val (.int z3), .val (.int (1 : Int32)), .val (.int z93), .val (.ref b2), .val (.int (0 : Int32)), .val (.int (512 : Int32)), .unset, .unset, .unset, .unset, .unset]) (hb hby at_196) rfl (pc' := 198) rfl ?_
          refine ow_aload X94 hx (hb hby at_198) rfl rfl (pc' := 200) rfl ?_
          refine ow_len X94 hx hZ e94 P2_3 (hb hby at_200) (pc' := 201) rfl ?_
          refine ow_iload X94 hx (hb hby at_201) rfl (pc' := 203) rfl ?_
          refine ow_icmpY X94 hx (hb hby at_203) (by decide) (by decide) (pc' := 208) (by decide) ?_
          refine ow_aload X94 hx (hb hby at_208) rfl rfl (pc' := 210) rfl ?_
          refine ow_callV X94 hx hZ rfl hown (hw _ (List.mem_of_getElem? (i := 18) rfl)) (hw _ (List.mem_of_getElem? (i := 19) rfl)) (hw _ (List.mem_of_getElem? (i := 21) rfl)) (hw _ (List.mem_of_getElem? (i := 20) rfl)) (hw _ (List.mem_of_getElem? (i := 2) rfl)) (hw _ (List.mem_of_getElem? (i := 22) rfl)) (by decide) (rm_clrA l Z a0 hw [] b1 b2 kt_2 (512 : Int32) fr_2 (0 : Int32) T2.heap n0 Zs2 P2_0 P2_2 P2_1 P2_3 g_b1 P2_6 (by first | assumption | decide | omega | (have q0_ : (0 : Int32).toInt = 0 := (by decide); have q1_ : (512 : Int32).toInt = 512 := (by decide); omega))) e94 0 (by decide) (by decide) (by decide) (by decide) [] (by rw [hml]; rfl) pd_15 rfl P2_0 rfl rfl (Nat.le_of_eq rfl) (hb hby at_210) (pc' := 213) rfl (fun v95 T95 L95 hQ95 X95 => ?_)
          obtain ⟨rfl, Nc95, Kc95, P95_0, P95_1, P95_2⟩ := hQ95
          have V_b2_95 := P2_3.keep Kc95 (ninS (Ne.symm P2_6) nin0)
          have Zs95 : n0 ≤ T95.heap.size := Nat.le_trans Zs2 Kc95.1
          have K95 := K2.trans Kc95 (allS (Or.inr sz_b1) all0)
          have N95 := Fr.app N2 Nc95
          show Ends _ _ _ _ T95 (mkF m 213 #[.val (.int pm), .val (.int ps), .val (.int pa), .val (.int pb), .val (.ref b1), .val (.int z3), .val (.int (1 : Int32)), .val (.int z93), .val (.ref b2), .val (.int (0 : Int32)), .val (.int (512 : Int32)), .unset, .unset, .unset, .unset, .unset] [])
          refine ow_iload X95 hx (hb hby at_213) rfl (pc' := 215) rfl ?_
          refine ow_ifN X95 hx (hb hby at_215) (by decide) (pc' := 218) rfl ?_
          refine ow_aload X95 hx (hb hby at_218) rfl rfl (pc' := 220) rfl ?_
          refine ow_callV X95 hx hZ rfl hown (hw _ (List.mem_of_getElem? (i := 18) rfl)) (hw _ (List.mem_of_getElem? (i := 19) rfl)) (hw _ (List.mem_of_getElem? (i := 21) rfl)) (hw _ (List.mem_of_getElem? (i := 20) rfl)) (hw _ (List.mem_of_getElem? (i := 2) rfl)) (hw _ (List.mem_of_getElem? (i := 22) rfl)) (by decide) (rm_clrA l Z a0 hw [] b1 b2 kt_2 (512 : Int32) fr_2 (0 : Int32) T95.heap n0 Zs95 P95_0 P95_2 P95_1 V_b2_95 g_b1 P2_6 (by first | assumption | decide | omega | (have q0_ : (0 : Int32).toInt = 0 := (by decide); have q1_ : (512 : Int32).toInt = 512 := (by decide); omega))) rfl 0 (by decide) (by decide) (by decide) (by decide) [] (by rw [hml]; rfl) pd_15 rfl P95_0 rfl rfl (Nat.le_of_eq rfl) (hb hby at_220) (pc' := 223) rfl (fun v96 T96 L96 hQ96 X96 => ?_)
          obtain ⟨rfl, Nc96, Kc96, P96_0, P96_1, P96_2⟩ := hQ96
          have V_b2_96 := V_b2_95.keep Kc96 (ninS (Ne.symm P2_6) nin0)
          have Zs96 : n0 ≤ T96.heap.size := Nat.le_trans Zs95 Kc96.1
          have K96 := K95.trans Kc96 (allS (Or.inr sz_b1) all0)
          have N96 := Fr.app N95 Nc96
          show Ends _ _ _ _ T96 (mkF m 223 #[.val (.int pm), .val (.int ps), .val (.int pa), .val (.int pb), .val (.ref b1), .val (.int z3), .val (.int (1 : Int32)), .val (.int z93), .val (.ref b2), .val (.int (0 : Int32)), .val (.int (512 : Int32)), .unset, .unset, .unset, .unset, .unset] [])
          refine ow_aload X96 hx (hb hby at_223) rfl rfl (pc' := 225) rfl ?_
          refine ow_callV X96 hx hZ rfl hown (hw _ (List.mem_of_getElem? (i := 13) rfl)) (hw _ (List.mem_of_getElem? (i := 14) rfl)) (hw _ (List.mem_of_getElem? (i := 16) rfl)) (hw _ (List.mem_of_getElem? (i := 15) rfl)) (hw _ (List.mem_of_getElem? (i := 2) rfl)) (hw _ (List.mem_of_getElem? (i := 17) rfl)) (by decide) (rm_lbBytes l Z a0 hw [] b1 b2 T96.heap P96_2) rfl 0 (by decide) (by decide) (by decide) (by decide) [] (by rw [hml]; rfl) pd_16 rfl P96_0 rfl rfl (Nat.le_of_eq rfl) (hb hby at_225) (pc' := 228) rfl (fun v97 T97 L97 hQ97 X97 => ?_)
          obtain ⟨rfl, rfl, e97⟩ := hQ97
          rw [List.append_nil] at X97
          show Ends _ _ _ _ T97 (mkF m 228 #[.val (.int pm), .val (.int ps), .val (.int pa), .val (.int pb), .val (.ref b1), .val (.int z3), .val (.int (1 : Int32)), .val (.int z93), .val (.ref b2), .val (.int (0 : Int32)), .val (.int (512 : Int32)), .unset, .unset, .unset, .unset, .unset] [(.ref b2)])
          refine ow_astore X97 hx (Ls' := #[.val (.int pm), .val (.int ps), .val (.int pa), .val (.int pb), .val (.ref b1), .val (.int z3), .val (.int (1 : Int32)), .val (.int z93), .val (.ref b2), .val (.int (0 : Int32)), .val (.int (512 : Int32)), .val (.ref b2), .unset, .unset, .unset, .unset]) (hb hby at_228) rfl rfl (pc' := 230) rfl ?_
          refine ow_iload X97 hx (hb hby at_230) rfl (pc' := 232) rfl ?_
          refine ow_ifY X97 hx (hb hby at_232) (by decide) (by decide) (pc' := 246) (by decide) ?_
          refine ow_iconst X97 hx (z := (0 : Int32)) (hb hby at_246) rfl (pc' := 247) rfl ?_
          refine ow_istore X97 hx (Ls' := #[.val (.int pm), .val (.int ps), .val (.int pa), .val (.int pb), .val (.ref b1), .val (.int z3), .val (.int (1 : Int32)), .val (.int z93), .val (.ref b2), .val (.int (0 : Int32)), .val (.int (512 : Int32)), .val (.ref b2), .val (.int (0 : Int32)), .unset, .unset, .unset]) (hb hby at_247) rfl (pc' := 249) rfl ?_
          refine ow_iload X97 hx (hb hby at_249) rfl (pc' := 251) rfl ?_
          refine ow_ifY X97 hx (hb hby at_251) (by decide) (by decide) (pc' := 278) (by decide) ?_
          refine ow_aload X97 hx (hb hby at_278) rfl rfl (pc' := 280) rfl ?_
          refine ow_aload X97 hx (hb hby at_280) rfl rfl (pc' := 282) rfl ?_
          refine ow_acmp X97 hx rfl rfl (same := true) (hb hby at_282) (decide_eq_true rfl) (by decide) (pc' := 285) rfl ?_
          refine ow_iconst X97 hx (z := (1 : Int32)) (hb hby at_285) rfl (pc' := 286) rfl ?_
          refine ow_goto X97 hx (hb hby at_286) (by decide) (pc' := 290) (by decide) ?_
          refine ow_istore X97 hx (Ls' := #[.val (.int pm), .val (.int ps), .val (.int pa), .val (.int pb), .val (.ref b1), .val (.int z3), .val (.int (1 : Int32)), .val (.int z93), .val (.ref b2), .val (.int (0 : Int32)), .val (.int (512 : Int32)), .val (.ref b2), .val (.int (0 : Int32)), .val (.int (1 : Int32)), .unset, .unset]) (hb hby at_290) rfl (pc' := 292) rfl ?_
          refine ow_aload X97 hx (hb hby at_292) rfl rfl (pc' := 294) rfl ?_
          refine ow_callVPI X97 hx hZ rfl hown (hw _ (List.mem_of_getElem? (i := 26) rfl)) (hw _ (List.mem_of_getElem? (i := 27) rfl)) (hw _ (List.mem_of_getElem? (i := 29) rfl)) (hw _ (List.mem_of_getElem? (i := 28) rfl)) (hw _ (List.mem_of_getElem? (i := 2) rfl)) (hw _ (List.mem_of_getElem? (i := 30) rfl)) (by decide) (rm_lbLen l Z a0 hw [] b1 (0 : Int32) T96.heap P96_1) e97 0 (by decide) (by decide) (by decide) (by decide) [] (by rw [hml]; rfl) pd_13 rfl P96_0 rfl rfl (Nat.le_of_eq rfl) (hb hby at_294) (pc' := 297) rfl (fun z98 T98 hz98 X98 e98 => ?_)
          have az98 : z98.toInt = (0 : Int) := hz98
          have rz98 := rng32 z98
          refine ow_if_ne X98 hx (z98.toInt) (hb hby at_297) rfl (by decide) (pt := 313) (by decide) (pf := 300) rfl (fun c297 => absurd c297 (by omega)) (fun c297 => ?_)
          refine ow_aload X98 hx (hb hby at_300) rfl rfl (pc' := 302) rfl ?_
          refine ow_callV X98 hx hZ rfl hown (hw _ (List.mem_of_getElem? (i := 31) rfl)) (hw _ (List.mem_of_getElem? (i := 32) rfl)) (hw _ (List.mem_of_getElem? (i := 34) rfl)) (hw _ (List.mem_of_getElem? (i := 33) rfl)) (hw _ (List.mem_of_getElem? (i := 2) rfl)) (hw _ (List.mem_of_getElem? (i := 35) rfl)) (by decide) (rm_toBA l Z a0 hw [] b1 b2 kt_2 (512 : Int32) fr_2 T96.heap n0 Zs96 P96_2 P96_1 V_b2_96 (by first | assumption | decide | omega | (have q0_ : (512 : Int32).toInt = 512 := (by decide); omega)) (by first | assumption | decide | omega | (have q0_ : (512 : Int32).toInt = 512 := (by decide); omega))) e98 0 (by decide) (by decide) (by decide) (by decide) [] (by rw [hml]; rfl) pd_16 rfl P96_0 rfl rfl (Nat.le_of_eq rfl) (hb hby at_302) (pc' := 305) rfl (fun v99 T99 L99 hQ99 X99 => ?_)
          obtain ⟨b99, kt_99, fr_99, rfl, Nc99, Kc99, P99_0, P99_1, P99_2⟩ := hQ99
          have E_b1_99 := P96_0.keep Kc99
          have F_b1_bytes_99 := P96_2.keep Kc99 nin0
          have F_b1_length_99 := P96_1.keep Kc99 nin0
          have V_b2_99 := V_b2_96.keep Kc99 nin0
          have ne_b1_b99 : b1 ≠ b99 := Nat.ne_of_lt (Nat.lt_of_lt_of_le P96_0.lt P99_2)
          have ne_b2_b99 : b2 ≠ b99 := Nat.ne_of_lt (Nat.lt_of_lt_of_le V_b2_96.lt P99_2)
          have sz_b99 : h0.size ≤ b99 := Nat.le_trans K96.1 P99_2
          have Zs99 : n0 ≤ T99.heap.size := Nat.le_trans Zs96 Kc99.1
          have K99 := K96.trans Kc99 all0
          have N99 := Fr.app N96 Nc99
          show Ends _ _ _ _ T99 (mkF m 305 #[.val (.int pm), .val (.int ps), .val (.int pa), .val (.int pb), .val (.ref b1), .val (.int z3), .val (.int (1 : Int32)), .val (.int z93), .val (.ref b2), .val (.int (0 : Int32)), .val (.int (512 : Int32)), .val (.ref b2), .val (.int (0 : Int32)), .val (.int (1 : Int32)), .unset, .unset] [(.ref b99)])
          refine ow_len X99 hx hZ rfl P99_0 (hb hby at_305) (pc' := 306) rfl ?_
          refine ow_ifN X99 hx (hb hby at_306) (by decide) (pc' := 309) rfl ?_
          refine ow_iconst X99 hx (z := (1 : Int32)) (hb hby at_309) rfl (pc' := 310) rfl ?_
          refine ow_goto X99 hx (hb hby at_310) (by decide) (pc' := 314) (by decide) ?_
          refine ow_istore X99 hx (Ls' := #[.val (.int pm), .val (.int ps), .val (.int pa), .val (.int pb), .val (.ref b1), .val (.int z3), .val (.int (1 : Int32)), .val (.int z93), .val (.ref b2), .val (.int (0 : Int32)), .val (.int (512 : Int32)), .val (.ref b2), .val (.int (0 : Int32)), .val (.int (1 : Int32)), .val (.int (1 : Int32)), .unset]) (hb hby at_314) rfl (pc' := 316) rfl ?_
          refine ow_aload X99 hx (hb hby at_316) rfl rfl (pc' := 318) rfl ?_
          refine ow_iloadN X99 hx (hb hby at_318) rfl (pc' := 319) rfl ?_
          refine ow_i2b X99 hx (hb hby at_319) (pc' := 320) rfl (fun z100 hz100 => ?_)
          have az100 : (z100.toInt - pb.toInt) % 256 = 0 ∧ -128 ≤ z100.toInt ∧ z100.toInt < 128 := by rw [hz100]; exact c_i2b pb
          have rz100 := rng32 z100
          refine ow_callV X99 hx hZ rfl hown (hw _ (List.mem_of_getElem? (i := 48) rfl)) (hw _ (List.mem_of_getElem? (i := 49) rfl)) (hw _ (List.mem_of_getElem? (i := 51) rfl)) (hw _ (List.mem_of_getElem? (i := 50) rfl)) (hw _ (List.mem_of_getElem? (i := 2) rfl)) (hw _ (List.mem_of_getElem? (i := 52) rfl)) (by decide) (rm_lbApp l Z a0 hw [] b1 z100 b2 kt_2 (512 : Int32) fr_2 (0 : Int32) T99.heap n0 Zs99 E_b1_99 F_b1_bytes_99 F_b1_length_99 V_b2_99 g_b1 P2_6 P2_4 (by first | assumption | decide | omega | (have q0_ : (0 : Int32).toInt = 0 := (by decide); have q1_ : (512 : Int32).toInt = 512 := (by decide); omega)) (by first | assumption | decide | omega | (have q0_ : (0 : Int32).toInt = 0 := (by decide); have q1_ : (512 : Int32).toInt = 512 := (by decide); omega)) (by first | assumption | decide | omega | (have q0_ : (0 : Int32).toInt = 0 := (by decide); have q1_ : (512 : Int32).toInt = 512 := (by decide); omega))) rfl 0 (by decide) (by decide) (by decide) (by decide) [(.int z100)] (by rw [hml]; rfl) pd_17 rfl E_b1_99 rfl rfl (Nat.le_of_eq rfl) (hb hby at_320) (pc' := 323) rfl (fun v101 T101 L101 hQ101 X101 => ?_)
          obtain ⟨pz_101, rfl, Nc101, Kc101, P101_0, P101_1, P101_2, P101_3, P101_4⟩ := hQ101
          have P101_4 : pz_101.toInt = (0 : Int) + 1 := P101_4
          have V_b99_101 := P99_0.keep Kc101 (ninS (Ne.symm ne_b1_b99) (ninS (Ne.symm ne_b2_b99) nin0))
          have Zs101 : n0 ≤ T101.heap.size := Nat.le_trans Zs99 Kc101.1
          have K101 := K99.trans Kc101 (allS (Or.inr sz_b1) (allS (Or.inr sz_b2) all0))
          have N101 := Fr.app N99 Nc101
          show Ends _ _ _ _ T101 (mkF m 323 #[.val (.int pm), .val (.int ps), .val (.int pa), .val (.int pb), .val (.ref b1), .val (.int z3), .val (.int (1 : Int32)), .val (.int z93), .val (.ref b2), .val (.int (0 : Int32)), .val (.int (512 : Int32)), .val (.ref b2), .val (.int (0 : Int32)), .val (.int (1 : Int32)), .val (.int (1 : Int32)), .unset] [])
          refine ow_aload X101 hx (hb hby at_323) rfl rfl (pc' := 325) rfl ?_
          refine ow_callVPI X101 hx hZ rfl hown (hw _ (List.mem_of_getElem? (i := 26) rfl)) (hw _ (List.mem_of_getElem? (i := 27) rfl)) (hw _ (List.mem_of_getElem? (i := 29) rfl)) (hw _ (List.mem_of_getElem? (i := 28) rfl)) (hw _ (List.mem_of_getElem? (i := 2) rfl)) (hw _ (List.mem_of_getElem? (i := 30) rfl)) (by decide) (rm_lbLen l Z a0 hw [] b1 pz_101 T101.heap P101_2) rfl 0 (by decide) (by decide) (by decide) (by decide) [] (by rw [hml]; rfl) pd_13 rfl P101_0 rfl rfl (Nat.le_of_eq rfl) (hb hby at_325) (pc' := 328) rfl (fun z102 T102 hz102 X102 e102 => ?_)
          have az102 : z102.toInt = pz_101.toInt := hz102
          have rz102 := rng32 z102
          refine ow_iconst X102 hx (z := (1 : Int32)) (hb hby at_328) rfl (pc' := 329) rfl ?_
          refine ow_icmp_ne X102 hx (z102.toInt) ((1 : Int)) (hb hby at_329) rfl rfl (by decide) (pt := 348) (by decide) (pf := 332) rfl (fun c329 => absurd c329 (by omega)) (fun c329 => ?_)
          refine ow_aload X102 hx (hb hby at_332) rfl rfl (pc' := 334) rfl ?_
          refine ow_callV X102 hx hZ rfl hown (hw _ (List.mem_of_getElem? (i := 13) rfl)) (hw _ (List.mem_of_getElem? (i := 14) rfl)) (hw _ (List.mem_of_getElem? (i := 16) rfl)) (hw _ (List.mem_of_getElem? (i := 15) rfl)) (hw _ (List.mem_of_getElem? (i := 2) rfl)) (hw _ (List.mem_of_getElem? (i := 17) rfl)) (by decide) (rm_lbBytes l Z a0 hw [] b1 b2 T101.heap P101_1) e102 0 (by decide) (by decide) (by decide) (by decide) [] (by rw [hml]; rfl) pd_16 rfl P101_0 rfl rfl (Nat.le_of_eq rfl) (hb hby at_334) (pc' := 337) rfl (fun v103 T103 L103 hQ103 X103 => ?_)
          obtain ⟨rfl, rfl, e103⟩ := hQ103
          rw [List.append_nil] at X103
          show Ends _ _ _ _ T103 (mkF m 337 #[.val (.int pm), .val (.int ps), .val (.int pa), .val (.int pb), .val (.ref b1), .val (.int z3), .val (.int (1 : Int32)), .val (.int z93), .val (.ref b2), .val (.int (0 : Int32)), .val (.int (512 : Int32)), .val (.ref b2), .val (.int (0 : Int32)), .val (.int (1 : Int32)), .val (.int (1 : Int32)), .unset] [(.ref b2)])
          refine ow_iconst X103 hx (z := (0 : Int32)) (hb hby at_337) rfl (pc' := 338) rfl ?_
          obtain ⟨x104, hx104⟩ : ∃ x : Int32, x = z100.toInt8.toInt32 := ⟨_, rfl⟩
          have ax104 := c_i2b z100
          rw [← hx104] at ax104
          refine ow_ldB X103 hx hZ e103 P101_3 (by decide) (ow_lt (show (0 : Int) < (512 : Int) from by omega)) (show (BL (upd fr_2 (0 : Int32).toInt.toNat (z100.toInt8.toInt32))).getD ((0 : Int32).toNatClampNeg) (.int (0 : Int32)) = .int x104 from by rw [hx104]; exact (BL_get _ _ (show (0 : Int32).toNatClampNeg < 65537 from by decide) _).trans (congrArg Value.int (upd_same _ _ _))) (hb hby at_338) (pc' := 339) rfl ?_
          refine ow_iloadN X103 hx (hb hby at_339) rfl (pc' := 340) rfl ?_
          refine ow_i2b X103 hx (hb hby at_340) (pc' := 341) rfl (fun z105 hz105 => ?_)
          have az105 : (z105.toInt - pb.toInt) % 256 = 0 ∧ -128 ≤ z105.toInt ∧ z105.toInt < 128 := by rw [hz105]; exact c_i2b pb
          have rz105 := rng32 z105
          refine ow_icmp_ne X103 hx (x104.toInt) (z105.toInt) (hb hby at_341) rfl rfl (by decide) (pt := 348) (by decide) (pf := 344) rfl (fun c341 => absurd c341 (by omega)) (fun c341 => ?_)
          refine ow_iconst X103 hx (z := (1 : Int32)) (hb hby at_344) rfl (pc' := 345) rfl ?_
          refine ow_goto X103 hx (hb hby at_345) (by decide) (pc' := 349) (by decide) ?_
          refine ow_istore X103 hx (Ls' := #[.val (.int pm), .val (.int ps), .val (.int pa), .val (.int pb), .val (.ref b1), .val (.int z3), .val (.int (1 : Int32)), .val (.int z93), .val (.ref b2), .val (.int (0 : Int32)), .val (.int (512 : Int32)), .val (.ref b2), .val (.int (0 : Int32)), .val (.int (1 : Int32)), .val (.int (1 : Int32)), .val (.int (1 : Int32))]) (hb hby at_349) rfl (pc' := 351) rfl ?_
          refine ow_iload X103 hx (hb hby at_351) rfl (pc' := 353) rfl ?_
          refine ow_ifN X103 hx (hb hby at_353) (by decide) (pc' := 356) rfl ?_
          refine ow_iload X103 hx (hb hby at_356) rfl (pc' := 358) rfl ?_
          refine ow_ifN X103 hx (hb hby at_358) (by decide) (pc' := 361) rfl ?_
          refine ow_iload X103 hx (hb hby at_361) rfl (pc' := 363) rfl ?_
          refine ow_ifN X103 hx (hb hby at_363) (by decide) (pc' := 366) rfl ?_
          refine ow_iconst X103 hx (z := (1 : Int32)) (hb hby at_366) rfl (pc' := 367) rfl ?_
          refine ow_goto X103 hx (hb hby at_367) (by decide) (pc' := 371) (by decide) ?_
          exact ow_retB X103 hx hret hlk (hb hby at_371) (by decide) (by decide) (z' := (1 : Int32)) rfl ⟨rfl, N101⟩
        · refine ow_iconst X2 hx (z := (3 : Int32)) (hb hby at_114) rfl (pc' := 115) rfl ?_
          refine ow_newP X2 hx hZ (hw _ (List.mem_of_getElem? (i := 57) rfl)) rfl (hb hby at_115) (by decide) 3 (by decide) (by decide) (by decide) (by decide) (pc' := 117) rfl (fun T106 h106 b106 k106 g106 X106 e106 E106 V106 => ?_)
          have ne_b1_b106 : b1 ≠ b106 := Nat.ne_of_lt (Nat.lt_of_lt_of_le P2_0.lt (Nat.le_of_eq g106.symm))
          have ne_b2_b106 : b2 ≠ b106 := Nat.ne_of_lt (Nat.lt_of_lt_of_le P2_3.lt (Nat.le_of_eq g106.symm))
          have g_b106 : n0 ≤ b106 := Nat.le_trans Zs2 (Nat.le_of_eq g106.symm)
          have sz_b106 : h0.size ≤ b106 := Nat.le_trans K2.1 (Nat.le_of_eq g106.symm)
          have E_b1_106 := P2_0.ext E106
          have F_b1_bytes_106 := P2_2.ext E106
          have F_b1_length_106 := P2_1.ext E106
          have V_b2_106 := P2_3.ext E106
          have Zs106 : n0 ≤ h106.size := Nat.le_trans Zs2 E106.1
          have K106 := K2.ext E106
          have V_b106 : Arv Z h106 b106 k106 .char (3 : Int32) (BL (fun _ => 0)) (.int (0 : Int32)) := V106.pad BL_zero
          refine ow_astore X106 hx (Ls' := #[.val (.int pm), .val (.int ps), .val (.int pa), .val (.int pb), .val (.ref b1), .val (.int z3), .val (.int (1 : Int32)), .val (.int z93), .val (.ref b106), .unset, .unset, .unset, .unset, .unset, .unset, .unset]) (hb hby at_117) rfl rfl (pc' := 119) rfl ?_
          refine ow_aload X106 hx (hb hby at_119) rfl rfl (pc' := 121) rfl ?_
          refine ow_iconst X106 hx (z := (0 : Int32)) (hb hby at_121) rfl (pc' := 122) rfl ?_
          refine ow_iloadN X106 hx (hb hby at_122) rfl (pc' := 123) rfl ?_
          refine ow_bipush X106 hx (z := (127 : Int32)) (hb hby at_123) rfl (pc' := 125) rfl ?_
          refine ow_iand X106 hx (hb hby at_125) (pc' := 126) rfl (fun z107 hz107 => ?_)
          have az107 : z107.toInt = pa.toInt % 128 := by rw [hz107]; exact c_mask pa (127 : Int32) 7 (by decide) (by decide)
          have rz107 := rng32 z107
          refine ow_i2c X106 hx (hb hby at_126) (pc' := 127) rfl (fun z108 hz108 => ?_)
          have az108 : (z108.toInt - z107.toInt) % 65536 = 0 ∧ 0 ≤ z108.toInt ∧ z108.toInt < 65536 := by rw [hz108]; exact c_i2c z107
          have rz108 := rng32 z108
          refine ow_stC X106 hx hZ e106 V_b106 ((0 : Int32).toNatClampNeg) rfl (ow_nlt (y := (0 : Int32)) (show ¬ (0 : Int) < 0 from by omega)) (ow_lt (show (0 : Int) < (3 : Int) from by omega)) (by rw [BL_len]; decide) (hb hby at_127) (pc' := 128) rfl (fun T109 h109 X109 e109 W109 V109 => ?_)
          have V_b106_109 : Arv Z h109 b106 k106 (.char) (3 : Int32) (BL (upd (fun _ => 0) (0 : Int32).toInt.toNat (nar .char z108))) (.int (0 : Int32)) := by rw [← (show (BL (fun _ => 0)).set (0 : Int32).toNatClampNeg (.int (nar .char z108)) = BL (upd (fun _ => 0) (0 : Int32).toInt.toNat (nar .char z108)) from BL_set _ _ _)]; exact V109
          have E_b1_109 := E_b1_106.wr W109
          have F_b1_bytes_109 := F_b1_bytes_106.other W109 (Or.inl ne_b1_b106)
          have F_b1_length_109 := F_b1_length_106.other W109 (Or.inl ne_b1_b106)
          have V_b2_109 := V_b2_106.other W109 ne_b2_b106
          have Zs109 : n0 ≤ h109.size := Nat.le_trans Zs106 (Keep.of_wr W109).1
          have K109 := K106.wr W109 (Or.inr sz_b106)
          have N109 := Fr.snoc X109 N2 g_b106
          refine ow_aload X109 hx (hb hby at_128) rfl rfl (pc' := 130) rfl ?_
          refine ow_iconst X109 hx (z := (1 : Int32)) (hb hby at_130) rfl (pc' := 131) rfl ?_
          refine ow_iloadN X109 hx (hb hby at_131) rfl (pc' := 132) rfl ?_
          refine ow_bipush X109 hx (z := (127 : Int32)) (hb hby at_132) rfl (pc' := 134) rfl ?_
          refine ow_iand X109 hx (hb hby at_134) (pc' := 135) rfl (fun z110 hz110 => ?_)
          have az110 : z110.toInt = pb.toInt % 128 := by rw [hz110]; exact c_mask pb (127 : Int32) 7 (by decide) (by decide)
          have rz110 := rng32 z110
          refine ow_i2c X109 hx (hb hby at_135) (pc' := 136) rfl (fun z111 hz111 => ?_)
          have az111 : (z111.toInt - z110.toInt) % 65536 = 0 ∧ 0 ≤ z111.toInt ∧ z111.toInt < 65536 := by rw [hz111]; exact c_i2c z110
          have rz111 := rng32 z111
          refine ow_stC X109 hx hZ e109 V_b106_109 ((1 : Int32).toNatClampNeg) rfl (ow_nlt (y := (0 : Int32)) (show ¬ (1 : Int) < 0 from by omega)) (ow_lt (show (1 : Int) < (3 : Int) from by omega)) (by rw [BL_len]; decide) (hb hby at_136) (pc' := 137) rfl (fun T112 h112 X112 e112 W112 V112 => ?_)
          have V_b106_112 : Arv Z h112 b106 k106 (.char) (3 : Int32) (BL (upd (upd (fun _ => 0) (0 : Int32).toInt.toNat (nar .char z108)) (1 : Int32).toInt.toNat (nar .char z111))) (.int (0 : Int32)) := by rw [← (show (BL (upd (fun _ => 0) (0 : Int32).toInt.toNat (nar .char z108))).set (1 : Int32).toNatClampNeg (.int (nar .char z111)) = BL (upd (upd (fun _ => 0) (0 : Int32).toInt.toNat (nar .char z108)) (1 : Int32).toInt.toNat (nar .char z111)) from BL_set _ _ _)]; exact V112
          have E_b1_112 := E_b1_109.wr W112
          have F_b1_bytes_112 := F_b1_bytes_109.other W112 (Or.inl ne_b1_b106)
          have F_b1_length_112 := F_b1_length_109.other W112 (Or.inl ne_b1_b106)
          have V_b2_112 := V_b2_109.other W112 ne_b2_b106
          have Zs112 : n0 ≤ h112.size := Nat.le_trans Zs109 (Keep.of_wr W112).1
          have K112 := K109.wr W112 (Or.inr sz_b106)
          have N112 := Fr.snoc X112 N109 g_b106
          refine ow_aload X112 hx (hb hby at_137) rfl rfl (pc' := 139) rfl ?_
          refine ow_iconst X112 hx (z := (2 : Int32)) (hb hby at_139) rfl (pc' := 140) rfl ?_
          refine ow_iloadN X112 hx (hb hby at_140) rfl (pc' := 141) rfl ?_
          refine ow_bipush X112 hx (z := (8 : Int32)) (hb hby at_141) rfl (pc' := 143) rfl ?_
          refine ow_iushr X112 hx (hb hby at_143) (pc' := 144) rfl (fun z113 hz113 => ?_)
          have az113 : z113.toInt = (pa.toInt % 4294967296) / 256 := by rw [hz113]; exact c_iushr pa (8 : Int32) 8 (by decide) (by decide)
          have rz113 := rng32 z113
          refine ow_bipush X112 hx (z := (127 : Int32)) (hb hby at_144) rfl (pc' := 146) rfl ?_
          refine ow_iand X112 hx (hb hby at_146) (pc' := 147) rfl (fun z114 hz114 => ?_)
          have az114 : z114.toInt = z113.toInt % 128 := by rw [hz114]; exact c_mask z113 (127 : Int32) 7 (by decide) (by decide)
          have rz114 := rng32 z114
          refine ow_i2c X112 hx (hb hby at_147) (pc' := 148) rfl (fun z115 hz115 => ?_)
          have az115 : (z115.toInt - z114.toInt) % 65536 = 0 ∧ 0 ≤ z115.toInt ∧ z115.toInt < 65536 := by rw [hz115]; exact c_i2c z114
          have rz115 := rng32 z115
          refine ow_stC X112 hx hZ e112 V_b106_112 ((2 : Int32).toNatClampNeg) rfl (ow_nlt (y := (0 : Int32)) (show ¬ (2 : Int) < 0 from by omega)) (ow_lt (show (2 : Int) < (3 : Int) from by omega)) (by rw [BL_len]; decide) (hb hby at_148) (pc' := 149) rfl (fun T116 h116 X116 e116 W116 V116 => ?_)
          have V_b106_116 : Arv Z h116 b106 k106 (.char) (3 : Int32) (BL (upd (upd (upd (fun _ => 0) (0 : Int32).toInt.toNat (nar .char z108)) (1 : Int32).toInt.toNat (nar .char z111)) (2 : Int32).toInt.toNat (nar .char z115))) (.int (0 : Int32)) := by rw [← (show (BL (upd (upd (fun _ => 0) (0 : Int32).toInt.toNat (nar .char z108)) (1 : Int32).toInt.toNat (nar .char z111))).set (2 : Int32).toNatClampNeg (.int (nar .char z115)) = BL (upd (upd (upd (fun _ => 0) (0 : Int32).toInt.toNat (nar .char z108)) (1 : Int32).toInt.toNat (nar .char z111)) (2 : Int32).toInt.toNat (nar .char z115)) from BL_set _ _ _)]; exact V116
          have E_b1_116 := E_b1_112.wr W116
          have F_b1_bytes_116 := F_b1_bytes_112.other W116 (Or.inl ne_b1_b106)
          have F_b1_length_116 := F_b1_length_112.other W116 (Or.inl ne_b1_b106)
          have V_b2_116 := V_b2_112.other W116 ne_b2_b106
          have Zs116 : n0 ≤ h116.size := Nat.le_trans Zs112 (Keep.of_wr W116).1
          have K116 := K112.wr W116 (Or.inr sz_b106)
          have N116 := Fr.snoc X116 N112 g_b106
          refine ow_aload X116 hx (hb hby at_149) rfl rfl (pc' := 151) rfl ?_
          refine ow_new X116 hx hZ hown (hw _ (List.mem_of_getElem? (i := 58) rfl)) (hw _ (List.mem_of_getElem? (i := 59) rfl)) (hw _ (List.mem_of_getElem? (i := 60) rfl)) e116 (hb hby at_151) (by decide) (by decide) (pc' := 154) rfl (fun T117 h117 b117 g117 X117 e117 E117 A117 D117 => ?_)
          have ne_b1_b117 : b1 ≠ b117 := Nat.ne_of_lt (Nat.lt_of_lt_of_le E_b1_116.lt (Nat.le_of_eq g117.symm))
          have ne_b2_b117 : b2 ≠ b117 := Nat.ne_of_lt (Nat.lt_of_lt_of_le V_b2_116.lt (Nat.le_of_eq g117.symm))
          have ne_b106_b117 : b106 ≠ b117 := Nat.ne_of_lt (Nat.lt_of_lt_of_le V_b106_116.lt (Nat.le_of_eq g117.symm))
          have g_b117 : n0 ≤ b117 := Nat.le_trans Zs116 (Nat.le_of_eq g117.symm)
          have sz_b117 : h0.size ≤ b117 := Nat.le_trans K116.1 (Nat.le_of_eq g117.symm)
          have E_b1_117 := E_b1_116.ext E117
          have F_b1_bytes_117 := F_b1_bytes_116.ext E117
          have F_b1_length_117 := F_b1_length_116.ext E117
          have V_b2_117 := V_b2_116.ext E117
          have V_b106_117 := V_b106_116.ext E117
          have Zs117 : n0 ≤ h117.size := Nat.le_trans Zs116 E117.1
          have K117 := K116.ext E117
          have F_b117_coder : Fld Z h117 b117 "java/lang/String" "coder" "B" (.int (0 : Int32)) := D117 (Or.inr (hw _ (List.mem_of_getElem? (i := 81) rfl))) (ty := .byte) (by decide)
          have F_b117_value : Fld Z h117 b117 "java/lang/String" "value" "[B" .null := D117 (Or.inr (hw _ (List.mem_of_getElem? (i := 83) rfl))) (ty := (.array .byte)) (by decide)
          refine ow_dup X117 hx (hb hby at_154) rfl (pc' := 155) rfl ?_
          refine ow_aload X117 hx (hb hby at_155) rfl rfl (pc' := 157) rfl ?_
          have hf118 : ∀ i : Nat, 0 ≤ ((upd (upd (upd (fun _ => 0) (0 : Int32).toInt.toNat (nar .char z108)) (1 : Int32).toInt.toNat (nar .char z111)) (2 : Int32).toInt.toNat (nar .char z115)) i).toInt ∧ ((upd (upd (upd (fun _ => 0) (0 : Int32).toInt.toNat (nar .char z108)) (1 : Int32).toInt.toNat (nar .char z111)) (2 : Int32).toInt.toNat (nar .char z115)) i).toInt ≤ 255 := (upd_rng (upd_rng (upd_rng (fun _ => show 0 ≤ (0 : Int32).toInt ∧ (0 : Int32).toInt ≤ 255 from by decide) (nar_c _ (by omega))) (nar_c _ (by omega))) (nar_c _ (by omega)))
          refine ow_callI X117 hx hZ rfl rfl hown (hw _ (List.mem_of_getElem? (i := 61) rfl)) (hw _ (List.mem_of_getElem? (i := 62) rfl)) (hw _ (List.mem_of_getElem? (i := 60) rfl)) (hw _ (List.mem_of_getElem? (i := 63) rfl)) (by decide) (rm_sIn1 l Z a0 hw [] b117 b106 zc k106 (upd (upd (upd (fun _ => 0) (0 : Int32).toInt.toNat (nar .char z108)) (1 : Int32).toInt.toNat (nar .char z111)) (2 : Int32).toInt.toNat (nar .char z115)) (3 : Int32) h117 n0 Zs117 (ow_staKeep S_cs K117 all0) A117 F_b117_coder F_b117_value V_b106_117 g_b117 (Ne.symm ne_b106_b117) (by first | assumption | decide | omega | (have q0_ : (3 : Int32).toInt = 3 := (by decide); omega)) (by first | assumption | decide | omega | (have q0_ : (3 : Int32).toInt = 3 := (by decide); omega)) (by first | assumption | decide | omega | (have q0_ : (3 : Int32).toInt = 3 := (by decide); omega)) (by first | assumption | decide | omega | (have q0_ : (3 : Int32).toInt = 3 := (by decide); omega))) e117 2 (by decide) (by decide) (by decide) (by decide) [(.ref b106)] (by rw [hml]; rfl) pd_18 rfl rfl rfl (Nat.le_of_eq rfl) (hb hby at_157) (pc' := 160) rfl (fun v119 T119 L119 hQ119 X119 => ?_)
          obtain ⟨b119, kt_119, fr_119, rfl, Nc119, Kc119, P119_0, P119_1, P119_2, P119_3, P119_4, P119_5, P119_6⟩ := hQ119
          have E_b1_119 := E_b1_117.keep Kc119
          have F_b1_bytes_119 := F_b1_bytes_117.keep Kc119 (ninS ne_b1_b117 nin0)
          have F_b1_length_119 := F_b1_length_117.keep Kc119 (ninS ne_b1_b117 nin0)
          have V_b2_119 := V_b2_117.keep Kc119 (ninS ne_b2_b117 nin0)
          have V_b106_119 := V_b106_117.keep Kc119 (ninS ne_b106_b117 nin0)
          have ne_b1_b119 : b1 ≠ b119 := Nat.ne_of_lt (Nat.lt_of_lt_of_le E_b1_117.lt P119_5)
          have ne_b2_b119 : b2 ≠ b119 := Nat.ne_of_lt (Nat.lt_of_lt_of_le V_b2_117.lt P119_5)
          have ne_b106_b119 : b106 ≠ b119 := Nat.ne_of_lt (Nat.lt_of_lt_of_le V_b106_117.lt P119_5)
          have ne_b117_b119 : b117 ≠ b119 := Nat.ne_of_lt (Nat.lt_of_lt_of_le A117.lt P119_5)
          have sz_b119 : h0.size ≤ b119 := Nat.le_trans K117.1 P119_5
          have Zs119 : n0 ≤ T119.heap.size := Nat.le_trans Zs117 Kc119.1
          have K119 := K117.trans Kc119 (allS (Or.inr sz_b117) all0)
          have N119 := Fr.app N116 Nc119
          show Ends _ _ _ _ T119 (mkF m 160 #[.val (.int pm), .val (.int ps), .val (.int pa), .val (.int pb), .val (.ref b1), .val (.int z3), .val (.int (1 : Int32)), .val (.int z93), .val (.ref b106), .unset, .unset, .unset, .unset, .unset, .unset, .unset] [(.ref b117), (.ref b1)])
          refine ow_callV X119 hx hZ rfl hown (hw _ (List.mem_of_getElem? (i := 84) rfl)) (hw _ (List.mem_of_getElem? (i := 85) rfl)) (hw _ (List.mem_of_getElem? (i := 87) rfl)) (hw _ (List.mem_of_getElem? (i := 86) rfl)) (hw _ (List.mem_of_getElem? (i := 2) rfl)) (hw _ (List.mem_of_getElem? (i := 88) rfl)) (by decide) (rm_apS l Z a0 hw [] b1 b117 zc wf b2 kt_2 fr_2 b119 kt_119 (3 : Int32) fr_119 T119.heap n0 Zs119 (ow_staKeep S_cs K119 all0) (ow_staKeep S_f K119 all0) (by first | assumption | decide | omega | (have q0_ : (3 : Int32).toInt = 3 := (by decide); omega)) (by first | assumption | decide | omega | (have q0_ : (3 : Int32).toInt = 3 := (by decide); omega)) E_b1_119 F_b1_bytes_119 F_b1_length_119 V_b2_119 P119_0 P119_1 P119_2 P119_3 g_b1 P2_4 P2_6 ne_b1_b117 ne_b1_b119 ne_b2_b117 ne_b2_b119 (by first | assumption | decide | omega | (have q0_ : (3 : Int32).toInt = 3 := (by decide); omega)) (by first | assumption | decide | omega | (have q0_ : (3 : Int32).toInt = 3 := (by decide); omega))) rfl 0 (by decide) (by decide) (by decide) (by decide) [(.ref b117)] (by rw [hml]; rfl) pd_19 rfl E_b1_119 rfl rfl (Nat.le_of_eq rfl) (hb hby at_160) (pc' := 163) rfl (fun v120 T120 L120 hQ120 X120 => ?_)
          obtain ⟨pz_120, fr_120, rfl, Nc120, Kc120, P120_0, P120_1, P120_2, P120_3⟩ := hQ120
          have V_b106_120 := V_b106_119.keep Kc120 (ninS (Ne.symm ne_b1_b106) (ninS (Ne.symm ne_b2_b106) nin0))
          have E_b117_120 := P119_0.keep Kc120
          have F_b117_coder_120 := P119_1.keep Kc120 (ninS (Ne.symm ne_b1_b117) (ninS (Ne.symm ne_b2_b117) nin0))
          have F_b117_value_120 := P119_2.keep Kc120 (ninS (Ne.symm ne_b1_b117) (ninS (Ne.symm ne_b2_b117) nin0))
          have V_b119_120 := P119_3.keep Kc120 (ninS (Ne.symm ne_b1_b119) (ninS (Ne.symm ne_b2_b119) nin0))
          have Zs120 : n0 ≤ T120.heap.size := Nat.le_trans Zs119 Kc120.1
          have K120 := K119.trans Kc120 (allS (Or.inr sz_b1) (allS (Or.inr sz_b2) all0))
          have N120 := Fr.app N119 Nc120
          show Ends _ _ _ _ T120 (mkF m 163 #[.val (.int pm), .val (.int ps), .val (.int pa), .val (.int pb), .val (.ref b1), .val (.int z3), .val (.int (1 : Int32)), .val (.int z93), .val (.ref b106), .unset, .unset, .unset, .unset, .unset, .unset, .unset] [])
          refine ow_aload X120 hx (hb hby at_163) rfl rfl (pc' := 165) rfl ?_
          refine ow_callV X120 hx hZ rfl hown (hw _ (List.mem_of_getElem? (i := 13) rfl)) (hw _ (List.mem_of_getElem? (i := 14) rfl)) (hw _ (List.mem_of_getElem? (i := 16) rfl)) (hw _ (List.mem_of_getElem? (i := 15) rfl)) (hw _ (List.mem_of_getElem? (i := 2) rfl)) (hw _ (List.mem_of_getElem? (i := 17) rfl)) (by decide) (rm_lbBytes l Z a0 hw [] b1 b2 T120.heap P120_2) rfl 0 (by decide) (by decide) (by decide) (by decide) [] (by rw [hml]; rfl) pd_16 rfl P120_0 rfl rfl (Nat.le_of_eq rfl) (hb hby at_165) (pc' := 168) rfl (fun v121 T121 L121 hQ121 X121 => ?_)
          obtain ⟨rfl, rfl, e121⟩ := hQ121
          rw [List.append_nil] at X121
          show Ends _ _ _ _ T121 (mkF m 168 #[.val (.int pm), .val (.int ps), .val (.int pa), .val (.int pb), .val (.ref b1), .val (.int z3), .val (.int (1 : Int32)), .val (.int z93), .val (.ref b106), .unset, .unset, .unset, .unset, .unset, .unset, .unset] [(.ref b2)])
          refine ow_astore X121 hx (Ls' := #[.val (.int pm), .val (.int ps), .val (.int pa), .val (.int pb), .val (.ref b1), .val (.int z3), .val (.int (1 : Int32)), .val (.int z93), .val (.ref b2), .unset, .unset, .unset, .unset, .unset, .unset, .unset]) (hb hby at_168) rfl rfl (pc' := 170) rfl ?_
          refine ow_iload X121 hx (hb hby at_170) rfl (pc' := 172) rfl ?_
          refine ow_iconst X121 hx (z := (2 : Int32)) (hb hby at_172) rfl (pc' := 173) rfl ?_
          refine ow_icmp_ne X121 hx (z3.toInt) ((2 : Int)) (hb hby at_173) rfl rfl (by decide) (pt := 180) (by decide) (pf := 176) rfl (fun c173 => ?_) (fun c173 => absurd c173 (by omega))
          refine ow_iconst X121 hx (z := (0 : Int32)) (hb hby at_180) rfl (pc' := 181) rfl ?_
          refine ow_istore X121 hx (Ls' := #[.val (.int pm), .val (.int ps), .val (.int pa), .val (.int pb), .val (.ref b1), .val (.int z3), .val (.int (1 : Int32)), .val (.int z93), .val (.ref b2), .val (.int (0 : Int32)), .unset, .unset, .unset, .unset, .unset, .unset]) (hb hby at_181) rfl (pc' := 183) rfl ?_
          refine ow_iload X121 hx (hb hby at_183) rfl (pc' := 185) rfl ?_
          refine ow_ifY X121 hx (hb hby at_185) (by decide) (by decide) (pc' := 193) (by decide) ?_
          refine ow_sipush X121 hx (z := (512 : Int32)) (hb hby at_193) rfl (pc' := 196) rfl ?_
          refine ow_istore X121 hx (Ls' := #[.val (.int pm), .val (.int ps), .val (.int pa), .val (.int pb), .val (.ref b1), .val (.int z3), .val (.int (1 : Int32)), .val (.int z93), .val (.ref b2), .val (.int (0 : Int32)), .val (.int (512 : Int32)), .unset, .unset, .unset, .unset, .unset]) (hb hby at_196) rfl (pc' := 198) rfl ?_
          refine ow_aload X121 hx (hb hby at_198) rfl rfl (pc' := 200) rfl ?_
          refine ow_len X121 hx hZ e121 P120_3 (hb hby at_200) (pc' := 201) rfl ?_
          refine ow_iload X121 hx (hb hby at_201) rfl (pc' := 203) rfl ?_
          refine ow_icmpY X121 hx (hb hby at_203) (by decide) (by decide) (pc' := 208) (by decide) ?_
          refine ow_aload X121 hx (hb hby at_208) rfl rfl (pc' := 210) rfl ?_
          refine ow_callV X121 hx hZ rfl hown (hw _ (List.mem_of_getElem? (i := 18) rfl)) (hw _ (List.mem_of_getElem? (i := 19) rfl)) (hw _ (List.mem_of_getElem? (i := 21) rfl)) (hw _ (List.mem_of_getElem? (i := 20) rfl)) (hw _ (List.mem_of_getElem? (i := 2) rfl)) (hw _ (List.mem_of_getElem? (i := 22) rfl)) (by decide) (rm_clrA l Z a0 hw [] b1 b2 kt_2 (512 : Int32) fr_120 pz_120 T120.heap n0 Zs120 P120_0 P120_2 P120_1 P120_3 g_b1 P2_6 (by first | assumption | decide | omega | (have q0_ : (512 : Int32).toInt = 512 := (by decide); omega))) e121 0 (by decide) (by decide) (by decide) (by decide) [] (by rw [hml]; rfl) pd_15 rfl P120_0 rfl rfl (Nat.le_of_eq rfl) (hb hby at_210) (pc' := 213) rfl (fun v122 T122 L122 hQ122 X122 => ?_)
          obtain ⟨rfl, Nc122, Kc122, P122_0, P122_1, P122_2⟩ := hQ122
          have V_b2_122 := P120_3.keep Kc122 (ninS (Ne.symm P2_6) nin0)
          have V_b106_122 := V_b106_120.keep Kc122 (ninS (Ne.symm ne_b1_b106) nin0)
          have E_b117_122 := E_b117_120.keep Kc122
          have F_b117_coder_122 := F_b117_coder_120.keep Kc122 (ninS (Ne.symm ne_b1_b117) nin0)
          have F_b117_value_122 := F_b117_value_120.keep Kc122 (ninS (Ne.symm ne_b1_b117) nin0)
          have V_b119_122 := V_b119_120.keep Kc122 (ninS (Ne.symm ne_b1_b119) nin0)
          have Zs122 : n0 ≤ T122.heap.size := Nat.le_trans Zs120 Kc122.1
          have K122 := K120.trans Kc122 (allS (Or.inr sz_b1) all0)
          have N122 := Fr.app N120 Nc122
          show Ends _ _ _ _ T122 (mkF m 213 #[.val (.int pm), .val (.int ps), .val (.int pa), .val (.int pb), .val (.ref b1), .val (.int z3), .val (.int (1 : Int32)), .val (.int z93), .val (.ref b2), .val (.int (0 : Int32)), .val (.int (512 : Int32)), .unset, .unset, .unset, .unset, .unset] [])
          refine ow_iload X122 hx (hb hby at_213) rfl (pc' := 215) rfl ?_
          refine ow_ifN X122 hx (hb hby at_215) (by decide) (pc' := 218) rfl ?_
          refine ow_aload X122 hx (hb hby at_218) rfl rfl (pc' := 220) rfl ?_
          refine ow_callV X122 hx hZ rfl hown (hw _ (List.mem_of_getElem? (i := 18) rfl)) (hw _ (List.mem_of_getElem? (i := 19) rfl)) (hw _ (List.mem_of_getElem? (i := 21) rfl)) (hw _ (List.mem_of_getElem? (i := 20) rfl)) (hw _ (List.mem_of_getElem? (i := 2) rfl)) (hw _ (List.mem_of_getElem? (i := 22) rfl)) (by decide) (rm_clrA l Z a0 hw [] b1 b2 kt_2 (512 : Int32) fr_120 (0 : Int32) T122.heap n0 Zs122 P122_0 P122_2 P122_1 V_b2_122 g_b1 P2_6 (by first | assumption | decide | omega | (have q0_ : (0 : Int32).toInt = 0 := (by decide); have q1_ : (512 : Int32).toInt = 512 := (by decide); omega))) rfl 0 (by decide) (by decide) (by decide) (by decide) [] (by rw [hml]; rfl) pd_15 rfl P122_0 rfl rfl (Nat.le_of_eq rfl) (hb hby at_220) (pc' := 223) rfl (fun v123 T123 L123 hQ123 X123 => ?_)
          obtain ⟨rfl, Nc123, Kc123, P123_0, P123_1, P123_2⟩ := hQ123
          have V_b2_123 := V_b2_122.keep Kc123 (ninS (Ne.symm P2_6) nin0)
          have V_b106_123 := V_b106_122.keep Kc123 (ninS (Ne.symm ne_b1_b106) nin0)
          have E_b117_123 := E_b117_122.keep Kc123
          have F_b117_coder_123 := F_b117_coder_122.keep Kc123 (ninS (Ne.symm ne_b1_b117) nin0)
          have F_b117_value_123 := F_b117_value_122.keep Kc123 (ninS (Ne.symm ne_b1_b117) nin0)
          have V_b119_123 := V_b119_122.keep Kc123 (ninS (Ne.symm ne_b1_b119) nin0)
          have Zs123 : n0 ≤ T123.heap.size := Nat.le_trans Zs122 Kc123.1
          have K123 := K122.trans Kc123 (allS (Or.inr sz_b1) all0)
          have N123 := Fr.app N122 Nc123
          show Ends _ _ _ _ T123 (mkF m 223 #[.val (.int pm), .val (.int ps), .val (.int pa), .val (.int pb), .val (.ref b1), .val (.int z3), .val (.int (1 : Int32)), .val (.int z93), .val (.ref b2), .val (.int (0 : Int32)), .val (.int (512 : Int32)), .unset, .unset, .unset, .unset, .unset] [])
          refine ow_aload X123 hx (hb hby at_223) rfl rfl (pc' := 225) rfl ?_
          refine ow_callV X123 hx hZ rfl hown (hw _ (List.mem_of_getElem? (i := 13) rfl)) (hw _ (List.mem_of_getElem? (i := 14) rfl)) (hw _ (List.mem_of_getElem? (i := 16) rfl)) (hw _ (List.mem_of_getElem? (i := 15) rfl)) (hw _ (List.mem_of_getElem? (i := 2) rfl)) (hw _ (List.mem_of_getElem? (i := 17) rfl)) (by decide) (rm_lbBytes l Z a0 hw [] b1 b2 T123.heap P123_2) rfl 0 (by decide) (by decide) (by decide) (by decide) [] (by rw [hml]; rfl) pd_16 rfl P123_0 rfl rfl (Nat.le_of_eq rfl) (hb hby at_225) (pc' := 228) rfl (fun v124 T124 L124 hQ124 X124 => ?_)
          obtain ⟨rfl, rfl, e124⟩ := hQ124
          rw [List.append_nil] at X124
          show Ends _ _ _ _ T124 (mkF m 228 #[.val (.int pm), .val (.int ps), .val (.int pa), .val (.int pb), .val (.ref b1), .val (.int z3), .val (.int (1 : Int32)), .val (.int z93), .val (.ref b2), .val (.int (0 : Int32)), .val (.int (512 : Int32)), .unset, .unset, .unset, .unset, .unset] [(.ref b2)])
          refine ow_astore X124 hx (Ls' := #[.val (.int pm), .val (.int ps), .val (.int pa), .val (.int pb), .val (.ref b1), .val (.int z3), .val (.int (1 : Int32)), .val (.int z93), .val (.ref b2), .val (.int (0 : Int32)), .val (.int (512 : Int32)), .val (.ref b2), .unset, .unset, .unset, .unset]) (hb hby at_228) rfl rfl (pc' := 230) rfl ?_
          refine ow_iload X124 hx (hb hby at_230) rfl (pc' := 232) rfl ?_
          refine ow_ifY X124 hx (hb hby at_232) (by decide) (by decide) (pc' := 246) (by decide) ?_
          refine ow_iconst X124 hx (z := (0 : Int32)) (hb hby at_246) rfl (pc' := 247) rfl ?_
          refine ow_istore X124 hx (Ls' := #[.val (.int pm), .val (.int ps), .val (.int pa), .val (.int pb), .val (.ref b1), .val (.int z3), .val (.int (1 : Int32)), .val (.int z93), .val (.ref b2), .val (.int (0 : Int32)), .val (.int (512 : Int32)), .val (.ref b2), .val (.int (0 : Int32)), .unset, .unset, .unset]) (hb hby at_247) rfl (pc' := 249) rfl ?_
          refine ow_iload X124 hx (hb hby at_249) rfl (pc' := 251) rfl ?_
          refine ow_ifY X124 hx (hb hby at_251) (by decide) (by decide) (pc' := 278) (by decide) ?_
          refine ow_aload X124 hx (hb hby at_278) rfl rfl (pc' := 280) rfl ?_
          refine ow_aload X124 hx (hb hby at_280) rfl rfl (pc' := 282) rfl ?_
          refine ow_acmp X124 hx rfl rfl (same := true) (hb hby at_282) (decide_eq_true rfl) (by decide) (pc' := 285) rfl ?_
          refine ow_iconst X124 hx (z := (1 : Int32)) (hb hby at_285) rfl (pc' := 286) rfl ?_
          refine ow_goto X124 hx (hb hby at_286) (by decide) (pc' := 290) (by decide) ?_
          refine ow_istore X124 hx (Ls' := #[.val (.int pm), .val (.int ps), .val (.int pa), .val (.int pb), .val (.ref b1), .val (.int z3), .val (.int (1 : Int32)), .val (.int z93), .val (.ref b2), .val (.int (0 : Int32)), .val (.int (512 : Int32)), .val (.ref b2), .val (.int (0 : Int32)), .val (.int (1 : Int32)), .unset, .unset]) (hb hby at_290) rfl (pc' := 292) rfl ?_
          refine ow_aload X124 hx (hb hby at_292) rfl rfl (pc' := 294) rfl ?_
          refine ow_callVPI X124 hx hZ rfl hown (hw _ (List.mem_of_getElem? (i := 26) rfl)) (hw _ (List.mem_of_getElem? (i := 27) rfl)) (hw _ (List.mem_of_getElem? (i := 29) rfl)) (hw _ (List.mem_of_getElem? (i := 28) rfl)) (hw _ (List.mem_of_getElem? (i := 2) rfl)) (hw _ (List.mem_of_getElem? (i := 30) rfl)) (by decide) (rm_lbLen l Z a0 hw [] b1 (0 : Int32) T123.heap P123_1) e124 0 (by decide) (by decide) (by decide) (by decide) [] (by rw [hml]; rfl) pd_13 rfl P123_0 rfl rfl (Nat.le_of_eq rfl) (hb hby at_294) (pc' := 297) rfl (fun z125 T125 hz125 X125 e125 => ?_)
          have az125 : z125.toInt = (0 : Int) := hz125
          have rz125 := rng32 z125
          refine ow_if_ne X125 hx (z125.toInt) (hb hby at_297) rfl (by decide) (pt := 313) (by decide) (pf := 300) rfl (fun c297 => absurd c297 (by omega)) (fun c297 => ?_)
          refine ow_aload X125 hx (hb hby at_300) rfl rfl (pc' := 302) rfl ?_
          refine ow_callV X125 hx hZ rfl hown (hw _ (List.mem_of_getElem? (i := 31) rfl)) (hw _ (List.mem_of_getElem? (i := 32) rfl)) (hw _ (List.mem_of_getElem? (i := 34) rfl)) (hw _ (List.mem_of_getElem? (i := 33) rfl)) (hw _ (List.mem_of_getElem? (i := 2) rfl)) (hw _ (List.mem_of_getElem? (i := 35) rfl)) (by decide) (rm_toBA l Z a0 hw [] b1 b2 kt_2 (512 : Int32) fr_120 T123.heap n0 Zs123 P123_2 P123_1 V_b2_123 (by first | assumption | decide | omega | (have q0_ : (512 : Int32).toInt = 512 := (by decide); omega)) (by first | assumption | decide | omega | (have q0_ : (512 : Int32).toInt = 512 := (by decide); omega))) e125 0 (by decide) (by decide) (by decide) (by decide) [] (by rw [hml]; rfl) pd_16 rfl P123_0 rfl rfl (Nat.le_of_eq rfl) (hb hby at_302) (pc' := 305) rfl (fun v126 T126 L126 hQ126 X126 => ?_)
          obtain ⟨b126, kt_126, fr_126, rfl, Nc126, Kc126, P126_0, P126_1, P126_2⟩ := hQ126
          have E_b1_126 := P123_0.keep Kc126
          have F_b1_bytes_126 := P123_2.keep Kc126 nin0
          have F_b1_length_126 := P123_1.keep Kc126 nin0
          have V_b2_126 := V_b2_123.keep Kc126 nin0
          have V_b106_126 := V_b106_123.keep Kc126 nin0
          have E_b117_126 := E_b117_123.keep Kc126
          have F_b117_coder_126 := F_b117_coder_123.keep Kc126 nin0
          have F_b117_value_126 := F_b117_value_123.keep Kc126 nin0
          have V_b119_126 := V_b119_123.keep Kc126 nin0
          have ne_b1_b126 : b1 ≠ b126 := Nat.ne_of_lt (Nat.lt_of_lt_of_le P123_0.lt P126_2)
          have ne_b2_b126 : b2 ≠ b126 := Nat.ne_of_lt (Nat.lt_of_lt_of_le V_b2_123.lt P126_2)
          have ne_b106_b126 : b106 ≠ b126 := Nat.ne_of_lt (Nat.lt_of_lt_of_le V_b106_123.lt P126_2)
          have ne_b117_b126 : b117 ≠ b126 := Nat.ne_of_lt (Nat.lt_of_lt_of_le E_b117_123.lt P126_2)
          have ne_b119_b126 : b119 ≠ b126 := Nat.ne_of_lt (Nat.lt_of_lt_of_le V_b119_123.lt P126_2)
          have sz_b126 : h0.size ≤ b126 := Nat.le_trans K123.1 P126_2
          have Zs126 : n0 ≤ T126.heap.size := Nat.le_trans Zs123 Kc126.1
          have K126 := K123.trans Kc126 all0
          have N126 := Fr.app N123 Nc126
          show Ends _ _ _ _ T126 (mkF m 305 #[.val (.int pm), .val (.int ps), .val (.int pa), .val (.int pb), .val (.ref b1), .val (.int z3), .val (.int (1 : Int32)), .val (.int z93), .val (.ref b2), .val (.int (0 : Int32)), .val (.int (512 : Int32)), .val (.ref b2), .val (.int (0 : Int32)), .val (.int (1 : Int32)), .unset, .unset] [(.ref b126)])
          refine ow_len X126 hx hZ rfl P126_0 (hb hby at_305) (pc' := 306) rfl ?_
          refine ow_ifN X126 hx (hb hby at_306) (by decide) (pc' := 309) rfl ?_
          refine ow_iconst X126 hx (z := (1 : Int32)) (hb hby at_309) rfl (pc' := 310) rfl ?_
          refine ow_goto X126 hx (hb hby at_310) (by decide) (pc' := 314) (by decide) ?_
          refine ow_istore X126 hx (Ls' := #[.val (.int pm), .val (.int ps), .val (.int pa), .val (.int pb), .val (.ref b1), .val (.int z3), .val (.int (1 : Int32)), .val (.int z93), .val (.ref b2), .val (.int (0 : Int32)), .val (.int (512 : Int32)), .val (.ref b2), .val (.int (0 : Int32)), .val (.int (1 : Int32)), .val (.int (1 : Int32)), .unset]) (hb hby at_314) rfl (pc' := 316) rfl ?_
          refine ow_aload X126 hx (hb hby at_316) rfl rfl (pc' := 318) rfl ?_
          refine ow_iloadN X126 hx (hb hby at_318) rfl (pc' := 319) rfl ?_
          refine ow_i2b X126 hx (hb hby at_319) (pc' := 320) rfl (fun z127 hz127 => ?_)
          have az127 : (z127.toInt - pb.toInt) % 256 = 0 ∧ -128 ≤ z127.toInt ∧ z127.toInt < 128 := by rw [hz127]; exact c_i2b pb
          have rz127 := rng32 z127
          refine ow_callV X126 hx hZ rfl hown (hw _ (List.mem_of_getElem? (i := 48) rfl)) (hw _ (List.mem_of_getElem? (i := 49) rfl)) (hw _ (List.mem_of_getElem? (i := 51) rfl)) (hw _ (List.mem_of_getElem? (i := 50) rfl)) (hw _ (List.mem_of_getElem? (i := 2) rfl)) (hw _ (List.mem_of_getElem? (i := 52) rfl)) (by decide) (rm_lbApp l Z a0 hw [] b1 z127 b2 kt_2 (512 : Int32) fr_120 (0 : Int32) T126.heap n0 Zs126 E_b1_126 F_b1_bytes_126 F_b1_length_126 V_b2_126 g_b1 P2_6 P2_4 (by first | assumption | decide | omega | (have q0_ : (0 : Int32).toInt = 0 := (by decide); have q1_ : (512 : Int32).toInt = 512 := (by decide); omega)) (by first | assumption | decide | omega | (have q0_ : (0 : Int32).toInt = 0 := (by decide); have q1_ : (512 : Int32).toInt = 512 := (by decide); omega)) (by first | assumption | decide | omega | (have q0_ : (0 : Int32).toInt = 0 := (by decide); have q1_ : (512 : Int32).toInt = 512 := (by decide); omega))) rfl 0 (by decide) (by decide) (by decide) (by decide) [(.int z127)] (by rw [hml]; rfl) pd_17 rfl E_b1_126 rfl rfl (Nat.le_of_eq rfl) (hb hby at_320) (pc' := 323) rfl (fun v128 T128 L128 hQ128 X128 => ?_)
          obtain ⟨pz_128, rfl, Nc128, Kc128, P128_0, P128_1, P128_2, P128_3, P128_4⟩ := hQ128
          have P128_4 : pz_128.toInt = (0 : Int) + 1 := P128_4
          have V_b106_128 := V_b106_126.keep Kc128 (ninS (Ne.symm ne_b1_b106) (ninS (Ne.symm ne_b2_b106) nin0))
          have E_b117_128 := E_b117_126.keep Kc128
          have F_b117_coder_128 := F_b117_coder_126.keep Kc128 (ninS (Ne.symm ne_b1_b117) (ninS (Ne.symm ne_b2_b117) nin0))
          have F_b117_value_128 := F_b117_value_126.keep Kc128 (ninS (Ne.symm ne_b1_b117) (ninS (Ne.symm ne_b2_b117) nin0))
          have V_b119_128 := V_b119_126.keep Kc128 (ninS (Ne.symm ne_b1_b119) (ninS (Ne.symm ne_b2_b119) nin0))
          have V_b126_128 := P126_0.keep Kc128 (ninS (Ne.symm ne_b1_b126) (ninS (Ne.symm ne_b2_b126) nin0))
          have Zs128 : n0 ≤ T128.heap.size := Nat.le_trans Zs126 Kc128.1
          have K128 := K126.trans Kc128 (allS (Or.inr sz_b1) (allS (Or.inr sz_b2) all0))
          have N128 := Fr.app N126 Nc128
          show Ends _ _ _ _ T128 (mkF m 323 #[.val (.int pm), .val (.int ps), .val (.int pa), .val (.int pb), .val (.ref b1), .val (.int z3), .val (.int (1 : Int32)), .val (.int z93), .val (.ref b2), .val (.int (0 : Int32)), .val (.int (512 : Int32)), .val (.ref b2), .val (.int (0 : Int32)), .val (.int (1 : Int32)), .val (.int (1 : Int32)), .unset] [])
          refine ow_aload X128 hx (hb hby at_323) rfl rfl (pc' := 325) rfl ?_
          refine ow_callVPI X128 hx hZ rfl hown (hw _ (List.mem_of_getElem? (i := 26) rfl)) (hw _ (List.mem_of_getElem? (i := 27) rfl)) (hw _ (List.mem_of_getElem? (i := 29) rfl)) (hw _ (List.mem_of_getElem? (i := 28) rfl)) (hw _ (List.mem_of_getElem? (i := 2) rfl)) (hw _ (List.mem_of_getElem? (i := 30) rfl)) (by decide) (rm_lbLen l Z a0 hw [] b1 pz_128 T128.heap P128_2) rfl 0 (by decide) (by decide) (by decide) (by decide) [] (by rw [hml]; rfl) pd_13 rfl P128_0 rfl rfl (Nat.le_of_eq rfl) (hb hby at_325) (pc' := 328) rfl (fun z129 T129 hz129 X129 e129 => ?_)
          have az129 : z129.toInt = pz_128.toInt := hz129
          have rz129 := rng32 z129
          refine ow_iconst X129 hx (z := (1 : Int32)) (hb hby at_328) rfl (pc' := 329) rfl ?_
          refine ow_icmp_ne X129 hx (z129.toInt) ((1 : Int)) (hb hby at_329) rfl rfl (by decide) (pt := 348) (by decide) (pf := 332) rfl (fun c329 => absurd c329 (by omega)) (fun c329 => ?_)
          refine ow_aload X129 hx (hb hby at_332) rfl rfl (pc' := 334) rfl ?_
          refine ow_callV X129 hx hZ rfl hown (hw _ (List.mem_of_getElem? (i := 13) rfl)) (hw _ (List.mem_of_getElem? (i := 14) rfl)) (hw _ (List.mem_of_getElem? (i := 16) rfl)) (hw _ (List.mem_of_getElem? (i := 15) rfl)) (hw _ (List.mem_of_getElem? (i := 2) rfl)) (hw _ (List.mem_of_getElem? (i := 17) rfl)) (by decide) (rm_lbBytes l Z a0 hw [] b1 b2 T128.heap P128_1) e129 0 (by decide) (by decide) (by decide) (by decide) [] (by rw [hml]; rfl) pd_16 rfl P128_0 rfl rfl (Nat.le_of_eq rfl) (hb hby at_334) (pc' := 337) rfl (fun v130 T130 L130 hQ130 X130 => ?_)
          obtain ⟨rfl, rfl, e130⟩ := hQ130
          rw [List.append_nil] at X130
          show Ends _ _ _ _ T130 (mkF m 337 #[.val (.int pm), .val (.int ps), .val (.int pa), .val (.int pb), .val (.ref b1), .val (.int z3), .val (.int (1 : Int32)), .val (.int z93), .val (.ref b2), .val (.int (0 : Int32)), .val (.int (512 : Int32)), .val (.ref b2), .val (.int (0 : Int32)), .val (.int (1 : Int32)), .val (.int (1 : Int32)), .unset] [(.ref b2)])
          refine ow_iconst X130 hx (z := (0 : Int32)) (hb hby at_337) rfl (pc' := 338) rfl ?_
          obtain ⟨x131, hx131⟩ : ∃ x : Int32, x = z127.toInt8.toInt32 := ⟨_, rfl⟩
          have ax131 := c_i2b z127
          rw [← hx131] at ax131
          refine ow_ldB X130 hx hZ e130 P128_3 (by decide) (ow_lt (show (0 : Int) < (512 : Int) from by omega)) (show (BL (upd fr_120 (0 : Int32).toInt.toNat (z127.toInt8.toInt32))).getD ((0 : Int32).toNatClampNeg) (.int (0 : Int32)) = .int x131 from by rw [hx131]; exact (BL_get _ _ (show (0 : Int32).toNatClampNeg < 65537 from by decide) _).trans (congrArg Value.int (upd_same _ _ _))) (hb hby at_338) (pc' := 339) rfl ?_
          refine ow_iloadN X130 hx (hb hby at_339) rfl (pc' := 340) rfl ?_
          refine ow_i2b X130 hx (hb hby at_340) (pc' := 341) rfl (fun z132 hz132 => ?_)
          have az132 : (z132.toInt - pb.toInt) % 256 = 0 ∧ -128 ≤ z132.toInt ∧ z132.toInt < 128 := by rw [hz132]; exact c_i2b pb
          have rz132 := rng32 z132
          refine ow_icmp_ne X130 hx (x131.toInt) (z132.toInt) (hb hby at_341) rfl rfl (by decide) (pt := 348) (by decide) (pf := 344) rfl (fun c341 => absurd c341 (by omega)) (fun c341 => ?_)
          refine ow_iconst X130 hx (z := (1 : Int32)) (hb hby at_344) rfl (pc' := 345) rfl ?_
          refine ow_goto X130 hx (hb hby at_345) (by decide) (pc' := 349) (by decide) ?_
          refine ow_istore X130 hx (Ls' := #[.val (.int pm), .val (.int ps), .val (.int pa), .val (.int pb), .val (.ref b1), .val (.int z3), .val (.int (1 : Int32)), .val (.int z93), .val (.ref b2), .val (.int (0 : Int32)), .val (.int (512 : Int32)), .val (.ref b2), .val (.int (0 : Int32)), .val (.int (1 : Int32)), .val (.int (1 : Int32)), .val (.int (1 : Int32))]) (hb hby at_349) rfl (pc' := 351) rfl ?_
          refine ow_iload X130 hx (hb hby at_351) rfl (pc' := 353) rfl ?_
          refine ow_ifN X130 hx (hb hby at_353) (by decide) (pc' := 356) rfl ?_
          refine ow_iload X130 hx (hb hby at_356) rfl (pc' := 358) rfl ?_
          refine ow_ifN X130 hx (hb hby at_358) (by decide) (pc' := 361) rfl ?_
          refine ow_iload X130 hx (hb hby at_361) rfl (pc' := 363) rfl ?_
          refine ow_ifN X130 hx (hb hby at_363) (by decide) (pc' := 366) rfl ?_
          refine ow_iconst X130 hx (z := (1 : Int32)) (hb hby at_366) rfl (pc' := 367) rfl ?_
          refine ow_goto X130 hx (hb hby at_367) (by decide) (pc' := 371) (by decide) ?_
          exact ow_retB X130 hx hret hlk (hb hby at_371) (by decide) (by decide) (z' := (1 : Int32)) rfl ⟨rfl, N128⟩
      · refine ow_iload X2 hx (hb hby at_64) rfl (pc' := 66) rfl ?_
        refine ow_newP X2 hx hZ (hw _ (List.mem_of_getElem? (i := 57) rfl)) rfl (hb hby at_66) (ow_nlt (y := (0 : Int32)) (show ¬ z93.toInt < 0 from by omega)) 65537 (show z93.toInt.toNat ≤ 65537 from by omega) (by decide) (by decide) (by decide) (pc' := 68) rfl (fun T133 h133 b133 k133 g133 X133 e133 E133 V133 => ?_)
        have ne_b1_b133 : b1 ≠ b133 := Nat.ne_of_lt (Nat.lt_of_lt_of_le P2_0.lt (Nat.le_of_eq g133.symm))
        have ne_b2_b133 : b2 ≠ b133 := Nat.ne_of_lt (Nat.lt_of_lt_of_le P2_3.lt (Nat.le_of_eq g133.symm))
        have g_b133 : n0 ≤ b133 := Nat.le_trans Zs2 (Nat.le_of_eq g133.symm)
        have sz_b133 : h0.size ≤ b133 := Nat.le_trans K2.1 (Nat.le_of_eq g133.symm)
        have E_b1_133 := P2_0.ext E133
        have F_b1_bytes_133 := P2_2.ext E133
        have F_b1_length_133 := P2_1.ext E133
        have V_b2_133 := P2_3.ext E133
        have Zs133 : n0 ≤ h133.size := Nat.le_trans Zs2 E133.1
        have K133 := K2.ext E133
        have V_b133 : Arv Z h133 b133 k133 .char z93 (BL (fun _ => 0)) (.int (0 : Int32)) := V133.pad BL_zero
        refine ow_astore X133 hx (Ls' := #[.val (.int pm), .val (.int ps), .val (.int pa), .val (.int pb), .val (.ref b1), .val (.int z3), .val (.int (1 : Int32)), .val (.int z93), .val (.ref b133), .unset, .unset, .unset, .unset, .unset, .unset, .unset]) (hb hby at_68) rfl rfl (pc' := 70) rfl ?_
        refine ow_aload X133 hx (hb hby at_70) rfl rfl (pc' := 72) rfl ?_
        refine ow_iconst X133 hx (z := (0 : Int32)) (hb hby at_72) rfl (pc' := 73) rfl ?_
        refine ow_iloadN X133 hx (hb hby at_73) rfl (pc' := 74) rfl ?_
        refine ow_bipush X133 hx (z := (127 : Int32)) (hb hby at_74) rfl (pc' := 76) rfl ?_
        refine ow_iand X133 hx (hb hby at_76) (pc' := 77) rfl (fun z134 hz134 => ?_)
        have az134 : z134.toInt = pa.toInt % 128 := by rw [hz134]; exact c_mask pa (127 : Int32) 7 (by decide) (by decide)
        have rz134 := rng32 z134
        refine ow_i2c X133 hx (hb hby at_77) (pc' := 78) rfl (fun z135 hz135 => ?_)
        have az135 : (z135.toInt - z134.toInt) % 65536 = 0 ∧ 0 ≤ z135.toInt ∧ z135.toInt < 65536 := by rw [hz135]; exact c_i2c z134
        have rz135 := rng32 z135
        refine ow_stC X133 hx hZ e133 V_b133 ((0 : Int32).toNatClampNeg) rfl (ow_nlt (y := (0 : Int32)) (show ¬ (0 : Int) < 0 from by omega)) (ow_lt (show (0 : Int) < z93.toInt from by omega)) (by rw [BL_len]; decide) (hb hby at_78) (pc' := 79) rfl (fun T136 h136 X136 e136 W136 V136 => ?_)
        have V_b133_136 : Arv Z h136 b133 k133 (.char) z93 (BL (upd (fun _ => 0) (0 : Int32).toInt.toNat (nar .char z135))) (.int (0 : Int32)) := by rw [← (show (BL (fun _ => 0)).set (0 : Int32).toNatClampNeg (.int (nar .char z135)) = BL (upd (fun _ => 0) (0 : Int32).toInt.toNat (nar .char z135)) from BL_set _ _ _)]; exact V136
        have E_b1_136 := E_b1_133.wr W136
        have F_b1_bytes_136 := F_b1_bytes_133.other W136 (Or.inl ne_b1_b133)
        have F_b1_length_136 := F_b1_length_133.other W136 (Or.inl ne_b1_b133)
        have V_b2_136 := V_b2_133.other W136 ne_b2_b133
        have Zs136 : n0 ≤ h136.size := Nat.le_trans Zs133 (Keep.of_wr W136).1
        have K136 := K133.wr W136 (Or.inr sz_b133)
        have N136 := Fr.snoc X136 N2 g_b133
        refine ow_aload X136 hx (hb hby at_79) rfl rfl (pc' := 81) rfl ?_
        refine ow_iload X136 hx (hb hby at_81) rfl (pc' := 83) rfl ?_
        refine ow_iconst X136 hx (z := (1 : Int32)) (hb hby at_83) rfl (pc' := 84) rfl ?_
        refine ow_isub X136 hx (hb hby at_84) (pc' := 85) rfl (fun z137 hz137 => ?_)
        have az137 : (z137.toInt - (z93.toInt - (1 : Int))) % 4294967296 = 0 := by rw [hz137]; exact c_isub z93 (1 : Int32)
        have rz137 := rng32 z137
        refine ow_iloadN X136 hx (hb hby at_85) rfl (pc' := 86) rfl ?_
        refine ow_bipush X136 hx (z := (127 : Int32)) (hb hby at_86) rfl (pc' := 88) rfl ?_
        refine ow_iand X136 hx (hb hby at_88) (pc' := 89) rfl (fun z138 hz138 => ?_)
        have az138 : z138.toInt = pb.toInt % 128 := by rw [hz138]; exact c_mask pb (127 : Int32) 7 (by decide) (by decide)
        have rz138 := rng32 z138
        refine ow_i2c X136 hx (hb hby at_89) (pc' := 90) rfl (fun z139 hz139 => ?_)
        have az139 : (z139.toInt - z138.toInt) % 65536 = 0 ∧ 0 ≤ z139.toInt ∧ z139.toInt < 65536 := by rw [hz139]; exact c_i2c z138
        have rz139 := rng32 z139
        refine ow_stC X136 hx hZ e136 V_b133_136 (z137.toNatClampNeg) rfl (ow_nlt (y := (0 : Int32)) (show ¬ z137.toInt < 0 from by omega)) (ow_lt (show z137.toInt < z93.toInt from by omega)) (by rw [BL_len]; show z137.toInt.toNat < 65537; omega) (hb hby at_90) (pc' := 91) rfl (fun T140 h140 X140 e140 W140 V140 => ?_)
        have V_b133_140 : Arv Z h140 b133 k133 (.char) z93 (BL (upd (upd (fun _ => 0) (0 : Int32).toInt.toNat (nar .char z135)) z137.toInt.toNat (nar .char z139))) (.int (0 : Int32)) := by rw [← (show (BL (upd (fun _ => 0) (0 : Int32).toInt.toNat (nar .char z135))).set z137.toNatClampNeg (.int (nar .char z139)) = BL (upd (upd (fun _ => 0) (0 : Int32).toInt.toNat (nar .char z135)) z137.toInt.toNat (nar .char z139)) from BL_set _ _ _)]; exact V140
        have E_b1_140 := E_b1_136.wr W140
        have F_b1_bytes_140 := F_b1_bytes_136.other W140 (Or.inl ne_b1_b133)
        have F_b1_length_140 := F_b1_length_136.other W140 (Or.inl ne_b1_b133)
        have V_b2_140 := V_b2_136.other W140 ne_b2_b133
        have Zs140 : n0 ≤ h140.size := Nat.le_trans Zs136 (Keep.of_wr W140).1
        have K140 := K136.wr W140 (Or.inr sz_b133)
        have N140 := Fr.snoc X140 N136 g_b133
        refine ow_aload X140 hx (hb hby at_91) rfl rfl (pc' := 93) rfl ?_
        refine ow_new X140 hx hZ hown (hw _ (List.mem_of_getElem? (i := 58) rfl)) (hw _ (List.mem_of_getElem? (i := 59) rfl)) (hw _ (List.mem_of_getElem? (i := 60) rfl)) e140 (hb hby at_93) (by decide) (by decide) (pc' := 96) rfl (fun T141 h141 b141 g141 X141 e141 E141 A141 D141 => ?_)
        have ne_b1_b141 : b1 ≠ b141 := Nat.ne_of_lt (Nat.lt_of_lt_of_le E_b1_140.lt (Nat.le_of_eq g141.symm))
        have ne_b2_b141 : b2 ≠ b141 := Nat.ne_of_lt (Nat.lt_of_lt_of_le V_b2_140.lt (Nat.le_of_eq g141.symm))
        have ne_b133_b141 : b133 ≠ b141 := Nat.ne_of_lt (Nat.lt_of_lt_of_le V_b133_140.lt (Nat.le_of_eq g141.symm))
        have g_b141 : n0 ≤ b141 := Nat.le_trans Zs140 (Nat.le_of_eq g141.symm)
        have sz_b141 : h0.size ≤ b141 := Nat.le_trans K140.1 (Nat.le_of_eq g141.symm)
        have E_b1_141 := E_b1_140.ext E141
        have F_b1_bytes_141 := F_b1_bytes_140.ext E141
        have F_b1_length_141 := F_b1_length_140.ext E141
        have V_b2_141 := V_b2_140.ext E141
        have V_b133_141 := V_b133_140.ext E141
        have Zs141 : n0 ≤ h141.size := Nat.le_trans Zs140 E141.1
        have K141 := K140.ext E141
        have F_b141_coder : Fld Z h141 b141 "java/lang/String" "coder" "B" (.int (0 : Int32)) := D141 (Or.inr (hw _ (List.mem_of_getElem? (i := 81) rfl))) (ty := .byte) (by decide)
        have F_b141_value : Fld Z h141 b141 "java/lang/String" "value" "[B" .null := D141 (Or.inr (hw _ (List.mem_of_getElem? (i := 83) rfl))) (ty := (.array .byte)) (by decide)
        refine ow_dup X141 hx (hb hby at_96) rfl (pc' := 97) rfl ?_
        refine ow_aload X141 hx (hb hby at_97) rfl rfl (pc' := 99) rfl ?_
        have hf142 : ∀ i : Nat, 0 ≤ ((upd (upd (fun _ => 0) (0 : Int32).toInt.toNat (nar .char z135)) z137.toInt.toNat (nar .char z139)) i).toInt ∧ ((upd (upd (fun _ => 0) (0 : Int32).toInt.toNat (nar .char z135)) z137.toInt.toNat (nar .char z139)) i).toInt ≤ 255 := (upd_rng (upd_rng (fun _ => show 0 ≤ (0 : Int32).toInt ∧ (0 : Int32).toInt ≤ 255 from by decide) (nar_c _ (by omega))) (nar_c _ (by omega)))
        refine ow_callI X141 hx hZ rfl rfl hown (hw _ (List.mem_of_getElem? (i := 61) rfl)) (hw _ (List.mem_of_getElem? (i := 62) rfl)) (hw _ (List.mem_of_getElem? (i := 60) rfl)) (hw _ (List.mem_of_getElem? (i := 63) rfl)) (by decide) (rm_sIn1 l Z a0 hw [] b141 b133 zc k133 (upd (upd (fun _ => 0) (0 : Int32).toInt.toNat (nar .char z135)) z137.toInt.toNat (nar .char z139)) z93 h141 n0 Zs141 (ow_staKeep S_cs K141 all0) A141 F_b141_coder F_b141_value V_b133_141 g_b141 (Ne.symm ne_b133_b141) (by first | assumption | decide | omega) (by first | assumption | decide | omega) (by first | assumption | decide | omega) (by first | assumption | decide | omega)) e141 2 (by decide) (by decide) (by decide) (by decide) [(.ref b133)] (by rw [hml]; rfl) pd_18 rfl rfl rfl (Nat.le_of_eq rfl) (hb hby at_99) (pc' := 102) rfl (fun v143 T143 L143 hQ143 X143 => ?_)
        obtain ⟨b143, kt_143, fr_143, rfl, Nc143, Kc143, P143_0, P143_1, P143_2, P143_3, P143_4, P143_5, P143_6⟩ := hQ143
        have E_b1_143 := E_b1_141.keep Kc143
        have F_b1_bytes_143 := F_b1_bytes_141.keep Kc143 (ninS ne_b1_b141 nin0)
        have F_b1_length_143 := F_b1_length_141.keep Kc143 (ninS ne_b1_b141 nin0)
        have V_b2_143 := V_b2_141.keep Kc143 (ninS ne_b2_b141 nin0)
        have V_b133_143 := V_b133_141.keep Kc143 (ninS ne_b133_b141 nin0)
        have ne_b1_b143 : b1 ≠ b143 := Nat.ne_of_lt (Nat.lt_of_lt_of_le E_b1_141.lt P143_5)
        have ne_b2_b143 : b2 ≠ b143 := Nat.ne_of_lt (Nat.lt_of_lt_of_le V_b2_141.lt P143_5)
        have ne_b133_b143 : b133 ≠ b143 := Nat.ne_of_lt (Nat.lt_of_lt_of_le V_b133_141.lt P143_5)
        have ne_b141_b143 : b141 ≠ b143 := Nat.ne_of_lt (Nat.lt_of_lt_of_le A141.lt P143_5)
        have sz_b143 : h0.size ≤ b143 := Nat.le_trans K141.1 P143_5
        have Zs143 : n0 ≤ T143.heap.size := Nat.le_trans Zs141 Kc143.1
        have K143 := K141.trans Kc143 (allS (Or.inr sz_b141) all0)
        have N143 := Fr.app N140 Nc143
        show Ends _ _ _ _ T143 (mkF m 102 #[.val (.int pm), .val (.int ps), .val (.int pa), .val (.int pb), .val (.ref b1), .val (.int z3), .val (.int (1 : Int32)), .val (.int z93), .val (.ref b133), .unset, .unset, .unset, .unset, .unset, .unset, .unset] [(.ref b141), (.ref b1)])
        refine ow_callV X143 hx hZ rfl hown (hw _ (List.mem_of_getElem? (i := 84) rfl)) (hw _ (List.mem_of_getElem? (i := 85) rfl)) (hw _ (List.mem_of_getElem? (i := 87) rfl)) (hw _ (List.mem_of_getElem? (i := 86) rfl)) (hw _ (List.mem_of_getElem? (i := 2) rfl)) (hw _ (List.mem_of_getElem? (i := 88) rfl)) (by decide) (rm_apB l Z a0 hw [] b1 b141 zc wf b2 kt_2 fr_2 b143 kt_143 z93 fr_143 T143.heap n0 Zs143 (ow_staKeep S_cs K143 all0) (ow_staKeep S_f K143 all0) (by first | assumption | decide | omega) (by first | assumption | decide | omega) E_b1_143 F_b1_bytes_143 F_b1_length_143 V_b2_143 P143_0 P143_1 P143_2 P143_3 g_b1 P2_4 P2_6 ne_b1_b141 ne_b1_b143 ne_b2_b141 ne_b2_b143 (by first | assumption | decide | omega) (by first | assumption | decide | omega)) rfl 0 (by decide) (by decide) (by decide) (by decide) [(.ref b141)] (by rw [hml]; rfl) pd_19 rfl E_b1_143 rfl rfl (Nat.le_of_eq rfl) (hb hby at_102) (pc' := 105) rfl (fun v144 T144 L144 hQ144 X144 => ?_)
        obtain ⟨pz_144, b144a, kt_144, fr_144, rfl, Nc144, Kc144, P144_0, P144_1, P144_2, P144_3, P144_4, P144_5, P144_6⟩ := hQ144
        have V_b2_144 := V_b2_143.keep Kc144 (ninS (Ne.symm P2_6) nin0)
        have V_b133_144 := V_b133_143.keep Kc144 (ninS (Ne.symm ne_b1_b133) nin0)
        have E_b141_144 := P143_0.keep Kc144
        have F_b141_coder_144 := P143_1.keep Kc144 (ninS (Ne.symm ne_b1_b141) nin0)
        have F_b141_value_144 := P143_2.keep Kc144 (ninS (Ne.symm ne_b1_b141) nin0)
        have V_b143_144 := P143_3.keep Kc144 (ninS (Ne.symm ne_b1_b143) nin0)
        have ne_b1_b144a : b1 ≠ b144a := Nat.ne_of_lt (Nat.lt_of_lt_of_le E_b1_143.lt P144_5)
        have ne_b2_b144a : b2 ≠ b144a := Nat.ne_of_lt (Nat.lt_of_lt_of_le V_b2_143.lt P144_5)
        have ne_b133_b144a : b133 ≠ b144a := Nat.ne_of_lt (Nat.lt_of_lt_of_le V_b133_143.lt P144_5)
        have ne_b141_b144a : b141 ≠ b144a := Nat.ne_of_lt (Nat.lt_of_lt_of_le P143_0.lt P144_5)
        have ne_b143_b144a : b143 ≠ b144a := Nat.ne_of_lt (Nat.lt_of_lt_of_le P143_3.lt P144_5)
        have sz_b144a : h0.size ≤ b144a := Nat.le_trans K143.1 P144_5
        have Zs144 : n0 ≤ T144.heap.size := Nat.le_trans Zs143 Kc144.1
        have K144 := K143.trans Kc144 (allS (Or.inr sz_b1) all0)
        have N144 := Fr.app N143 Nc144
        show Ends _ _ _ _ T144 (mkF m 105 #[.val (.int pm), .val (.int ps), .val (.int pa), .val (.int pb), .val (.ref b1), .val (.int z3), .val (.int (1 : Int32)), .val (.int z93), .val (.ref b133), .unset, .unset, .unset, .unset, .unset, .unset, .unset] [])
        refine ow_goto X144 hx (hb hby at_105) (by decide) (pc' := 163) (by decide) ?_
        refine ow_aload X144 hx (hb hby at_163) rfl rfl (pc' := 165) rfl ?_
        refine ow_callV X144 hx hZ rfl hown (hw _ (List.mem_of_getElem? (i := 13) rfl)) (hw _ (List.mem_of_getElem? (i := 14) rfl)) (hw _ (List.mem_of_getElem? (i := 16) rfl)) (hw _ (List.mem_of_getElem? (i := 15) rfl)) (hw _ (List.mem_of_getElem? (i := 2) rfl)) (hw _ (List.mem_of_getElem? (i := 17) rfl)) (by decide) (rm_lbBytes l Z a0 hw [] b1 b144a T144.heap P144_2) rfl 0 (by decide) (by decide) (by decide) (by decide) [] (by rw [hml]; rfl) pd_16 rfl P144_0 rfl rfl (Nat.le_of_eq rfl) (hb hby at_165) (pc' := 168) rfl (fun v145 T145 L145 hQ145 X145 => ?_)
        obtain ⟨rfl, rfl, e145⟩ := hQ145
        rw [List.append_nil] at X145
        show Ends _ _ _ _ T145 (mkF m 168 #[.val (.int pm), .val (.int ps), .val (.int pa), .val (.int pb), .val (.ref b1), .val (.int z3), .val (.int (1 : Int32)), .val (.int z93), .val (.ref b133), .unset, .unset, .unset, .unset, .unset, .unset, .unset] [(.ref b144a)])
        refine ow_astore X145 hx (Ls' := #[.val (.int pm), .val (.int ps), .val (.int pa), .val (.int pb), .val (.ref b1), .val (.int z3), .val (.int (1 : Int32)), .val (.int z93), .val (.ref b144a), .unset, .unset, .unset, .unset, .unset, .unset, .unset]) (hb hby at_168) rfl rfl (pc' := 170) rfl ?_
        refine ow_iload X145 hx (hb hby at_170) rfl (pc' := 172) rfl ?_
        refine ow_iconst X145 hx (z := (2 : Int32)) (hb hby at_172) rfl (pc' := 173) rfl ?_
        refine ow_icmp_ne X145 hx (z3.toInt) ((2 : Int)) (hb hby at_173) rfl rfl (by decide) (pt := 180) (by decide) (pf := 176) rfl (fun c173 => absurd c173 (by omega)) (fun c173 => ?_)
        refine ow_iconst X145 hx (z := (1 : Int32)) (hb hby at_176) rfl (pc' := 177) rfl ?_
        refine ow_goto X145 hx (hb hby at_177) (by decide) (pc' := 181) (by decide) ?_
        refine ow_istore X145 hx (Ls' := #[.val (.int pm), .val (.int ps), .val (.int pa), .val (.int pb), .val (.ref b1), .val (.int z3), .val (.int (1 : Int32)), .val (.int z93), .val (.ref b144a), .val (.int (1 : Int32)), .unset, .unset, .unset, .unset, .unset, .unset]) (hb hby at_181) rfl (pc' := 183) rfl ?_
        refine ow_iload X145 hx (hb hby at_183) rfl (pc' := 185) rfl ?_
        refine ow_ifN X145 hx (hb hby at_185) (by decide) (pc' := 188) rfl ?_
        refine ow_iload X145 hx (hb hby at_188) rfl (pc' := 190) rfl ?_
        refine ow_goto X145 hx (hb hby at_190) (by decide) (pc' := 196) (by decide) ?_
        refine ow_istore X145 hx (Ls' := #[.val (.int pm), .val (.int ps), .val (.int pa), .val (.int pb), .val (.ref b1), .val (.int z3), .val (.int (1 : Int32)), .val (.int z93), .val (.ref b144a), .val (.int (1 : Int32)), .val (.int z93), .unset, .unset, .unset, .unset, .unset]) (hb hby at_196) rfl (pc' := 198) rfl ?_
        refine ow_aload X145 hx (hb hby at_198) rfl rfl (pc' := 200) rfl ?_
        refine ow_len X145 hx hZ e145 P144_3 (hb hby at_200) (pc' := 201) rfl ?_
        refine ow_iload X145 hx (hb hby at_201) rfl (pc' := 203) rfl ?_
        refine ow_icmp_eq X145 hx (z93.toInt) (z93.toInt) (hb hby at_203) rfl rfl (by decide) (pt := 208) (by decide) (pf := 206) rfl (fun c203 => ?_) (fun c203 => absurd c203 (by omega))
        rcases (show z93.toInt ≤ 65536 ∨ 65536 < z93.toInt from by omega) with hbig | hbig
        · refine ow_aload X145 hx (hb hby at_208) rfl rfl (pc' := 210) rfl ?_
          refine ow_callV X145 hx hZ rfl hown (hw _ (List.mem_of_getElem? (i := 18) rfl)) (hw _ (List.mem_of_getElem? (i := 19) rfl)) (hw _ (List.mem_of_getElem? (i := 21) rfl)) (hw _ (List.mem_of_getElem? (i := 20) rfl)) (hw _ (List.mem_of_getElem? (i := 2) rfl)) (hw _ (List.mem_of_getElem? (i := 22) rfl)) (by decide) (rm_clrA l Z a0 hw [] b1 b144a kt_144 z93 fr_144 pz_144 T144.heap n0 Zs144 P144_0 P144_2 P144_1 P144_3 g_b1 P144_6 (by first | assumption | decide | omega)) e145 0 (by decide) (by decide) (by decide) (by decide) [] (by rw [hml]; rfl) pd_15 rfl P144_0 rfl rfl (Nat.le_of_eq rfl) (hb hby at_210) (pc' := 213) rfl (fun v146 T146 L146 hQ146 X146 => ?_)
          obtain ⟨rfl, Nc146, Kc146, P146_0, P146_1, P146_2⟩ := hQ146
          have V_b2_146 := V_b2_144.keep Kc146 (ninS (Ne.symm P2_6) nin0)
          have V_b133_146 := V_b133_144.keep Kc146 (ninS (Ne.symm ne_b1_b133) nin0)
          have E_b141_146 := E_b141_144.keep Kc146
          have F_b141_coder_146 := F_b141_coder_144.keep Kc146 (ninS (Ne.symm ne_b1_b141) nin0)
          have F_b141_value_146 := F_b141_value_144.keep Kc146 (ninS (Ne.symm ne_b1_b141) nin0)
          have V_b143_146 := V_b143_144.keep Kc146 (ninS (Ne.symm ne_b1_b143) nin0)
          have V_b144a_146 := P144_3.keep Kc146 (ninS (Ne.symm P144_6) nin0)
          have Zs146 : n0 ≤ T146.heap.size := Nat.le_trans Zs144 Kc146.1
          have K146 := K144.trans Kc146 (allS (Or.inr sz_b1) all0)
          have N146 := Fr.app N144 Nc146
          show Ends _ _ _ _ T146 (mkF m 213 #[.val (.int pm), .val (.int ps), .val (.int pa), .val (.int pb), .val (.ref b1), .val (.int z3), .val (.int (1 : Int32)), .val (.int z93), .val (.ref b144a), .val (.int (1 : Int32)), .val (.int z93), .unset, .unset, .unset, .unset, .unset] [])
          refine ow_iload X146 hx (hb hby at_213) rfl (pc' := 215) rfl ?_
          refine ow_ifN X146 hx (hb hby at_215) (by decide) (pc' := 218) rfl ?_
          refine ow_aload X146 hx (hb hby at_218) rfl rfl (pc' := 220) rfl ?_
          refine ow_callV X146 hx hZ rfl hown (hw _ (List.mem_of_getElem? (i := 18) rfl)) (hw _ (List.mem_of_getElem? (i := 19) rfl)) (hw _ (List.mem_of_getElem? (i := 21) rfl)) (hw _ (List.mem_of_getElem? (i := 20) rfl)) (hw _ (List.mem_of_getElem? (i := 2) rfl)) (hw _ (List.mem_of_getElem? (i := 22) rfl)) (by decide) (rm_clrA l Z a0 hw [] b1 b144a kt_144 z93 fr_144 (0 : Int32) T146.heap n0 Zs146 P146_0 P146_2 P146_1 V_b144a_146 g_b1 P144_6 (by first | assumption | decide | omega | (have q0_ : (0 : Int32).toInt = 0 := (by decide); omega))) rfl 0 (by decide) (by decide) (by decide) (by decide) [] (by rw [hml]; rfl) pd_15 rfl P146_0 rfl rfl (Nat.le_of_eq rfl) (hb hby at_220) (pc' := 223) rfl (fun v147 T147 L147 hQ147 X147 => ?_)
          obtain ⟨rfl, Nc147, Kc147, P147_0, P147_1, P147_2⟩ := hQ147
          have V_b2_147 := V_b2_146.keep Kc147 (ninS (Ne.symm P2_6) nin0)
          have V_b133_147 := V_b133_146.keep Kc147 (ninS (Ne.symm ne_b1_b133) nin0)
          have E_b141_147 := E_b141_146.keep Kc147
          have F_b141_coder_147 := F_b141_coder_146.keep Kc147 (ninS (Ne.symm ne_b1_b141) nin0)
          have F_b141_value_147 := F_b141_value_146.keep Kc147 (ninS (Ne.symm ne_b1_b141) nin0)
          have V_b143_147 := V_b143_146.keep Kc147 (ninS (Ne.symm ne_b1_b143) nin0)
          have V_b144a_147 := V_b144a_146.keep Kc147 (ninS (Ne.symm P144_6) nin0)
          have Zs147 : n0 ≤ T147.heap.size := Nat.le_trans Zs146 Kc147.1
          have K147 := K146.trans Kc147 (allS (Or.inr sz_b1) all0)
          have N147 := Fr.app N146 Nc147
          show Ends _ _ _ _ T147 (mkF m 223 #[.val (.int pm), .val (.int ps), .val (.int pa), .val (.int pb), .val (.ref b1), .val (.int z3), .val (.int (1 : Int32)), .val (.int z93), .val (.ref b144a), .val (.int (1 : Int32)), .val (.int z93), .unset, .unset, .unset, .unset, .unset] [])
          refine ow_aload X147 hx (hb hby at_223) rfl rfl (pc' := 225) rfl ?_
          refine ow_callV X147 hx hZ rfl hown (hw _ (List.mem_of_getElem? (i := 13) rfl)) (hw _ (List.mem_of_getElem? (i := 14) rfl)) (hw _ (List.mem_of_getElem? (i := 16) rfl)) (hw _ (List.mem_of_getElem? (i := 15) rfl)) (hw _ (List.mem_of_getElem? (i := 2) rfl)) (hw _ (List.mem_of_getElem? (i := 17) rfl)) (by decide) (rm_lbBytes l Z a0 hw [] b1 b144a T147.heap P147_2) rfl 0 (by decide) (by decide) (by decide) (by decide) [] (by rw [hml]; rfl) pd_16 rfl P147_0 rfl rfl (Nat.le_of_eq rfl) (hb hby at_225) (pc' := 228) rfl (fun v148 T148 L148 hQ148 X148 => ?_)
          obtain ⟨rfl, rfl, e148⟩ := hQ148
          rw [List.append_nil] at X148
          show Ends _ _ _ _ T148 (mkF m 228 #[.val (.int pm), .val (.int ps), .val (.int pa), .val (.int pb), .val (.ref b1), .val (.int z3), .val (.int (1 : Int32)), .val (.int z93), .val (.ref b144a), .val (.int (1 : Int32)), .val (.int z93), .unset, .unset, .unset, .unset, .unset] [(.ref b144a)])
          refine ow_astore X148 hx (Ls' := #[.val (.int pm), .val (.int ps), .val (.int pa), .val (.int pb), .val (.ref b1), .val (.int z3), .val (.int (1 : Int32)), .val (.int z93), .val (.ref b144a), .val (.int (1 : Int32)), .val (.int z93), .val (.ref b144a), .unset, .unset, .unset, .unset]) (hb hby at_228) rfl rfl (pc' := 230) rfl ?_
          refine ow_iload X148 hx (hb hby at_230) rfl (pc' := 232) rfl ?_
          refine ow_ifN X148 hx (hb hby at_232) (by decide) (pc' := 235) rfl ?_
          refine ow_iload X148 hx (hb hby at_235) rfl (pc' := 237) rfl ?_
          refine ow_ldcInt X148 hx hZ hown (hw _ (List.mem_of_getElem? (i := 129) rfl)) (hb hby at_237) (pc' := 239) rfl ?_
          refine ow_icmp_le X148 hx (z93.toInt) ((65536 : Int)) (hb hby at_239) rfl rfl (by decide) (pt := 246) (by decide) (pf := 242) rfl (fun c239 => ?_) (fun c239 => absurd c239 (by omega))
          refine ow_iconst X148 hx (z := (0 : Int32)) (hb hby at_246) rfl (pc' := 247) rfl ?_
          refine ow_istore X148 hx (Ls' := #[.val (.int pm), .val (.int ps), .val (.int pa), .val (.int pb), .val (.ref b1), .val (.int z3), .val (.int (1 : Int32)), .val (.int z93), .val (.ref b144a), .val (.int (1 : Int32)), .val (.int z93), .val (.ref b144a), .val (.int (0 : Int32)), .unset, .unset, .unset]) (hb hby at_247) rfl (pc' := 249) rfl ?_
          refine ow_iload X148 hx (hb hby at_249) rfl (pc' := 251) rfl ?_
          refine ow_ifY X148 hx (hb hby at_251) (by decide) (by decide) (pc' := 278) (by decide) ?_
          refine ow_aload X148 hx (hb hby at_278) rfl rfl (pc' := 280) rfl ?_
          refine ow_aload X148 hx (hb hby at_280) rfl rfl (pc' := 282) rfl ?_
          refine ow_acmp X148 hx rfl rfl (same := true) (hb hby at_282) (decide_eq_true rfl) (by decide) (pc' := 285) rfl ?_
          refine ow_iconst X148 hx (z := (1 : Int32)) (hb hby at_285) rfl (pc' := 286) rfl ?_
          refine ow_goto X148 hx (hb hby at_286) (by decide) (pc' := 290) (by decide) ?_
          refine ow_istore X148 hx (Ls' := #[.val (.int pm), .val (.int ps), .val (.int pa), .val (.int pb), .val (.ref b1), .val (.int z3), .val (.int (1 : Int32)), .val (.int z93), .val (.ref b144a), .val (.int (1 : Int32)), .val (.int z93), .val (.ref b144a), .val (.int (0 : Int32)), .val (.int (1 : Int32)), .unset, .unset]) (hb hby at_290) rfl (pc' := 292) rfl ?_
          refine ow_aload X148 hx (hb hby at_292) rfl rfl (pc' := 294) rfl ?_
          refine ow_callVPI X148 hx hZ rfl hown (hw _ (List.mem_of_getElem? (i := 26) rfl)) (hw _ (List.mem_of_getElem? (i := 27) rfl)) (hw _ (List.mem_of_getElem? (i := 29) rfl)) (hw _ (List.mem_of_getElem? (i := 28) rfl)) (hw _ (List.mem_of_getElem? (i := 2) rfl)) (hw _ (List.mem_of_getElem? (i := 30) rfl)) (by decide) (rm_lbLen l Z a0 hw [] b1 (0 : Int32) T147.heap P147_1) e148 0 (by decide) (by decide) (by decide) (by decide) [] (by rw [hml]; rfl) pd_13 rfl P147_0 rfl rfl (Nat.le_of_eq rfl) (hb hby at_294) (pc' := 297) rfl (fun z149 T149 hz149 X149 e149 => ?_)
          have az149 : z149.toInt = (0 : Int) := hz149
          have rz149 := rng32 z149
          refine ow_if_ne X149 hx (z149.toInt) (hb hby at_297) rfl (by decide) (pt := 313) (by decide) (pf := 300) rfl (fun c297 => absurd c297 (by omega)) (fun c297 => ?_)
          refine ow_aload X149 hx (hb hby at_300) rfl rfl (pc' := 302) rfl ?_
          refine ow_callV X149 hx hZ rfl hown (hw _ (List.mem_of_getElem? (i := 31) rfl)) (hw _ (List.mem_of_getElem? (i := 32) rfl)) (hw _ (List.mem_of_getElem? (i := 34) rfl)) (hw _ (List.mem_of_getElem? (i := 33) rfl)) (hw _ (List.mem_of_getElem? (i := 2) rfl)) (hw _ (List.mem_of_getElem? (i := 35) rfl)) (by decide) (rm_toBA l Z a0 hw [] b1 b144a kt_144 z93 fr_144 T147.heap n0 Zs147 P147_2 P147_1 V_b144a_147 (by first | assumption | decide | omega) (by first | assumption | decide | omega)) e149 0 (by decide) (by decide) (by decide) (by decide) [] (by rw [hml]; rfl) pd_16 rfl P147_0 rfl rfl (Nat.le_of_eq rfl) (hb hby at_302) (pc' := 305) rfl (fun v150 T150 L150 hQ150 X150 => ?_)
          obtain ⟨b150, kt_150, fr_150, rfl, Nc150, Kc150, P150_0, P150_1, P150_2⟩ := hQ150
          have E_b1_150 := P147_0.keep Kc150
          have F_b1_bytes_150 := P147_2.keep Kc150 nin0
          have F_b1_length_150 := P147_1.keep Kc150 nin0
          have V_b2_150 := V_b2_147.keep Kc150 nin0
          have V_b133_150 := V_b133_147.keep Kc150 nin0
          have E_b141_150 := E_b141_147.keep Kc150
          have F_b141_coder_150 := F_b141_coder_147.keep Kc150 nin0
          have F_b141_value_150 := F_b141_value_147.keep Kc150 nin0
          have V_b143_150 := V_b143_147.keep Kc150 nin0
          have V_b144a_150 := V_b144a_147.keep Kc150 nin0
          have ne_b1_b150 : b1 ≠ b150 := Nat.ne_of_lt (Nat.lt_of_lt_of_le P147_0.lt P150_2)
          have ne_b2_b150 : b2 ≠ b150 := Nat.ne_of_lt (Nat.lt_of_lt_of_le V_b2_147.lt P150_2)
          have ne_b133_b150 : b133 ≠ b150 := Nat.ne_of_lt (Nat.lt_of_lt_of_le V_b133_147.lt P150_2)
          have ne_b141_b150 : b141 ≠ b150 := Nat.ne_of_lt (Nat.lt_of_lt_of_le E_b141_147.lt P150_2)
          have ne_b143_b150 : b143 ≠ b150 := Nat.ne_of_lt (Nat.lt_of_lt_of_le V_b143_147.lt P150_2)
          have ne_b144a_b150 : b144a ≠ b150 := Nat.ne_of_lt (Nat.lt_of_lt_of_le V_b144a_147.lt P150_2)
          have sz_b150 : h0.size ≤ b150 := Nat.le_trans K147.1 P150_2
          have Zs150 : n0 ≤ T150.heap.size := Nat.le_trans Zs147 Kc150.1
          have K150 := K147.trans Kc150 all0
          have N150 := Fr.app N147 Nc150
          show Ends _ _ _ _ T150 (mkF m 305 #[.val (.int pm), .val (.int ps), .val (.int pa), .val (.int pb), .val (.ref b1), .val (.int z3), .val (.int (1 : Int32)), .val (.int z93), .val (.ref b144a), .val (.int (1 : Int32)), .val (.int z93), .val (.ref b144a), .val (.int (0 : Int32)), .val (.int (1 : Int32)), .unset, .unset] [(.ref b150)])
          refine ow_len X150 hx hZ rfl P150_0 (hb hby at_305) (pc' := 306) rfl ?_
          refine ow_ifN X150 hx (hb hby at_306) (by decide) (pc' := 309) rfl ?_
          refine ow_iconst X150 hx (z := (1 : Int32)) (hb hby at_309) rfl (pc' := 310) rfl ?_
          refine ow_goto X150 hx (hb hby at_310) (by decide) (pc' := 314) (by decide) ?_
          refine ow_istore X150 hx (Ls' := #[.val (.int pm), .val (.int ps), .val (.int pa), .val (.int pb), .val (.ref b1), .val (.int z3), .val (.int (1 : Int32)), .val (.int z93), .val (.ref b144a), .val (.int (1 : Int32)), .val (.int z93), .val (.ref b144a), .val (.int (0 : Int32)), .val (.int (1 : Int32)), .val (.int (1 : Int32)), .unset]) (hb hby at_314) rfl (pc' := 316) rfl ?_
          refine ow_aload X150 hx (hb hby at_316) rfl rfl (pc' := 318) rfl ?_
          refine ow_iloadN X150 hx (hb hby at_318) rfl (pc' := 319) rfl ?_
          refine ow_i2b X150 hx (hb hby at_319) (pc' := 320) rfl (fun z151 hz151 => ?_)
          have az151 : (z151.toInt - pb.toInt) % 256 = 0 ∧ -128 ≤ z151.toInt ∧ z151.toInt < 128 := by rw [hz151]; exact c_i2b pb
          have rz151 := rng32 z151
          refine ow_callV X150 hx hZ rfl hown (hw _ (List.mem_of_getElem? (i := 48) rfl)) (hw _ (List.mem_of_getElem? (i := 49) rfl)) (hw _ (List.mem_of_getElem? (i := 51) rfl)) (hw _ (List.mem_of_getElem? (i := 50) rfl)) (hw _ (List.mem_of_getElem? (i := 2) rfl)) (hw _ (List.mem_of_getElem? (i := 52) rfl)) (by decide) (rm_lbApp l Z a0 hw [] b1 z151 b144a kt_144 z93 fr_144 (0 : Int32) T150.heap n0 Zs150 E_b1_150 F_b1_bytes_150 F_b1_length_150 V_b144a_150 g_b1 P144_6 P144_4 (by first | assumption | decide | omega | (have q0_ : (0 : Int32).toInt = 0 := (by decide); omega)) (by first | assumption | decide | omega | (have q0_ : (0 : Int32).toInt = 0 := (by decide); omega)) (by first | assumption | decide | omega | (have q0_ : (0 : Int32).toInt = 0 := (by decide); omega))) rfl 0 (by decide) (by decide) (by decide) (by decide) [(.int z151)] (by rw [hml]; rfl) pd_17 rfl E_b1_150 rfl rfl (Nat.le_of_eq rfl) (hb hby at_320) (pc' := 323) rfl (fun v152 T152 L152 hQ152 X152 => ?_)
          obtain ⟨pz_152, rfl, Nc152, Kc152, P152_0, P152_1, P152_2, P152_3, P152_4⟩ := hQ152
          have P152_4 : pz_152.toInt = (0 : Int) + 1 := P152_4
          have V_b2_152 := V_b2_150.keep Kc152 (ninS (Ne.symm P2_6) (ninS ne_b2_b144a nin0))
          have V_b133_152 := V_b133_150.keep Kc152 (ninS (Ne.symm ne_b1_b133) (ninS ne_b133_b144a nin0))
          have E_b141_152 := E_b141_150.keep Kc152
          have F_b141_coder_152 := F_b141_coder_150.keep Kc152 (ninS (Ne.symm ne_b1_b141) (ninS ne_b141_b144a nin0))
          have F_b141_value_152 := F_b141_value_150.keep Kc152 (ninS (Ne.symm ne_b1_b141) (ninS ne_b141_b144a nin0))
          have V_b143_152 := V_b143_150.keep Kc152 (ninS (Ne.symm ne_b1_b143) (ninS ne_b143_b144a nin0))
          have V_b150_152 := P150_0.keep Kc152 (ninS (Ne.symm ne_b1_b150) (ninS (Ne.symm ne_b144a_b150) nin0))
          have Zs152 : n0 ≤ T152.heap.size := Nat.le_trans Zs150 Kc152.1
          have K152 := K150.trans Kc152 (allS (Or.inr sz_b1) (allS (Or.inr sz_b144a) all0))
          have N152 := Fr.app N150 Nc152
          show Ends _ _ _ _ T152 (mkF m 323 #[.val (.int pm), .val (.int ps), .val (.int pa), .val (.int pb), .val (.ref b1), .val (.int z3), .val (.int (1 : Int32)), .val (.int z93), .val (.ref b144a), .val (.int (1 : Int32)), .val (.int z93), .val (.ref b144a), .val (.int (0 : Int32)), .val (.int (1 : Int32)), .val (.int (1 : Int32)), .unset] [])
          refine ow_aload X152 hx (hb hby at_323) rfl rfl (pc' := 325) rfl ?_
          refine ow_callVPI X152 hx hZ rfl hown (hw _ (List.mem_of_getElem? (i := 26) rfl)) (hw _ (List.mem_of_getElem? (i := 27) rfl)) (hw _ (List.mem_of_getElem? (i := 29) rfl)) (hw _ (List.mem_of_getElem? (i := 28) rfl)) (hw _ (List.mem_of_getElem? (i := 2) rfl)) (hw _ (List.mem_of_getElem? (i := 30) rfl)) (by decide) (rm_lbLen l Z a0 hw [] b1 pz_152 T152.heap P152_2) rfl 0 (by decide) (by decide) (by decide) (by decide) [] (by rw [hml]; rfl) pd_13 rfl P152_0 rfl rfl (Nat.le_of_eq rfl) (hb hby at_325) (pc' := 328) rfl (fun z153 T153 hz153 X153 e153 => ?_)
          have az153 : z153.toInt = pz_152.toInt := hz153
          have rz153 := rng32 z153
          refine ow_iconst X153 hx (z := (1 : Int32)) (hb hby at_328) rfl (pc' := 329) rfl ?_
          refine ow_icmp_ne X153 hx (z153.toInt) ((1 : Int)) (hb hby at_329) rfl rfl (by decide) (pt := 348) (by decide) (pf := 332) rfl (fun c329 => absurd c329 (by omega)) (fun c329 => ?_)
          refine ow_aload X153 hx (hb hby at_332) rfl rfl (pc' := 334) rfl ?_
          refine ow_callV X153 hx hZ rfl hown (hw _ (List.mem_of_getElem? (i := 13) rfl)) (hw _ (List.mem_of_getElem? (i := 14) rfl)) (hw _ (List.mem_of_getElem? (i := 16) rfl)) (hw _ (List.mem_of_getElem? (i := 15) rfl)) (hw _ (List.mem_of_getElem? (i := 2) rfl)) (hw _ (List.mem_of_getElem? (i := 17) rfl)) (by decide) (rm_lbBytes l Z a0 hw [] b1 b144a T152.heap P152_1) e153 0 (by decide) (by decide) (by decide) (by decide) [] (by rw [hml]; rfl) pd_16 rfl P152_0 rfl rfl (Nat.le_of_eq rfl) (hb hby at_334) (pc' := 337) rfl (fun v154 T154 L154 hQ154 X154 => ?_)
          obtain ⟨rfl, rfl, e154⟩ := hQ154
          rw [List.append_nil] at X154
          show Ends _ _ _ _ T154 (mkF m 337 #[.val (.int pm), .val (.int ps), .val (.int pa), .val (.int pb), .val (.ref b1), .val (.int z3), .val (.int (1 : Int32)), .val (.int z93), .val (.ref b144a), .val (.int (1 : Int32)), .val (.int z93), .val (.ref b144a), .val (.int (0 : Int32)), .val (.int (1 : Int32)), .val (.int (1 : Int32)), .unset] [(.ref b144a)])
          refine ow_iconst X154 hx (z := (0 : Int32)) (hb hby at_337) rfl (pc' := 338) rfl ?_
          obtain ⟨x155, hx155⟩ : ∃ x : Int32, x = z151.toInt8.toInt32 := ⟨_, rfl⟩
          have ax155 := c_i2b z151
          rw [← hx155] at ax155
          refine ow_ldB X154 hx hZ e154 P152_3 (by decide) (ow_lt (show (0 : Int) < z93.toInt from by omega)) (show (BL (upd fr_144 (0 : Int32).toInt.toNat (z151.toInt8.toInt32))).getD ((0 : Int32).toNatClampNeg) (.int (0 : Int32)) = .int x155 from by rw [hx155]; exact (BL_get _ _ (show (0 : Int32).toNatClampNeg < 65537 from by decide) _).trans (congrArg Value.int (upd_same _ _ _))) (hb hby at_338) (pc' := 339) rfl ?_
          refine ow_iloadN X154 hx (hb hby at_339) rfl (pc' := 340) rfl ?_
          refine ow_i2b X154 hx (hb hby at_340) (pc' := 341) rfl (fun z156 hz156 => ?_)
          have az156 : (z156.toInt - pb.toInt) % 256 = 0 ∧ -128 ≤ z156.toInt ∧ z156.toInt < 128 := by rw [hz156]; exact c_i2b pb
          have rz156 := rng32 z156
          refine ow_icmp_ne X154 hx (x155.toInt) (z156.toInt) (hb hby at_341) rfl rfl (by decide) (pt := 348) (by decide) (pf := 344) rfl (fun c341 => absurd c341 (by omega)) (fun c341 => ?_)
          refine ow_iconst X154 hx (z := (1 : Int32)) (hb hby at_344) rfl (pc' := 345) rfl ?_
          refine ow_goto X154 hx (hb hby at_345) (by decide) (pc' := 349) (by decide) ?_
          refine ow_istore X154 hx (Ls' := #[.val (.int pm), .val (.int ps), .val (.int pa), .val (.int pb), .val (.ref b1), .val (.int z3), .val (.int (1 : Int32)), .val (.int z93), .val (.ref b144a), .val (.int (1 : Int32)), .val (.int z93), .val (.ref b144a), .val (.int (0 : Int32)), .val (.int (1 : Int32)), .val (.int (1 : Int32)), .val (.int (1 : Int32))]) (hb hby at_349) rfl (pc' := 351) rfl ?_
          refine ow_iload X154 hx (hb hby at_351) rfl (pc' := 353) rfl ?_
          refine ow_ifN X154 hx (hb hby at_353) (by decide) (pc' := 356) rfl ?_
          refine ow_iload X154 hx (hb hby at_356) rfl (pc' := 358) rfl ?_
          refine ow_ifN X154 hx (hb hby at_358) (by decide) (pc' := 361) rfl ?_
          refine ow_iload X154 hx (hb hby at_361) rfl (pc' := 363) rfl ?_
          refine ow_ifN X154 hx (hb hby at_363) (by decide) (pc' := 366) rfl ?_
          refine ow_iconst X154 hx (z := (1 : Int32)) (hb hby at_366) rfl (pc' := 367) rfl ?_
          refine ow_goto X154 hx (hb hby at_367) (by decide) (pc' := 371) (by decide) ?_
          exact ow_retB X154 hx hret hlk (hb hby at_371) (by decide) (by decide) (z' := (1 : Int32)) rfl ⟨rfl, N152⟩
        · refine ow_aload X145 hx (hb hby at_208) rfl rfl (pc' := 210) rfl ?_
          refine ow_callV X145 hx hZ rfl hown (hw _ (List.mem_of_getElem? (i := 18) rfl)) (hw _ (List.mem_of_getElem? (i := 19) rfl)) (hw _ (List.mem_of_getElem? (i := 21) rfl)) (hw _ (List.mem_of_getElem? (i := 20) rfl)) (hw _ (List.mem_of_getElem? (i := 2) rfl)) (hw _ (List.mem_of_getElem? (i := 22) rfl)) (by decide) (rm_clrB l Z a0 hw [] b1 b144a kt_144 z93 fr_144 pz_144 T144.heap n0 Zs144 P144_0 P144_2 P144_1 P144_3 g_b1 P144_6 (by first | assumption | decide | omega)) e145 0 (by decide) (by decide) (by decide) (by decide) [] (by rw [hml]; rfl) pd_15 rfl P144_0 rfl rfl (Nat.le_of_eq rfl) (hb hby at_210) (pc' := 213) rfl (fun v157 T157 L157 hQ157 X157 => ?_)
          obtain ⟨b157, kt_157, fr_157, rfl, Nc157, Kc157, P157_0, P157_1, P157_2, P157_3, P157_4, P157_5, P157_6⟩ := hQ157
          have V_b2_157 := V_b2_144.keep Kc157 (ninS (Ne.symm P2_6) nin0)
          have V_b133_157 := V_b133_144.keep Kc157 (ninS (Ne.symm ne_b1_b133) nin0)
          have E_b141_157 := E_b141_144.keep Kc157
          have F_b141_coder_157 := F_b141_coder_144.keep Kc157 (ninS (Ne.symm ne_b1_b141) nin0)
          have F_b141_value_157 := F_b141_value_144.keep Kc157 (ninS (Ne.symm ne_b1_b141) nin0)
          have V_b143_157 := V_b143_144.keep Kc157 (ninS (Ne.symm ne_b1_b143) nin0)
          have V_b144a_157 := P144_3.keep Kc157 (ninS (Ne.symm P144_6) nin0)
          have ne_b1_b157 : b1 ≠ b157 := Nat.ne_of_lt (Nat.lt_of_lt_of_le P144_0.lt P157_5)
          have ne_b2_b157 : b2 ≠ b157 := Nat.ne_of_lt (Nat.lt_of_lt_of_le V_b2_144.lt P157_5)
          have ne_b133_b157 : b133 ≠ b157 := Nat.ne_of_lt (Nat.lt_of_lt_of_le V_b133_144.lt P157_5)
          have ne_b141_b157 : b141 ≠ b157 := Nat.ne_of_lt (Nat.lt_of_lt_of_le E_b141_144.lt P157_5)
          have ne_b143_b157 : b143 ≠ b157 := Nat.ne_of_lt (Nat.lt_of_lt_of_le V_b143_144.lt P157_5)
          have ne_b144a_b157 : b144a ≠ b157 := Nat.ne_of_lt (Nat.lt_of_lt_of_le P144_3.lt P157_5)
          have sz_b157 : h0.size ≤ b157 := Nat.le_trans K144.1 P157_5
          have Zs157 : n0 ≤ T157.heap.size := Nat.le_trans Zs144 Kc157.1
          have K157 := K144.trans Kc157 (allS (Or.inr sz_b1) all0)
          have N157 := Fr.app N144 Nc157
          show Ends _ _ _ _ T157 (mkF m 213 #[.val (.int pm), .val (.int ps), .val (.int pa), .val (.int pb), .val (.ref b1), .val (.int z3), .val (.int (1 : Int32)), .val (.int z93), .val (.ref b144a), .val (.int (1 : Int32)), .val (.int z93), .unset, .unset, .unset, .unset, .unset] [])
          refine ow_iload X157 hx (hb hby at_213) rfl (pc' := 215) rfl ?_
          refine ow_ifN X157 hx (hb hby at_215) (by decide) (pc' := 218) rfl ?_
          refine ow_aload X157 hx (hb hby at_218) rfl rfl (pc' := 220) rfl ?_
          refine ow_callV X157 hx hZ rfl hown (hw _ (List.mem_of_getElem? (i := 18) rfl)) (hw _ (List.mem_of_getElem? (i := 19) rfl)) (hw _ (List.mem_of_getElem? (i := 21) rfl)) (hw _ (List.mem_of_getElem? (i := 20) rfl)) (hw _ (List.mem_of_getElem? (i := 2) rfl)) (hw _ (List.mem_of_getElem? (i := 22) rfl)) (by decide) (rm_clrA l Z a0 hw [] b1 b157 kt_157 (512 : Int32) fr_157 (0 : Int32) T157.heap n0 Zs157 P157_0 P157_2 P157_1 P157_3 g_b1 P157_6 (by first | assumption | decide | omega | (have q0_ : (0 : Int32).toInt = 0 := (by decide); have q1_ : (512 : Int32).toInt = 512 := (by decide); omega))) rfl 0 (by decide) (by decide) (by decide) (by decide) [] (by rw [hml]; rfl) pd_15 rfl P157_0 rfl rfl (Nat.le_of_eq rfl) (hb hby at_220) (pc' := 223) rfl (fun v158 T158 L158 hQ158 X158 => ?_)
          obtain ⟨rfl, Nc158, Kc158, P158_0, P158_1, P158_2⟩ := hQ158
          have V_b2_158 := V_b2_157.keep Kc158 (ninS (Ne.symm P2_6) nin0)
          have V_b133_158 := V_b133_157.keep Kc158 (ninS (Ne.symm ne_b1_b133) nin0)
          have E_b141_158 := E_b141_157.keep Kc158
          have F_b141_coder_158 := F_b141_coder_157.keep Kc158 (ninS (Ne.symm ne_b1_b141) nin0)
          have F_b141_value_158 := F_b141_value_157.keep Kc158 (ninS (Ne.symm ne_b1_b141) nin0)
          have V_b143_158 := V_b143_157.keep Kc158 (ninS (Ne.symm ne_b1_b143) nin0)
          have V_b144a_158 := V_b144a_157.keep Kc158 (ninS (Ne.symm P144_6) nin0)
          have V_b157_158 := P157_3.keep Kc158 (ninS (Ne.symm P157_6) nin0)
          have Zs158 : n0 ≤ T158.heap.size := Nat.le_trans Zs157 Kc158.1
          have K158 := K157.trans Kc158 (allS (Or.inr sz_b1) all0)
          have N158 := Fr.app N157 Nc158
          show Ends _ _ _ _ T158 (mkF m 223 #[.val (.int pm), .val (.int ps), .val (.int pa), .val (.int pb), .val (.ref b1), .val (.int z3), .val (.int (1 : Int32)), .val (.int z93), .val (.ref b144a), .val (.int (1 : Int32)), .val (.int z93), .unset, .unset, .unset, .unset, .unset] [])
          refine ow_aload X158 hx (hb hby at_223) rfl rfl (pc' := 225) rfl ?_
          refine ow_callV X158 hx hZ rfl hown (hw _ (List.mem_of_getElem? (i := 13) rfl)) (hw _ (List.mem_of_getElem? (i := 14) rfl)) (hw _ (List.mem_of_getElem? (i := 16) rfl)) (hw _ (List.mem_of_getElem? (i := 15) rfl)) (hw _ (List.mem_of_getElem? (i := 2) rfl)) (hw _ (List.mem_of_getElem? (i := 17) rfl)) (by decide) (rm_lbBytes l Z a0 hw [] b1 b157 T158.heap P158_2) rfl 0 (by decide) (by decide) (by decide) (by decide) [] (by rw [hml]; rfl) pd_16 rfl P158_0 rfl rfl (Nat.le_of_eq rfl) (hb hby at_225) (pc' := 228) rfl (fun v159 T159 L159 hQ159 X159 => ?_)
          obtain ⟨rfl, rfl, e159⟩ := hQ159
          rw [List.append_nil] at X159
          show Ends _ _ _ _ T159 (mkF m 228 #[.val (.int pm), .val (.int ps), .val (.int pa), .val (.int pb), .val (.ref b1), .val (.int z3), .val (.int (1 : Int32)), .val (.int z93), .val (.ref b144a), .val (.int (1 : Int32)), .val (.int z93), .unset, .unset, .unset, .unset, .unset] [(.ref b157)])
          refine ow_astore X159 hx (Ls' := #[.val (.int pm), .val (.int ps), .val (.int pa), .val (.int pb), .val (.ref b1), .val (.int z3), .val (.int (1 : Int32)), .val (.int z93), .val (.ref b144a), .val (.int (1 : Int32)), .val (.int z93), .val (.ref b157), .unset, .unset, .unset, .unset]) (hb hby at_228) rfl rfl (pc' := 230) rfl ?_
          refine ow_iload X159 hx (hb hby at_230) rfl (pc' := 232) rfl ?_
          refine ow_ifN X159 hx (hb hby at_232) (by decide) (pc' := 235) rfl ?_
          refine ow_iload X159 hx (hb hby at_235) rfl (pc' := 237) rfl ?_
          refine ow_ldcInt X159 hx hZ hown (hw _ (List.mem_of_getElem? (i := 129) rfl)) (hb hby at_237) (pc' := 239) rfl ?_
          refine ow_icmp_le X159 hx (z93.toInt) ((65536 : Int)) (hb hby at_239) rfl rfl (by decide) (pt := 246) (by decide) (pf := 242) rfl (fun c239 => absurd c239 (by omega)) (fun c239 => ?_)
          refine ow_iconst X159 hx (z := (1 : Int32)) (hb hby at_242) rfl (pc' := 243) rfl ?_
          refine ow_goto X159 hx (hb hby at_243) (by decide) (pc' := 247) (by decide) ?_
          refine ow_istore X159 hx (Ls' := #[.val (.int pm), .val (.int ps), .val (.int pa), .val (.int pb), .val (.ref b1), .val (.int z3), .val (.int (1 : Int32)), .val (.int z93), .val (.ref b144a), .val (.int (1 : Int32)), .val (.int z93), .val (.ref b157), .val (.int (1 : Int32)), .unset, .unset, .unset]) (hb hby at_247) rfl (pc' := 249) rfl ?_
          refine ow_iload X159 hx (hb hby at_249) rfl (pc' := 251) rfl ?_
          refine ow_ifN X159 hx (hb hby at_251) (by decide) (pc' := 254) rfl ?_
          refine ow_aload X159 hx (hb hby at_254) rfl rfl (pc' := 256) rfl ?_
          refine ow_aload X159 hx (hb hby at_256) rfl rfl (pc' := 258) rfl ?_
          refine ow_acmp X159 hx rfl rfl (same := false) (hb hby at_258) (decide_eq_false fun q => (Ne.symm ne_b144a_b157) (Value.ref.inj q)) (by decide) (pc' := 261) rfl ?_
          refine ow_aload X159 hx (hb hby at_261) rfl rfl (pc' := 263) rfl ?_
          refine ow_len X159 hx hZ e159 V_b157_158 (hb hby at_263) (pc' := 264) rfl ?_
          refine ow_sipush X159 hx (z := (512 : Int32)) (hb hby at_264) rfl (pc' := 267) rfl ?_
          refine ow_icmpN X159 hx (hb hby at_267) (by decide) (pc' := 270) rfl ?_
          refine ow_iconst X159 hx (z := (1 : Int32)) (hb hby at_270) rfl (pc' := 271) rfl ?_
          refine ow_goto X159 hx (hb hby at_271) (by decide) (pc' := 290) (by decide) ?_
          refine ow_istore X159 hx (Ls' := #[.val (.int pm), .val (.int ps), .val (.int pa), .val (.int pb), .val (.ref b1), .val (.int z3), .val (.int (1 : Int32)), .val (.int z93), .val (.ref b144a), .val (.int (1 : Int32)), .val (.int z93), .val (.ref b157), .val (.int (1 : Int32)), .val (.int (1 : Int32)), .unset, .unset]) (hb hby at_290) rfl (pc' := 292) rfl ?_
          refine ow_aload X159 hx (hb hby at_292) rfl rfl (pc' := 294) rfl ?_
          refine ow_callVPI X159 hx hZ rfl hown (hw _ (List.mem_of_getElem? (i := 26) rfl)) (hw _ (List.mem_of_getElem? (i := 27) rfl)) (hw _ (List.mem_of_getElem? (i := 29) rfl)) (hw _ (List.mem_of_getElem? (i := 28) rfl)) (hw _ (List.mem_of_getElem? (i := 2) rfl)) (hw _ (List.mem_of_getElem? (i := 30) rfl)) (by decide) (rm_lbLen l Z a0 hw [] b1 (0 : Int32) T158.heap P158_1) e159 0 (by decide) (by decide) (by decide) (by decide) [] (by rw [hml]; rfl) pd_13 rfl P158_0 rfl rfl (Nat.le_of_eq rfl) (hb hby at_294) (pc' := 297) rfl (fun z160 T160 hz160 X160 e160 => ?_)
          have az160 : z160.toInt = (0 : Int) := hz160
          have rz160 := rng32 z160
          refine ow_if_ne X160 hx (z160.toInt) (hb hby at_297) rfl (by decide) (pt := 313) (by decide) (pf := 300) rfl (fun c297 => absurd c297 (by omega)) (fun c297 => ?_)
          refine ow_aload X160 hx (hb hby at_300) rfl rfl (pc' := 302) rfl ?_
          refine ow_callV X160 hx hZ rfl hown (hw _ (List.mem_of_getElem? (i := 31) rfl)) (hw _ (List.mem_of_getElem? (i := 32) rfl)) (hw _ (List.mem_of_getElem? (i := 34) rfl)) (hw _ (List.mem_of_getElem? (i := 33) rfl)) (hw _ (List.mem_of_getElem? (i := 2) rfl)) (hw _ (List.mem_of_getElem? (i := 35) rfl)) (by decide) (rm_toBA l Z a0 hw [] b1 b157 kt_157 (512 : Int32) fr_157 T158.heap n0 Zs158 P158_2 P158_1 V_b157_158 (by first | assumption | decide | omega | (have q0_ : (512 : Int32).toInt = 512 := (by decide); omega)) (by first | assumption | decide | omega | (have q0_ : (512 : Int32).toInt = 512 := (by decide); omega))) e160 0 (by decide) (by decide) (by decide) (by decide) [] (by rw [hml]; rfl) pd_16 rfl P158_0 rfl rfl (Nat.le_of_eq rfl) (hb hby at_302) (pc' := 305) rfl (fun v161 T161 L161 hQ161 X161 => ?_)
          obtain ⟨b161, kt_161, fr_161, rfl, Nc161, Kc161, P161_0, P161_1, P161_2⟩ := hQ161
          have E_b1_161 := P158_0.keep Kc161
          have F_b1_bytes_161 := P158_2.keep Kc161 nin0
          have F_b1_length_161 := P158_1.keep Kc161 nin0
          have V_b2_161 := V_b2_158.keep Kc161 nin0
          have V_b133_161 := V_b133_158.keep Kc161 nin0
          have E_b141_161 := E_b141_158.keep Kc161
          have F_b141_coder_161 := F_b141_coder_158.keep Kc161 nin0
          have F_b141_value_161 := F_b141_value_158.keep Kc161 nin0
          have V_b143_161 := V_b143_158.keep Kc161 nin0
          have V_b144a_161 := V_b144a_158.keep Kc161 nin0
          have V_b157_161 := V_b157_158.keep Kc161 nin0
          have ne_b1_b161 : b1 ≠ b161 := Nat.ne_of_lt (Nat.lt_of_lt_of_le P158_0.lt P161_2)
          have ne_b2_b161 : b2 ≠ b161 := Nat.ne_of_lt (Nat.lt_of_lt_of_le V_b2_158.lt P161_2)
          have ne_b133_b161 : b133 ≠ b161 := Nat.ne_of_lt (Nat.lt_of_lt_of_le V_b133_158.lt P161_2)
          have ne_b141_b161 : b141 ≠ b161 := Nat.ne_of_lt (Nat.lt_of_lt_of_le E_b141_158.lt P161_2)
          have ne_b143_b161 : b143 ≠ b161 := Nat.ne_of_lt (Nat.lt_of_lt_of_le V_b143_158.lt P161_2)
          have ne_b144a_b161 : b144a ≠ b161 := Nat.ne_of_lt (Nat.lt_of_lt_of_le V_b144a_158.lt P161_2)
          have ne_b157_b161 : b157 ≠ b161 := Nat.ne_of_lt (Nat.lt_of_lt_of_le V_b157_158.lt P161_2)
          have sz_b161 : h0.size ≤ b161 := Nat.le_trans K158.1 P161_2
          have Zs161 : n0 ≤ T161.heap.size := Nat.le_trans Zs158 Kc161.1
          have K161 := K158.trans Kc161 all0
          have N161 := Fr.app N158 Nc161
          show Ends _ _ _ _ T161 (mkF m 305 #[.val (.int pm), .val (.int ps), .val (.int pa), .val (.int pb), .val (.ref b1), .val (.int z3), .val (.int (1 : Int32)), .val (.int z93), .val (.ref b144a), .val (.int (1 : Int32)), .val (.int z93), .val (.ref b157), .val (.int (1 : Int32)), .val (.int (1 : Int32)), .unset, .unset] [(.ref b161)])
          refine ow_len X161 hx hZ rfl P161_0 (hb hby at_305) (pc' := 306) rfl ?_
          refine ow_ifN X161 hx (hb hby at_306) (by decide) (pc' := 309) rfl ?_
          refine ow_iconst X161 hx (z := (1 : Int32)) (hb hby at_309) rfl (pc' := 310) rfl ?_
          refine ow_goto X161 hx (hb hby at_310) (by decide) (pc' := 314) (by decide) ?_
          refine ow_istore X161 hx (Ls' := #[.val (.int pm), .val (.int ps), .val (.int pa), .val (.int pb), .val (.ref b1), .val (.int z3), .val (.int (1 : Int32)), .val (.int z93), .val (.ref b144a), .val (.int (1 : Int32)), .val (.int z93), .val (.ref b157), .val (.int (1 : Int32)), .val (.int (1 : Int32)), .val (.int (1 : Int32)), .unset]) (hb hby at_314) rfl (pc' := 316) rfl ?_
          refine ow_aload X161 hx (hb hby at_316) rfl rfl (pc' := 318) rfl ?_
          refine ow_iloadN X161 hx (hb hby at_318) rfl (pc' := 319) rfl ?_
          refine ow_i2b X161 hx (hb hby at_319) (pc' := 320) rfl (fun z162 hz162 => ?_)
          have az162 : (z162.toInt - pb.toInt) % 256 = 0 ∧ -128 ≤ z162.toInt ∧ z162.toInt < 128 := by rw [hz162]; exact c_i2b pb
          have rz162 := rng32 z162
          refine ow_callV X161 hx hZ rfl hown (hw _ (List.mem_of_getElem? (i := 48) rfl)) (hw _ (List.mem_of_getElem? (i := 49) rfl)) (hw _ (List.mem_of_getElem? (i := 51) rfl)) (hw _ (List.mem_of_getElem? (i := 50) rfl)) (hw _ (List.mem_of_getElem? (i := 2) rfl)) (hw _ (List.mem_of_getElem? (i := 52) rfl)) (by decide) (rm_lbApp l Z a0 hw [] b1 z162 b157 kt_157 (512 : Int32) fr_157 (0 : Int32) T161.heap n0 Zs161 E_b1_161 F_b1_bytes_161 F_b1_length_161 V_b157_161 g_b1 P157_6 P157_4 (by first | assumption | decide | omega | (have q0_ : (0 : Int32).toInt = 0 := (by decide); have q1_ : (512 : Int32).toInt = 512 := (by decide); omega)) (by first | assumption | decide | omega | (have q0_ : (0 : Int32).toInt = 0 := (by decide); have q1_ : (512 : Int32).toInt = 512 := (by decide); omega)) (by first | assumption | decide | omega | (have q0_ : (0 : Int32).toInt = 0 := (by decide); have q1_ : (512 : Int32).toInt = 512 := (by decide); omega))) rfl 0 (by decide) (by decide) (by decide) (by decide) [(.int z162)] (by rw [hml]; rfl) pd_17 rfl E_b1_161 rfl rfl (Nat.le_of_eq rfl) (hb hby at_320) (pc' := 323) rfl (fun v163 T163 L163 hQ163 X163 => ?_)
          obtain ⟨pz_163, rfl, Nc163, Kc163, P163_0, P163_1, P163_2, P163_3, P163_4⟩ := hQ163
          have P163_4 : pz_163.toInt = (0 : Int) + 1 := P163_4
          have V_b2_163 := V_b2_161.keep Kc163 (ninS (Ne.symm P2_6) (ninS ne_b2_b157 nin0))
          have V_b133_163 := V_b133_161.keep Kc163 (ninS (Ne.symm ne_b1_b133) (ninS ne_b133_b157 nin0))
          have E_b141_163 := E_b141_161.keep Kc163
          have F_b141_coder_163 := F_b141_coder_161.keep Kc163 (ninS (Ne.symm ne_b1_b141) (ninS ne_b141_b157 nin0))
          have F_b141_value_163 := F_b141_value_161.keep Kc163 (ninS (Ne.symm ne_b1_b141) (ninS ne_b141_b157 nin0))
          have V_b143_163 := V_b143_161.keep Kc163 (ninS (Ne.symm ne_b1_b143) (ninS ne_b143_b157 nin0))
          have V_b144a_163 := V_b144a_161.keep Kc163 (ninS (Ne.symm P144_6) (ninS ne_b144a_b157 nin0))
          have V_b161_163 := P161_0.keep Kc163 (ninS (Ne.symm ne_b1_b161) (ninS (Ne.symm ne_b157_b161) nin0))
          have Zs163 : n0 ≤ T163.heap.size := Nat.le_trans Zs161 Kc163.1
          have K163 := K161.trans Kc163 (allS (Or.inr sz_b1) (allS (Or.inr sz_b157) all0))
          have N163 := Fr.app N161 Nc163
          show Ends _ _ _ _ T163 (mkF m 323 #[.val (.int pm), .val (.int ps), .val (.int pa), .val (.int pb), .val (.ref b1), .val (.int z3), .val (.int (1 : Int32)), .val (.int z93), .val (.ref b144a), .val (.int (1 : Int32)), .val (.int z93), .val (.ref b157), .val (.int (1 : Int32)), .val (.int (1 : Int32)), .val (.int (1 : Int32)), .unset] [])
          refine ow_aload X163 hx (hb hby at_323) rfl rfl (pc' := 325) rfl ?_
          refine ow_callVPI X163 hx hZ rfl hown (hw _ (List.mem_of_getElem? (i := 26) rfl)) (hw _ (List.mem_of_getElem? (i := 27) rfl)) (hw _ (List.mem_of_getElem? (i := 29) rfl)) (hw _ (List.mem_of_getElem? (i := 28) rfl)) (hw _ (List.mem_of_getElem? (i := 2) rfl)) (hw _ (List.mem_of_getElem? (i := 30) rfl)) (by decide) (rm_lbLen l Z a0 hw [] b1 pz_163 T163.heap P163_2) rfl 0 (by decide) (by decide) (by decide) (by decide) [] (by rw [hml]; rfl) pd_13 rfl P163_0 rfl rfl (Nat.le_of_eq rfl) (hb hby at_325) (pc' := 328) rfl (fun z164 T164 hz164 X164 e164 => ?_)
          have az164 : z164.toInt = pz_163.toInt := hz164
          have rz164 := rng32 z164
          refine ow_iconst X164 hx (z := (1 : Int32)) (hb hby at_328) rfl (pc' := 329) rfl ?_
          refine ow_icmp_ne X164 hx (z164.toInt) ((1 : Int)) (hb hby at_329) rfl rfl (by decide) (pt := 348) (by decide) (pf := 332) rfl (fun c329 => absurd c329 (by omega)) (fun c329 => ?_)
          refine ow_aload X164 hx (hb hby at_332) rfl rfl (pc' := 334) rfl ?_
          refine ow_callV X164 hx hZ rfl hown (hw _ (List.mem_of_getElem? (i := 13) rfl)) (hw _ (List.mem_of_getElem? (i := 14) rfl)) (hw _ (List.mem_of_getElem? (i := 16) rfl)) (hw _ (List.mem_of_getElem? (i := 15) rfl)) (hw _ (List.mem_of_getElem? (i := 2) rfl)) (hw _ (List.mem_of_getElem? (i := 17) rfl)) (by decide) (rm_lbBytes l Z a0 hw [] b1 b157 T163.heap P163_1) e164 0 (by decide) (by decide) (by decide) (by decide) [] (by rw [hml]; rfl) pd_16 rfl P163_0 rfl rfl (Nat.le_of_eq rfl) (hb hby at_334) (pc' := 337) rfl (fun v165 T165 L165 hQ165 X165 => ?_)
          obtain ⟨rfl, rfl, e165⟩ := hQ165
          rw [List.append_nil] at X165
          show Ends _ _ _ _ T165 (mkF m 337 #[.val (.int pm), .val (.int ps), .val (.int pa), .val (.int pb), .val (.ref b1), .val (.int z3), .val (.int (1 : Int32)), .val (.int z93), .val (.ref b144a), .val (.int (1 : Int32)), .val (.int z93), .val (.ref b157), .val (.int (1 : Int32)), .val (.int (1 : Int32)), .val (.int (1 : Int32)), .unset] [(.ref b157)])
          refine ow_iconst X165 hx (z := (0 : Int32)) (hb hby at_337) rfl (pc' := 338) rfl ?_
          obtain ⟨x166, hx166⟩ : ∃ x : Int32, x = z162.toInt8.toInt32 := ⟨_, rfl⟩
          have ax166 := c_i2b z162
          rw [← hx166] at ax166
          refine ow_ldB X165 hx hZ e165 P163_3 (by decide) (ow_lt (show (0 : Int) < (512 : Int) from by omega)) (show (BL (upd fr_157 (0 : Int32).toInt.toNat (z162.toInt8.toInt32))).getD ((0 : Int32).toNatClampNeg) (.int (0 : Int32)) = .int x166 from by rw [hx166]; exact (BL_get _ _ (show (0 : Int32).toNatClampNeg < 65537 from by decide) _).trans (congrArg Value.int (upd_same _ _ _))) (hb hby at_338) (pc' := 339) rfl ?_
          refine ow_iloadN X165 hx (hb hby at_339) rfl (pc' := 340) rfl ?_
          refine ow_i2b X165 hx (hb hby at_340) (pc' := 341) rfl (fun z167 hz167 => ?_)
          have az167 : (z167.toInt - pb.toInt) % 256 = 0 ∧ -128 ≤ z167.toInt ∧ z167.toInt < 128 := by rw [hz167]; exact c_i2b pb
          have rz167 := rng32 z167
          refine ow_icmp_ne X165 hx (x166.toInt) (z167.toInt) (hb hby at_341) rfl rfl (by decide) (pt := 348) (by decide) (pf := 344) rfl (fun c341 => absurd c341 (by omega)) (fun c341 => ?_)
          refine ow_iconst X165 hx (z := (1 : Int32)) (hb hby at_344) rfl (pc' := 345) rfl ?_
          refine ow_goto X165 hx (hb hby at_345) (by decide) (pc' := 349) (by decide) ?_
          refine ow_istore X165 hx (Ls' := #[.val (.int pm), .val (.int ps), .val (.int pa), .val (.int pb), .val (.ref b1), .val (.int z3), .val (.int (1 : Int32)), .val (.int z93), .val (.ref b144a), .val (.int (1 : Int32)), .val (.int z93), .val (.ref b157), .val (.int (1 : Int32)), .val (.int (1 : Int32)), .val (.int (1 : Int32)), .val (.int (1 : Int32))]) (hb hby at_349) rfl (pc' := 351) rfl ?_
          refine ow_iload X165 hx (hb hby at_351) rfl (pc' := 353) rfl ?_
          refine ow_ifN X165 hx (hb hby at_353) (by decide) (pc' := 356) rfl ?_
          refine ow_iload X165 hx (hb hby at_356) rfl (pc' := 358) rfl ?_
          refine ow_ifN X165 hx (hb hby at_358) (by decide) (pc' := 361) rfl ?_
          refine ow_iload X165 hx (hb hby at_361) rfl (pc' := 363) rfl ?_
          refine ow_ifN X165 hx (hb hby at_363) (by decide) (pc' := 366) rfl ?_
          refine ow_iconst X165 hx (z := (1 : Int32)) (hb hby at_366) rfl (pc' := 367) rfl ?_
          refine ow_goto X165 hx (hb hby at_367) (by decide) (pc' := 371) (by decide) ?_
          exact ow_retB X165 hx hret hlk (hb hby at_371) (by decide) (by decide) (z' := (1 : Int32)) rfl ⟨rfl, N163⟩
    · refine ow_aload X2 hx (hb hby at_41) rfl rfl (pc' := 43) rfl ?_
      refine ow_iloadN X2 hx (hb hby at_43) rfl (pc' := 44) rfl ?_
      refine ow_i2b X2 hx (hb hby at_44) (pc' := 45) rfl (fun z168 hz168 => ?_)
      have az168 : (z168.toInt - pa.toInt) % 256 = 0 ∧ -128 ≤ z168.toInt ∧ z168.toInt < 128 := by rw [hz168]; exact c_i2b pa
      have rz168 := rng32 z168
      refine ow_callV X2 hx hZ rfl hown (hw _ (List.mem_of_getElem? (i := 48) rfl)) (hw _ (List.mem_of_getElem? (i := 49) rfl)) (hw _ (List.mem_of_getElem? (i := 51) rfl)) (hw _ (List.mem_of_getElem? (i := 50) rfl)) (hw _ (List.mem_of_getElem? (i := 2) rfl)) (hw _ (List.mem_of_getElem? (i := 52) rfl)) (by decide) (rm_lbApp l Z a0 hw [] b1 z168 b2 kt_2 (512 : Int32) fr_2 (0 : Int32) T2.heap n0 Zs2 P2_0 P2_2 P2_1 P2_3 g_b1 P2_6 P2_4 (by first | assumption | decide | omega | (have q0_ : (0 : Int32).toInt = 0 := (by decide); have q1_ : (512 : Int32).toInt = 512 := (by decide); omega)) (by first | assumption | decide | omega | (have q0_ : (0 : Int32).toInt = 0 := (by decide); have q1_ : (512 : Int32).toInt = 512 := (by decide); omega)) (by first | assumption | decide | omega | (have q0_ : (0 : Int32).toInt = 0 := (by decide); have q1_ : (512 : Int32).toInt = 512 := (by decide); omega))) rfl 0 (by decide) (by decide) (by decide) (by decide) [(.int z168)] (by rw [hml]; rfl) pd_17 rfl P2_0 rfl rfl (Nat.le_of_eq rfl) (hb hby at_45) (pc' := 48) rfl (fun v169 T169 L169 hQ169 X169 => ?_)
      obtain ⟨pz_169, rfl, Nc169, Kc169, P169_0, P169_1, P169_2, P169_3, P169_4⟩ := hQ169
      have P169_4 : pz_169.toInt = (0 : Int) + 1 := P169_4
      have Zs169 : n0 ≤ T169.heap.size := Nat.le_trans Zs2 Kc169.1
      have K169 := K2.trans Kc169 (allS (Or.inr sz_b1) (allS (Or.inr sz_b2) all0))
      have N169 := Fr.app N2 Nc169
      show Ends _ _ _ _ T169 (mkF m 48 #[.val (.int pm), .val (.int ps), .val (.int pa), .val (.int pb), .val (.ref b1), .val (.int z3), .val (.int (1 : Int32)), .val (.int z93), .unset, .unset, .unset, .unset, .unset, .unset, .unset, .unset] [])
      refine ow_aload X169 hx (hb hby at_48) rfl rfl (pc' := 50) rfl ?_
      refine ow_iloadN X169 hx (hb hby at_50) rfl (pc' := 51) rfl ?_
      refine ow_i2b X169 hx (hb hby at_51) (pc' := 52) rfl (fun z170 hz170 => ?_)
      have az170 : (z170.toInt - pb.toInt) % 256 = 0 ∧ -128 ≤ z170.toInt ∧ z170.toInt < 128 := by rw [hz170]; exact c_i2b pb
      have rz170 := rng32 z170
      refine ow_callV X169 hx hZ rfl hown (hw _ (List.mem_of_getElem? (i := 48) rfl)) (hw _ (List.mem_of_getElem? (i := 49) rfl)) (hw _ (List.mem_of_getElem? (i := 51) rfl)) (hw _ (List.mem_of_getElem? (i := 50) rfl)) (hw _ (List.mem_of_getElem? (i := 2) rfl)) (hw _ (List.mem_of_getElem? (i := 52) rfl)) (by decide) (rm_lbApp l Z a0 hw [] b1 z170 b2 kt_2 (512 : Int32) (upd fr_2 (0 : Int32).toInt.toNat (z168.toInt8.toInt32)) pz_169 T169.heap n0 Zs169 P169_0 P169_1 P169_2 P169_3 g_b1 P2_6 P2_4 (by first | assumption | decide | omega | (have q0_ : (512 : Int32).toInt = 512 := (by decide); omega)) (by first | assumption | decide | omega | (have q0_ : (512 : Int32).toInt = 512 := (by decide); omega)) (by first | assumption | decide | omega | (have q0_ : (512 : Int32).toInt = 512 := (by decide); omega))) rfl 0 (by decide) (by decide) (by decide) (by decide) [(.int z170)] (by rw [hml]; rfl) pd_17 rfl P169_0 rfl rfl (Nat.le_of_eq rfl) (hb hby at_52) (pc' := 55) rfl (fun v171 T171 L171 hQ171 X171 => ?_)
      obtain ⟨pz_171, rfl, Nc171, Kc171, P171_0, P171_1, P171_2, P171_3, P171_4⟩ := hQ171
      have P171_4 : pz_171.toInt = pz_169.toInt + 1 := P171_4
      have Zs171 : n0 ≤ T171.heap.size := Nat.le_trans Zs169 Kc171.1
      have K171 := K169.trans Kc171 (allS (Or.inr sz_b1) (allS (Or.inr sz_b2) all0))
      have N171 := Fr.app N169 Nc171
      show Ends _ _ _ _ T171 (mkF m 55 #[.val (.int pm), .val (.int ps), .val (.int pa), .val (.int pb), .val (.ref b1), .val (.int z3), .val (.int (1 : Int32)), .val (.int z93), .unset, .unset, .unset, .unset, .unset, .unset, .unset, .unset] [])
      refine ow_goto X171 hx (hb hby at_55) (by decide) (pc' := 163) (by decide) ?_
      refine ow_aload X171 hx (hb hby at_163) rfl rfl (pc' := 165) rfl ?_
      refine ow_callV X171 hx hZ rfl hown (hw _ (List.mem_of_getElem? (i := 13) rfl)) (hw _ (List.mem_of_getElem? (i := 14) rfl)) (hw _ (List.mem_of_getElem? (i := 16) rfl)) (hw _ (List.mem_of_getElem? (i := 15) rfl)) (hw _ (List.mem_of_getElem? (i := 2) rfl)) (hw _ (List.mem_of_getElem? (i := 17) rfl)) (by decide) (rm_lbBytes l Z a0 hw [] b1 b2 T171.heap P171_1) rfl 0 (by decide) (by decide) (by decide) (by decide) [] (by rw [hml]; rfl) pd_16 rfl P171_0 rfl rfl (Nat.le_of_eq rfl) (hb hby at_165) (pc' := 168) rfl (fun v172 T172 L172 hQ172 X172 => ?_)
      obtain ⟨rfl, rfl, e172⟩ := hQ172
      rw [List.append_nil] at X172
      show Ends _ _ _ _ T172 (mkF m 168 #[.val (.int pm), .val (.int ps), .val (.int pa), .val (.int pb), .val (.ref b1), .val (.int z3), .val (.int (1 : Int32)), .val (.int z93), .unset, .unset, .unset, .unset, .unset, .unset, .unset, .unset] [(.ref b2)])
      refine ow_astore X172 hx (Ls' := #[.val (.int pm), .val (.int ps), .val (.int pa), .val (.int pb), .val (.ref b1), .val (.int z3), .val (.int (1 : Int32)), .val (.int z93), .val (.ref b2), .unset, .unset, .unset, .unset, .unset, .unset, .unset]) (hb hby at_168) rfl rfl (pc' := 170) rfl ?_
      refine ow_iload X172 hx (hb hby at_170) rfl (pc' := 172) rfl ?_
      refine ow_iconst X172 hx (z := (2 : Int32)) (hb hby at_172) rfl (pc' := 173) rfl ?_
      refine ow_icmp_ne X172 hx (z3.toInt) ((2 : Int)) (hb hby at_173) rfl rfl (by decide) (pt := 180) (by decide) (pf := 176) rfl (fun c173 => ?_) (fun c173 => absurd c173 (by omega))
      refine ow_iconst X172 hx (z := (0 : Int32)) (hb hby at_180) rfl (pc' := 181) rfl ?_
      refine ow_istore X172 hx (Ls' := #[.val (.int pm), .val (.int ps), .val (.int pa), .val (.int pb), .val (.ref b1), .val (.int z3), .val (.int (1 : Int32)), .val (.int z93), .val (.ref b2), .val (.int (0 : Int32)), .unset, .unset, .unset, .unset, .unset, .unset]) (hb hby at_181) rfl (pc' := 183) rfl ?_
      refine ow_iload X172 hx (hb hby at_183) rfl (pc' := 185) rfl ?_
      refine ow_ifY X172 hx (hb hby at_185) (by decide) (by decide) (pc' := 193) (by decide) ?_
      refine ow_sipush X172 hx (z := (512 : Int32)) (hb hby at_193) rfl (pc' := 196) rfl ?_
      refine ow_istore X172 hx (Ls' := #[.val (.int pm), .val (.int ps), .val (.int pa), .val (.int pb), .val (.ref b1), .val (.int z3), .val (.int (1 : Int32)), .val (.int z93), .val (.ref b2), .val (.int (0 : Int32)), .val (.int (512 : Int32)), .unset, .unset, .unset, .unset, .unset]) (hb hby at_196) rfl (pc' := 198) rfl ?_
      refine ow_aload X172 hx (hb hby at_198) rfl rfl (pc' := 200) rfl ?_
      refine ow_len X172 hx hZ e172 P171_3 (hb hby at_200) (pc' := 201) rfl ?_
      refine ow_iload X172 hx (hb hby at_201) rfl (pc' := 203) rfl ?_
      refine ow_icmpY X172 hx (hb hby at_203) (by decide) (by decide) (pc' := 208) (by decide) ?_
      refine ow_aload X172 hx (hb hby at_208) rfl rfl (pc' := 210) rfl ?_
      refine ow_callV X172 hx hZ rfl hown (hw _ (List.mem_of_getElem? (i := 18) rfl)) (hw _ (List.mem_of_getElem? (i := 19) rfl)) (hw _ (List.mem_of_getElem? (i := 21) rfl)) (hw _ (List.mem_of_getElem? (i := 20) rfl)) (hw _ (List.mem_of_getElem? (i := 2) rfl)) (hw _ (List.mem_of_getElem? (i := 22) rfl)) (by decide) (rm_clrA l Z a0 hw [] b1 b2 kt_2 (512 : Int32) (upd (upd fr_2 (0 : Int32).toInt.toNat (z168.toInt8.toInt32)) pz_169.toInt.toNat (z170.toInt8.toInt32)) pz_171 T171.heap n0 Zs171 P171_0 P171_1 P171_2 P171_3 g_b1 P2_6 (by first | assumption | decide | omega | (have q0_ : (512 : Int32).toInt = 512 := (by decide); omega))) e172 0 (by decide) (by decide) (by decide) (by decide) [] (by rw [hml]; rfl) pd_15 rfl P171_0 rfl rfl (Nat.le_of_eq rfl) (hb hby at_210) (pc' := 213) rfl (fun v173 T173 L173 hQ173 X173 => ?_)
      obtain ⟨rfl, Nc173, Kc173, P173_0, P173_1, P173_2⟩ := hQ173
      have V_b2_173 := P171_3.keep Kc173 (ninS (Ne.symm P2_6) nin0)
      have Zs173 : n0 ≤ T173.heap.size := Nat.le_trans Zs171 Kc173.1
      have K173 := K171.trans Kc173 (allS (Or.inr sz_b1) all0)
      have N173 := Fr.app N171 Nc173
      show Ends _ _ _ _ T173 (mkF m 213 #[.val (.int pm), .val (.int ps), .val (.int pa), .val (.int pb), .val (.ref b1), .val (.int z3), .val (.int (1 : Int32)), .val (.int z93), .val (.ref b2), .val (.int (0 : Int32)), .val (.int (512 : Int32)), .unset, .unset, .unset, .unset, .unset] [])
      refine ow_iload X173 hx (hb hby at_213) rfl (pc' := 215) rfl ?_
      refine ow_ifN X173 hx (hb hby at_215) (by decide) (pc' := 218) rfl ?_
      refine ow_aload X173 hx (hb hby at_218) rfl rfl (pc' := 220) rfl ?_
      refine ow_callV X173 hx hZ rfl hown (hw _ (List.mem_of_getElem? (i := 18) rfl)) (hw _ (List.mem_of_getElem? (i := 19) rfl)) (hw _ (List.mem_of_getElem? (i := 21) rfl)) (hw _ (List.mem_of_getElem? (i := 20) rfl)) (hw _ (List.mem_of_getElem? (i := 2) rfl)) (hw _ (List.mem_of_getElem? (i := 22) rfl)) (by decide) (rm_clrA l Z a0 hw [] b1 b2 kt_2 (512 : Int32) (upd (upd fr_2 (0 : Int32).toInt.toNat (z168.toInt8.toInt32)) pz_169.toInt.toNat (z170.toInt8.toInt32)) (0 : Int32) T173.heap n0 Zs173 P173_0 P173_2 P173_1 V_b2_173 g_b1 P2_6 (by first | assumption | decide | omega | (have q0_ : (0 : Int32).toInt = 0 := (by decide); have q1_ : (512 : Int32).toInt = 512 := (by decide); omega))) rfl 0 (by decide) (by decide) (by decide) (by decide) [] (by rw [hml]; rfl) pd_15 rfl P173_0 rfl rfl (Nat.le_of_eq rfl) (hb hby at_220) (pc' := 223) rfl (fun v174 T174 L174 hQ174 X174 => ?_)
      obtain ⟨rfl, Nc174, Kc174, P174_0, P174_1, P174_2⟩ := hQ174
      have V_b2_174 := V_b2_173.keep Kc174 (ninS (Ne.symm P2_6) nin0)
      have Zs174 : n0 ≤ T174.heap.size := Nat.le_trans Zs173 Kc174.1
      have K174 := K173.trans Kc174 (allS (Or.inr sz_b1) all0)
      have N174 := Fr.app N173 Nc174
      show Ends _ _ _ _ T174 (mkF m 223 #[.val (.int pm), .val (.int ps), .val (.int pa), .val (.int pb), .val (.ref b1), .val (.int z3), .val (.int (1 : Int32)), .val (.int z93), .val (.ref b2), .val (.int (0 : Int32)), .val (.int (512 : Int32)), .unset, .unset, .unset, .unset, .unset] [])
      refine ow_aload X174 hx (hb hby at_223) rfl rfl (pc' := 225) rfl ?_
      refine ow_callV X174 hx hZ rfl hown (hw _ (List.mem_of_getElem? (i := 13) rfl)) (hw _ (List.mem_of_getElem? (i := 14) rfl)) (hw _ (List.mem_of_getElem? (i := 16) rfl)) (hw _ (List.mem_of_getElem? (i := 15) rfl)) (hw _ (List.mem_of_getElem? (i := 2) rfl)) (hw _ (List.mem_of_getElem? (i := 17) rfl)) (by decide) (rm_lbBytes l Z a0 hw [] b1 b2 T174.heap P174_2) rfl 0 (by decide) (by decide) (by decide) (by decide) [] (by rw [hml]; rfl) pd_16 rfl P174_0 rfl rfl (Nat.le_of_eq rfl) (hb hby at_225) (pc' := 228) rfl (fun v175 T175 L175 hQ175 X175 => ?_)
      obtain ⟨rfl, rfl, e175⟩ := hQ175
      rw [List.append_nil] at X175
      show Ends _ _ _ _ T175 (mkF m 228 #[.val (.int pm), .val (.int ps), .val (.int pa), .val (.int pb), .val (.ref b1), .val (.int z3), .val (.int (1 : Int32)), .val (.int z93), .val (.ref b2), .val (.int (0 : Int32)), .val (.int (512 : Int32)), .unset, .unset, .unset, .unset, .unset] [(.ref b2)])
      refine ow_astore X175 hx (Ls' := #[.val (.int pm), .val (.int ps), .val (.int pa), .val (.int pb), .val (.ref b1), .val (.int z3), .val (.int (1 : Int32)), .val (.int z93), .val (.ref b2), .val (.int (0 : Int32)), .val (.int (512 : Int32)), .val (.ref b2), .unset, .unset, .unset, .unset]) (hb hby at_228) rfl rfl (pc' := 230) rfl ?_
      refine ow_iload X175 hx (hb hby at_230) rfl (pc' := 232) rfl ?_
      refine ow_ifY X175 hx (hb hby at_232) (by decide) (by decide) (pc' := 246) (by decide) ?_
      refine ow_iconst X175 hx (z := (0 : Int32)) (hb hby at_246) rfl (pc' := 247) rfl ?_
      refine ow_istore X175 hx (Ls' := #[.val (.int pm), .val (.int ps), .val (.int pa), .val (.int pb), .val (.ref b1), .val (.int z3), .val (.int (1 : Int32)), .val (.int z93), .val (.ref b2), .val (.int (0 : Int32)), .val (.int (512 : Int32)), .val (.ref b2), .val (.int (0 : Int32)), .unset, .unset, .unset]) (hb hby at_247) rfl (pc' := 249) rfl ?_
      refine ow_iload X175 hx (hb hby at_249) rfl (pc' := 251) rfl ?_
      refine ow_ifY X175 hx (hb hby at_251) (by decide) (by decide) (pc' := 278) (by decide) ?_
      refine ow_aload X175 hx (hb hby at_278) rfl rfl (pc' := 280) rfl ?_
      refine ow_aload X175 hx (hb hby at_280) rfl rfl (pc' := 282) rfl ?_
      refine ow_acmp X175 hx rfl rfl (same := true) (hb hby at_282) (decide_eq_true rfl) (by decide) (pc' := 285) rfl ?_
      refine ow_iconst X175 hx (z := (1 : Int32)) (hb hby at_285) rfl (pc' := 286) rfl ?_
      refine ow_goto X175 hx (hb hby at_286) (by decide) (pc' := 290) (by decide) ?_
      refine ow_istore X175 hx (Ls' := #[.val (.int pm), .val (.int ps), .val (.int pa), .val (.int pb), .val (.ref b1), .val (.int z3), .val (.int (1 : Int32)), .val (.int z93), .val (.ref b2), .val (.int (0 : Int32)), .val (.int (512 : Int32)), .val (.ref b2), .val (.int (0 : Int32)), .val (.int (1 : Int32)), .unset, .unset]) (hb hby at_290) rfl (pc' := 292) rfl ?_
      refine ow_aload X175 hx (hb hby at_292) rfl rfl (pc' := 294) rfl ?_
      refine ow_callVPI X175 hx hZ rfl hown (hw _ (List.mem_of_getElem? (i := 26) rfl)) (hw _ (List.mem_of_getElem? (i := 27) rfl)) (hw _ (List.mem_of_getElem? (i := 29) rfl)) (hw _ (List.mem_of_getElem? (i := 28) rfl)) (hw _ (List.mem_of_getElem? (i := 2) rfl)) (hw _ (List.mem_of_getElem? (i := 30) rfl)) (by decide) (rm_lbLen l Z a0 hw [] b1 (0 : Int32) T174.heap P174_1) e175 0 (by decide) (by decide) (by decide) (by decide) [] (by rw [hml]; rfl) pd_13 rfl P174_0 rfl rfl (Nat.le_of_eq rfl) (hb hby at_294) (pc' := 297) rfl (fun z176 T176 hz176 X176 e176 => ?_)
      have az176 : z176.toInt = (0 : Int) := hz176
      have rz176 := rng32 z176
      refine ow_if_ne X176 hx (z176.toInt) (hb hby at_297) rfl (by decide) (pt := 313) (by decide) (pf := 300) rfl (fun c297 => absurd c297 (by omega)) (fun c297 => ?_)
      refine ow_aload X176 hx (hb hby at_300) rfl rfl (pc' := 302) rfl ?_
      refine ow_callV X176 hx hZ rfl hown (hw _ (List.mem_of_getElem? (i := 31) rfl)) (hw _ (List.mem_of_getElem? (i := 32) rfl)) (hw _ (List.mem_of_getElem? (i := 34) rfl)) (hw _ (List.mem_of_getElem? (i := 33) rfl)) (hw _ (List.mem_of_getElem? (i := 2) rfl)) (hw _ (List.mem_of_getElem? (i := 35) rfl)) (by decide) (rm_toBA l Z a0 hw [] b1 b2 kt_2 (512 : Int32) (upd (upd fr_2 (0 : Int32).toInt.toNat (z168.toInt8.toInt32)) pz_169.toInt.toNat (z170.toInt8.toInt32)) T174.heap n0 Zs174 P174_2 P174_1 V_b2_174 (by first | assumption | decide | omega | (have q0_ : (512 : Int32).toInt = 512 := (by decide); omega)) (by first | assumption | decide | omega | (have q0_ : (512 : Int32).toInt = 512 := (by decide); omega))) e176 0 (by decide) (by decide) (by decide) (by decide) [] (by rw [hml]; rfl) pd_16 rfl P174_0 rfl rfl (Nat.le_of_eq rfl) (hb hby at_302) (pc' := 305) rfl (fun v177 T177 L177 hQ177 X177 => ?_)
      obtain ⟨b177, kt_177, fr_177, rfl, Nc177, Kc177, P177_0, P177_1, P177_2⟩ := hQ177
      have E_b1_177 := P174_0.keep Kc177
      have F_b1_bytes_177 := P174_2.keep Kc177 nin0
      have F_b1_length_177 := P174_1.keep Kc177 nin0
      have V_b2_177 := V_b2_174.keep Kc177 nin0
      have ne_b1_b177 : b1 ≠ b177 := Nat.ne_of_lt (Nat.lt_of_lt_of_le P174_0.lt P177_2)
      have ne_b2_b177 : b2 ≠ b177 := Nat.ne_of_lt (Nat.lt_of_lt_of_le V_b2_174.lt P177_2)
      have sz_b177 : h0.size ≤ b177 := Nat.le_trans K174.1 P177_2
      have Zs177 : n0 ≤ T177.heap.size := Nat.le_trans Zs174 Kc177.1
      have K177 := K174.trans Kc177 all0
      have N177 := Fr.app N174 Nc177
      show Ends _ _ _ _ T177 (mkF m 305 #[.val (.int pm), .val (.int ps), .val (.int pa), .val (.int pb), .val (.ref b1), .val (.int z3), .val (.int (1 : Int32)), .val (.int z93), .val (.ref b2), .val (.int (0 : Int32)), .val (.int (512 : Int32)), .val (.ref b2), .val (.int (0 : Int32)), .val (.int (1 : Int32)), .unset, .unset] [(.ref b177)])
      refine ow_len X177 hx hZ rfl P177_0 (hb hby at_305) (pc' := 306) rfl ?_
      refine ow_ifN X177 hx (hb hby at_306) (by decide) (pc' := 309) rfl ?_
      refine ow_iconst X177 hx (z := (1 : Int32)) (hb hby at_309) rfl (pc' := 310) rfl ?_
      refine ow_goto X177 hx (hb hby at_310) (by decide) (pc' := 314) (by decide) ?_
      refine ow_istore X177 hx (Ls' := #[.val (.int pm), .val (.int ps), .val (.int pa), .val (.int pb), .val (.ref b1), .val (.int z3), .val (.int (1 : Int32)), .val (.int z93), .val (.ref b2), .val (.int (0 : Int32)), .val (.int (512 : Int32)), .val (.ref b2), .val (.int (0 : Int32)), .val (.int (1 : Int32)), .val (.int (1 : Int32)), .unset]) (hb hby at_314) rfl (pc' := 316) rfl ?_
      refine ow_aload X177 hx (hb hby at_316) rfl rfl (pc' := 318) rfl ?_
      refine ow_iloadN X177 hx (hb hby at_318) rfl (pc' := 319) rfl ?_
      refine ow_i2b X177 hx (hb hby at_319) (pc' := 320) rfl (fun z178 hz178 => ?_)
      have az178 : (z178.toInt - pb.toInt) % 256 = 0 ∧ -128 ≤ z178.toInt ∧ z178.toInt < 128 := by rw [hz178]; exact c_i2b pb
      have rz178 := rng32 z178
      refine ow_callV X177 hx hZ rfl hown (hw _ (List.mem_of_getElem? (i := 48) rfl)) (hw _ (List.mem_of_getElem? (i := 49) rfl)) (hw _ (List.mem_of_getElem? (i := 51) rfl)) (hw _ (List.mem_of_getElem? (i := 50) rfl)) (hw _ (List.mem_of_getElem? (i := 2) rfl)) (hw _ (List.mem_of_getElem? (i := 52) rfl)) (by decide) (rm_lbApp l Z a0 hw [] b1 z178 b2 kt_2 (512 : Int32) (upd (upd fr_2 (0 : Int32).toInt.toNat (z168.toInt8.toInt32)) pz_169.toInt.toNat (z170.toInt8.toInt32)) (0 : Int32) T177.heap n0 Zs177 E_b1_177 F_b1_bytes_177 F_b1_length_177 V_b2_177 g_b1 P2_6 P2_4 (by first | assumption | decide | omega | (have q0_ : (0 : Int32).toInt = 0 := (by decide); have q1_ : (512 : Int32).toInt = 512 := (by decide); omega)) (by first | assumption | decide | omega | (have q0_ : (0 : Int32).toInt = 0 := (by decide); have q1_ : (512 : Int32).toInt = 512 := (by decide); omega)) (by first | assumption | decide | omega | (have q0_ : (0 : Int32).toInt = 0 := (by decide); have q1_ : (512 : Int32).toInt = 512 := (by decide); omega))) rfl 0 (by decide) (by decide) (by decide) (by decide) [(.int z178)] (by rw [hml]; rfl) pd_17 rfl E_b1_177 rfl rfl (Nat.le_of_eq rfl) (hb hby at_320) (pc' := 323) rfl (fun v179 T179 L179 hQ179 X179 => ?_)
      obtain ⟨pz_179, rfl, Nc179, Kc179, P179_0, P179_1, P179_2, P179_3, P179_4⟩ := hQ179
      have P179_4 : pz_179.toInt = (0 : Int) + 1 := P179_4
      have V_b177_179 := P177_0.keep Kc179 (ninS (Ne.symm ne_b1_b177) (ninS (Ne.symm ne_b2_b177) nin0))
      have Zs179 : n0 ≤ T179.heap.size := Nat.le_trans Zs177 Kc179.1
      have K179 := K177.trans Kc179 (allS (Or.inr sz_b1) (allS (Or.inr sz_b2) all0))
      have N179 := Fr.app N177 Nc179
      show Ends _ _ _ _ T179 (mkF m 323 #[.val (.int pm), .val (.int ps), .val (.int pa), .val (.int pb), .val (.ref b1), .val (.int z3), .val (.int (1 : Int32)), .val (.int z93), .val (.ref b2), .val (.int (0 : Int32)), .val (.int (512 : Int32)), .val (.ref b2), .val (.int (0 : Int32)), .val (.int (1 : Int32)), .val (.int (1 : Int32)), .unset] [])
      refine ow_aload X179 hx (hb hby at_323) rfl rfl (pc' := 325) rfl ?_
      refine ow_callVPI X179 hx hZ rfl hown (hw _ (List.mem_of_getElem? (i := 26) rfl)) (hw _ (List.mem_of_getElem? (i := 27) rfl)) (hw _ (List.mem_of_getElem? (i := 29) rfl)) (hw _ (List.mem_of_getElem? (i := 28) rfl)) (hw _ (List.mem_of_getElem? (i := 2) rfl)) (hw _ (List.mem_of_getElem? (i := 30) rfl)) (by decide) (rm_lbLen l Z a0 hw [] b1 pz_179 T179.heap P179_2) rfl 0 (by decide) (by decide) (by decide) (by decide) [] (by rw [hml]; rfl) pd_13 rfl P179_0 rfl rfl (Nat.le_of_eq rfl) (hb hby at_325) (pc' := 328) rfl (fun z180 T180 hz180 X180 e180 => ?_)
      have az180 : z180.toInt = pz_179.toInt := hz180
      have rz180 := rng32 z180
      refine ow_iconst X180 hx (z := (1 : Int32)) (hb hby at_328) rfl (pc' := 329) rfl ?_
      refine ow_icmp_ne X180 hx (z180.toInt) ((1 : Int)) (hb hby at_329) rfl rfl (by decide) (pt := 348) (by decide) (pf := 332) rfl (fun c329 => absurd c329 (by omega)) (fun c329 => ?_)
      refine ow_aload X180 hx (hb hby at_332) rfl rfl (pc' := 334) rfl ?_
      refine ow_callV X180 hx hZ rfl hown (hw _ (List.mem_of_getElem? (i := 13) rfl)) (hw _ (List.mem_of_getElem? (i := 14) rfl)) (hw _ (List.mem_of_getElem? (i := 16) rfl)) (hw _ (List.mem_of_getElem? (i := 15) rfl)) (hw _ (List.mem_of_getElem? (i := 2) rfl)) (hw _ (List.mem_of_getElem? (i := 17) rfl)) (by decide) (rm_lbBytes l Z a0 hw [] b1 b2 T179.heap P179_1) e180 0 (by decide) (by decide) (by decide) (by decide) [] (by rw [hml]; rfl) pd_16 rfl P179_0 rfl rfl (Nat.le_of_eq rfl) (hb hby at_334) (pc' := 337) rfl (fun v181 T181 L181 hQ181 X181 => ?_)
      obtain ⟨rfl, rfl, e181⟩ := hQ181
      rw [List.append_nil] at X181
      show Ends _ _ _ _ T181 (mkF m 337 #[.val (.int pm), .val (.int ps), .val (.int pa), .val (.int pb), .val (.ref b1), .val (.int z3), .val (.int (1 : Int32)), .val (.int z93), .val (.ref b2), .val (.int (0 : Int32)), .val (.int (512 : Int32)), .val (.ref b2), .val (.int (0 : Int32)), .val (.int (1 : Int32)), .val (.int (1 : Int32)), .unset] [(.ref b2)])
      refine ow_iconst X181 hx (z := (0 : Int32)) (hb hby at_337) rfl (pc' := 338) rfl ?_
      obtain ⟨x182, hx182⟩ : ∃ x : Int32, x = z178.toInt8.toInt32 := ⟨_, rfl⟩
      have ax182 := c_i2b z178
      rw [← hx182] at ax182
      refine ow_ldB X181 hx hZ e181 P179_3 (by decide) (ow_lt (show (0 : Int) < (512 : Int) from by omega)) (show (BL (upd (upd (upd fr_2 (0 : Int32).toInt.toNat (z168.toInt8.toInt32)) pz_169.toInt.toNat (z170.toInt8.toInt32)) (0 : Int32).toInt.toNat (z178.toInt8.toInt32))).getD ((0 : Int32).toNatClampNeg) (.int (0 : Int32)) = .int x182 from by rw [hx182]; exact (BL_get _ _ (show (0 : Int32).toNatClampNeg < 65537 from by decide) _).trans (congrArg Value.int (upd_same _ _ _))) (hb hby at_338) (pc' := 339) rfl ?_
      refine ow_iloadN X181 hx (hb hby at_339) rfl (pc' := 340) rfl ?_
      refine ow_i2b X181 hx (hb hby at_340) (pc' := 341) rfl (fun z183 hz183 => ?_)
      have az183 : (z183.toInt - pb.toInt) % 256 = 0 ∧ -128 ≤ z183.toInt ∧ z183.toInt < 128 := by rw [hz183]; exact c_i2b pb
      have rz183 := rng32 z183
      refine ow_icmp_ne X181 hx (x182.toInt) (z183.toInt) (hb hby at_341) rfl rfl (by decide) (pt := 348) (by decide) (pf := 344) rfl (fun c341 => absurd c341 (by omega)) (fun c341 => ?_)
      refine ow_iconst X181 hx (z := (1 : Int32)) (hb hby at_344) rfl (pc' := 345) rfl ?_
      refine ow_goto X181 hx (hb hby at_345) (by decide) (pc' := 349) (by decide) ?_
      refine ow_istore X181 hx (Ls' := #[.val (.int pm), .val (.int ps), .val (.int pa), .val (.int pb), .val (.ref b1), .val (.int z3), .val (.int (1 : Int32)), .val (.int z93), .val (.ref b2), .val (.int (0 : Int32)), .val (.int (512 : Int32)), .val (.ref b2), .val (.int (0 : Int32)), .val (.int (1 : Int32)), .val (.int (1 : Int32)), .val (.int (1 : Int32))]) (hb hby at_349) rfl (pc' := 351) rfl ?_
      refine ow_iload X181 hx (hb hby at_351) rfl (pc' := 353) rfl ?_
      refine ow_ifN X181 hx (hb hby at_353) (by decide) (pc' := 356) rfl ?_
      refine ow_iload X181 hx (hb hby at_356) rfl (pc' := 358) rfl ?_
      refine ow_ifN X181 hx (hb hby at_358) (by decide) (pc' := 361) rfl ?_
      refine ow_iload X181 hx (hb hby at_361) rfl (pc' := 363) rfl ?_
      refine ow_ifN X181 hx (hb hby at_363) (by decide) (pc' := 366) rfl ?_
      refine ow_iconst X181 hx (z := (1 : Int32)) (hb hby at_366) rfl (pc' := 367) rfl ?_
      refine ow_goto X181 hx (hb hby at_367) (by decide) (pc' := 371) (by decide) ?_
      exact ow_retB X181 hx hret hlk (hb hby at_371) (by decide) (by decide) (z' := (1 : Int32)) rfl ⟨rfl, N179⟩
set_option maxRecDepth 65536 in
set_option maxHeartbeats 40000000 in
theorem comes_1 {Post : Tables → Env → Array Value → State → Outcome → State → Prop} (hpost : ∀ tb e args s v u, (limb_1_1.after args s (.returned v) u = true ∧ limb_1_2.after args s (.returned v) u = true ∧ True) → FrameEnd s (.returned v) u (Jvm.fieldLocs frame_1_writes args s ++ Jvm.arrayLocs frame_1_arrays args s ++ Jvm.staticLocs frame_1_statics s) 24 237184 → Post tb e args s (.returned v) u) :
    ArmFor flags0 classFile x code maxLocals ret World_1 tables_1 room_1 Calls_1 rest_1 Pre_1 Post := by
  intro l hfl _ _ p e ha hc hk s m args below hf hA hF happ hP
  obtain ⟨hcalls, hrest, hpre⟩ := hP
  obtain ⟨-, -, -, hnamed, -, -, -, hat⟩ := (Spec.applies_iff hf).mp happ
  obtain ⟨hg, hn⟩ := and_e (Cond.before_iff.mp (show (Jvm.Cond.and given_1 narrow_1).before args s = true from hpre))
  obtain ⟨gc, gr0⟩ := and_e hg
  obtain ⟨ga0, gr1⟩ := and_e gr0
  obtain ⟨ga1, gr2⟩ := and_e gr1
  obtain ⟨ga2, ga3⟩ := and_e gr2
  obtain ⟨w0, w1, w2, w3, rfl⟩ : ∃ w0 w1 w2 w3 : Value, args = #[w0, w1, w2, w3] := by
    have hs : args.size = 4 := by simpa [Cond.value, given_1] using gc
    obtain ⟨L⟩ := args
    match L, hs with
    | [w0, w1, w2, w3], _ => exact ⟨w0, w1, w2, w3, rfl⟩
  have hw := fun d (hd : d ∈ tables_1) => atoms_spec (ws := Jvm.Cond.code x code maxLocals ret :: tables_1) hat d (List.mem_cons_of_mem _ hd)
  have hfit : Fit s := fun {y c} hc i hi => by
    obtain ⟨ha, rfl⟩ := Array.getElem?_eq_some_iff.mp hc
    have q := List.all_eq_true.mp ((Array.all_eq_true_iff_forall_mem.mp hF) _ (Array.getElem_mem ha)) i (List.mem_range.mpr hi)
    simpa [Array.getElem?_eq_getElem hi] using q
  obtain ⟨hsets, hown0⟩ := atoms_of _ (rest_1_c_eq ▸ (show rest_1_c.before _ s = true from hrest))
  have hr0 := Cond.before_iff.mp hown0
  obtain ⟨i0, ei0⟩ := is_v ga0
  obtain rfl : w0 = (.int i0) := Option.some.inj ei0
  obtain ⟨i1, ei1⟩ := is_v ga1
  obtain rfl : w1 = (.int i1) := Option.some.inj ei1
  obtain ⟨i2, ei2⟩ := is_v ga2
  obtain rfl : w2 = (.int i2) := Option.some.inj ei2
  obtain ⟨i3, ei3⟩ := is_v ga3
  obtain rfl : w3 = (.int i3) := Option.some.inj ei3
  have nz := not_v (Cond.before_iff.mp (hsets _ (List.mem_of_getElem? (i := 2) rfl)))
  obtain ⟨zc, ez⟩ := is_v (Cond.before_iff.mp (hsets _ (List.mem_of_getElem? (i := 1) rfl)))
  have Scs : Sta s s.heap "java/lang/String" "COMPACT_STRINGS" "Z" (.int zc) := Sta.start ez (Or.inl (hsets _ (List.mem_of_getElem? (i := 0) rfl)))
  have hzc : ¬ (zc = (0 : Int32)) := gotF (Cond.eq_ints ez (Term.int_eval (0))) nz
  have hz0 : ¬ zc.toInt = 0 := fun q => hzc (ow_eq q)
  obtain ⟨wf, ew, hr⟩ := isR_v (Cond.before_iff.mp (hsets _ (List.mem_of_getElem? (i := 8) rfl)))
  have Ssf : Sta s s.heap "jdk/internal/util/Preconditions" "SIOOBE_FORMATTER" "Ljava/util/function/BiFunction;" wf := Sta.start ew (Or.inl (hsets _ (List.mem_of_getElem? (i := 7) rfl)))
  have hwf : wf = .null ∨ ∃ a, wf = .ref a := by
    cases wf with
    | null => exact Or.inl rfl
    | ref a => exact Or.inr ⟨a, rfl⟩
    | _ => cases hr
  obtain ⟨n, o, h1, h2, h3, _, L, rfl, ⟨rfl, N⟩, hq⟩ := rm_law l s _ hw tables_1 i0 i1 i2 i3 zc wf s.heap s.heap.size (Nat.le_refl _) Scs Ssf hz0 hwf p e ha hc hk s m _ below hf ((Spec.applies_iff_loose hf).mp happ).1 ⟨rfl, State.Warmed39.refl s, rfl⟩ trivial
  refine ⟨n, _, h1, h2, h3, hpost _ _ _ _ _ _ ⟨Cond.after_iff.mpr rfl, Cond.after_iff.mpr (eq_i res_at (Term.int_eval (1)) rfl), trivial⟩ ⟨hq.1, hq.2.1, (hq.2.2.sift fun y hy => Or.inr (N y hy)).mono (by decide) (by decide)⟩⟩
theorem main_1_1 : Claimed_1_1 := comes_1 fun _ _ _ _ _ _ h hF => ⟨h.1, hF⟩
theorem main_1_2 : Claimed_1_2 := comes_1 fun _ _ _ _ _ _ h hF => ⟨h.2.1, hF⟩
end Jvm.Pilot.@@N@@
namespace Jvm.Pilot.@@N@@
open Jvm Jvm.ClassFile Sem Op Lib Jvm.Free Jvm.Stand Jvm.Pilot.@@N@@.Jvm.D
/-! MADE BY PROGRAM (witnessworld.py) out of the Statement's table words and the real class files: 23 classes; the members and pool entries that the words name. The judged class is class 1, her method 1. -/
namespace start1
open Jvm.ClassFile
def u (s : String) : CpInfo := .utf8 (stringToUtf16 s)
/-- a pool by its gaps: so many unusable entries, then the entry; so many at the end -/
def gap : Nat → List CpInfo → List CpInfo
  | 0, r => r
  | n + 1, r => .unusable :: gap n r
def poolList (es : List (Nat × CpInfo)) (last : Nat) : List CpInfo := es.foldr (fun e r => gap e.1 (e.2 :: r)) (gap last [])
def pool (es : List (Nat × CpInfo)) (last : Nat) : Array CpInfo := ⟨poolList es last⟩
def fileOf (pool : Array CpInfo) (this : Nat) (attrs : Array Attribute := #[]) (ms : Array MethodInfo := #[]) (fl : Nat := 33) (sup : Nat := 0) (ifs : Array Nat := #[]) (fds : Array FieldInfo := #[]) : ClassFile where
  minorVersion := 0
  majorVersion := 65
  constantPool := pool
  accessFlags := fl
  thisClass := this
  superClass := sup
  interfaces := ifs
  fields := fds
  methods := ms
  attributes := attrs
def plain (name : String) (sup : Option ClassId) : Class where
  name := name
  kind := .ordinary
  loader := none
  accessFlags := 33
  super := sup
  interfaces := #[]
  cf := none
  fields := #[]
  methods := #[]
  instanceTypes := #[]
  staticTypes := #[]
  resolved := #[]
  callSites := []
  init := .initialized
  statics := none
  mirror := none

def pool0 : Array CpInfo := pool [(5, u "<init>"), (0, u "()V"), (1, .class_ 10), (1, u "java/lang/Object")] 113

def k0c0 : Code := { maxStack := 0, maxLocals := 1, code := object_method_1_code, exceptionTable := #[], attributes := #[] }
def k0m0 : Method := { name := "<init>", desc := "()V", sig := { parameters := [], returnType := none }, accessFlags := 1, code := some k0c0 }
/-- java/lang/Object -/
def k0 : Class := { plain "java/lang/Object" none with
  accessFlags := 33
  interfaces := #[]
  cf := some (fileOf pool0 8 #[] #[{ accessFlags := 1, nameIndex := 5, descriptorIndex := 6, attributes := #[] }] 33 0 #[] #[])
  fields := #[]
  methods := #[k0m0]
  instanceTypes := #[]
  staticTypes := #[]
  resolved := Array.replicate 124 none
  statics := none }

def pool1 : Array CpInfo := pool [(2, .class_ 4), (0, .nameAndType 5 6), (0, u "java/lang/Object"), (0, u "<init>"), (0, u "()V"), (0, .class_ 8), (0, u "com/example/strict_audit/strictaudit/format/LineBuffer"), (0, .methodref 7 3), (0, .integer 65534), (0, .methodref 7 12), (0, .nameAndType 13 14), (0, u "append"), (0, u "(B)V"), (0, .class_ 16), (0, u "java/lang/String"), (0, .methodref 15 18), (0, .nameAndType 5 19), (0, u "([C)V"), (0, .methodref 7 21), (0, .nameAndType 22 23), (0, u "appendAscii"), (0, u "(Ljava/lang/String;)V"), (0, .methodref 7 25), (0, .nameAndType 26 27), (0, u "bytes"), (0, u "()[B"), (0, .methodref 7 29), (0, .nameAndType 30 6), (0, u "clear"), (0, .integer 65536), (0, .methodref 7 33), (0, .nameAndType 34 35), (0, u "length"), (0, u "()I"), (0, .methodref 7 37), (0, .nameAndType 38 27), (0, u "toByteArray"), (0, .class_ 40), (0, u "com/example/strict_audit/strictaudit/format/LineBufferClearPinLaw"), (2, u "law"), (0, u "(IIII)Z")] 5

def k1m0 : Method := { name := "<init>", desc := "()V", sig := { parameters := [], returnType := none }, accessFlags := 1, code := none }
def k1c1 : Code := { maxStack := 4, maxLocals := 16, code := code, exceptionTable := #[], attributes := #[] }
def k1m1 : Method := { name := "law", desc := "(IIII)Z", sig := { parameters := [.int, .int, .int, .int], returnType := some .boolean }, accessFlags := 9, code := some k1c1 }
/-- com/example/strict_audit/strictaudit/format/LineBufferClearPinLaw -/
def k1 : Class := { plain "com/example/strict_audit/strictaudit/format/LineBufferClearPinLaw" (some 0) with
  accessFlags := 49
  interfaces := #[]
  cf := some (fileOf pool1 39 #[] #[{ accessFlags := 1, nameIndex := 5, descriptorIndex := 6, attributes := #[] }, { accessFlags := 9, nameIndex := 43, descriptorIndex := 44, attributes := #[] }] 49 2 #[] #[])
  fields := #[]
  methods := #[k1m0, k1m1]
  instanceTypes := #[]
  staticTypes := #[]
  resolved := Array.replicate 50 none
  statics := none }

def pool2 : Array CpInfo := pool [(3, .methodref 4 5), (0, .class_ 6), (0, .nameAndType 7 8), (0, u "java/lang/Object"), (0, u "<init>"), (0, u "()V"), (0, .class_ 10), (0, u "com/example/strict_audit/strictaudit/format/LineBuffer"), (0, .fieldref 9 12), (0, .nameAndType 13 14), (0, u "bytes"), (0, u "[B"), (0, .integer 65536), (0, .fieldref 9 17), (0, .nameAndType 18 19), (0, u "length"), (0, u "I"), (0, .methodref 21 22), (0, .class_ 23), (0, .nameAndType 24 25), (0, u "java/util/Arrays"), (0, u "copyOf"), (0, u "([BI)[B"), (0, .methodref 9 27), (0, .nameAndType 28 29), (0, u "makeRoom"), (0, u "(I)V"), (0, .methodref 31 32), (0, .class_ 33), (0, .nameAndType 18 34), (0, u "java/lang/String"), (0, u "()I"), (0, .methodref 31 36), (0, .nameAndType 37 38), (0, u "charAt"), (0, u "(I)C"), (20, .long 2147483639), (7, u "(Ljava/lang/String;)V"), (0, .long 2), (1, .methodref 71 72), (0, .class_ 73), (0, .nameAndType 74 75), (0, u "java/lang/Math"), (0, u "max"), (0, u "(JJ)J"), (0, .methodref 71 77), (0, .nameAndType 78 75), (0, u "min"), (0, u "FIRST_CAPACITY"), (2, u "KEPT_CAPACITY"), (0, u "MAX_CAPACITY"), (3, u "clear"), (1, u "()[B"), (0, u "toByteArray"), (0, u "append"), (0, u "(B)V"), (0, u "appendAscii")] 4

def k2c0 : Code := { maxStack := 2, maxLocals := 1, code := prog_3_method_1_code, exceptionTable := #[], attributes := #[] }
def k2m0 : Method := { name := "<init>", desc := "()V", sig := { parameters := [], returnType := none }, accessFlags := 1, code := some k2c0 }
def k2c1 : Code := { maxStack := 2, maxLocals := 1, code := prog_3_method_2_code, exceptionTable := #[], attributes := #[] }
def k2m1 : Method := { name := "clear", desc := "()V", sig := { parameters := [], returnType := none }, accessFlags := 1, code := some k2c1 }
def k2c2 : Code := { maxStack := 1, maxLocals := 1, code := prog_3_method_3_code, exceptionTable := #[], attributes := #[] }
def k2m2 : Method := { name := "bytes", desc := "()[B", sig := { parameters := [], returnType := some (.array .byte) }, accessFlags := 1, code := some k2c2 }
def k2c3 : Code := { maxStack := 1, maxLocals := 1, code := prog_3_method_4_code, exceptionTable := #[], attributes := #[] }
def k2m3 : Method := { name := "length", desc := "()I", sig := { parameters := [], returnType := some .int }, accessFlags := 1, code := some k2c3 }
def k2c4 : Code := { maxStack := 2, maxLocals := 1, code := prog_3_method_5_code, exceptionTable := #[], attributes := #[] }
def k2m4 : Method := { name := "toByteArray", desc := "()[B", sig := { parameters := [], returnType := some (.array .byte) }, accessFlags := 1, code := some k2c4 }
def k2c5 : Code := { maxStack := 5, maxLocals := 2, code := prog_3_method_6_code, exceptionTable := #[], attributes := #[] }
def k2m5 : Method := { name := "append", desc := "(B)V", sig := { parameters := [.byte], returnType := none }, accessFlags := 1, code := some k2c5 }
def k2c6 : Code := { maxStack := 5, maxLocals := 3, code := prog_3_method_7_code, exceptionTable := #[], attributes := #[] }
def k2m6 : Method := { name := "appendAscii", desc := "(Ljava/lang/String;)V", sig := { parameters := [(.object "java/lang/String")], returnType := none }, accessFlags := 1, code := some k2c6 }
def k2c7 : Code := { maxStack := 10, maxLocals := 4, code := prog_3_method_9_code, exceptionTable := #[], attributes := #[] }
def k2m7 : Method := { name := "makeRoom", desc := "(I)V", sig := { parameters := [.int], returnType := none }, accessFlags := 2, code := some k2c7 }
/-- com/example/strict_audit/strictaudit/format/LineBuffer -/
def k2 : Class := { plain "com/example/strict_audit/strictaudit/format/LineBuffer" (some 0) with
  accessFlags := 33
  interfaces := #[]
  cf := some (fileOf pool2 9 #[] #[{ accessFlags := 1, nameIndex := 7, descriptorIndex := 8, attributes := #[] }, { accessFlags := 1, nameIndex := 87, descriptorIndex := 8, attributes := #[] }, { accessFlags := 1, nameIndex := 13, descriptorIndex := 89, attributes := #[] }, { accessFlags := 1, nameIndex := 18, descriptorIndex := 34, attributes := #[] }, { accessFlags := 1, nameIndex := 90, descriptorIndex := 89, attributes := #[] }, { accessFlags := 1, nameIndex := 91, descriptorIndex := 92, attributes := #[] }, { accessFlags := 1, nameIndex := 93, descriptorIndex := 67, attributes := #[] }, { accessFlags := 2, nameIndex := 28, descriptorIndex := 29, attributes := #[] }] 33 4 #[] #[{ accessFlags := 26, nameIndex := 79, descriptorIndex := 19, attributes := #[] }, { accessFlags := 26, nameIndex := 82, descriptorIndex := 19, attributes := #[] }, { accessFlags := 26, nameIndex := 83, descriptorIndex := 19, attributes := #[] }, { accessFlags := 2, nameIndex := 13, descriptorIndex := 14, attributes := #[] }, { accessFlags := 2, nameIndex := 18, descriptorIndex := 19, attributes := #[] }])
  fields := #[{ name := "FIRST_CAPACITY", type := .int, accessFlags := 26, slot := 0, constantValue := 0 }, { name := "KEPT_CAPACITY", type := .int, accessFlags := 26, slot := 1, constantValue := 0 }, { name := "MAX_CAPACITY", type := .int, accessFlags := 26, slot := 2, constantValue := 0 }, { name := "bytes", type := (.array .byte), accessFlags := 2, slot := 0, constantValue := 0 }, { name := "length", type := .int, accessFlags := 2, slot := 1, constantValue := 0 }]
  methods := #[k2m0, k2m1, k2m2, k2m3, k2m4, k2m5, k2m6, k2m7]
  instanceTypes := #[(.array .byte), .int]
  staticTypes := #[.int, .int, .int]
  resolved := Array.replicate 98 none
  statics := none }

def pool3 : Array CpInfo := pool [(2, .class_ 4), (1, u "java/lang/Object"), (0, u "<init>"), (0, u "()V"), (7, .class_ 16), (1, u "java/util/Arrays"), (57, .class_ 76), (1, u "java/util/Arrays$NaturalOrder"), (36, .class_ 115), (1, u "java/util/Arrays$LegacyMergeSort"), (1, u "Z"), (32, .methodref 151 152), (0, .class_ 153), (0, .nameAndType 154 155), (0, u "java/lang/System"), (0, u "arraycopy"), (0, u "(Ljava/lang/Object;ILjava/lang/Object;II)V"), (146, u "copyOf"), (1, .methodref 305 306), (0, .class_ 307), (0, .nameAndType 308 309), (0, u "java/lang/Math"), (0, u "min"), (0, u "(II)I"), (65, .class_ 376), (0, u "java/util/Arrays$ArrayList"), (68, u "$assertionsDisabled"), (269, u "MIN_ARRAY_SORT_GRAN"), (0, u "I"), (2, u "INSERTIONSORT_THRESHOLD"), (149, u "([BI)[B"), (105, .class_ 976), (0, u "java/util/Arrays$ArrayItr")] 52

def k3m0 : Method := { name := "<init>", desc := "()V", sig := { parameters := [], returnType := none }, accessFlags := 2, code := none }
def k3c1 : Code := { maxStack := 6, maxLocals := 3, code := jdk_65_method_121_code, exceptionTable := #[], attributes := #[] }
def k3m1 : Method := { name := "copyOf", desc := "([BI)[B", sig := { parameters := [(.array .byte), .int], returnType := some (.array .byte) }, accessFlags := 9, code := some k3c1 }
/-- java/util/Arrays -/
def k3 : Class := { plain "java/util/Arrays" (some 0) with
  accessFlags := 49
  interfaces := #[]
  cf := some (fileOf pool3 14 #[.nestMembers #[975, 375, 113, 74]] #[{ accessFlags := 2, nameIndex := 5, descriptorIndex := 6, attributes := #[] }, { accessFlags := 9, nameIndex := 302, descriptorIndex := 869, attributes := #[] }] 49 2 #[] #[{ accessFlags := 26, nameIndex := 715, descriptorIndex := 716, attributes := #[] }, { accessFlags := 26, nameIndex := 719, descriptorIndex := 716, attributes := #[] }, { accessFlags := 4120, nameIndex := 445, descriptorIndex := 117, attributes := #[] }])
  fields := #[{ name := "MIN_ARRAY_SORT_GRAN", type := .int, accessFlags := 26, slot := 0, constantValue := 0 }, { name := "INSERTIONSORT_THRESHOLD", type := .int, accessFlags := 26, slot := 1, constantValue := 0 }, { name := "$assertionsDisabled", type := .boolean, accessFlags := 4120, slot := 2, constantValue := 0 }]
  methods := #[k3m0, k3m1]
  instanceTypes := #[]
  staticTypes := #[.int, .int, .boolean]
  resolved := Array.replicate 1029 none
  statics := none }

def pool4 : Array CpInfo := pool [(1, .class_ 2), (0, u "java/lang/Math"), (1, .class_ 6), (1, u "java/lang/Object"), (0, u "<init>"), (0, u "()V"), (89, .class_ 100), (1, u "java/lang/Math$RandomNumberGeneratorHolder"), (20, u "(JJ)J"), (50, u "negativeZeroFloatBits"), (0, u "J"), (2, u "negativeZeroDoubleBits"), (21, u "max"), (2, u "min"), (43, u "$assertionsDisabled"), (0, u "Z"), (88, u "(II)I"), (2, u "twoToTheDoubleScaleDown"), (0, u "D"), (4, u "twoToTheDoubleScaleUp"), (9, u "E"), (3, u "PI"), (2, u "TAU"), (2, u "DEGREES_TO_RADIANS"), (0, u "RADIANS_TO_DEGREES")] 94

def k4m0 : Method := { name := "<init>", desc := "()V", sig := { parameters := [], returnType := none }, accessFlags := 2, code := none }
def k4c1 : Code := { maxStack := 4, maxLocals := 4, code := jdk_29_method_66_code, exceptionTable := #[], attributes := #[] }
def k4m1 : Method := { name := "max", desc := "(JJ)J", sig := { parameters := [.long, .long], returnType := some .long }, accessFlags := 9, code := some k4c1 }
def k4c2 : Code := { maxStack := 2, maxLocals := 2, code := jdk_29_method_69_code, exceptionTable := #[], attributes := #[] }
def k4m2 : Method := { name := "min", desc := "(II)I", sig := { parameters := [.int, .int], returnType := some .int }, accessFlags := 9, code := some k4c2 }
def k4c3 : Code := { maxStack := 4, maxLocals := 4, code := jdk_29_method_70_code, exceptionTable := #[], attributes := #[] }
def k4m3 : Method := { name := "min", desc := "(JJ)J", sig := { parameters := [.long, .long], returnType := some .long }, accessFlags := 9, code := some k4c3 }
/-- java/lang/Math -/
def k4 : Class := { plain "java/lang/Math" (some 0) with
  accessFlags := 49
  interfaces := #[]
  cf := some (fileOf pool4 1 #[.nestMembers #[98]] #[{ accessFlags := 2, nameIndex := 7, descriptorIndex := 8, attributes := #[] }, { accessFlags := 9, nameIndex := 198, descriptorIndex := 121, attributes := #[] }, { accessFlags := 9, nameIndex := 201, descriptorIndex := 335, attributes := #[] }, { accessFlags := 9, nameIndex := 201, descriptorIndex := 121, attributes := #[] }] 49 4 #[] #[{ accessFlags := 25, nameIndex := 354, descriptorIndex := 339, attributes := #[] }, { accessFlags := 25, nameIndex := 358, descriptorIndex := 339, attributes := #[] }, { accessFlags := 25, nameIndex := 361, descriptorIndex := 339, attributes := #[] }, { accessFlags := 26, nameIndex := 364, descriptorIndex := 339, attributes := #[] }, { accessFlags := 26, nameIndex := 365, descriptorIndex := 339, attributes := #[] }, { accessFlags := 26, nameIndex := 172, descriptorIndex := 173, attributes := #[] }, { accessFlags := 26, nameIndex := 176, descriptorIndex := 173, attributes := #[] }, { accessFlags := 8, nameIndex := 344, descriptorIndex := 339, attributes := #[] }, { accessFlags := 8, nameIndex := 338, descriptorIndex := 339, attributes := #[] }, { accessFlags := 4120, nameIndex := 245, descriptorIndex := 246, attributes := #[] }])
  fields := #[{ name := "E", type := .double, accessFlags := 25, slot := 0, constantValue := 0 }, { name := "PI", type := .double, accessFlags := 25, slot := 1, constantValue := 0 }, { name := "TAU", type := .double, accessFlags := 25, slot := 2, constantValue := 0 }, { name := "DEGREES_TO_RADIANS", type := .double, accessFlags := 26, slot := 3, constantValue := 0 }, { name := "RADIANS_TO_DEGREES", type := .double, accessFlags := 26, slot := 4, constantValue := 0 }, { name := "negativeZeroFloatBits", type := .long, accessFlags := 26, slot := 5, constantValue := 0 }, { name := "negativeZeroDoubleBits", type := .long, accessFlags := 26, slot := 6, constantValue := 0 }, { name := "twoToTheDoubleScaleUp", type := .double, accessFlags := 8, slot := 7, constantValue := 0 }, { name := "twoToTheDoubleScaleDown", type := .double, accessFlags := 8, slot := 8, constantValue := 0 }, { name := "$assertionsDisabled", type := .boolean, accessFlags := 4120, slot := 9, constantValue := 0 }]
  methods := #[k4m0, k4m1, k4m2, k4m3]
  instanceTypes := #[]
  staticTypes := #[.double, .double, .double, .double, .double, .long, .long, .double, .double, .boolean]
  resolved := Array.replicate 460 none
  statics := none }

def pool5 : Array CpInfo := pool [(2, .class_ 4), (1, u "java/lang/Object"), (0, u "<init>"), (0, u "()V"), (1, .class_ 10), (1, u "java/lang/System"), (0, u "allowSecurityManager"), (0, u "I"), (16, u "cons"), (0, u "Ljava/io/Console;"), (77, .class_ 110), (1, u "java/lang/System$CallersHolder"), (43, u "initialErrStream"), (0, u "Ljava/io/PrintStream;"), (19, u "security"), (0, u "Ljava/lang/SecurityManager;"), (31, .class_ 209), (0, u "java/lang/System$1"), (7, u "props"), (0, u "Ljava/util/Properties;"), (2, u "lineSeparator"), (0, u "Ljava/lang/String;"), (96, .class_ 321), (1, u "java/lang/System$LoggerFinder"), (5, .class_ 328), (0, u "java/lang/System$Logger"), (67, u "err"), (2, u "out"), (91, u "notSupportedJnuEncoding"), (15, u "in"), (17, u "initialIn"), (0, u "Ljava/io/InputStream;"), (35, u "bootLayer"), (0, u "Ljava/lang/ModuleLayer;"), (99, .class_ 664), (0, u "java/lang/System$2"), (9, u "NEVER"), (2, u "MAYBE"), (49, u "arraycopy"), (0, u "(Ljava/lang/Object;ILjava/lang/Object;II)V"), (72, .class_ 802), (0, u "java/lang/System$Logger$Level")] 31

def k5m0 : Method := { name := "<init>", desc := "()V", sig := { parameters := [], returnType := none }, accessFlags := 2, code := none }
def k5m1 : Method := { name := "arraycopy", desc := "(Ljava/lang/Object;ILjava/lang/Object;II)V", sig := { parameters := [(.object "java/lang/Object"), .int, (.object "java/lang/Object"), .int, .int], returnType := none }, accessFlags := 265, code := none }
/-- java/lang/System -/
def k5 : Class := { plain "java/lang/System" (some 0) with
  accessFlags := 49
  interfaces := #[]
  cf := some (fileOf pool5 8 #[.nestMembers #[319, 327, 801, 108, 663, 208]] #[{ accessFlags := 2, nameIndex := 5, descriptorIndex := 6, attributes := #[] }, { accessFlags := 265, nameIndex := 727, descriptorIndex := 728, attributes := #[] }] 49 2 #[] #[{ accessFlags := 25, nameIndex := 507, descriptorIndex := 526, attributes := #[] }, { accessFlags := 25, nameIndex := 399, descriptorIndex := 155, attributes := #[] }, { accessFlags := 25, nameIndex := 396, descriptorIndex := 155, attributes := #[] }, { accessFlags := 10, nameIndex := 525, descriptorIndex := 526, attributes := #[] }, { accessFlags := 26, nameIndex := 674, descriptorIndex := 12, attributes := #[] }, { accessFlags := 26, nameIndex := 677, descriptorIndex := 12, attributes := #[] }, { accessFlags := 10, nameIndex := 11, descriptorIndex := 12, attributes := #[] }, { accessFlags := 74, nameIndex := 175, descriptorIndex := 176, attributes := #[] }, { accessFlags := 10, nameIndex := 491, descriptorIndex := 222, attributes := #[] }, { accessFlags := 74, nameIndex := 29, descriptorIndex := 30, attributes := #[] }, { accessFlags := 74, nameIndex := 154, descriptorIndex := 155, attributes := #[] }, { accessFlags := 10, nameIndex := 217, descriptorIndex := 218, attributes := #[] }, { accessFlags := 10, nameIndex := 221, descriptorIndex := 222, attributes := #[] }, { accessFlags := 8, nameIndex := 562, descriptorIndex := 563, attributes := #[] }])
  fields := #[{ name := "in", type := (.object "java/io/InputStream"), accessFlags := 25, slot := 0, constantValue := 0 }, { name := "out", type := (.object "java/io/PrintStream"), accessFlags := 25, slot := 1, constantValue := 0 }, { name := "err", type := (.object "java/io/PrintStream"), accessFlags := 25, slot := 2, constantValue := 0 }, { name := "initialIn", type := (.object "java/io/InputStream"), accessFlags := 10, slot := 3, constantValue := 0 }, { name := "NEVER", type := .int, accessFlags := 26, slot := 4, constantValue := 0 }, { name := "MAYBE", type := .int, accessFlags := 26, slot := 5, constantValue := 0 }, { name := "allowSecurityManager", type := .int, accessFlags := 10, slot := 6, constantValue := 0 }, { name := "security", type := (.object "java/lang/SecurityManager"), accessFlags := 74, slot := 7, constantValue := 0 }, { name := "notSupportedJnuEncoding", type := (.object "java/lang/String"), accessFlags := 10, slot := 8, constantValue := 0 }, { name := "cons", type := (.object "java/io/Console"), accessFlags := 74, slot := 9, constantValue := 0 }, { name := "initialErrStream", type := (.object "java/io/PrintStream"), accessFlags := 74, slot := 10, constantValue := 0 }, { name := "props", type := (.object "java/util/Properties"), accessFlags := 10, slot := 11, constantValue := 0 }, { name := "lineSeparator", type := (.object "java/lang/String"), accessFlags := 10, slot := 12, constantValue := 0 }, { name := "bootLayer", type := (.object "java/lang/ModuleLayer"), accessFlags := 8, slot := 13, constantValue := 0 }]
  methods := #[k5m0, k5m1]
  instanceTypes := #[]
  staticTypes := #[(.object "java/io/InputStream"), (.object "java/io/PrintStream"), (.object "java/io/PrintStream"), (.object "java/io/InputStream"), .int, .int, .int, (.object "java/lang/SecurityManager"), (.object "java/lang/String"), (.object "java/io/Console"), (.object "java/io/PrintStream"), (.object "java/util/Properties"), (.object "java/lang/String"), (.object "java/lang/ModuleLayer")]
  resolved := Array.replicate 834 none
  statics := none }

def pool6 : Array CpInfo := pool [(1, .class_ 2), (0, u "java/io/Serializable"), (0, .class_ 4), (0, u "java/lang/Object")] 2

/-- java/io/Serializable -/
def k6 : Class := { plain "java/io/Serializable" (some 0) with
  accessFlags := 1537
  interfaces := #[]
  cf := some (fileOf pool6 1 #[] #[] 1537 3 #[] #[])
  fields := #[]
  methods := #[]
  instanceTypes := #[]
  staticTypes := #[]
  resolved := Array.replicate 7 none
  statics := none }

def pool7 : Array CpInfo := pool [(1, .class_ 2), (0, u "java/lang/Comparable"), (0, .class_ 4), (0, u "java/lang/Object")] 7

/-- java/lang/Comparable -/
def k7 : Class := { plain "java/lang/Comparable" (some 0) with
  accessFlags := 1537
  interfaces := #[]
  cf := some (fileOf pool7 1 #[] #[] 1537 3 #[] #[])
  fields := #[]
  methods := #[]
  instanceTypes := #[]
  staticTypes := #[]
  resolved := Array.replicate 12 none
  statics := none }

def pool8 : Array CpInfo := pool [(2, .class_ 4), (1, u "java/lang/CharSequence"), (42, .class_ 48), (0, u "java/lang/CharSequence$1CodePointIterator"), (10, .class_ 60), (0, u "java/lang/CharSequence$1CharIterator"), (5, .class_ 67), (0, u "java/lang/Object")] 63

/-- java/lang/CharSequence -/
def k8 : Class := { plain "java/lang/CharSequence" (some 0) with
  accessFlags := 1537
  interfaces := #[]
  cf := some (fileOf pool8 2 #[.nestMembers #[47, 59]] #[] 1537 66 #[] #[])
  fields := #[]
  methods := #[]
  instanceTypes := #[]
  staticTypes := #[]
  resolved := Array.replicate 131 none
  statics := none }

def pool9 : Array CpInfo := pool [(1, .class_ 2), (0, u "java/lang/constant/Constable"), (0, .class_ 4), (0, u "java/lang/Object")] 6

/-- java/lang/constant/Constable -/
def k9 : Class := { plain "java/lang/constant/Constable" (some 0) with
  accessFlags := 1537
  interfaces := #[]
  cf := some (fileOf pool9 1 #[] #[] 1537 3 #[] #[])
  fields := #[]
  methods := #[]
  instanceTypes := #[]
  staticTypes := #[]
  resolved := Array.replicate 11 none
  statics := none }

def pool10 : Array CpInfo := pool [(1, .class_ 2), (0, u "java/lang/constant/ConstantDesc"), (0, .class_ 4), (0, u "java/lang/Object")] 32

/-- java/lang/constant/ConstantDesc -/
def k10 : Class := { plain "java/lang/constant/ConstantDesc" (some 0) with
  accessFlags := 1537
  interfaces := #[]
  cf := some (fileOf pool10 1 #[] #[] 1537 3 #[] #[])
  fields := #[]
  methods := #[]
  instanceTypes := #[]
  staticTypes := #[]
  resolved := Array.replicate 37 none
  statics := none }

def pool11 : Array CpInfo := pool [(1, .methodref 2 3), (0, .class_ 4), (0, .nameAndType 5 6), (0, u "java/lang/Object"), (0, u "<init>"), (0, u "()V"), (2, .fieldref 10 11), (0, .class_ 12), (0, .nameAndType 13 14), (0, u "java/lang/String"), (0, u "value"), (0, u "[B"), (0, .fieldref 10 16), (0, .nameAndType 17 18), (0, u "coder"), (0, u "B"), (2, u "hash"), (0, u "I"), (2, u "hashIsZero"), (0, u "Z"), (0, .methodref 10 28), (0, .nameAndType 5 29), (0, u "([CIILjava/lang/Void;)V"), (8, .fieldref 10 39), (0, .nameAndType 40 26), (0, u "COMPACT_STRINGS"), (1, .class_ 44), (1, u "java/lang/StringUTF16"), (0, u "compress"), (1, .methodref 42 48), (0, .nameAndType 49 50), (0, u "coderFromArrayLen"), (0, u "([BI)B"), (56, .class_ 109), (1, u "java/lang/StringLatin1"), (32, u "()Z"), (34, .methodref 42 178), (0, .nameAndType 45 179), (0, u "([CII)[B"), (154, u "()I"), (0, .methodref 10 336), (0, .nameAndType 17 337), (0, u "()B"), (25, u "([BI)C"), (27, u "(II)V"), (35, u "(I)C"), (64, .methodref 10 493), (0, .nameAndType 494 142), (0, u "isLatin1"), (0, .methodref 107 496), (0, .nameAndType 497 363), (0, u "charAt"), (3, u "checkIndex"), (5, u "length"), (67, .class_ 576), (0, u "java/lang/CharSequence"), (22, u "CASE_INSENSITIVE_ORDER"), (0, u "Ljava/util/Comparator;"), (409, u "([C)V"), (42, .fieldref 1054 1055), (0, .class_ 1056), (0, .nameAndType 1057 1058), (0, u "jdk/internal/util/Preconditions"), (0, u "SIOOBE_FORMATTER"), (0, u "Ljava/util/function/BiFunction;"), (0, .methodref 1054 1060), (0, .nameAndType 501 1061), (0, u "(IILjava/util/function/BiFunction;)I"), (39, u "serialPersistentFields"), (0, u "[Ljava/io/ObjectStreamField;"), (0, .class_ 1104), (0, u "java/lang/String$CaseInsensitiveComparator"), (1, .class_ 1107), (0, u "java/io/Serializable"), (0, .class_ 1109), (0, u "java/lang/Comparable"), (0, .class_ 1111), (0, u "java/lang/constant/Constable"), (0, .class_ 1113), (0, u "java/lang/constant/ConstantDesc"), (2, u "serialVersionUID"), (0, u "J"), (3, u "REPL"), (0, u "C"), (2, u "LATIN1"), (1, u "UTF16")] 323

def k11m0 : Method := { name := "<init>", desc := "()V", sig := { parameters := [], returnType := none }, accessFlags := 1, code := none }
def k11c1 : Code := { maxStack := 5, maxLocals := 2, code := jdk_42_method_3_code, exceptionTable := #[], attributes := #[] }
def k11m1 : Method := { name := "<init>", desc := "([C)V", sig := { parameters := [(.array .char)], returnType := none }, accessFlags := 1, code := some k11c1 }
def k11c2 : Code := { maxStack := 2, maxLocals := 1, code := jdk_42_method_54_code, exceptionTable := #[], attributes := #[] }
def k11m2 : Method := { name := "length", desc := "()I", sig := { parameters := [], returnType := some .int }, accessFlags := 1, code := some k11c2 }
def k11c3 : Code := { maxStack := 2, maxLocals := 2, code := jdk_42_method_56_code, exceptionTable := #[], attributes := #[] }
def k11m3 : Method := { name := "charAt", desc := "(I)C", sig := { parameters := [.int], returnType := some .char }, accessFlags := 1, code := some k11c3 }
def k11c4 : Code := { maxStack := 4, maxLocals := 6, code := jdk_42_method_149_code, exceptionTable := #[], attributes := #[] }
def k11m4 : Method := { name := "<init>", desc := "([CIILjava/lang/Void;)V", sig := { parameters := [(.array .char), .int, .int, (.object "java/lang/Void")], returnType := none }, accessFlags := 2, code := some k11c4 }
def k11c5 : Code := { maxStack := 1, maxLocals := 1, code := jdk_42_method_152_code, exceptionTable := #[], attributes := #[] }
def k11m5 : Method := { name := "coder", desc := "()B", sig := { parameters := [], returnType := some .byte }, accessFlags := 0, code := some k11c5 }
def k11c6 : Code := { maxStack := 1, maxLocals := 1, code := jdk_42_method_154_code, exceptionTable := #[], attributes := #[] }
def k11m6 : Method := { name := "isLatin1", desc := "()Z", sig := { parameters := [], returnType := some .boolean }, accessFlags := 0, code := some k11c6 }
def k11c7 : Code := { maxStack := 3, maxLocals := 2, code := jdk_42_method_155_code, exceptionTable := #[], attributes := #[] }
def k11m7 : Method := { name := "checkIndex", desc := "(II)V", sig := { parameters := [.int, .int], returnType := none }, accessFlags := 8, code := some k11c7 }
/-- java/lang/String -/
def k11 : Class := { plain "java/lang/String" (some 0) with
  accessFlags := 49
  interfaces := #[6, 7, 8, 9, 10]
  cf := some (fileOf pool11 10 #[.nestMembers #[1103]] #[{ accessFlags := 1, nameIndex := 5, descriptorIndex := 6, attributes := #[] }, { accessFlags := 1, nameIndex := 5, descriptorIndex := 1010, attributes := #[] }, { accessFlags := 1, nameIndex := 507, descriptorIndex := 334, attributes := #[] }, { accessFlags := 1, nameIndex := 497, descriptorIndex := 427, attributes := #[] }, { accessFlags := 2, nameIndex := 5, descriptorIndex := 29, attributes := #[] }, { accessFlags := 0, nameIndex := 17, descriptorIndex := 337, attributes := #[] }, { accessFlags := 0, nameIndex := 494, descriptorIndex := 142, attributes := #[] }, { accessFlags := 8, nameIndex := 501, descriptorIndex := 391, attributes := #[] }] 49 2 #[1106, 1108, 575, 1110, 1112] #[{ accessFlags := 18, nameIndex := 13, descriptorIndex := 14, attributes := #[] }, { accessFlags := 18, nameIndex := 17, descriptorIndex := 18, attributes := #[] }, { accessFlags := 2, nameIndex := 21, descriptorIndex := 22, attributes := #[] }, { accessFlags := 2, nameIndex := 25, descriptorIndex := 26, attributes := #[] }, { accessFlags := 26, nameIndex := 1116, descriptorIndex := 1117, attributes := #[] }, { accessFlags := 24, nameIndex := 40, descriptorIndex := 26, attributes := #[] }, { accessFlags := 26, nameIndex := 1101, descriptorIndex := 1102, attributes := #[] }, { accessFlags := 26, nameIndex := 1121, descriptorIndex := 1122, attributes := #[] }, { accessFlags := 25, nameIndex := 599, descriptorIndex := 600, attributes := #[] }, { accessFlags := 24, nameIndex := 1125, descriptorIndex := 18, attributes := #[] }, { accessFlags := 24, nameIndex := 1127, descriptorIndex := 18, attributes := #[] }])
  fields := #[{ name := "value", type := (.array .byte), accessFlags := 18, slot := 0, constantValue := 0 }, { name := "coder", type := .byte, accessFlags := 18, slot := 1, constantValue := 0 }, { name := "hash", type := .int, accessFlags := 2, slot := 2, constantValue := 0 }, { name := "hashIsZero", type := .boolean, accessFlags := 2, slot := 3, constantValue := 0 }, { name := "serialVersionUID", type := .long, accessFlags := 26, slot := 0, constantValue := 0 }, { name := "COMPACT_STRINGS", type := .boolean, accessFlags := 24, slot := 1, constantValue := 0 }, { name := "serialPersistentFields", type := (.array (.object "java/io/ObjectStreamField")), accessFlags := 26, slot := 2, constantValue := 0 }, { name := "REPL", type := .char, accessFlags := 26, slot := 3, constantValue := 0 }, { name := "CASE_INSENSITIVE_ORDER", type := (.object "java/util/Comparator"), accessFlags := 25, slot := 4, constantValue := 0 }, { name := "LATIN1", type := .byte, accessFlags := 24, slot := 5, constantValue := 0 }, { name := "UTF16", type := .byte, accessFlags := 24, slot := 6, constantValue := 0 }]
  methods := #[k11m0, k11m1, k11m2, k11m3, k11m4, k11m5, k11m6, k11m7]
  instanceTypes := #[(.array .byte), .byte, .int, .boolean]
  staticTypes := #[.long, .boolean, (.array (.object "java/io/ObjectStreamField")), .char, (.object "java/util/Comparator"), .byte, .byte]
  resolved := Array.replicate 1451 none
  statics := some 0 }

def pool12 : Array CpInfo := pool [(6, .class_ 8), (1, u "java/lang/Object"), (0, u "<init>"), (0, u "()V"), (1, .class_ 14), (1, u "java/lang/StringUTF16"), (31, u "$assertionsDisabled"), (0, u "Z"), (13, u "HI_BYTE_SHIFT"), (0, u "I"), (2, u "LO_BYTE_SHIFT"), (49, .methodref 12 116), (0, .nameAndType 117 118), (0, u "compress"), (0, u "([CI[BII)I"), (3, u "([CII)[B"), (138, u "coderFromArrayLen"), (0, u "([BI)B"), (106, .class_ 371), (1, u "java/lang/StringUTF16$LinesSpliterator"), (58, u "MAX_LENGTH"), (196, .class_ 628), (0, u "java/lang/StringUTF16$CodePointsSpliterator"), (0, .class_ 630), (0, u "java/lang/StringUTF16$CharsSpliterator")] 4

def k12m0 : Method := { name := "<init>", desc := "()V", sig := { parameters := [], returnType := none }, accessFlags := 0, code := none }
def k12c1 : Code := { maxStack := 2, maxLocals := 2, code := jdk_52_method_15_code, exceptionTable := #[], attributes := #[] }
def k12m1 : Method := { name := "coderFromArrayLen", desc := "([BI)B", sig := { parameters := [(.array .byte), .int], returnType := some .byte }, accessFlags := 8, code := some k12c1 }
def k12c2 : Code := { maxStack := 5, maxLocals := 6, code := jdk_52_method_16_code, exceptionTable := #[], attributes := #[] }
def k12m2 : Method := { name := "compress", desc := "([CII)[B", sig := { parameters := [(.array .char), .int, .int], returnType := some (.array .byte) }, accessFlags := 9, code := some k12c2 }
def k12c3 : Code := { maxStack := 3, maxLocals := 7, code := jdk_52_method_21_code, exceptionTable := #[], attributes := #[] }
def k12m3 : Method := { name := "compress", desc := "([CI[BII)I", sig := { parameters := [(.array .char), .int, (.array .byte), .int, .int], returnType := some .int }, accessFlags := 9, code := some k12c3 }
/-- java/lang/StringUTF16 -/
def k12 : Class := { plain "java/lang/StringUTF16" (some 0) with
  accessFlags := 48
  interfaces := #[]
  cf := some (fileOf pool12 12 #[.nestMembers #[627, 629, 369]] #[{ accessFlags := 0, nameIndex := 9, descriptorIndex := 10, attributes := #[] }, { accessFlags := 8, nameIndex := 261, descriptorIndex := 262, attributes := #[] }, { accessFlags := 9, nameIndex := 117, descriptorIndex := 122, attributes := #[] }, { accessFlags := 9, nameIndex := 117, descriptorIndex := 118, attributes := #[] }] 48 6 #[] #[{ accessFlags := 26, nameIndex := 61, descriptorIndex := 62, attributes := #[] }, { accessFlags := 26, nameIndex := 65, descriptorIndex := 62, attributes := #[] }, { accessFlags := 24, nameIndex := 430, descriptorIndex := 62, attributes := #[] }, { accessFlags := 4120, nameIndex := 46, descriptorIndex := 47, attributes := #[] }])
  fields := #[{ name := "HI_BYTE_SHIFT", type := .int, accessFlags := 26, slot := 0, constantValue := 0 }, { name := "LO_BYTE_SHIFT", type := .int, accessFlags := 26, slot := 1, constantValue := 0 }, { name := "MAX_LENGTH", type := .int, accessFlags := 24, slot := 2, constantValue := 0 }, { name := "$assertionsDisabled", type := .boolean, accessFlags := 4120, slot := 3, constantValue := 0 }]
  methods := #[k12m0, k12m1, k12m2, k12m3]
  instanceTypes := #[]
  staticTypes := #[.int, .int, .int, .boolean]
  resolved := Array.replicate 635 none
  statics := none }

def pool13 : Array CpInfo := pool [(1, .class_ 2), (0, u "java/lang/String"), (1, .class_ 6), (1, u "java/lang/Object"), (0, u "<init>"), (0, u "()V"), (0, .methodref 1 10), (0, .nameAndType 11 12), (0, u "checkIndex"), (0, u "(II)V"), (1, .class_ 16), (1, u "java/lang/StringLatin1"), (36, u "([BI)C"), (67, u "$assertionsDisabled"), (0, u "Z"), (98, .class_ 223), (1, u "java/lang/StringLatin1$LinesSpliterator"), (28, u "charAt"), (137, .class_ 391), (0, u "java/lang/StringLatin1$CharsSpliterator")] 3

def k13m0 : Method := { name := "<init>", desc := "()V", sig := { parameters := [], returnType := none }, accessFlags := 0, code := none }
def k13c1 : Code := { maxStack := 2, maxLocals := 2, code := jdk_43_method_2_code, exceptionTable := #[], attributes := #[] }
def k13m1 : Method := { name := "charAt", desc := "([BI)C", sig := { parameters := [(.array .byte), .int], returnType := some .char }, accessFlags := 9, code := some k13c1 }
/-- java/lang/StringLatin1 -/
def k13 : Class := { plain "java/lang/StringLatin1" (some 0) with
  accessFlags := 48
  interfaces := #[]
  cf := some (fileOf pool13 14 #[.nestMembers #[390, 221]] #[{ accessFlags := 0, nameIndex := 7, descriptorIndex := 8, attributes := #[] }, { accessFlags := 9, nameIndex := 252, descriptorIndex := 53, attributes := #[] }] 48 4 #[] #[{ accessFlags := 4120, nameIndex := 121, descriptorIndex := 122, attributes := #[] }])
  fields := #[{ name := "$assertionsDisabled", type := .boolean, accessFlags := 4120, slot := 0, constantValue := 0 }]
  methods := #[k13m0, k13m1]
  instanceTypes := #[]
  staticTypes := #[.boolean]
  resolved := Array.replicate 395 none
  statics := none }

def pool14 : Array CpInfo := pool [(2, .class_ 4), (1, u "java/lang/Object"), (0, u "<init>"), (0, u "()V"), (17, .class_ 26), (1, u "jdk/internal/util/Preconditions"), (6, u "checkIndex"), (21, .class_ 56), (0, u "jdk/internal/util/Preconditions$4"), (57, .class_ 115), (0, u "jdk/internal/util/Preconditions$1"), (7, u "SIOOBE_FORMATTER"), (0, u "Ljava/util/function/BiFunction;"), (0, .class_ 126), (0, u "jdk/internal/util/Preconditions$2"), (3, u "AIOOBE_FORMATTER"), (0, .class_ 132), (0, u "jdk/internal/util/Preconditions$3"), (3, u "IOOBE_FORMATTER"), (41, u "(IILjava/util/function/BiFunction;)I")] 15

def k14m0 : Method := { name := "<init>", desc := "()V", sig := { parameters := [], returnType := none }, accessFlags := 1, code := none }
def k14c1 : Code := { maxStack := 3, maxLocals := 3, code := jdk_41_method_11_code, exceptionTable := #[], attributes := #[] }
def k14m1 : Method := { name := "checkIndex", desc := "(IILjava/util/function/BiFunction;)I", sig := { parameters := [.int, .int, (.object "java/util/function/BiFunction")], returnType := some .int }, accessFlags := 9, code := some k14c1 }
/-- jdk/internal/util/Preconditions -/
def k14 : Class := { plain "jdk/internal/util/Preconditions" (some 0) with
  accessFlags := 33
  interfaces := #[]
  cf := some (fileOf pool14 24 #[.nestMembers #[55, 131, 125, 114]] #[{ accessFlags := 1, nameIndex := 5, descriptorIndex := 6, attributes := #[] }, { accessFlags := 9, nameIndex := 33, descriptorIndex := 178, attributes := #[] }] 33 2 #[] #[{ accessFlags := 25, nameIndex := 123, descriptorIndex := 124, attributes := #[] }, { accessFlags := 25, nameIndex := 130, descriptorIndex := 124, attributes := #[] }, { accessFlags := 25, nameIndex := 136, descriptorIndex := 124, attributes := #[] }])
  fields := #[{ name := "SIOOBE_FORMATTER", type := (.object "java/util/function/BiFunction"), accessFlags := 25, slot := 0, constantValue := 0 }, { name := "AIOOBE_FORMATTER", type := (.object "java/util/function/BiFunction"), accessFlags := 25, slot := 1, constantValue := 0 }, { name := "IOOBE_FORMATTER", type := (.object "java/util/function/BiFunction"), accessFlags := 25, slot := 2, constantValue := 0 }]
  methods := #[k14m0, k14m1]
  instanceTypes := #[]
  staticTypes := #[(.object "java/util/function/BiFunction"), (.object "java/util/function/BiFunction"), (.object "java/util/function/BiFunction")]
  resolved := Array.replicate 194 none
  statics := some 1 }

def pool15 : Array CpInfo := pool [(9, u "<init>"), (6, .class_ 18), (1, u "java/lang/Object"), (0, u "()V"), (1, .class_ 23), (1, u "jdk/internal/util/ArraysSupport"), (0, u "LOG2_ARRAY_LONG_INDEX_SCALE"), (0, u "I"), (2, u "U"), (0, u "Ljdk/internal/misc/Unsafe;"), (8, u "BIG_ENDIAN"), (0, u "Z"), (8, u "LOG2_BYTE_BIT_SIZE"), (4, u "LOG2_ARRAY_INT_INDEX_SCALE"), (54, u "JLA"), (0, u "Ljdk/internal/access/JavaLangAccess;"), (11, u "LOG2_ARRAY_BOOLEAN_INDEX_SCALE"), (9, u "LOG2_ARRAY_BYTE_INDEX_SCALE"), (5, u "LOG2_ARRAY_CHAR_INDEX_SCALE"), (5, u "LOG2_ARRAY_SHORT_INDEX_SCALE"), (18, u "LOG2_ARRAY_FLOAT_INDEX_SCALE"), (24, u "LOG2_ARRAY_DOUBLE_INDEX_SCALE"), (89, u "T_BOOLEAN"), (2, u "T_CHAR"), (1, u "T_FLOAT"), (1, u "T_DOUBLE"), (1, u "T_BYTE"), (1, u "T_SHORT"), (1, u "T_INT"), (1, u "T_LONG"), (1, u "SOFT_MAX_ARRAY_LENGTH")] 83

def k15m0 : Method := { name := "<init>", desc := "()V", sig := { parameters := [], returnType := none }, accessFlags := 2, code := none }
/-- jdk/internal/util/ArraysSupport -/
def k15 : Class := { plain "jdk/internal/util/ArraysSupport" (some 0) with
  accessFlags := 33
  interfaces := #[]
  cf := some (fileOf pool15 21 #[] #[{ accessFlags := 2, nameIndex := 9, descriptorIndex := 19, attributes := #[] }] 33 16 #[] #[{ accessFlags := 24, nameIndex := 28, descriptorIndex := 29, attributes := #[] }, { accessFlags := 26, nameIndex := 38, descriptorIndex := 39, attributes := #[] }, { accessFlags := 25, nameIndex := 121, descriptorIndex := 25, attributes := #[] }, { accessFlags := 25, nameIndex := 131, descriptorIndex := 25, attributes := #[] }, { accessFlags := 25, nameIndex := 137, descriptorIndex := 25, attributes := #[] }, { accessFlags := 25, nameIndex := 143, descriptorIndex := 25, attributes := #[] }, { accessFlags := 25, nameIndex := 53, descriptorIndex := 25, attributes := #[] }, { accessFlags := 25, nameIndex := 24, descriptorIndex := 25, attributes := #[] }, { accessFlags := 25, nameIndex := 162, descriptorIndex := 25, attributes := #[] }, { accessFlags := 25, nameIndex := 187, descriptorIndex := 25, attributes := #[] }, { accessFlags := 26, nameIndex := 48, descriptorIndex := 25, attributes := #[] }, { accessFlags := 25, nameIndex := 277, descriptorIndex := 25, attributes := #[] }, { accessFlags := 25, nameIndex := 280, descriptorIndex := 25, attributes := #[] }, { accessFlags := 25, nameIndex := 282, descriptorIndex := 25, attributes := #[] }, { accessFlags := 25, nameIndex := 284, descriptorIndex := 25, attributes := #[] }, { accessFlags := 25, nameIndex := 286, descriptorIndex := 25, attributes := #[] }, { accessFlags := 25, nameIndex := 288, descriptorIndex := 25, attributes := #[] }, { accessFlags := 25, nameIndex := 290, descriptorIndex := 25, attributes := #[] }, { accessFlags := 25, nameIndex := 292, descriptorIndex := 25, attributes := #[] }, { accessFlags := 26, nameIndex := 108, descriptorIndex := 109, attributes := #[] }, { accessFlags := 25, nameIndex := 294, descriptorIndex := 25, attributes := #[] }])
  fields := #[{ name := "U", type := (.object "jdk/internal/misc/Unsafe"), accessFlags := 24, slot := 0, constantValue := 0 }, { name := "BIG_ENDIAN", type := .boolean, accessFlags := 26, slot := 1, constantValue := 0 }, { name := "LOG2_ARRAY_BOOLEAN_INDEX_SCALE", type := .int, accessFlags := 25, slot := 2, constantValue := 0 }, { name := "LOG2_ARRAY_BYTE_INDEX_SCALE", type := .int, accessFlags := 25, slot := 3, constantValue := 0 }, { name := "LOG2_ARRAY_CHAR_INDEX_SCALE", type := .int, accessFlags := 25, slot := 4, constantValue := 0 }, { name := "LOG2_ARRAY_SHORT_INDEX_SCALE", type := .int, accessFlags := 25, slot := 5, constantValue := 0 }, { name := "LOG2_ARRAY_INT_INDEX_SCALE", type := .int, accessFlags := 25, slot := 6, constantValue := 0 }, { name := "LOG2_ARRAY_LONG_INDEX_SCALE", type := .int, accessFlags := 25, slot := 7, constantValue := 0 }, { name := "LOG2_ARRAY_FLOAT_INDEX_SCALE", type := .int, accessFlags := 25, slot := 8, constantValue := 0 }, { name := "LOG2_ARRAY_DOUBLE_INDEX_SCALE", type := .int, accessFlags := 25, slot := 9, constantValue := 0 }, { name := "LOG2_BYTE_BIT_SIZE", type := .int, accessFlags := 26, slot := 10, constantValue := 0 }, { name := "T_BOOLEAN", type := .int, accessFlags := 25, slot := 11, constantValue := 0 }, { name := "T_CHAR", type := .int, accessFlags := 25, slot := 12, constantValue := 0 }, { name := "T_FLOAT", type := .int, accessFlags := 25, slot := 13, constantValue := 0 }, { name := "T_DOUBLE", type := .int, accessFlags := 25, slot := 14, constantValue := 0 }, { name := "T_BYTE", type := .int, accessFlags := 25, slot := 15, constantValue := 0 }, { name := "T_SHORT", type := .int, accessFlags := 25, slot := 16, constantValue := 0 }, { name := "T_INT", type := .int, accessFlags := 25, slot := 17, constantValue := 0 }, { name := "T_LONG", type := .int, accessFlags := 25, slot := 18, constantValue := 0 }, { name := "JLA", type := (.object "jdk/internal/access/JavaLangAccess"), accessFlags := 26, slot := 19, constantValue := 0 }, { name := "SOFT_MAX_ARRAY_LENGTH", type := .int, accessFlags := 25, slot := 20, constantValue := 0 }]
  methods := #[k15m0]
  instanceTypes := #[]
  staticTypes := #[(.object "jdk/internal/misc/Unsafe"), .boolean, .int, .int, .int, .int, .int, .int, .int, .int, .int, .int, .int, .int, .int, .int, .int, .int, .int, (.object "jdk/internal/access/JavaLangAccess"), .int]
  resolved := Array.replicate 378 none
  statics := none }

def pool16 : Array CpInfo := pool [(1, u "java/lang/Cloneable"), (0, .class_ 1), (0, u "java/lang/Object"), (0, .class_ 3)] 3

/-- java/lang/Cloneable -/
def k16 : Class := { plain "java/lang/Cloneable" (some 0) with
  accessFlags := 1537
  interfaces := #[]
  cf := some (fileOf pool16 2 #[] #[] 1537 4 #[] #[])
  fields := #[]
  methods := #[]
  instanceTypes := #[]
  staticTypes := #[]
  resolved := Array.replicate 8 none
  statics := none }

/-- the primitive byte -/
def k17 : Class := { plain "byte" none with kind := .primitive 'B', accessFlags := 0x411 }
/-- [B -/
def k18 : Class := { plain "[B" (some 0) with kind := .array 17 .byte, interfaces := #[16, 6], accessFlags := 1041 }

/-- the primitive char -/
def k19 : Class := { plain "char" none with kind := .primitive 'C', accessFlags := 0x411 }
/-- [C -/
def k20 : Class := { plain "[C" (some 0) with kind := .array 19 .char, interfaces := #[16, 6], accessFlags := 1041 }

/-- the primitive int -/
def k21 : Class := { plain "int" none with kind := .primitive 'I', accessFlags := 0x411 }
/-- [I -/
def k22 : Class := { plain "[I" (some 0) with kind := .array 21 .int, interfaces := #[16, 6], accessFlags := 1041 }

def heap : Heap := #[{ cls := 11, slots := #[.long 0, .int 1, .null, .int 0, .null, .int 0, .int 0], vm := .statics 11 },
  { cls := 14, slots := #[.null, .null, .null], vm := .statics 14 }]
def classes : Array Class := #[k0, k1, k2, k3, k4, k5, k6, k7, k8, k9, k10, k11, k12, k13, k14, k15, k16, k17, k18, k19, k20, k21, k22]
def interned : List (Array UInt16 × Addr) := []
def slotsUsed : Nat := 10
def theMethod : MethodId := ⟨1, 1⟩
def args0 : Array Value := #[.int 0, .int 0, .int 5, .int 7]
def aboutOver (below : List Frame) : State where
  vm := { classes := classes, interned := interned.toArray }
  heap := heap
  slotsUsed := slotsUsed
  threads := #[{ frames := .invoking theMethod args0 :: below }]
def below0 : List Frame := [.native { method := ⟨0, 0⟩, args := #[] }]
def about1 : State := aboutOver below0
def p0 : Program := .bare "" "" ""
def e0 : Env := launch0.env 0 0 0
theorem w_frames : about1.frames = Frame.invoking theMethod args0 :: below0 := rfl
set_option maxRecDepth 65536 in
theorem w_args : argsFit about1.vm theMethod args0 = true := by decide +kernel
set_option maxRecDepth 65536 in
theorem w_heap : heapFits about1 = true := by decide +kernel
set_option maxRecDepth 65536 in
theorem w_runnable : about1.curStatus? = some .runnable := by decide +kernel
set_option maxRecDepth 65536 in
theorem w_alone : about1.alone = true := by decide +kernel
set_option maxRecDepth 65536 in
theorem w_named : about1.methodNamed? x = some theMethod := by decide +kernel
set_option maxRecDepth 65536 in
theorem w_hears : about1.hears theMethod below0 = true := by decide +kernel
set_option maxRecDepth 65536 in
theorem w_ripe : about1.ripe theMethod args0 below0 = true := by decide +kernel
theorem w_running : about1.status = .running := rfl
set_option maxRecDepth 65536 in
theorem w_room : about1.hasRoom e0.platform room_1 = true :=
  launch0.hasRoom_least _ room_1 (by decide +kernel) (by decide +kernel) (by decide +kernel) (by decide +kernel) (by decide +kernel) (by decide +kernel)
theorem allAtoms_all (ts : List Jvm.Cond) (a : Array Jvm.Value) (st : Jvm.State) : (allAtoms ts).before a st = ts.all (fun c => c.before a st) := by
  induction ts with
  | nil => rfl
  | cons c t ih =>
    show (Jvm.Cond.and c (allAtoms t)).before a st = _
    rw [Jvm.Cond.before_and, ih, List.all_cons]
def words1 : List Jvm.Cond := Jvm.Cond.code x code maxLocals ret :: tables_1
/-- a 'code' word, met by the world's own term for the bytes: nothing is compared byte by byte -/
theorem code_word {y : MethodName} {bytes : ByteArray} {mx : Nat} {rt : Option FieldType} {a : Array Value} {s : State} {m : MethodId} {meth : Method} {c : Code} (h1 : s.methodNamed? y = some m) (h2 : s.vm.method? m = some meth) (h3 : meth.code = some c) (h4 : c.code = bytes)
    (h5 : (c.maxLocals == mx && c.exceptionTable.isEmpty && decide (c.maxStack ≤ mostOperands) && decide (meth.sig.returnType = rt) && !meth.locks && decide (parseMethodDescriptor y.desc = some meth.sig)) = true) : (Jvm.Cond.code y bytes mx rt).before a s = true := by
  simp only [Bool.and_eq_true, beq_iff_eq, Bool.not_eq_true', decide_eq_true_eq] at h5
  obtain ⟨⟨⟨⟨⟨g1, g2⟩, g3⟩, g4⟩, g5⟩, g6⟩ := h5
  simp [Cond.before, Cond.holds, Cond.value, h1, h2, h3, h4, g1, g2, g3, g4, g5, g6]
def isCode : Jvm.Cond → Bool
  | .code _ _ _ _ => true
  | _ => false
theorem all_split {L : List Jvm.Cond} {P : Jvm.Cond → Bool} (h1 : L.all (fun c => isCode c || P c) = true) (h2 : ∀ c ∈ L.filter isCode, P c = true) : L.all P = true := by
  refine List.all_eq_true.mpr fun c hc => ?_
  have h := List.all_eq_true.mp h1 c hc
  rcases Bool.eq_false_or_eq_true (isCode c) with hi | hi
  · exact h2 c (List.mem_filter.mpr ⟨hc, hi⟩)
  · simpa [hi] using h
set_option maxRecDepth 65536 in
theorem w_c0 : (Jvm.Cond.code x code maxLocals ret).before args0 about1 = true := code_word (m := ⟨1, 1⟩) (meth := k1m1) (c := k1c1) (by decide +kernel) rfl rfl rfl (by decide +kernel)
set_option maxRecDepth 65536 in
theorem w_c1 : (Jvm.Cond.code ({ cls := "com/example/strict_audit/strictaudit/format/LineBuffer", name := "<init>", desc := "()V" } : Jvm.MethodName) prog_3_method_1_code (1 : Nat) (Option.none : Option Jvm.ClassFile.FieldType)).before args0 about1 = true := code_word (m := ⟨2, 0⟩) (meth := k2m0) (c := k2c0) (by decide +kernel) rfl rfl rfl (by decide +kernel)
set_option maxRecDepth 65536 in
theorem w_c2 : (Jvm.Cond.code ({ cls := "java/lang/Object", name := "<init>", desc := "()V" } : Jvm.MethodName) object_method_1_code (1 : Nat) (Option.none : Option Jvm.ClassFile.FieldType)).before args0 about1 = true := code_word (m := ⟨0, 0⟩) (meth := k0m0) (c := k0c0) (by decide +kernel) rfl rfl rfl (by decide +kernel)
set_option maxRecDepth 65536 in
theorem w_c3 : (Jvm.Cond.code ({ cls := "com/example/strict_audit/strictaudit/format/LineBuffer", name := "bytes", desc := "()[B" } : Jvm.MethodName) prog_3_method_3_code (1 : Nat) (Option.some (Jvm.ClassFile.FieldType.array Jvm.ClassFile.FieldType.byte))).before args0 about1 = true := code_word (m := ⟨2, 2⟩) (meth := k2m2) (c := k2c2) (by decide +kernel) rfl rfl rfl (by decide +kernel)
set_option maxRecDepth 65536 in
theorem w_c4 : (Jvm.Cond.code ({ cls := "com/example/strict_audit/strictaudit/format/LineBuffer", name := "clear", desc := "()V" } : Jvm.MethodName) prog_3_method_2_code (1 : Nat) (Option.none : Option Jvm.ClassFile.FieldType)).before args0 about1 = true := code_word (m := ⟨2, 1⟩) (meth := k2m1) (c := k2c1) (by decide +kernel) rfl rfl rfl (by decide +kernel)
set_option maxRecDepth 65536 in
theorem w_c5 : (Jvm.Cond.code ({ cls := "com/example/strict_audit/strictaudit/format/LineBuffer", name := "length", desc := "()I" } : Jvm.MethodName) prog_3_method_4_code (1 : Nat) (Option.some Jvm.ClassFile.FieldType.int)).before args0 about1 = true := code_word (m := ⟨2, 3⟩) (meth := k2m3) (c := k2c3) (by decide +kernel) rfl rfl rfl (by decide +kernel)
set_option maxRecDepth 65536 in
theorem w_c6 : (Jvm.Cond.code ({ cls := "com/example/strict_audit/strictaudit/format/LineBuffer", name := "toByteArray", desc := "()[B" } : Jvm.MethodName) prog_3_method_5_code (1 : Nat) (Option.some (Jvm.ClassFile.FieldType.array Jvm.ClassFile.FieldType.byte))).before args0 about1 = true := code_word (m := ⟨2, 4⟩) (meth := k2m4) (c := k2c4) (by decide +kernel) rfl rfl rfl (by decide +kernel)
set_option maxRecDepth 65536 in
theorem w_c7 : (Jvm.Cond.code ({ cls := "java/util/Arrays", name := "copyOf", desc := "([BI)[B" } : Jvm.MethodName) jdk_65_method_121_code (3 : Nat) (Option.some (Jvm.ClassFile.FieldType.array Jvm.ClassFile.FieldType.byte))).before args0 about1 = true := code_word (m := ⟨3, 1⟩) (meth := k3m1) (c := k3c1) (by decide +kernel) rfl rfl rfl (by decide +kernel)
set_option maxRecDepth 65536 in
theorem w_c8 : (Jvm.Cond.code ({ cls := "java/lang/Math", name := "min", desc := "(II)I" } : Jvm.MethodName) jdk_29_method_69_code (2 : Nat) (Option.some Jvm.ClassFile.FieldType.int)).before args0 about1 = true := code_word (m := ⟨4, 2⟩) (meth := k4m2) (c := k4c2) (by decide +kernel) rfl rfl rfl (by decide +kernel)
set_option maxRecDepth 65536 in
theorem w_c9 : (Jvm.Cond.code ({ cls := "com/example/strict_audit/strictaudit/format/LineBuffer", name := "append", desc := "(B)V" } : Jvm.MethodName) prog_3_method_6_code (2 : Nat) (Option.none : Option Jvm.ClassFile.FieldType)).before args0 about1 = true := code_word (m := ⟨2, 5⟩) (meth := k2m5) (c := k2c5) (by decide +kernel) rfl rfl rfl (by decide +kernel)
set_option maxRecDepth 65536 in
theorem w_c10 : (Jvm.Cond.code ({ cls := "com/example/strict_audit/strictaudit/format/LineBuffer", name := "makeRoom", desc := "(I)V" } : Jvm.MethodName) prog_3_method_9_code (4 : Nat) (Option.none : Option Jvm.ClassFile.FieldType)).before args0 about1 = true := code_word (m := ⟨2, 7⟩) (meth := k2m7) (c := k2c7) (by decide +kernel) rfl rfl rfl (by decide +kernel)
set_option maxRecDepth 65536 in
theorem w_c11 : (Jvm.Cond.code ({ cls := "java/lang/String", name := "<init>", desc := "([C)V" } : Jvm.MethodName) jdk_42_method_3_code (2 : Nat) (Option.none : Option Jvm.ClassFile.FieldType)).before args0 about1 = true := code_word (m := ⟨11, 1⟩) (meth := k11m1) (c := k11c1) (by decide +kernel) rfl rfl rfl (by decide +kernel)
set_option maxRecDepth 65536 in
theorem w_c12 : (Jvm.Cond.code ({ cls := "java/lang/String", name := "<init>", desc := "([CIILjava/lang/Void;)V" } : Jvm.MethodName) jdk_42_method_149_code (6 : Nat) (Option.none : Option Jvm.ClassFile.FieldType)).before args0 about1 = true := code_word (m := ⟨11, 4⟩) (meth := k11m4) (c := k11c4) (by decide +kernel) rfl rfl rfl (by decide +kernel)
set_option maxRecDepth 65536 in
theorem w_c13 : (Jvm.Cond.code ({ cls := "java/lang/StringUTF16", name := "compress", desc := "([CII)[B" } : Jvm.MethodName) jdk_52_method_16_code (6 : Nat) (Option.some (Jvm.ClassFile.FieldType.array Jvm.ClassFile.FieldType.byte))).before args0 about1 = true := code_word (m := ⟨12, 2⟩) (meth := k12m2) (c := k12c2) (by decide +kernel) rfl rfl rfl (by decide +kernel)
set_option maxRecDepth 65536 in
theorem w_c14 : (Jvm.Cond.code ({ cls := "java/lang/StringUTF16", name := "compress", desc := "([CI[BII)I" } : Jvm.MethodName) jdk_52_method_21_code (7 : Nat) (Option.some Jvm.ClassFile.FieldType.int)).before args0 about1 = true := code_word (m := ⟨12, 3⟩) (meth := k12m3) (c := k12c3) (by decide +kernel) rfl rfl rfl (by decide +kernel)
set_option maxRecDepth 65536 in
theorem w_c15 : (Jvm.Cond.code ({ cls := "java/lang/StringUTF16", name := "coderFromArrayLen", desc := "([BI)B" } : Jvm.MethodName) jdk_52_method_15_code (2 : Nat) (Option.some Jvm.ClassFile.FieldType.byte)).before args0 about1 = true := code_word (m := ⟨12, 1⟩) (meth := k12m1) (c := k12c1) (by decide +kernel) rfl rfl rfl (by decide +kernel)
set_option maxRecDepth 65536 in
theorem w_c16 : (Jvm.Cond.code ({ cls := "com/example/strict_audit/strictaudit/format/LineBuffer", name := "appendAscii", desc := "(Ljava/lang/String;)V" } : Jvm.MethodName) prog_3_method_7_code (3 : Nat) (Option.none : Option Jvm.ClassFile.FieldType)).before args0 about1 = true := code_word (m := ⟨2, 6⟩) (meth := k2m6) (c := k2c6) (by decide +kernel) rfl rfl rfl (by decide +kernel)
set_option maxRecDepth 65536 in
theorem w_c17 : (Jvm.Cond.code ({ cls := "java/lang/String", name := "length", desc := "()I" } : Jvm.MethodName) jdk_42_method_54_code (1 : Nat) (Option.some Jvm.ClassFile.FieldType.int)).before args0 about1 = true := code_word (m := ⟨11, 2⟩) (meth := k11m2) (c := k11c2) (by decide +kernel) rfl rfl rfl (by decide +kernel)
set_option maxRecDepth 65536 in
theorem w_c18 : (Jvm.Cond.code ({ cls := "java/lang/String", name := "coder", desc := "()B" } : Jvm.MethodName) jdk_42_method_152_code (1 : Nat) (Option.some Jvm.ClassFile.FieldType.byte)).before args0 about1 = true := code_word (m := ⟨11, 5⟩) (meth := k11m5) (c := k11c5) (by decide +kernel) rfl rfl rfl (by decide +kernel)
set_option maxRecDepth 65536 in
theorem w_c19 : (Jvm.Cond.code ({ cls := "java/lang/String", name := "charAt", desc := "(I)C" } : Jvm.MethodName) jdk_42_method_56_code (2 : Nat) (Option.some Jvm.ClassFile.FieldType.char)).before args0 about1 = true := code_word (m := ⟨11, 3⟩) (meth := k11m3) (c := k11c3) (by decide +kernel) rfl rfl rfl (by decide +kernel)
set_option maxRecDepth 65536 in
theorem w_c20 : (Jvm.Cond.code ({ cls := "java/lang/String", name := "isLatin1", desc := "()Z" } : Jvm.MethodName) jdk_42_method_154_code (1 : Nat) (Option.some Jvm.ClassFile.FieldType.boolean)).before args0 about1 = true := code_word (m := ⟨11, 6⟩) (meth := k11m6) (c := k11c6) (by decide +kernel) rfl rfl rfl (by decide +kernel)
set_option maxRecDepth 65536 in
theorem w_c21 : (Jvm.Cond.code ({ cls := "java/lang/StringLatin1", name := "charAt", desc := "([BI)C" } : Jvm.MethodName) jdk_43_method_2_code (2 : Nat) (Option.some Jvm.ClassFile.FieldType.char)).before args0 about1 = true := code_word (m := ⟨13, 1⟩) (meth := k13m1) (c := k13c1) (by decide +kernel) rfl rfl rfl (by decide +kernel)
set_option maxRecDepth 65536 in
theorem w_c22 : (Jvm.Cond.code ({ cls := "java/lang/String", name := "checkIndex", desc := "(II)V" } : Jvm.MethodName) jdk_42_method_155_code (2 : Nat) (Option.none : Option Jvm.ClassFile.FieldType)).before args0 about1 = true := code_word (m := ⟨11, 7⟩) (meth := k11m7) (c := k11c7) (by decide +kernel) rfl rfl rfl (by decide +kernel)
set_option maxRecDepth 65536 in
theorem w_c23 : (Jvm.Cond.code ({ cls := "jdk/internal/util/Preconditions", name := "checkIndex", desc := "(IILjava/util/function/BiFunction;)I" } : Jvm.MethodName) jdk_41_method_11_code (3 : Nat) (Option.some Jvm.ClassFile.FieldType.int)).before args0 about1 = true := code_word (m := ⟨14, 1⟩) (meth := k14m1) (c := k14c1) (by decide +kernel) rfl rfl rfl (by decide +kernel)
set_option maxRecDepth 65536 in
theorem w_c24 : (Jvm.Cond.code ({ cls := "java/lang/Math", name := "max", desc := "(JJ)J" } : Jvm.MethodName) jdk_29_method_66_code (4 : Nat) (Option.some Jvm.ClassFile.FieldType.long)).before args0 about1 = true := code_word (m := ⟨4, 1⟩) (meth := k4m1) (c := k4c1) (by decide +kernel) rfl rfl rfl (by decide +kernel)
set_option maxRecDepth 65536 in
theorem w_c25 : (Jvm.Cond.code ({ cls := "java/lang/Math", name := "min", desc := "(JJ)J" } : Jvm.MethodName) jdk_29_method_70_code (4 : Nat) (Option.some Jvm.ClassFile.FieldType.long)).before args0 about1 = true := code_word (m := ⟨4, 3⟩) (meth := k4m3) (c := k4c3) (by decide +kernel) rfl rfl rfl (by decide +kernel)
def codes1 : List Jvm.Cond := [Jvm.Cond.code x code maxLocals ret, Jvm.Cond.code ({ cls := "com/example/strict_audit/strictaudit/format/LineBuffer", name := "<init>", desc := "()V" } : Jvm.MethodName) prog_3_method_1_code (1 : Nat) (Option.none : Option Jvm.ClassFile.FieldType), Jvm.Cond.code ({ cls := "java/lang/Object", name := "<init>", desc := "()V" } : Jvm.MethodName) object_method_1_code (1 : Nat) (Option.none : Option Jvm.ClassFile.FieldType), Jvm.Cond.code ({ cls := "com/example/strict_audit/strictaudit/format/LineBuffer", name := "bytes", desc := "()[B" } : Jvm.MethodName) prog_3_method_3_code (1 : Nat) (Option.some (Jvm.ClassFile.FieldType.array Jvm.ClassFile.FieldType.byte)), Jvm.Cond.code ({ cls := "com/example/strict_audit/strictaudit/format/LineBuffer", name := "clear", desc := "()V" } : Jvm.MethodName) prog_3_method_2_code (1 : Nat) (Option.none : Option Jvm.ClassFile.FieldType), Jvm.Cond.code ({ cls := "com/example/strict_audit/strictaudit/format/LineBuffer", name := "length", desc := "()I" } : Jvm.MethodName) prog_3_method_4_code (1 : Nat) (Option.some Jvm.ClassFile.FieldType.int), Jvm.Cond.code ({ cls := "com/example/strict_audit/strictaudit/format/LineBuffer", name := "toByteArray", desc := "()[B" } : Jvm.MethodName) prog_3_method_5_code (1 : Nat) (Option.some (Jvm.ClassFile.FieldType.array Jvm.ClassFile.FieldType.byte)), Jvm.Cond.code ({ cls := "java/util/Arrays", name := "copyOf", desc := "([BI)[B" } : Jvm.MethodName) jdk_65_method_121_code (3 : Nat) (Option.some (Jvm.ClassFile.FieldType.array Jvm.ClassFile.FieldType.byte)), Jvm.Cond.code ({ cls := "java/lang/Math", name := "min", desc := "(II)I" } : Jvm.MethodName) jdk_29_method_69_code (2 : Nat) (Option.some Jvm.ClassFile.FieldType.int), Jvm.Cond.code ({ cls := "com/example/strict_audit/strictaudit/format/LineBuffer", name := "append", desc := "(B)V" } : Jvm.MethodName) prog_3_method_6_code (2 : Nat) (Option.none : Option Jvm.ClassFile.FieldType), Jvm.Cond.code ({ cls := "com/example/strict_audit/strictaudit/format/LineBuffer", name := "makeRoom", desc := "(I)V" } : Jvm.MethodName) prog_3_method_9_code (4 : Nat) (Option.none : Option Jvm.ClassFile.FieldType), Jvm.Cond.code ({ cls := "java/lang/String", name := "<init>", desc := "([C)V" } : Jvm.MethodName) jdk_42_method_3_code (2 : Nat) (Option.none : Option Jvm.ClassFile.FieldType), Jvm.Cond.code ({ cls := "java/lang/String", name := "<init>", desc := "([CIILjava/lang/Void;)V" } : Jvm.MethodName) jdk_42_method_149_code (6 : Nat) (Option.none : Option Jvm.ClassFile.FieldType), Jvm.Cond.code ({ cls := "java/lang/StringUTF16", name := "compress", desc := "([CII)[B" } : Jvm.MethodName) jdk_52_method_16_code (6 : Nat) (Option.some (Jvm.ClassFile.FieldType.array Jvm.ClassFile.FieldType.byte)), Jvm.Cond.code ({ cls := "java/lang/StringUTF16", name := "compress", desc := "([CI[BII)I" } : Jvm.MethodName) jdk_52_method_21_code (7 : Nat) (Option.some Jvm.ClassFile.FieldType.int), Jvm.Cond.code ({ cls := "java/lang/StringUTF16", name := "coderFromArrayLen", desc := "([BI)B" } : Jvm.MethodName) jdk_52_method_15_code (2 : Nat) (Option.some Jvm.ClassFile.FieldType.byte), Jvm.Cond.code ({ cls := "com/example/strict_audit/strictaudit/format/LineBuffer", name := "appendAscii", desc := "(Ljava/lang/String;)V" } : Jvm.MethodName) prog_3_method_7_code (3 : Nat) (Option.none : Option Jvm.ClassFile.FieldType), Jvm.Cond.code ({ cls := "java/lang/String", name := "length", desc := "()I" } : Jvm.MethodName) jdk_42_method_54_code (1 : Nat) (Option.some Jvm.ClassFile.FieldType.int), Jvm.Cond.code ({ cls := "java/lang/String", name := "coder", desc := "()B" } : Jvm.MethodName) jdk_42_method_152_code (1 : Nat) (Option.some Jvm.ClassFile.FieldType.byte), Jvm.Cond.code ({ cls := "java/lang/String", name := "charAt", desc := "(I)C" } : Jvm.MethodName) jdk_42_method_56_code (2 : Nat) (Option.some Jvm.ClassFile.FieldType.char), Jvm.Cond.code ({ cls := "java/lang/String", name := "isLatin1", desc := "()Z" } : Jvm.MethodName) jdk_42_method_154_code (1 : Nat) (Option.some Jvm.ClassFile.FieldType.boolean), Jvm.Cond.code ({ cls := "java/lang/StringLatin1", name := "charAt", desc := "([BI)C" } : Jvm.MethodName) jdk_43_method_2_code (2 : Nat) (Option.some Jvm.ClassFile.FieldType.char), Jvm.Cond.code ({ cls := "java/lang/String", name := "checkIndex", desc := "(II)V" } : Jvm.MethodName) jdk_42_method_155_code (2 : Nat) (Option.none : Option Jvm.ClassFile.FieldType), Jvm.Cond.code ({ cls := "jdk/internal/util/Preconditions", name := "checkIndex", desc := "(IILjava/util/function/BiFunction;)I" } : Jvm.MethodName) jdk_41_method_11_code (3 : Nat) (Option.some Jvm.ClassFile.FieldType.int), Jvm.Cond.code ({ cls := "java/lang/Math", name := "max", desc := "(JJ)J" } : Jvm.MethodName) jdk_29_method_66_code (4 : Nat) (Option.some Jvm.ClassFile.FieldType.long), Jvm.Cond.code ({ cls := "java/lang/Math", name := "min", desc := "(JJ)J" } : Jvm.MethodName) jdk_29_method_70_code (4 : Nat) (Option.some Jvm.ClassFile.FieldType.long)]
set_option maxRecDepth 65536 in
theorem codes_eq : words1.filter isCode = codes1 := rfl
theorem w_codes : ∀ c ∈ words1.filter isCode, c.before args0 about1 = true := by
  rw [codes_eq]
  intro c hc
  simp only [codes1, List.mem_cons, List.not_mem_nil, or_false] at hc
  rcases hc with rfl | rfl | rfl | rfl | rfl | rfl | rfl | rfl | rfl | rfl | rfl | rfl | rfl | rfl | rfl | rfl | rfl | rfl | rfl | rfl | rfl | rfl | rfl | rfl | rfl | rfl
  · exact w_c0
  · exact w_c1
  · exact w_c2
  · exact w_c3
  · exact w_c4
  · exact w_c5
  · exact w_c6
  · exact w_c7
  · exact w_c8
  · exact w_c9
  · exact w_c10
  · exact w_c11
  · exact w_c12
  · exact w_c13
  · exact w_c14
  · exact w_c15
  · exact w_c16
  · exact w_c17
  · exact w_c18
  · exact w_c19
  · exact w_c20
  · exact w_c21
  · exact w_c22
  · exact w_c23
  · exact w_c24
  · exact w_c25
set_option maxRecDepth 65536 in
theorem w_t1 : (words1.take 24).all (fun c => isCode c || c.before args0 about1) = true := by decide +kernel
set_option maxRecDepth 65536 in
theorem w_t2 : ((words1.drop 24).take 24).all (fun c => isCode c || c.before args0 about1) = true := by decide +kernel
set_option maxRecDepth 65536 in
theorem w_t3 : (((words1.drop 24).drop 24).take 24).all (fun c => isCode c || c.before args0 about1) = true := by decide +kernel
set_option maxRecDepth 65536 in
theorem w_t4 : ((((words1.drop 24).drop 24).drop 24).take 24).all (fun c => isCode c || c.before args0 about1) = true := by decide +kernel
set_option maxRecDepth 65536 in
theorem w_t5 : (((((words1.drop 24).drop 24).drop 24).drop 24).take 24).all (fun c => isCode c || c.before args0 about1) = true := by decide +kernel
set_option maxRecDepth 65536 in
theorem w_t6 : (((((words1.drop 24).drop 24).drop 24).drop 24).drop 24).all (fun c => isCode c || c.before args0 about1) = true := by decide +kernel
theorem w_tables : (allAtoms (Jvm.Cond.code x code maxLocals ret :: tables_1)).before args0 about1 = true := by
  rw [allAtoms_all]
  show words1.all (fun c => c.before args0 about1) = true
  refine all_split ?_ w_codes
  rw [← List.take_append_drop 24 words1, List.all_append, w_t1, ← List.take_append_drop 24 (words1.drop 24), List.all_append, w_t2, ← List.take_append_drop 24 ((words1.drop 24).drop 24), List.all_append, w_t3, ← List.take_append_drop 24 (((words1.drop 24).drop 24).drop 24), List.all_append, w_t4, ← List.take_append_drop 24 ((((words1.drop 24).drop 24).drop 24).drop 24), List.all_append, w_t5, w_t6]
  rfl
set_option maxRecDepth 65536 in
theorem w_rest : rest_1_c.before args0 about1 = true := by decide +kernel
set_option maxRecDepth 65536 in
theorem w_case : (Jvm.Cond.and given_1 narrow_1).before args0 about1 = true := by decide +kernel
theorem w_applies : (headSpec (Jvm.Cond.code x code maxLocals ret :: tables_1) room_1).applies x e0.platform about1 = true :=
  (Spec.applies_iff w_frames).mpr ⟨w_running, w_runnable, w_alone, w_named, w_hears, w_ripe, w_room, w_tables⟩
theorem atStart : AtStart classFile x code maxLocals ret World_1 tables_1 room_1 Calls_1 rest_1 Pre_1 launch0 p0 e0 about1 theMethod args0 below0 :=
  ⟨lists_1, trivial, launch0.admits_env _ _ _, launch0.least_env, fairChoices_fair.cas, fairChoices_fair.clock, w_frames, w_args, w_heap, w_applies, trivial, w_rest, w_case⟩
end start1
theorem witness_1 : WitnessClaimed_1 := ⟨start1.p0, start1.e0, start1.about1, start1.theMethod, start1.args0, start1.below0, start1.atStart⟩
end Jvm.Pilot.@@N@@
