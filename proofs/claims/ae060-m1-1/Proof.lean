import JvmDerived
import JvmDerived.Pilot.@@N@@Statement
import JvmDerived.Pilot.@@N@@Code
set_option linter.unusedVariables false
set_option linter.unusedSimpArgs false
namespace Jvm.Pilot.@@N@@
open Jvm Jvm.ClassFile Sem Op Lib Jvm.Free Jvm.Stand Jvm.LawKit Jvm.RoadKit Bundle Jvm.Pilot.@@N@@.Jvm.D
section Own
variable {p : Program} {l : Launch} {e : Env} {R : Room} {s : State} {m : MethodId} {args : Array Value} {below : List Frame} {meth : Method} {c : Code} {T : State} {locs : List Loc} {cells slots : Nat} {Q : Outcome → State → Prop} {Z : State} {a0 : Array Value} {h : Heap}
/-- from T, with g on top, the run ends as Q says -/
def Ends (p : Program) (e : Env) (below : List Frame) (Q : Outcome → State → Prop) (T : State) (g : JFrame) : Prop :=
  ∃ s₂ o, Steps p.tables e below (T.setTop g) s₂ ∧ s₂.status = .running ∧ Ended s₂ below o ∧ Q o s₂
theorem Ends.go {T' : State} {g g' : JFrame} (st : ∀ t, Steps p.tables e below (T'.setTop g') t → Steps p.tables e below (T.setTop g) t) (k : Ends p e below Q T' g') : Ends p e below Q T g := by
  obtain ⟨s₂, o, h1, r⟩ := k
  exact ⟨s₂, o, st _ h1, r⟩
theorem Ends.thru {T' : State} {g g' : JFrame} (st : Steps p.tables e below (T.setTop g) (T'.setTop g')) (k : Ends p e below Q T' g') : Ends p e below Q T g := by
  obtain ⟨s₂, o, h1, r⟩ := k
  exact ⟨s₂, o, st.trans h1, r⟩
theorem Ends.cast {g g' : JFrame} (q : g = g') (k : Ends p e below Q T g') : Ends p e below Q T g := q ▸ k
/-- what a body that returns leaves -/
def Out (s : State) (ce sl : Nat) (Qv : Option Value → Heap → List Loc → Prop) (o : Outcome) (U : State) : Prop := ∃ v L, o = .returned v ∧ Qv v U.heap L ∧ FrameEnd s o U L ce sl
theorem ow_body {y : MethodName} {bytes : ByteArray} {ml : Nat} {ret : Option FieldType} {ws : List Jvm.Cond} {rm : Room} {as : Array Value} {ce sl : Nat} {Qv : Option Value → Heap → List Loc → Prop} (hp : plainFor y = true)
    (body : ∀ (p : Program) (e : Env) (s : State) (m : MethodId) (below : List Frame) (meth : Method) (c : Code) (T : State), Stand p l e rm s m as below meth c T [] 0 0 → p.tables.exec = Jvm.exec → Z.Warmed39 s.vm → c.code = bytes → c.maxLocals = ml → s.vm.findClass y.cls = some m.cls → meth.name = y.name → meth.sig.returnType = ret → meth.locks = false → T.heap = h → Ends p e below (Out s ce sl Qv) T (entryFrame m as ml)) :
    MetFree l y (head1 (Jvm.Cond.code y bytes ml ret :: ws) rm) (fun a U => a = as ∧ Z.Warmed39 U.vm ∧ U.heap = h) (fun _ _ _ _ _ => True) (fun _ U o U' => ∃ v L, o = .returned v ∧ Qv v U'.heap L ∧ FrameEnd U o U' L ce sl) := by
  refine MetFree.of_bodySF hp hisR ?_
  intro p e s m args below meth c s₁ Bd hml0 hP hK
  obtain ⟨rfl, hZ, hh⟩ := hP
  exact body p e s m below meth c s₁ (Stand.of_body Bd) Bd.exec hZ Bd.bytes hml0 (findClass_of_methodNamed Bd.named) (name_of_methodNamed Bd.named Bd.method).1 Bd.returns Bd.notSynchronized (by rw [← hh, Bd.state]; rfl)
theorem ow_iload (X : Stand p l e R s m args below meth c T locs cells slots) (hx : p.tables.exec = Jvm.exec) {pc pc' : Nat} {Ls : Array Slot} {St : List Value} {k : Nat} {v : Int32} (hd : decode c.code pc = .ok (.iload k, 2)) (hl : Ls[k]? = some (.val (.int v))) (hp : pc + 2 = pc') (kk : Ends p e below Q T (mkF m pc' Ls (.int v :: St))) : Ends p e below Q T (mkF m pc Ls St) := by subst hp; exact Ends.go (fun _ q => XS.iload X.here hx rfl hd hl q) kk
theorem ow_iloadN (X : Stand p l e R s m args below meth c T locs cells slots) (hx : p.tables.exec = Jvm.exec) {pc pc' : Nat} {Ls : Array Slot} {St : List Value} {k : Fin 4} {v : Int32} (hd : decode c.code pc = .ok (.iload_n k, 1)) (hl : Ls[k.val]? = some (.val (.int v))) (hp : pc + 1 = pc') (kk : Ends p e below Q T (mkF m pc' Ls (.int v :: St))) : Ends p e below Q T (mkF m pc Ls St) := by subst hp; exact Ends.go (fun _ q => XS.iloadN X.here hx rfl hd hl q) kk
theorem ow_lload (X : Stand p l e R s m args below meth c T locs cells slots) (hx : p.tables.exec = Jvm.exec) {pc pc' : Nat} {Ls : Array Slot} {St : List Value} {k : Nat} {v : Int64} (hd : decode c.code pc = .ok (.lload k, 2)) (hl : Ls[k]? = some (.val (.long v))) (hp : pc + 2 = pc') (kk : Ends p e below Q T (mkF m pc' Ls (.long v :: St))) : Ends p e below Q T (mkF m pc Ls St) := by subst hp; exact Ends.go (fun _ q => XS.lload X.here hx rfl hd hl q) kk
theorem ow_lloadN (X : Stand p l e R s m args below meth c T locs cells slots) (hx : p.tables.exec = Jvm.exec) {pc pc' : Nat} {Ls : Array Slot} {St : List Value} {k : Fin 4} {v : Int64} (hd : decode c.code pc = .ok (.lload_n k, 1)) (hl : Ls[k.val]? = some (.val (.long v))) (hp : pc + 1 = pc') (kk : Ends p e below Q T (mkF m pc' Ls (.long v :: St))) : Ends p e below Q T (mkF m pc Ls St) := by subst hp; exact Ends.go (fun _ q => XS.lloadN X.here hx rfl hd hl q) kk
theorem ow_aload (X : Stand p l e R s m args below meth c T locs cells slots) (hx : p.tables.exec = Jvm.exec) {pc pc' : Nat} {Ls : Array Slot} {St : List Value} {k : Nat} {v : Value} (hd : decode c.code pc = .ok (.aload k, 2)) (hl : Ls[k]? = some (.val v)) (hv : v.isRef = true) (hp : pc + 2 = pc') (kk : Ends p e below Q T (mkF m pc' Ls (v :: St))) : Ends p e below Q T (mkF m pc Ls St) := by subst hp; exact Ends.go (fun _ q => XS.aload X.here hx rfl hd hl hv q) kk
theorem ow_aloadN (X : Stand p l e R s m args below meth c T locs cells slots) (hx : p.tables.exec = Jvm.exec) {pc pc' : Nat} {Ls : Array Slot} {St : List Value} {k : Fin 4} {v : Value} (hd : decode c.code pc = .ok (.aload_n k, 1)) (hl : Ls[k.val]? = some (.val v)) (hv : v.isRef = true) (hp : pc + 1 = pc') (kk : Ends p e below Q T (mkF m pc' Ls (v :: St))) : Ends p e below Q T (mkF m pc Ls St) := by subst hp; exact Ends.go (fun _ q => XS.aloadN X.here hx rfl hd hl hv q) kk
theorem ow_istore (X : Stand p l e R s m args below meth c T locs cells slots) (hx : p.tables.exec = Jvm.exec) {pc pc' : Nat} {Ls : Array Slot} {Ls' : Array Slot} {St : List Value} {k : Nat} {v : Int32} (hd : decode c.code pc = .ok (.istore k, 2)) (hl : storeLocals Ls k (.int v) = some Ls') (hp : pc + 2 = pc') (kk : Ends p e below Q T (mkF m pc' Ls' St)) : Ends p e below Q T (mkF m pc Ls (.int v :: St)) := by subst hp; exact Ends.go (fun _ q => XS.istore X.here hx rfl hd rfl hl q) kk
theorem ow_istoreN (X : Stand p l e R s m args below meth c T locs cells slots) (hx : p.tables.exec = Jvm.exec) {pc pc' : Nat} {Ls : Array Slot} {Ls' : Array Slot} {St : List Value} {k : Fin 4} {v : Int32} (hd : decode c.code pc = .ok (.istore_n k, 1)) (hl : storeLocals Ls k.val (.int v) = some Ls') (hp : pc + 1 = pc') (kk : Ends p e below Q T (mkF m pc' Ls' St)) : Ends p e below Q T (mkF m pc Ls (.int v :: St)) := by subst hp; exact Ends.go (fun _ q => XS.istoreN X.here hx rfl hd rfl hl q) kk
theorem ow_lstore (X : Stand p l e R s m args below meth c T locs cells slots) (hx : p.tables.exec = Jvm.exec) {pc pc' : Nat} {Ls : Array Slot} {Ls' : Array Slot} {St : List Value} {k : Nat} {v : Int64} (hd : decode c.code pc = .ok (.lstore k, 2)) (hl : storeLocals Ls k (.long v) = some Ls') (hp : pc + 2 = pc') (kk : Ends p e below Q T (mkF m pc' Ls' St)) : Ends p e below Q T (mkF m pc Ls (.long v :: St)) := by subst hp; exact Ends.go (fun _ q => XS.lstore X.here hx rfl hd rfl hl q) kk
theorem ow_astore (X : Stand p l e R s m args below meth c T locs cells slots) (hx : p.tables.exec = Jvm.exec) {pc pc' : Nat} {Ls : Array Slot} {Ls' : Array Slot} {St : List Value} {k : Nat} {v : Value} (hd : decode c.code pc = .ok (.astore k, 2)) (hv : v.isRef = true) (hl : storeLocals Ls k v = some Ls') (hp : pc + 2 = pc') (kk : Ends p e below Q T (mkF m pc' Ls' St)) : Ends p e below Q T (mkF m pc Ls (v :: St)) := by subst hp; exact Ends.go (fun _ q => XS.astore X.here hx rfl hd rfl hv hl q) kk
theorem ow_astoreN (X : Stand p l e R s m args below meth c T locs cells slots) (hx : p.tables.exec = Jvm.exec) {pc pc' : Nat} {Ls : Array Slot} {Ls' : Array Slot} {St : List Value} {k : Fin 4} {v : Value} (hd : decode c.code pc = .ok (.astore_n k, 1)) (hv : v.isRef = true) (hl : storeLocals Ls k.val v = some Ls') (hp : pc + 1 = pc') (kk : Ends p e below Q T (mkF m pc' Ls' St)) : Ends p e below Q T (mkF m pc Ls (v :: St)) := by subst hp; exact Ends.go (fun _ q => XS.astoreN X.here hx rfl hd rfl hv hl q) kk
theorem ow_iconst (X : Stand p l e R s m args below meth c T locs cells slots) (hx : p.tables.exec = Jvm.exec) {pc pc' : Nat} {Ls : Array Slot} {St : List Value} {i : Int} {z : Int32} (hd : decode c.code pc = .ok (.iconst i, 1)) (hz : Int32.ofInt i = z) (hp : pc + 1 = pc') (kk : Ends p e below Q T (mkF m pc' Ls (.int z :: St))) : Ends p e below Q T (mkF m pc Ls St) := by subst hp hz; exact Ends.go (fun _ q => XS.iconst X.here hx rfl hd q) kk
theorem ow_bipush (X : Stand p l e R s m args below meth c T locs cells slots) (hx : p.tables.exec = Jvm.exec) {pc pc' : Nat} {Ls : Array Slot} {St : List Value} {i : Int} {z : Int32} (hd : decode c.code pc = .ok (.bipush i, 2)) (hz : (Int8.ofInt i).toInt32 = z) (hp : pc + 2 = pc') (kk : Ends p e below Q T (mkF m pc' Ls (.int z :: St))) : Ends p e below Q T (mkF m pc Ls St) := by subst hp hz; exact Ends.go (fun _ q => XS.bipush X.here hx rfl hd q) kk
theorem ow_sipush (X : Stand p l e R s m args below meth c T locs cells slots) (hx : p.tables.exec = Jvm.exec) {pc pc' : Nat} {Ls : Array Slot} {St : List Value} {i : Int} {z : Int32} (hd : decode c.code pc = .ok (.sipush i, 3)) (hz : (Int16.ofInt i).toInt32 = z) (hp : pc + 3 = pc') (kk : Ends p e below Q T (mkF m pc' Ls (.int z :: St))) : Ends p e below Q T (mkF m pc Ls St) := by subst hp hz; exact Ends.go (fun _ q => XS.sipush X.here hx rfl hd q) kk
theorem ow_lconst (X : Stand p l e R s m args below meth c T locs cells slots) (hx : p.tables.exec = Jvm.exec) {pc pc' : Nat} {Ls : Array Slot} {St : List Value} {k : Fin 2} {z : Int64} (hd : decode c.code pc = .ok (.lconst k, 1)) (hz : Int64.ofNat k = z) (hp : pc + 1 = pc') (kk : Ends p e below Q T (mkF m pc' Ls (.long z :: St))) : Ends p e below Q T (mkF m pc Ls St) := by subst hp hz; exact Ends.go (fun _ q => XS.lconst X.here hx rfl hd q) kk
theorem ow_aconstNull (X : Stand p l e R s m args below meth c T locs cells slots) (hx : p.tables.exec = Jvm.exec) {pc pc' : Nat} {Ls : Array Slot} {St : List Value} (hd : decode c.code pc = .ok (.aconst_null, 1)) (hp : pc + 1 = pc') (kk : Ends p e below Q T (mkF m pc' Ls (.null :: St))) : Ends p e below Q T (mkF m pc Ls St) := by subst hp; exact Ends.go (fun _ q => XS.aconstNull X.here hx rfl hd q) kk
theorem ow_ldcInt (X : Stand p l e R s m args below meth c T locs cells slots) (hx : p.tables.exec = Jvm.exec) (hZ : Z.Warmed39 s.vm) {own : String} {i : Nat} {z : Int32} (hown : s.vm.findClass own = some m.cls) (w : (Jvm.Cond.constant own i z).before a0 Z = true) {pc pc' : Nat} {Ls : Array Slot} {St : List Value} (hd : decode c.code pc = .ok (.ldc i, 2)) (hp : pc + 2 = pc') (kk : Ends p e below Q T (mkF m pc' Ls (.int z :: St))) : Ends p e below Q T (mkF m pc Ls St) := by subst hp; exact Ends.go (X.ldcInt hx hown (mvT hZ w) (g := mkF m pc Ls St) rfl hd) kk
theorem ow_ldc2Long (X : Stand p l e R s m args below meth c T locs cells slots) (hx : p.tables.exec = Jvm.exec) (hZ : Z.Warmed39 s.vm) {own : String} {i : Nat} {z : Int64} (hown : s.vm.findClass own = some m.cls) (w : (Jvm.Cond.constantLong own i z).before a0 Z = true) {pc pc' : Nat} {Ls : Array Slot} {St : List Value} (hd : decode c.code pc = .ok (.ldc2_w i, 3)) (hp : pc + 3 = pc') (kk : Ends p e below Q T (mkF m pc' Ls (.long z :: St))) : Ends p e below Q T (mkF m pc Ls St) := by subst hp; exact Ends.go (X.ldc2Long hx hown (mvT hZ w) (g := mkF m pc Ls St) rfl hd) kk
theorem ow_iadd (X : Stand p l e R s m args below meth c T locs cells slots) (hx : p.tables.exec = Jvm.exec) {pc pc' : Nat} {Ls : Array Slot} {St : List Value} {x : Int32} {y : Int32} (hd : decode c.code pc = .ok (.iadd, 1)) (hp : pc + 1 = pc') (kk : ∀ z : Int32, z = x + y → Ends p e below Q T (mkF m pc' Ls (.int z :: St))) : Ends p e below Q T (mkF m pc Ls (.int y :: .int x :: St)) := by subst hp; exact Ends.go (fun _ q => XS.iadd X.here hx rfl hd rfl q) (kk _ rfl)
theorem ow_iand (X : Stand p l e R s m args below meth c T locs cells slots) (hx : p.tables.exec = Jvm.exec) {pc pc' : Nat} {Ls : Array Slot} {St : List Value} {x : Int32} {y : Int32} (hd : decode c.code pc = .ok (.iand, 1)) (hp : pc + 1 = pc') (kk : ∀ z : Int32, z = x &&& y → Ends p e below Q T (mkF m pc' Ls (.int z :: St))) : Ends p e below Q T (mkF m pc Ls (.int y :: .int x :: St)) := by subst hp; exact Ends.go (fun _ q => XS.iand X.here hx rfl hd rfl q) (kk _ rfl)
theorem ow_land (X : Stand p l e R s m args below meth c T locs cells slots) (hx : p.tables.exec = Jvm.exec) {pc pc' : Nat} {Ls : Array Slot} {St : List Value} {x : Int64} {y : Int64} (hd : decode c.code pc = .ok (.land, 1)) (hp : pc + 1 = pc') (kk : ∀ z : Int64, z = x &&& y → Ends p e below Q T (mkF m pc' Ls (.long z :: St))) : Ends p e below Q T (mkF m pc Ls (.long y :: .long x :: St)) := by subst hp; exact Ends.go (fun _ q => XS.land X.here hx rfl hd rfl q) (kk _ rfl)
theorem ow_lxor (X : Stand p l e R s m args below meth c T locs cells slots) (hx : p.tables.exec = Jvm.exec) {pc pc' : Nat} {Ls : Array Slot} {St : List Value} {x : Int64} {y : Int64} (hd : decode c.code pc = .ok (.lxor, 1)) (hp : pc + 1 = pc') (kk : ∀ z : Int64, z = x ^^^ y → Ends p e below Q T (mkF m pc' Ls (.long z :: St))) : Ends p e below Q T (mkF m pc Ls (.long y :: .long x :: St)) := by subst hp; exact Ends.go (fun _ q => XS.lxor X.here hx rfl hd rfl q) (kk _ rfl)
theorem ow_irem (X : Stand p l e R s m args below meth c T locs cells slots) (hx : p.tables.exec = Jvm.exec) {pc pc' : Nat} {Ls : Array Slot} {St : List Value} {x : Int32} {y : Int32} (hd : decode c.code pc = .ok (.irem, 1)) (hy : y ≠ 0) (hp : pc + 1 = pc') (kk : ∀ z : Int32, z = x % y → Ends p e below Q T (mkF m pc' Ls (.int z :: St))) : Ends p e below Q T (mkF m pc Ls (.int y :: .int x :: St)) := by subst hp; exact Ends.go (fun _ q => iremM (g := mkF m pc Ls (.int y :: .int x :: St)) X hx rfl hd rfl hy q) (kk _ rfl)
theorem ow_lshl (X : Stand p l e R s m args below meth c T locs cells slots) (hx : p.tables.exec = Jvm.exec) {pc pc' : Nat} {Ls : Array Slot} {St : List Value} {x : Int64} {y : Int32} (hd : decode c.code pc = .ok (.lshl, 1)) (hp : pc + 1 = pc') (kk : ∀ z : Int64, z = x <<< (y &&& 0x3f).toInt64 → Ends p e below Q T (mkF m pc' Ls (.long z :: St))) : Ends p e below Q T (mkF m pc Ls (.int y :: .long x :: St)) := by subst hp; exact Ends.go (fun _ q => XS.lshl X.here hx rfl hd rfl q) (kk _ rfl)
theorem ow_lcmp (X : Stand p l e R s m args below meth c T locs cells slots) (hx : p.tables.exec = Jvm.exec) {pc pc' : Nat} {Ls : Array Slot} {St : List Value} {x : Int64} {y : Int64} (hd : decode c.code pc = .ok (.lcmp, 1)) (hp : pc + 1 = pc') (kk : ∀ z : Int32, z = lcmpW x y → Ends p e below Q T (mkF m pc' Ls (.int z :: St))) : Ends p e below Q T (mkF m pc Ls (.long y :: .long x :: St)) := by subst hp; exact Ends.go (fun _ q => XS.lcmp X.here hx rfl hd rfl q) (kk _ rfl)
theorem ow_l2i (X : Stand p l e R s m args below meth c T locs cells slots) (hx : p.tables.exec = Jvm.exec) {pc pc' : Nat} {Ls : Array Slot} {St : List Value} {x : Int64} (hd : decode c.code pc = .ok (.l2i, 1)) (hp : pc + 1 = pc') (kk : ∀ z : Int32, z = x.toInt32 → Ends p e below Q T (mkF m pc' Ls (.int z :: St))) : Ends p e below Q T (mkF m pc Ls (.long x :: St)) := by subst hp; exact Ends.go (fun _ q => XS.l2i X.here hx rfl hd rfl q) (kk _ rfl)
theorem ow_dup (X : Stand p l e R s m args below meth c T locs cells slots) (hx : p.tables.exec = Jvm.exec) {pc pc' : Nat} {Ls : Array Slot} {St : List Value} {v : Value} (hd : decode c.code pc = .ok (.dup, 1)) (hc : v.category = 1) (hp : pc + 1 = pc') (kk : Ends p e below Q T (mkF m pc' Ls (v :: v :: St))) : Ends p e below Q T (mkF m pc Ls (v :: St)) := by subst hp; exact Ends.go (fun _ q => XS.dup X.here hx rfl hd rfl hc q) kk
theorem ow_goto (X : Stand p l e R s m args below meth c T locs cells slots) (hx : p.tables.exec = Jvm.exec) {pc pc' : Nat} {Ls : Array Slot} {St : List Value} {o : Int} (hd : decode c.code pc = .ok (.goto o, 3)) (ho : 0 ≤ (pc : Int) + o) (hp : ((pc : Int) + o).toNat = pc') (kk : Ends p e below Q T (mkF m pc' Ls St)) : Ends p e below Q T (mkF m pc Ls St) := Ends.go (fun _ q => XS.goto X.here hx rfl (pc0 := pc) (pc' := pc') rfl hd ho hp q) kk
theorem ow_icmpY (X : Stand p l e R s m args below meth c T locs cells slots) (hx : p.tables.exec = Jvm.exec) {pc pc' : Nat} {Ls : Array Slot} {St : List Value} {cd : ClassFile.Cond} {x y : Int32} {o : Int} (hd : decode c.code pc = .ok (.if_icmp cd o, 3)) (hc : if_icmp.holds cd x y = true) (ho : 0 ≤ (pc : Int) + o) (hp : ((pc : Int) + o).toNat = pc') (kk : Ends p e below Q T (mkF m pc' Ls St)) : Ends p e below Q T (mkF m pc Ls (.int y :: .int x :: St)) := Ends.go (fun _ q => XS.icmpYes X.here hx rfl (pc0 := pc) (pc' := pc') rfl hd rfl hc ho hp q) kk
theorem ow_icmpN (X : Stand p l e R s m args below meth c T locs cells slots) (hx : p.tables.exec = Jvm.exec) {pc pc' : Nat} {Ls : Array Slot} {St : List Value} {cd : ClassFile.Cond} {x y : Int32} {o : Int} (hd : decode c.code pc = .ok (.if_icmp cd o, 3)) (hc : if_icmp.holds cd x y = false) (hp : pc + 3 = pc') (kk : Ends p e below Q T (mkF m pc' Ls St)) : Ends p e below Q T (mkF m pc Ls (.int y :: .int x :: St)) := by subst hp; exact Ends.go (fun _ q => XS.icmpNo X.here hx rfl hd rfl hc q) kk
theorem ow_ifY (X : Stand p l e R s m args below meth c T locs cells slots) (hx : p.tables.exec = Jvm.exec) {pc pc' : Nat} {Ls : Array Slot} {St : List Value} {cd : ClassFile.Cond} {x : Int32} {o : Int} (hd : decode c.code pc = .ok (.ifCond cd o, 3)) (hc : if_icmp.holds cd x 0 = true) (ho : 0 ≤ (pc : Int) + o) (hp : ((pc : Int) + o).toNat = pc') (kk : Ends p e below Q T (mkF m pc' Ls St)) : Ends p e below Q T (mkF m pc Ls (.int x :: St)) := Ends.go (fun _ q => XS.ifYes X.here hx rfl (pc0 := pc) (pc' := pc') rfl hd rfl ((if0 _ _).trans hc) ho hp q) kk
theorem ow_ifN (X : Stand p l e R s m args below meth c T locs cells slots) (hx : p.tables.exec = Jvm.exec) {pc pc' : Nat} {Ls : Array Slot} {St : List Value} {cd : ClassFile.Cond} {x : Int32} {o : Int} (hd : decode c.code pc = .ok (.ifCond cd o, 3)) (hc : if_icmp.holds cd x 0 = false) (hp : pc + 3 = pc') (kk : Ends p e below Q T (mkF m pc' Ls St)) : Ends p e below Q T (mkF m pc Ls (.int x :: St)) := by subst hp; exact Ends.go (fun _ q => XS.ifNo X.here hx rfl hd rfl ((if0 _ _).trans hc) q) kk
/-- the six comparisons, said of the signed worth -/
def cmpI : ClassFile.Cond → Int → Int → Prop
  | .eq, a, b => a = b
  | .ne, a, b => ¬ a = b
  | .lt, a, b => a < b
  | .ge, a, b => ¬ a < b
  | .gt, a, b => b < a
  | .le, a, b => ¬ b < a
theorem cmpI_y {cd : ClassFile.Cond} {x y : Int32} (q : cmpI cd x.toInt y.toInt) : if_icmp.holds cd x y = true := by
  cases cd <;> simp only [cmpI] at q <;> simp [if_icmp.holds, ← Int32.toInt_inj, Int32.lt_iff_toInt_lt, Int32.le_iff_toInt_le] <;> omega
theorem cmpI_n {cd : ClassFile.Cond} {x y : Int32} (q : ¬ cmpI cd x.toInt y.toInt) : if_icmp.holds cd x y = false := by
  cases cd <;> simp only [cmpI] at q <;> simp [if_icmp.holds, ← Int32.toInt_inj, Int32.lt_iff_toInt_lt, Int32.le_iff_toInt_le] <;> omega
theorem ow_if_eq (X : Stand p l e R s m args below meth c T locs cells slots) (hx : p.tables.exec = Jvm.exec) {pc pt pf : Nat} {Ls : Array Slot} {St : List Value} {x : Int32} {o : Int} (xi : Int) (hd : decode c.code pc = .ok (.ifCond .eq o, 3)) (hxi : x.toInt = xi) (ho : 0 ≤ (pc : Int) + o) (hp : ((pc : Int) + o).toNat = pt) (hq : pc + 3 = pf) (kt : xi = 0 → Ends p e below Q T (mkF m pt Ls St)) (kf : ¬ xi = 0 → Ends p e below Q T (mkF m pf Ls St)) : Ends p e below Q T (mkF m pc Ls (.int x :: St)) := by
  subst hxi
  have z0 : (0 : Int32).toInt = 0 := rfl
  rcases Classical.em (cmpI .eq x.toInt (0 : Int32).toInt) with w | w
  · exact ow_ifY X hx hd (cmpI_y w) ho hp (kt (by simp only [cmpI, z0] at w; omega))
  · exact ow_ifN X hx hd (cmpI_n w) hq (kf (by simp only [cmpI, z0] at w; omega))
theorem ow_icmp_ne (X : Stand p l e R s m args below meth c T locs cells slots) (hx : p.tables.exec = Jvm.exec) {pc pt pf : Nat} {Ls : Array Slot} {St : List Value} {x y : Int32} {o : Int} (xi yi : Int) (hd : decode c.code pc = .ok (.if_icmp .ne o, 3)) (hxi : x.toInt = xi) (hyi : y.toInt = yi) (ho : 0 ≤ (pc : Int) + o) (hp : ((pc : Int) + o).toNat = pt) (hq : pc + 3 = pf) (kt : ¬ xi = yi → Ends p e below Q T (mkF m pt Ls St)) (kf : xi = yi → Ends p e below Q T (mkF m pf Ls St)) : Ends p e below Q T (mkF m pc Ls (.int y :: .int x :: St)) := by
  subst hxi hyi
  rcases Classical.em (cmpI .ne x.toInt y.toInt) with w | w
  · exact ow_icmpY X hx hd (cmpI_y w) ho hp (kt w)
  · exact ow_icmpN X hx hd (cmpI_n w) hq (kf (by simp only [cmpI] at w; omega))
theorem ow_if_ne (X : Stand p l e R s m args below meth c T locs cells slots) (hx : p.tables.exec = Jvm.exec) {pc pt pf : Nat} {Ls : Array Slot} {St : List Value} {x : Int32} {o : Int} (xi : Int) (hd : decode c.code pc = .ok (.ifCond .ne o, 3)) (hxi : x.toInt = xi) (ho : 0 ≤ (pc : Int) + o) (hp : ((pc : Int) + o).toNat = pt) (hq : pc + 3 = pf) (kt : ¬ xi = 0 → Ends p e below Q T (mkF m pt Ls St)) (kf : xi = 0 → Ends p e below Q T (mkF m pf Ls St)) : Ends p e below Q T (mkF m pc Ls (.int x :: St)) := by
  subst hxi
  have z0 : (0 : Int32).toInt = 0 := rfl
  rcases Classical.em (cmpI .ne x.toInt (0 : Int32).toInt) with w | w
  · exact ow_ifY X hx hd (cmpI_y w) ho hp (kt (by simp only [cmpI, z0] at w; omega))
  · exact ow_ifN X hx hd (cmpI_n w) hq (kf (by simp only [cmpI, z0] at w; omega))
theorem ow_if_lt (X : Stand p l e R s m args below meth c T locs cells slots) (hx : p.tables.exec = Jvm.exec) {pc pt pf : Nat} {Ls : Array Slot} {St : List Value} {x : Int32} {o : Int} (xi : Int) (hd : decode c.code pc = .ok (.ifCond .lt o, 3)) (hxi : x.toInt = xi) (ho : 0 ≤ (pc : Int) + o) (hp : ((pc : Int) + o).toNat = pt) (hq : pc + 3 = pf) (kt : xi < 0 → Ends p e below Q T (mkF m pt Ls St)) (kf : ¬ xi < 0 → Ends p e below Q T (mkF m pf Ls St)) : Ends p e below Q T (mkF m pc Ls (.int x :: St)) := by
  subst hxi
  have z0 : (0 : Int32).toInt = 0 := rfl
  rcases Classical.em (cmpI .lt x.toInt (0 : Int32).toInt) with w | w
  · exact ow_ifY X hx hd (cmpI_y w) ho hp (kt (by simp only [cmpI, z0] at w; omega))
  · exact ow_ifN X hx hd (cmpI_n w) hq (kf (by simp only [cmpI, z0] at w; omega))
theorem ow_if_gt (X : Stand p l e R s m args below meth c T locs cells slots) (hx : p.tables.exec = Jvm.exec) {pc pt pf : Nat} {Ls : Array Slot} {St : List Value} {x : Int32} {o : Int} (xi : Int) (hd : decode c.code pc = .ok (.ifCond .gt o, 3)) (hxi : x.toInt = xi) (ho : 0 ≤ (pc : Int) + o) (hp : ((pc : Int) + o).toNat = pt) (hq : pc + 3 = pf) (kt : 0 < xi → Ends p e below Q T (mkF m pt Ls St)) (kf : ¬ 0 < xi → Ends p e below Q T (mkF m pf Ls St)) : Ends p e below Q T (mkF m pc Ls (.int x :: St)) := by
  subst hxi
  have z0 : (0 : Int32).toInt = 0 := rfl
  rcases Classical.em (cmpI .gt x.toInt (0 : Int32).toInt) with w | w
  · exact ow_ifY X hx hd (cmpI_y w) ho hp (kt (by simp only [cmpI, z0] at w; omega))
  · exact ow_ifN X hx hd (cmpI_n w) hq (kf (by simp only [cmpI, z0] at w; omega))
theorem ow_acmp (X : Stand p l e R s m args below meth c T locs cells slots) (hx : p.tables.exec = Jvm.exec) {pc pc' : Nat} {Ls : Array Slot} {St : List Value} {cd : ACond} {x y : Value} (h1 : x.isRef = true) (h2 : y.isRef = true) {o : Int} {same : Bool} (hd : decode c.code pc = .ok (.if_acmp cd o, 3)) (hs : decide (x = y) = same) (ho : 0 ≤ (pc : Int) + o) (hp : (if acV cd same = true then ((pc : Int) + o).toNat else pc + 3) = pc') (kk : Ends p e below Q T (mkF m pc' Ls St)) : Ends p e below Q T (mkF m pc Ls (y :: x :: St)) := Ends.go (fun _ q => Jvm.RoadKit.acmp (g := mkF m pc Ls (y :: x :: St)) X hx rfl h1 h2 (pc0 := pc) (pc' := pc') (same := same) rfl hd rfl hs ho hp.symm q) kk
theorem ow_retB (X : Stand p l e R s m args below meth c T locs cells slots) (hx : p.tables.exec = Jvm.exec) {pc : Nat} {Ls : Array Slot} {rest : List Value} {z z' : Int32} (hret : meth.sig.returnType = some .boolean) (hlk : meth.locks = false) (hd : decode c.code pc = .ok (.ireturn, 1)) {ce sl : Nat} (hc : cells ≤ ce) (hs : slots ≤ sl) {Qv : Option Value → Heap → List Loc → Prop} (hz : nar .boolean z = z') (q : Qv (some (.int z')) T.heap locs) : Ends p e below (Out s ce sl Qv) T (mkF m pc Ls (.int z :: rest)) := by
  subst hz
  obtain ⟨fs, hr, hrun, hended, hW, hsame⟩ := X.leave (v := some (.int (nar .boolean z))) (fun h => by rw [hret] at h; cases h) hlk
  exact ⟨_, _, retN X hx (t := .boolean) hret (by simp) hd hr, hrun, hended, _, _, rfl, q, ⟨_, rfl⟩, hW, hsame.mono hc hs⟩
theorem ow_retA (X : Stand p l e R s m args below meth c T locs cells slots) (hx : p.tables.exec = Jvm.exec) {pc : Nat} {Ls : Array Slot} {w : Value} {t : FieldType} (hret : meth.sig.returnType = some t) (hlk : meth.locks = false) (hw : w.isRef = true) (ht : t.isReference = true) (hd : decode c.code pc = .ok (.areturn, 1)) {ce sl : Nat} (hc : cells ≤ ce) (hs : slots ≤ sl) {Qv : Option Value → Heap → List Loc → Prop} (q : Qv (some w) T.heap locs) : Ends p e below (Out s ce sl Qv) T (mkF m pc Ls [w]) := by
  obtain ⟨fs, hr, hrun, hended, hW, hsame⟩ := X.leave (v := some w) (fun h => by rw [hret] at h; cases h) hlk
  exact ⟨_, _, X.areturnOut hx hw hret ht hd hr, hrun, hended, _, _, rfl, q, ⟨_, rfl⟩, hW, hsame.mono hc hs⟩
theorem ow_retV (X : Stand p l e R s m args below meth c T locs cells slots) (hx : p.tables.exec = Jvm.exec) {pc : Nat} {Ls : Array Slot} (hret : meth.sig.returnType = none) (hlk : meth.locks = false) (hd : decode c.code pc = .ok (.return_, 1)) {ce sl : Nat} (hc : cells ≤ ce) (hs : slots ≤ sl) {Qv : Option Value → Heap → List Loc → Prop} (q : Qv none T.heap locs) : Ends p e below (Out s ce sl Qv) T (mkF m pc Ls []) := by
  obtain ⟨fs, hr, hrun, hended, hW, hsame⟩ := X.leave (v := none) (fun _ => rfl) hlk
  exact ⟨_, _, X.returnOut hx hret hd hr, hrun, hended, _, _, rfl, q, ⟨_, rfl⟩, hW, hsame.mono hc hs⟩
theorem ow_callS (X : Stand p l e R s m args below meth c T locs cells slots) (hx : p.tables.exec = Jvm.exec) (hZ : Z.Warmed39 s.vm) {own : String} {index : Nat} {y : MethodName} {bytes : ByteArray} {maxL : Nat} {ret : Option FieldType} (hown : s.vm.findClass own = some m.cls)
    (wl : (Jvm.Cond.methodLink own index y).before a0 Z = true) (wst : (Jvm.Cond.static y).before a0 Z = true) (wi : (Jvm.Cond.initialized y.cls).before a0 Z = true) (wc : (Jvm.Cond.code y bytes maxL ret).before a0 Z = true) (hy : y.cls ≠ "java/lang/invoke/MethodHandle" ∧ y.cls ≠ "java/lang/invoke/VarHandle")
    {rm : Room} {as' : Array Value} {Qc : Option Value → Heap → List Loc → Prop} (hM : MetFree l y (head1 [Jvm.Cond.code y bytes maxL ret] rm) (fun a U => a = as' ∧ Z.Warmed39 U.vm ∧ U.heap = h) (fun _ _ _ _ _ => True) (fun _ U o U' => ∃ v L, o = .returned v ∧ Qc v U'.heap L ∧ FrameEnd U o U' L rm.cells rm.slots))
    (eT : T.heap = h) (W : Nat) (hf : rm.frames + 1 ≤ R.frames) (hl : W + (maxL + 11) + rm.locals ≤ R.locals) (hce : cells + rm.cells ≤ R.cells) (hsl : slots + rm.slots ≤ R.slots) {pc pc' : Nat} {Ls : Array Slot} {St rest : List Value} (argsL : List Value) {ps : List FieldType} {rt : Option FieldType} (hsize : Ls.size = c.maxLocals) (hdesc : parseMethodDescriptor y.desc = some ⟨ps, rt⟩) (hlen : argsL.length = ps.length) (hst : St = argsL.reverse ++ rest) (has : argsL.toArray = as') (hW : (rest.map fun v => v.category).sum ≤ W)
    (hd : decode c.code pc = .ok (.invokestatic index, 3)) (hp : pc + 3 = pc')
    (kk : ∀ (v : Option Value) (T' : State) (L' : List Loc), Qc v T'.heap L' → Stand p l e R s m args below meth c T' (locs ++ L') (cells + rm.cells) (slots + rm.slots) → Ends p e below Q T' (mkF m pc' Ls (v.toList ++ rest))) : Ends p e below Q T (mkF m pc Ls St) := by
  subst hst has hp
  obtain ⟨v, vm₁, ⟨T', L, k2, n2⟩, -, X', ⟨Lc, hQ, l1, y1, z1⟩, st⟩ := Jvm.LawKit.callS X hx hown (mvT hZ wl) (mvT hZ wst) (mvT hZ wi) (mvT hZ wc) hy (backOf (W := W) hM hZ wc wi hf hl) (g := mkF m pc Ls (argsL.reverse ++ rest)) rfl hsize (argsL := argsL) (rest := rest) (lenOf hdesc hlen) rfl (by show 2 * 0 + _ ≤ _; omega) hd (fun _ _ => ⟨rfl, eT, hce, hsl⟩)
  dsimp only [Pt.U, Pt.locs, Pt.cells, Pt.slots] at X' l1 y1 z1 st hQ
  subst l1 y1 z1
  exact Ends.go st (kk v T' Lc hQ X')
theorem ow_callI (X : Stand p l e R s m args below meth c T locs cells slots) (hx : p.tables.exec = Jvm.exec) (hZ : Z.Warmed39 s.vm) {own : String} {index : Nat} {y : MethodName} {bytes : ByteArray} {maxL : Nat} {ret : Option FieldType} (hret0 : ret = none) (hy1 : y.name = "<init>") (hown : s.vm.findClass own = some m.cls)
    (wl : (Jvm.Cond.methodLink own index y).before a0 Z = true) (wst : (Jvm.Cond.instanceMethod y).before a0 Z = true) (wi : (Jvm.Cond.initialized y.cls).before a0 Z = true) (wc : (Jvm.Cond.code y bytes maxL ret).before a0 Z = true) (hy : y.cls ≠ "java/lang/invoke/MethodHandle" ∧ y.cls ≠ "java/lang/invoke/VarHandle")
    {rm : Room} {as' : Array Value} {Qc : Option Value → Heap → List Loc → Prop} (hM : MetFree l y (head1 [Jvm.Cond.code y bytes maxL ret] rm) (fun a U => a = as' ∧ Z.Warmed39 U.vm ∧ U.heap = h) (fun _ _ _ _ _ => True) (fun _ U o U' => ∃ v L, o = .returned v ∧ Qc v U'.heap L ∧ FrameEnd U o U' L rm.cells rm.slots))
    (eT : T.heap = h) (W : Nat) (hf : rm.frames + 1 ≤ R.frames) (hl : W + (maxL + 11) + rm.locals ≤ R.locals) (hce : cells + rm.cells ≤ R.cells) (hsl : slots + rm.slots ≤ R.slots) {pc pc' : Nat} {Ls : Array Slot} {St rest : List Value} (argsL : List Value) {ps : List FieldType} {rt : Option FieldType} (hsize : Ls.size = c.maxLocals) (hdesc : parseMethodDescriptor y.desc = some ⟨ps, rt⟩) (hlen : argsL.length = ps.length) {a : Addr} (hst : St = argsL.reverse ++ .ref a :: rest) (has : (Value.ref a :: argsL).toArray = as') (hW : (rest.map fun v => v.category).sum ≤ W)
    (hd : decode c.code pc = .ok (.invokespecial index, 3)) (hp : pc + 3 = pc')
    (kk : ∀ (v : Option Value) (T' : State) (L' : List Loc), Qc v T'.heap L' → Stand p l e R s m args below meth c T' (locs ++ L') (cells + rm.cells) (slots + rm.slots) → Ends p e below Q T' (mkF m pc' Ls (v.toList ++ rest))) : Ends p e below Q T (mkF m pc Ls St) := by
  subst hst has hp hret0
  obtain ⟨v, vm₁, ⟨T', L, k2, n2⟩, -, X', ⟨Lc, hQ, l1, y1, z1⟩, st⟩ := X.specialBack hx hy1 hown (mvT hZ wl) (mvT hZ wst) (mvT hZ wc) hy (backOf (W := W) hM hZ wc wi hf hl) (g := mkF m pc Ls (argsL.reverse ++ .ref a :: rest)) rfl hsize (Steps.refl _) (a := a) (argsL := argsL) (rest := rest) (lenOf hdesc hlen) rfl (by show 2 * 0 + _ ≤ _; omega) hd (fun _ _ => ⟨rfl, eT, hce, hsl⟩)
  dsimp only [Pt.U, Pt.locs, Pt.cells, Pt.slots] at X' l1 y1 z1 st hQ
  subst l1 y1 z1
  exact Ends.thru st (kk v T' Lc hQ X')
theorem ow_callV (X : Stand p l e R s m args below meth c T locs cells slots) (hx : p.tables.exec = Jvm.exec) (hZ : Z.Warmed39 s.vm) {own C : String} {index : Nat} {y y' : MethodName} (hyy : y = y') {bytes : ByteArray} {maxL : Nat} {ret : Option FieldType} (hown : s.vm.findClass own = some m.cls)
    (wl : (Jvm.Cond.methodLink own index y).before a0 Z = true) (wd : (Jvm.Cond.declares y).before a0 Z = true) (wsel : (Jvm.Cond.selects C y y').before a0 Z = true) (wst : (Jvm.Cond.instanceMethod y').before a0 Z = true) (wi : (Jvm.Cond.initialized y'.cls).before a0 Z = true) (wc : (Jvm.Cond.code y' bytes maxL ret).before a0 Z = true) (hy : y.cls ≠ "java/lang/invoke/MethodHandle" ∧ y.cls ≠ "java/lang/invoke/VarHandle")
    {rm : Room} {as' : Array Value} {Qc : Option Value → Heap → List Loc → Prop} (hM : MetFree l y' (head1 [Jvm.Cond.code y' bytes maxL ret] rm) (fun a U => a = as' ∧ Z.Warmed39 U.vm ∧ U.heap = h) (fun _ _ _ _ _ => True) (fun _ U o U' => ∃ v L, o = .returned v ∧ Qc v U'.heap L ∧ FrameEnd U o U' L rm.cells rm.slots))
    (eT : T.heap = h) (W : Nat) (hf : rm.frames + 1 ≤ R.frames) (hl : W + (maxL + 11) + rm.locals ≤ R.locals) (hce : cells + rm.cells ≤ R.cells) (hsl : slots + rm.slots ≤ R.slots) {pc pc' : Nat} {Ls : Array Slot} {St rest : List Value} (argsL : List Value) {ps : List FieldType} {rt : Option FieldType} (hsize : Ls.size = c.maxLocals) (hdesc : parseMethodDescriptor y.desc = some ⟨ps, rt⟩) (hlen : argsL.length = ps.length) {a : Addr} (E : Exa Z h a C) (hst : St = argsL.reverse ++ .ref a :: rest) (has : (Value.ref a :: argsL).toArray = as') (hW : (rest.map fun v => v.category).sum ≤ W)
    (hd : decode c.code pc = .ok (.invokevirtual index, 3)) (hp : pc + 3 = pc')
    (kk : ∀ (v : Option Value) (T' : State) (L' : List Loc), Qc v T'.heap L' → Stand p l e R s m args below meth c T' (locs ++ L') (cells + rm.cells) (slots + rm.slots) → Ends p e below Q T' (mkF m pc' Ls (v.toList ++ rest))) : Ends p e below Q T (mkF m pc Ls St) := by
  subst hst has hp hyy
  obtain ⟨cq, kq, qa, qb, qc⟩ := isOf hZ eT E
  obtain ⟨v, vm₁, ⟨T', L, k2, n2⟩, -, X', ⟨Lc, hQ, l1, y1, z1⟩, st⟩ := X.virtualBack hx hown (mvT hZ wl) (mvT hZ wd) (notFace_of_selects (args := #[]) (mvT hZ wsel)) (mvT hZ wsel) (mvT hZ wst) hy (backOf (W := W) hM hZ wc wi hf hl) qa qc (g := mkF m pc Ls (argsL.reverse ++ .ref a :: rest)) rfl hsize (Steps.refl _) (argsL := argsL) (rest := rest) (lenOf hdesc hlen) rfl (by show 2 * 0 + _ ≤ _; omega) hd (fun _ _ => ⟨rfl, eT, hce, hsl⟩)
  dsimp only [Pt.U, Pt.locs, Pt.cells, Pt.slots] at X' l1 y1 z1 st hQ
  subst l1 y1 z1
  exact Ends.thru st (kk v T' Lc hQ X')
/-- Object's constructor -/
theorem ow_init0 (X : Stand p l e R s m args below meth c T locs cells slots) (hx : p.tables.exec = Jvm.exec) (hZ : Z.Warmed39 s.vm) {own : String} {index : Nat} (hown : s.vm.findClass own = some m.cls) (wl : (Jvm.Cond.methodLink own index Lib.objectInit).before a0 Z = true) (wst : (Jvm.Cond.instanceMethod Lib.objectInit).before a0 Z = true) (wc : (Jvm.Cond.code Lib.objectInit ⟨#[0xb1]⟩ 1 none).before a0 Z = true)
    (eT : T.heap = h) (W : Nat) (hf : 1 ≤ R.frames) (hl : W + 12 ≤ R.locals) {pc pc' : Nat} {Ls : Array Slot} {a : Addr} {St : List Value} (hsize : Ls.size = c.maxLocals) (hW : (St.map fun v => v.category).sum ≤ W) (hd : decode c.code pc = .ok (.invokespecial index, 3)) (hp : pc + 3 = pc')
    (kk : ∀ T' : State, Stand p l e R s m args below meth c T' locs cells slots → T'.heap = h → Ends p e below Q T' (mkF m pc' Ls St)) : Ends p e below Q T (mkF m pc Ls (.ref a :: St)) := by
  subst hp
  obtain ⟨T', X', e', st⟩ := initO X hx hZ hown wl wst wc eT (g := mkF m pc Ls (.ref a :: St)) rfl hsize rfl hd hf (W := W) (by show 2 * 0 + _ ≤ _; omega) hl
  exact Ends.go st (kk T' X' e')
theorem ow_getF (X : Stand p l e R s m args below meth c T locs cells slots) (hx : p.tables.exec = Jvm.exec) (hZ : Z.Warmed39 s.vm) {own R0 O n d host : String} {index : Nat} (hown : s.vm.findClass own = some m.cls) (w : (Jvm.Cond.fieldLink own index R0 n d).before a0 Z = true ∨ (Jvm.Cond.fieldLinkNest own index R0 n d host).before a0 Z = true) (via : Via Z R0 O n d) (eT : T.heap = h) {a : Addr} {v : Value} (F : Fld Z h a O n d v) {pc pc' : Nat} {Ls : Array Slot} {St : List Value} (hd : decode c.code pc = .ok (.getfield index, 3)) (hp : pc + 3 = pc')
    (kk : ∀ T' : State, Stand p l e R s m args below meth c T' locs cells slots → T'.heap = h → Ends p e below Q T' (mkF m pc' Ls (v :: St))) : Ends p e below Q T (mkF m pc Ls (.ref a :: St)) := by
  subst hp
  obtain ⟨T', X', e', st⟩ := getF X hx hZ hown w via eT F (g := mkF m pc Ls (.ref a :: St)) rfl rfl hd
  exact Ends.go st (kk T' X' e')
theorem ow_getS (X : Stand p l e R s m args below meth c T locs cells slots) (hx : p.tables.exec = Jvm.exec) (hZ : Z.Warmed39 s.vm) {own R0 O n d host : String} {index : Nat} (hown : s.vm.findClass own = some m.cls) (w : (Jvm.Cond.fieldLink own index R0 n d).before a0 Z = true ∨ (Jvm.Cond.fieldLinkNest own index R0 n d host).before a0 Z = true) (via : Via Z R0 O n d) (eT : T.heap = h) {v : Value} (F : Sta Z h O n d v) {pc pc' : Nat} {Ls : Array Slot} {St : List Value} (hd : decode c.code pc = .ok (.getstatic index, 3)) (hp : pc + 3 = pc')
    (kk : ∀ T' : State, Stand p l e R s m args below meth c T' locs cells slots → T'.heap = h → Ends p e below Q T' (mkF m pc' Ls (v :: St))) : Ends p e below Q T (mkF m pc Ls St) := by
  subst hp
  obtain ⟨T', X', e', st⟩ := getS2 X hx hZ hown w via eT F (g := mkF m pc Ls St) rfl hd
  exact Ends.go st (kk T' X' e')
theorem ow_putF (X : Stand p l e R s m args below meth c T locs cells slots) (hx : p.tables.exec = Jvm.exec) (hZ : Z.Warmed39 s.vm) {own R0 O n d host C : String} {index kn : Nat} {ty : FieldType} (hown : s.vm.findClass own = some m.cls) (w : (Jvm.Cond.fieldLink own index R0 n d).before a0 Z = true ∨ (Jvm.Cond.fieldLinkNest own index R0 n d host).before a0 Z = true) (via : Via Z R0 O n d) (eT : T.heap = h) {a : Addr} {v old : Value} (F : Fld Z h a O n d old) (E : Exa Z h a C)
    (L : (Jvm.Cond.lays C O n d).before a0 Z = true ∨ ((Jvm.Cond.laysFinal C O n d).before a0 Z = true ∧ own = O ∧ meth.name = "<init>")) (wi : (Jvm.Cond.instantiable C kn).before a0 Z = true) (hty : parseFieldDescriptor d = some ty) (hn : narrow ty v = v) (hft : fits ty v = true) {pc pc' : Nat} {Ls : Array Slot} {St : List Value} (hd : decode c.code pc = .ok (.putfield index, 3)) (hp : pc + 3 = pc')
    (kk : ∀ (T' : State) (h' : Heap), Stand p l e R s m args below meth c T' (locs ++ [⟨a, Jvm.RoadKit.slotOf Z O n d⟩]) cells slots → T'.heap = h' → Wr h h' a (Jvm.RoadKit.slotOf Z O n d) v → Ends p e below Q T' (mkF m pc' Ls St)) : Ends p e below Q T (mkF m pc Ls (v :: .ref a :: St)) := by
  subst hp
  obtain ⟨T', h', X', e', W', st⟩ := putF X hx hZ hown w via eT F E L wi hty hn hft (g := mkF m pc Ls (v :: .ref a :: St)) rfl rfl hd
  exact Ends.go st (kk T' h' X' e' W')
theorem ow_new (X : Stand p l e R s m args below meth c T locs cells slots) (hx : p.tables.exec = Jvm.exec) (hZ : Z.Warmed39 s.vm) {own C : String} {index n : Nat} (hown : s.vm.findClass own = some m.cls) (w : (Jvm.Cond.classLink own index C).before a0 Z = true) (wi : (Jvm.Cond.instantiable C n).before a0 Z = true) (wz : (Jvm.Cond.initialized C).before a0 Z = true) (eT : T.heap = h) {pc pc' : Nat} {Ls : Array Slot} {St : List Value} (hd : decode c.code pc = .ok (.new index, 3)) (hc : cells + 1 ≤ R.cells) (hl : slots + n ≤ R.slots) (hp : pc + 3 = pc')
    (kk : ∀ (T' : State) (h' : Heap) (b : Addr), b = h.size → Stand p l e R s m args below meth c T' locs (cells + 1) (slots + n) → T'.heap = h' → Ext h h' → Exa Z h' b C → (∀ {O nm d : String} {ty : FieldType}, Laid Z a0 C O nm d → parseFieldDescriptor d = some ty → Fld Z h' b O nm d (defaultValue ty)) → Ends p e below Q T' (mkF m pc' Ls (.ref b :: St))) : Ends p e below Q T (mkF m pc Ls St) := by
  subst hp
  obtain ⟨T', h', X', e', E', A', D', -, st⟩ := newO X hx hZ hown w wi wz eT (g := mkF m pc Ls St) rfl hd hc hl
  exact Ends.go st (kk T' h' _ rfl X' e' E' A' D')
theorem ow_newR (X : Stand p l e R s m args below meth c T locs cells slots) (hx : p.tables.exec = Jvm.exec) (hZ : Z.Warmed39 s.vm) {own C : String} {index : Nat} (hown : s.vm.findClass own = some m.cls) (w1 : (Jvm.Cond.classLink own index C).before a0 Z = true) (w2 : (Jvm.Cond.arrayOver (.object C)).before a0 Z = true) (eT : T.heap = h) {pc pc' : Nat} {Ls : Array Slot} {St : List Value} {n : Int32} (hd : decode c.code pc = .ok (.anewarray index, 3)) (hn : ¬ n < 0) (cap : Nat) (hcap : n.toNatClampNeg ≤ cap) (hb : cap * 8 ≤ 536870912) (hc : cells + 1 ≤ R.cells) (hl : slots + cap ≤ R.slots) (hp : pc + 3 = pc')
    (kk : ∀ (T' : State) (h' : Heap) (b : Addr) (k : ClassId), b = h.size → Stand p l e R s m args below meth c T' locs (cells + 1) (slots + cap) → T'.heap = h' → Ext h h' → Arv Z h' b k (.object C) n [] .null → Ovr Z k C → Ends p e below Q T' (mkF m pc' Ls (.ref b :: St))) : Ends p e below Q T (mkF m pc Ls (.int n :: St)) := by
  subst hp
  obtain ⟨T', h', k, X', e', E', A', O', st⟩ := newR X hx hZ hown w1 w2 eT (g := mkF m pc Ls (.int n :: St)) rfl hd rfl hn (cap := cap) hcap hb hc hl
  exact Ends.go st (kk T' h' _ k rfl X' e' E' (Arv.new A' hn) O')
theorem ow_stR (X : Stand p l e R s m args below meth c T locs cells slots) (hx : p.tables.exec = Jvm.exec) (hZ : Z.Warmed39 s.vm) (eT : T.heap = h) {a y : Addr} {k : ClassId} {C : String} {z : Int32} {vs : List Value} {dv : Value} (V : Arv Z h a k (.object C) z vs dv) (O : Ovr Z k C) (I : Ins Z h y C true) {pc pc' : Nat} {Ls : Array Slot} {St : List Value} {j : Int32} (i : Nat) (hj : j.toNatClampNeg = i) (hj0 : ¬ j < 0) (hjz : j < z) (hi : i < vs.length) (hd : decode c.code pc = .ok (.aastore, 1)) (hp : pc + 1 = pc')
    (kk : ∀ (T' : State) (h' : Heap), Stand p l e R s m args below meth c T' (locs ++ [⟨a, j.toNatClampNeg⟩]) cells slots → T'.heap = h' → Wr h h' a j.toNatClampNeg (.ref y) → Arv Z h' a k (.object C) z (vs.set i (.ref y)) dv → Ends p e below Q T' (mkF m pc' Ls St)) : Ends p e below Q T (mkF m pc Ls (.ref y :: .int j :: .ref a :: St)) := by
  subst hp
  obtain ⟨cl, A, q1, S, N, H, G⟩ := V
  obtain ⟨T', h', X', e', W', st⟩ := stR X hx hZ eT A (inb_of S ⟨hj0, hjz⟩) rfl (Sto.ofV A q1 O I) (g := mkF m pc Ls (.ref y :: .int j :: .ref a :: St)) rfl rfl hd
  exact Ends.go st (kk T' h' X' e' W' (Arv.set A q1 S N H G rfl W' i hj hi))
theorem ow_ldA (X : Stand p l e R s m args below meth c T locs cells slots) (hx : p.tables.exec = Jvm.exec) (hZ : Z.Warmed39 s.vm) (eT : T.heap = h) {a : Addr} {k : ClassId} {C : String} {z : Int32} {vs : List Value} {dv : Value} (V : Arv Z h a k (.object C) z vs dv) {pc pc' : Nat} {Ls : Array Slot} {St : List Value} {j : Int32} {v : Value} (hj0 : ¬ j < 0) (hjz : j < z) (hv : vs.getD j.toNatClampNeg dv = v) (hd : decode c.code pc = .ok (.aaload, 1)) (hp : pc + 1 = pc')
    (kk : Ends p e below Q T (mkF m pc' Ls (v :: St))) : Ends p e below Q T (mkF m pc Ls (.int j :: .ref a :: St)) := by
  subst hp
  obtain ⟨cl, A, q1, S, N, H, G⟩ := V
  have hin := inb_of S ⟨hj0, hjz⟩
  exact Ends.go (X.aaload hx (by rw [eT]; exact A.1) (State.isArrayOf_alike hZ.alike A.2.1) rfl A.2.2 hin (H.at hin hv) (g := mkF m pc Ls (.int j :: .ref a :: St)) rfl rfl hd) kk
theorem ow_castY (X : Stand p l e R s m args below meth c T locs cells slots) (hx : p.tables.exec = Jvm.exec) (hZ : Z.Warmed39 s.vm) {own K : String} {index : Nat} (hown : s.vm.findClass own = some m.cls) (w : (Jvm.Cond.classLink own index K).before a0 Z = true) (eT : T.heap = h) {a : Addr} (F : Ins Z h a K true) {pc pc' : Nat} {Ls : Array Slot} {St : List Value} (hd : decode c.code pc = .ok (.checkcast index, 3)) (hp : pc + 3 = pc')
    (kk : ∀ T' : State, Stand p l e R s m args below meth c T' locs cells slots → T'.heap = h → Ends p e below Q T' (mkF m pc' Ls (.ref a :: St))) : Ends p e below Q T (mkF m pc Ls (.ref a :: St)) := by
  subst hp
  obtain ⟨T', X', e', st⟩ := castY X hx hZ hown w eT F (g := mkF m pc Ls (.ref a :: St)) rfl rfl hd
  exact Ends.go st (kk T' X' e')
theorem ow_instY (X : Stand p l e R s m args below meth c T locs cells slots) (hx : p.tables.exec = Jvm.exec) (hZ : Z.Warmed39 s.vm) {own K : String} {index : Nat} (hown : s.vm.findClass own = some m.cls) (w : (Jvm.Cond.classLink own index K).before a0 Z = true) (eT : T.heap = h) {a : Addr} (F : Ins Z h a K true) {pc pc' : Nat} {Ls : Array Slot} {St : List Value} (hd : decode c.code pc = .ok (.instanceof index, 3)) (hp : pc + 3 = pc')
    (kk : ∀ T' : State, Stand p l e R s m args below meth c T' locs cells slots → T'.heap = h → Ends p e below Q T' (mkF m pc' Ls (.int 1 :: St))) : Ends p e below Q T (mkF m pc Ls (.ref a :: St)) := by
  subst hp
  obtain ⟨T', X', e', st⟩ := instY X hx hZ hown w eT F (g := mkF m pc Ls (.ref a :: St)) rfl rfl hd
  exact Ends.go st (kk T' X' e')
theorem ow_instNo (X : Stand p l e R s m args below meth c T locs cells slots) (hx : p.tables.exec = Jvm.exec) (hZ : Z.Warmed39 s.vm) {own K C : String} {index : Nat} (hown : s.vm.findClass own = some m.cls) (w : (Jvm.Cond.classLink own index K).before a0 Z = true) (eT : T.heap = h) {a : Addr} (E : Exa Z h a C) (F : ∃ c t, Z.vm.findClass C = some c ∧ Z.vm.findClass K = some t ∧ Z.vm.assignable c t = false) {pc pc' : Nat} {Ls : Array Slot} {St : List Value} (hd : decode c.code pc = .ok (.instanceof index, 3)) (hp : pc + 3 = pc')
    (kk : ∀ T' : State, Stand p l e R s m args below meth c T' locs cells slots → T'.heap = h → Ends p e below Q T' (mkF m pc' Ls (.int 0 :: St))) : Ends p e below Q T (mkF m pc Ls (.ref a :: St)) := by
  subst hp
  obtain ⟨T', X', e', st⟩ := instNo X hx hZ hown w eT E F (g := mkF m pc Ls (.ref a :: St)) rfl rfl hd
  exact Ends.go st (kk T' X' e')
theorem ow_instNull (X : Stand p l e R s m args below meth c T locs cells slots) (hx : p.tables.exec = Jvm.exec) {pc pc' : Nat} {Ls : Array Slot} {St : List Value} {index : Nat} (hd : decode c.code pc = .ok (.instanceof index, 3)) (hp : pc + 3 = pc') (kk : Ends p e below Q T (mkF m pc' Ls (.int 0 :: St))) : Ends p e below Q T (mkF m pc Ls (.null :: St)) := by
  subst hp
  exact Ends.go (fun _ q => X.instanceofNull hx (g := mkF m pc Ls (.null :: St)) rfl rfl hd _ q) kk
theorem ow_acmp_ne (X : Stand p l e R s m args below meth c T locs cells slots) (hx : p.tables.exec = Jvm.exec) {pc pt pf : Nat} {Ls : Array Slot} {St : List Value} {a b : Addr} {o : Int} (hd : decode c.code pc = .ok (.if_acmp .ne o, 3)) (ho : 0 ≤ (pc : Int) + o) (hp : ((pc : Int) + o).toNat = pt) (hq : pc + 3 = pf) (kt : ¬ a = b → Ends p e below Q T (mkF m pt Ls St)) (kf : a = b → Ends p e below Q T (mkF m pf Ls St)) : Ends p e below Q T (mkF m pc Ls (.ref b :: .ref a :: St)) := by
  rcases Classical.em (a = b) with w | w
  · exact ow_acmp X hx (cd := .ne) rfl rfl (same := true) hd (decide_eq_true (congrArg Value.ref w)) ho (by simp only [acV]; first | exact hp | exact hq) (kf w)
  · exact ow_acmp X hx (cd := .ne) rfl rfl (same := false) hd (decide_eq_false fun q => w (Value.ref.inj q)) ho (by simp only [acV]; first | exact hp | exact hq) (kt w)
/-- a body that returns a number and leaves the heap as it is -/
def QI (P : Int32 → Prop) (h0 : Heap) (v : Option Value) (h : Heap) (L : List Loc) : Prop := ∃ z, v = some (.int z) ∧ P z ∧ L = [] ∧ h = h0
theorem ow_callVPI (X : Stand p l e R s m args below meth c T locs cells slots) (hx : p.tables.exec = Jvm.exec) (hZ : Z.Warmed39 s.vm) {own C : String} {index : Nat} {y y' : MethodName} (hyy : y = y') {bytes : ByteArray} {maxL : Nat} {ret : Option FieldType} (hown : s.vm.findClass own = some m.cls)
    (wl : (Jvm.Cond.methodLink own index y).before a0 Z = true) (wd : (Jvm.Cond.declares y).before a0 Z = true) (wsel : (Jvm.Cond.selects C y y').before a0 Z = true) (wst : (Jvm.Cond.instanceMethod y').before a0 Z = true) (wi : (Jvm.Cond.initialized y'.cls).before a0 Z = true) (wc : (Jvm.Cond.code y' bytes maxL ret).before a0 Z = true) (hy : y.cls ≠ "java/lang/invoke/MethodHandle" ∧ y.cls ≠ "java/lang/invoke/VarHandle")
    {fr lo : Nat} {as' : Array Value} {P : Int32 → Prop} (hM : MetFree l y' (head1 [Jvm.Cond.code y' bytes maxL ret] ({ frames := fr, cells := 0, slots := 0, locals := lo } : Room)) (fun a U => a = as' ∧ Z.Warmed39 U.vm ∧ U.heap = h) (fun _ _ _ _ _ => True) (fun _ U o U' => ∃ v L, o = .returned v ∧ QI P h v U'.heap L ∧ FrameEnd U o U' L 0 0))
    (eT : T.heap = h) (W : Nat) (hf : fr + 1 ≤ R.frames) (hl : W + (maxL + 11) + lo ≤ R.locals) (hce : cells ≤ R.cells) (hsl : slots ≤ R.slots) {pc pc' : Nat} {Ls : Array Slot} {St rest : List Value} (argsL : List Value) {ps : List FieldType} {rt : Option FieldType} (hsize : Ls.size = c.maxLocals) (hdesc : parseMethodDescriptor y.desc = some ⟨ps, rt⟩) (hlen : argsL.length = ps.length) {a : Addr} (E : Exa Z h a C) (hst : St = argsL.reverse ++ .ref a :: rest) (has : (Value.ref a :: argsL).toArray = as') (hW : (rest.map fun v => v.category).sum ≤ W)
    (hd : decode c.code pc = .ok (.invokevirtual index, 3)) (hp : pc + 3 = pc')
    (kk : ∀ (z : Int32) (T' : State), P z → Stand p l e R s m args below meth c T' locs cells slots → T'.heap = h → Ends p e below Q T' (mkF m pc' Ls (.int z :: rest))) : Ends p e below Q T (mkF m pc Ls St) := by
  refine ow_callV X hx hZ hyy hown wl wd wsel wst wi wc hy hM eT W hf hl hce hsl argsL hsize hdesc hlen E hst has hW hd hp ?_
  rintro v T' L' ⟨z, rfl, hP, rfl, hh⟩ X'
  rw [List.append_nil] at X'
  exact kk z T' hP X' hh
def QN (h0 : Heap) (v : Option Value) (h : Heap) (L : List Loc) : Prop := v = none ∧ L = [] ∧ h = h0
theorem ow_staKeep {C n d : String} {v : Value} {h' : Heap} {ws : List Addr} (F : Sta Z h C n d v) (K : Keep h h' ws) (q : ∀ x ∈ ws, ∀ c : Cell, h[x]? = some c → c.vm.isStatics = false) : Sta Z h' C n d v := by
  obtain ⟨cf, i, k, f, st, cell, h1, h2, h3, h4, h5, h6, h7⟩ := F
  exact ⟨cf, i, k, f, st, cell, h1, h2, h3, h4, K.2.1 st cell h5 (fun w => by rw [q st w cell h5] at h6; cases h6), h6, h7⟩
theorem ow_lowbits (x m : Int32) (f : Nat → Int) (hm : 255 &&& m = m) (hf : ∀ r : Fin 256, (Int32.ofNat r.val &&& m).toInt = f r.val) : (x &&& m).toInt = f (x.toInt % 256).toNat := by
  have h1 : (x &&& 255).toInt = x.toInt % 256 := c_mask x 255 8 (by decide) (by decide)
  have h0 : (x.toInt % 256).toNat < 256 := by omega
  have h2 : x &&& 255 = Int32.ofNat (x.toInt % 256).toNat := by
    apply Int32.toInt_inj.mp
    rw [h1]
    have q : (Int32.ofNat (x.toInt % 256).toNat).toInt = ((x.toInt % 256).toNat : Int) := len_toInt (by omega)
    omega
  have h3 : x &&& m = (x &&& 255) &&& m := by rw [Int32.and_assoc, hm]
  rw [h3, h2]
  exact hf ⟨_, h0⟩
theorem ow_lt {x y : Int32} (q : x.toInt < y.toInt) : x < y := Int32.lt_iff_toInt_lt.mpr q
theorem ow_nlt {x y : Int32} (q : ¬ x.toInt < y.toInt) : ¬ x < y := fun w => q (Int32.lt_iff_toInt_lt.mp w)
end Own

theorem nosub {Z : State} {a0 : Array Value} (hw : ∀ d ∈ tables_1, d.before a0 Z = true) : ∃ c t, Z.vm.findClass "java/lang/Long" = some c ∧ Z.vm.findClass "xlogtap/Block" = some t ∧ Z.vm.assignable c t = false := by
  have wl := (hw _ (List.mem_of_getElem? (i := 66) rfl))
  have wn := (hw _ (List.mem_of_getElem? (i := 67) rfl))
  have wo := (hw _ (List.mem_of_getElem? (i := 68) rfl))
  have wb := (hw _ (List.mem_of_getElem? (i := 2) rfl))
  obtain ⟨t, kb, t1, t2, t3, t4, -, -⟩ := Cond.instantiable_spec wb
  obtain ⟨co, ko, o1, o2, o3, -, -⟩ := Cond.noSuperclass_spec wo
  obtain ⟨cn, n0⟩ := found_sup wn
  obtain ⟨po, kn, kpo, n1, n2, n3, n4, n5, -, -⟩ := Cond.superclass_spec n0 wn
  obtain ⟨cl, l0⟩ := found_sup wl
  obtain ⟨pn, kl, kpn, l1, l2, l3, l4, l5, -, -⟩ := Cond.superclass_spec l0 wl
  cases n1.symm.trans o1
  cases l1.symm.trans n0
  have ne1 := ids_ne o1 t1 (by decide)
  have ne2 := ids_ne n0 t1 (by decide)
  have ne3 := ids_ne l0 t1 (by decide)
  have hi : kb.isInterface = false := by
    cases q : kb.isInterface
    · rfl
    · rw [q] at t4; simp at t4
  have s1 : ∀ f, Z.vm.isSubclassAux f co t = false := fun f => by cases f with
    | zero => rfl
    | succ f => simp [Vm.isSubclassAux, ne1, o2, o3]
  have s2 : ∀ f, Z.vm.isSubclassAux f cn t = false := fun f => by cases f with
    | zero => rfl
    | succ f => simp [Vm.isSubclassAux, ne2, n2, n4, s1]
  have s3 : ∀ f, Z.vm.isSubclassAux f cl t = false := fun f => by cases f with
    | zero => rfl
    | succ f => simp [Vm.isSubclassAux, ne3, l2, l4, s2]
  refine ⟨cl, t, l0, t1, ?_⟩
  show Z.vm.assignableAux (255 + 1) cl t = false
  simp [Vm.assignableAux, ne3, l2, t2, l5, t3, hi, Vm.isSubclass, s3]
theorem fld_is {s : State} {args : Array Value} {t : Term} {C n d : String} {z : Int32} {a : Addr} (h : (Jvm.Cond.eq (Jvm.Term.field t C n d) (Jvm.Term.int z)).value args s none s [] = some true) (ht : t.eval args s none [] s = some (.ref a)) : s.fieldOf? a C n d = some (.int z) := by
  obtain ⟨x, y, e1, e2, k1, k2⟩ := cmp_v (Or.inl h)
  cases (Option.some.inj ((Term.int_eval z).symm.trans e2))
  obtain ⟨w, rfl⟩ : ∃ w, x = .int w := k2
  have q := gotT (Cond.eq_ints e1 (Term.int_eval z)) h
  rw [← fld_at ht, e1, q]
theorem tb_size {s : State} {args : Array Value} {t : Term} {a : Addr} {cl : Cell} {z : Int32} (ht : t.eval args s none [] s = some (.ref a)) (ha : s.arrayAt? a = some cl) (h : (Jvm.Cond.eq (Jvm.Term.length t) (Jvm.Term.int z)).value args s none s [] = some true) : cl.slots.size < 2 ^ 31 ∧ cl.slots.size.toInt32 = z := by
  obtain ⟨v, y, e1, -⟩ := cmp_v (Or.inl h)
  have q : cl.slots.size < 2147483648 := by
    by_cases q : cl.slots.size < 2147483648
    · exact q
    · exfalso
      simp [Term.eval, ht, ha, q] at e1
  exact ⟨q, gotT (Cond.eq_ints (len_f ht ha q) (Term.int_eval z)) h⟩
theorem cache_start {s : State} {args : Array Value} (hs : ∀ d ∈ jdkStatics_1, d.before args s = true) :
    ∃ (oc : Addr) (cc : Cell), Sta s s.heap "java/lang/Long$LongCache" "cache" "[Ljava/lang/Long;" (.ref oc) ∧ Arr s s.heap oc cc (.object "java/lang/Long") ∧ cc.slots.size = 256 ∧ ∀ j : Int32, ¬ (j < 0 ∨ cc.slots.size ≤ j.toNatClampNeg) → ∃ box, cc.slots[j.toNatClampNeg]? = some (.ref box) ∧ Exa s s.heap box "java/lang/Long" := by
  have n1 := hs _ (List.mem_of_getElem? (i := 1) rfl)
  have n2 := Cond.before_iff.mp (hs _ (List.mem_of_getElem? (i := 2) rfl))
  have n4 := Cond.before_iff.mp (hs _ (List.mem_of_getElem? (i := 4) rfl))
  have n5 := Cond.before_iff.mp (hs _ (List.mem_of_getElem? (i := 5) rfl))
  obtain ⟨oc, ev⟩ := arr_v n2
  have et : ∀ idx, (Jvm.Term.static "java/lang/Long$LongCache" "cache" "[Ljava/lang/Long;").eval args s none idx s = some (.ref oc) := fun idx => ev
  obtain ⟨cc, A⟩ := Arr.start ev n2
  have ha := A.fin (Vm.Alike.refl _)
  obtain ⟨hsz, hz⟩ := tb_size ev ha n4
  have h256 : cc.slots.size = 256 := by
    have q : cc.slots.size.toInt32.toInt = cc.slots.size := len_toInt hsz
    rw [hz] at q
    have w : (256 : Int32).toInt = 256 := rfl
    omega
  refine ⟨oc, cc, Sta.start ev (Or.inl n1), A, h256, fun j hj => ?_⟩
  have nn : ¬ j < 0 := fun q => hj (Or.inl q)
  obtain ⟨u1, -⟩ := and_e (Cond.all_elim (et []) ha n5 j.toNatClampNeg (Nat.lt_of_not_le fun q => hj (Or.inr q)))
  obtain ⟨box, eb⟩ := exa_v u1
  exact ⟨box, (elem_f (et _) (idx_at nn) ha nn).symm.trans eb, exa_at eb u1⟩

theorem d_recInit_0 : decode jdk_30_method_1_code 0 = .ok (.aload_n 0, 1) := by decide +kernel
theorem d_recInit_1 : decode jdk_30_method_1_code 1 = .ok (.invokespecial 1, 3) := by decide +kernel
theorem d_recInit_4 : decode jdk_30_method_1_code 4 = .ok (.return_, 1) := by decide +kernel
theorem ef_recInit (m : MethodId) (x0 : Addr) : entryFrame m #[(.ref x0)] 1 = mkF m 0 #[.val (.ref x0)] [] := by first | (simp [entryFrame, mkF, argsToLocals, Value.category]; done) | rfl
theorem pn_0 : plainName "java/lang/Record" = true := by first | (simp [plainName, overriddenIn]; done) | decide +kernel
set_option maxRecDepth 65536 in
set_option maxHeartbeats 40000000 in
theorem rm_recInit (l : Launch) (Z : State) (a0 : Array Value) (hw : ∀ d ∈ tables_1, d.before a0 Z = true) (ws : List Jvm.Cond) (o : Addr) (h0 : Heap) :
    MetFree l (⟨"java/lang/Record", "<init>", "()V"⟩ : MethodName) (head1 (Jvm.Cond.code (⟨"java/lang/Record", "<init>", "()V"⟩ : MethodName) jdk_30_method_1_code 1 none :: ws) ({ frames := 1, cells := 0, slots := 0, locals := 12 } : Room)) (fun a_ U_ => a_ = #[(.ref o)] ∧ Z.Warmed39 U_.vm ∧ U_.heap = h0) (fun _ _ _ _ _ => True) (fun _ U_ o_ U_' => ∃ v_ L_, o_ = .returned v_ ∧ (QN h0) v_ U_'.heap L_ ∧ FrameEnd U_ o_ U_' L_ 0 0) := by
  refine ow_body (plainFor_of_name pn_0) ?_
  intro p e s m below meth c T0 X0 hx hZ hby hml hown hnm hret hlk e0
  refine Ends.cast (ef_recInit m o) ?_
  refine ow_aloadN X0 hx (hb hby d_recInit_0) rfl rfl (pc' := 1) rfl ?_
  refine ow_init0 X0 hx hZ hown (hw _ (List.mem_of_getElem? (i := 44) rfl)) (hw _ (List.mem_of_getElem? (i := 45) rfl)) (hw _ (List.mem_of_getElem? (i := 46) rfl)) e0 0 (by decide) (by decide) (by rw [hml]; rfl) (Nat.le_of_eq rfl) (hb hby d_recInit_1) (pc' := 4) rfl (fun T1 X1 e1 => ?_)
  exact ow_retV X1 hx hret hlk (hb hby d_recInit_4) (by decide) (by decide) ⟨rfl, rfl, e1⟩
theorem d_numInit_0 : decode jdk_18_method_1_code 0 = .ok (.aload_n 0, 1) := by decide +kernel
theorem d_numInit_1 : decode jdk_18_method_1_code 1 = .ok (.invokespecial 1, 3) := by decide +kernel
theorem d_numInit_4 : decode jdk_18_method_1_code 4 = .ok (.return_, 1) := by decide +kernel
theorem ef_numInit (m : MethodId) (x0 : Addr) : entryFrame m #[(.ref x0)] 1 = mkF m 0 #[.val (.ref x0)] [] := by first | (simp [entryFrame, mkF, argsToLocals, Value.category]; done) | rfl
theorem pn_1 : plainName "java/lang/Number" = true := by first | (simp [plainName, overriddenIn]; done) | decide +kernel
set_option maxRecDepth 65536 in
set_option maxHeartbeats 40000000 in
theorem rm_numInit (l : Launch) (Z : State) (a0 : Array Value) (hw : ∀ d ∈ tables_1, d.before a0 Z = true) (ws : List Jvm.Cond) (o : Addr) (h0 : Heap) :
    MetFree l (⟨"java/lang/Number", "<init>", "()V"⟩ : MethodName) (head1 (Jvm.Cond.code (⟨"java/lang/Number", "<init>", "()V"⟩ : MethodName) jdk_18_method_1_code 1 none :: ws) ({ frames := 1, cells := 0, slots := 0, locals := 12 } : Room)) (fun a_ U_ => a_ = #[(.ref o)] ∧ Z.Warmed39 U_.vm ∧ U_.heap = h0) (fun _ _ _ _ _ => True) (fun _ U_ o_ U_' => ∃ v_ L_, o_ = .returned v_ ∧ (QN h0) v_ U_'.heap L_ ∧ FrameEnd U_ o_ U_' L_ 0 0) := by
  refine ow_body (plainFor_of_name pn_1) ?_
  intro p e s m below meth c T0 X0 hx hZ hby hml hown hnm hret hlk e0
  refine Ends.cast (ef_numInit m o) ?_
  refine ow_aloadN X0 hx (hb hby d_numInit_0) rfl rfl (pc' := 1) rfl ?_
  refine ow_init0 X0 hx hZ hown (hw _ (List.mem_of_getElem? (i := 81) rfl)) (hw _ (List.mem_of_getElem? (i := 45) rfl)) (hw _ (List.mem_of_getElem? (i := 46) rfl)) e0 0 (by decide) (by decide) (by rw [hml]; rfl) (Nat.le_of_eq rfl) (hb hby d_numInit_1) (pc' := 4) rfl (fun T1 X1 e1 => ?_)
  exact ow_retV X1 hx hret hlk (hb hby d_numInit_4) (by decide) (by decide) ⟨rfl, rfl, e1⟩
theorem pd_0 : parseMethodDescriptor "()V" = some ⟨[], none⟩ := by decide +kernel
theorem d_lgInit_0 : decode jdk_35_method_26_code 0 = .ok (.aload_n 0, 1) := by decide +kernel
theorem d_lgInit_1 : decode jdk_35_method_26_code 1 = .ok (.invokespecial 270, 3) := by decide +kernel
theorem d_lgInit_4 : decode jdk_35_method_26_code 4 = .ok (.aload_n 0, 1) := by decide +kernel
theorem d_lgInit_5 : decode jdk_35_method_26_code 5 = .ok (.lload_n 1, 1) := by decide +kernel
theorem d_lgInit_6 : decode jdk_35_method_26_code 6 = .ok (.putfield 273, 3) := by decide +kernel
theorem d_lgInit_9 : decode jdk_35_method_26_code 9 = .ok (.return_, 1) := by decide +kernel
theorem ef_lgInit (m : MethodId) (x0 : Addr) (x1 : Int64) : entryFrame m #[(.ref x0), (.long x1)] 3 = mkF m 0 #[.val (.ref x0), .val (.long x1), .second] [] := by first | (simp [entryFrame, mkF, argsToLocals, Value.category]; done) | rfl
def Q_lgInit (Z : State) (o : Addr) (qv : Int64) (h0 : Heap) (n0 : Nat) (v : Option Value) (h : Heap) (L : List Loc) : Prop := (v = none) ∧ (Fr n0 L) ∧ (Keep h0 h [o]) ∧ (Exa Z h o "java/lang/Long")
theorem pn_2 : plainName "java/lang/Long" = true := by first | (simp [plainName, overriddenIn]; done) | decide +kernel
set_option maxRecDepth 65536 in
set_option maxHeartbeats 40000000 in
theorem rm_lgInit (l : Launch) (Z : State) (a0 : Array Value) (hw : ∀ d ∈ tables_1, d.before a0 Z = true) (ws : List Jvm.Cond) (o : Addr) (qv : Int64) (h0 : Heap) (n0 : Nat) (Z0 : n0 ≤ h0.size) (E_o : Exa Z h0 o "java/lang/Long") (F_v : Fld Z h0 o "java/lang/Long" "value" "J" (.long (0 : Int64))) (g_o : n0 ≤ o) :
    MetFree l (⟨"java/lang/Long", "<init>", "(J)V"⟩ : MethodName) (head1 (Jvm.Cond.code (⟨"java/lang/Long", "<init>", "(J)V"⟩ : MethodName) jdk_35_method_26_code 3 none :: ws) ({ frames := 2, cells := 0, slots := 0, locals := 24 } : Room)) (fun a_ U_ => a_ = #[(.ref o), (.long qv)] ∧ Z.Warmed39 U_.vm ∧ U_.heap = h0) (fun _ _ _ _ _ => True) (fun _ U_ o_ U_' => ∃ v_ L_, o_ = .returned v_ ∧ (Q_lgInit Z o qv h0 n0) v_ U_'.heap L_ ∧ FrameEnd U_ o_ U_' L_ 0 0) := by
  refine ow_body (plainFor_of_name pn_2) ?_
  intro p e s m below meth c T0 X0 hx hZ hby hml hown hnm hret hlk e0
  have N0 := Fr.nil n0
  refine Ends.cast (ef_lgInit m o qv) ?_
  have r_qv := rng64 qv
  refine ow_aloadN X0 hx (hb hby d_lgInit_0) rfl rfl (pc' := 1) rfl ?_
  refine ow_callI X0 hx hZ rfl rfl hown (hw _ (List.mem_of_getElem? (i := 75) rfl)) (hw _ (List.mem_of_getElem? (i := 76) rfl)) (hw _ (List.mem_of_getElem? (i := 79) rfl)) (hw _ (List.mem_of_getElem? (i := 80) rfl)) (by decide) (rm_numInit l Z a0 hw [] o h0 ) e0 0 (by decide) (by decide) (by decide) (by decide) [] (by rw [hml]; rfl) pd_0 rfl rfl rfl (Nat.le_of_eq rfl) (hb hby d_lgInit_1) (pc' := 4) rfl (fun v1 T1 L1 hQ1 X1 => ?_)
  obtain ⟨rfl, rfl, e1⟩ := hQ1
  rw [List.append_nil] at X1
  show Ends _ _ _ _ T1 (mkF m 4 #[.val (.ref o), .val (.long qv), .second] [])
  refine ow_aloadN X1 hx (hb hby d_lgInit_4) rfl rfl (pc' := 5) rfl ?_
  refine ow_lloadN X1 hx (hb hby d_lgInit_5) rfl (pc' := 6) rfl ?_
  refine ow_putF X1 hx hZ hown (host := "") (Or.inl (hw _ (List.mem_of_getElem? (i := 82) rfl))) Via.refl e1 F_v E_o (Or.inr ⟨(hw _ (List.mem_of_getElem? (i := 83) rfl)), rfl, hnm⟩) (hw _ (List.mem_of_getElem? (i := 70) rfl)) (ty := .long) (by decide) rfl rfl (hb hby d_lgInit_6) (pc' := 9) rfl (fun T2 h2 X2 e2 W2 => ?_)
  have F_o_value_2 := F_v.same W2
  have E_o_2 := E_o.wr W2
  have Zs2 : n0 ≤ h2.size := Nat.le_trans Z0 (Keep.of_wr W2).1
  have K2 := (Keep.refl h0 [o]).wr W2 (Or.inl (List.mem_of_getElem? (i := 0) rfl))
  have N2 := Fr.snoc X2 N0 g_o
  exact ow_retV X2 hx hret hlk (hb hby d_lgInit_9) (by decide) (by decide) (show Q_lgInit Z o qv h0 n0 _ T2.heap _ from by rw [e2]; exact ⟨rfl, N2, K2, E_o_2⟩)
theorem d_blInit_0 : decode prog_9_method_1_code 0 = .ok (.aload_n 0, 1) := by decide +kernel
theorem d_blInit_1 : decode prog_9_method_1_code 1 = .ok (.invokespecial 1, 3) := by decide +kernel
theorem d_blInit_4 : decode prog_9_method_1_code 4 = .ok (.aload_n 0, 1) := by decide +kernel
theorem d_blInit_5 : decode prog_9_method_1_code 5 = .ok (.lload_n 1, 1) := by decide +kernel
theorem d_blInit_6 : decode prog_9_method_1_code 6 = .ok (.putfield 7, 3) := by decide +kernel
theorem d_blInit_9 : decode prog_9_method_1_code 9 = .ok (.aload_n 0, 1) := by decide +kernel
theorem d_blInit_10 : decode prog_9_method_1_code 10 = .ok (.aload_n 3, 1) := by decide +kernel
theorem d_blInit_11 : decode prog_9_method_1_code 11 = .ok (.putfield 13, 3) := by decide +kernel
theorem d_blInit_14 : decode prog_9_method_1_code 14 = .ok (.return_, 1) := by decide +kernel
theorem ef_blInit (m : MethodId) (x0 : Addr) (x1 : Int64) (x2 : Addr) : entryFrame m #[(.ref x0), (.long x1), (.ref x2)] 4 = mkF m 0 #[.val (.ref x0), .val (.long x1), .second, .val (.ref x2)] [] := by first | (simp [entryFrame, mkF, argsToLocals, Value.category]; done) | rfl
def Q_blInit (Z : State) (o : Addr) (qp : Int64) (ok : Addr) (h0 : Heap) (n0 : Nat) (v : Option Value) (h : Heap) (L : List Loc) : Prop := (v = none) ∧ (Fr n0 L) ∧ (Keep h0 h [o]) ∧ (Exa Z h o "xlogtap/Block") ∧ (Fld Z h o "xlogtap/Block" "position" "J" (.long qp)) ∧ (Fld Z h o "xlogtap/Block" "kind" "Lxlogtap/Block$Kind;" (.ref ok))
theorem pn_3 : plainName "xlogtap/Block" = true := by first | (simp [plainName, overriddenIn]; done) | decide +kernel
set_option maxRecDepth 65536 in
set_option maxHeartbeats 40000000 in
theorem rm_blInit (l : Launch) (Z : State) (a0 : Array Value) (hw : ∀ d ∈ tables_1, d.before a0 Z = true) (ws : List Jvm.Cond) (o : Addr) (qp : Int64) (ok : Addr) (h0 : Heap) (n0 : Nat) (Z0 : n0 ≤ h0.size) (E_o : Exa Z h0 o "xlogtap/Block") (F_p : Fld Z h0 o "xlogtap/Block" "position" "J" (.long (0 : Int64))) (F_k : Fld Z h0 o "xlogtap/Block" "kind" "Lxlogtap/Block$Kind;" .null) (g_o : n0 ≤ o) :
    MetFree l (⟨"xlogtap/Block", "<init>", "(JLxlogtap/Block$Kind;)V"⟩ : MethodName) (head1 (Jvm.Cond.code (⟨"xlogtap/Block", "<init>", "(JLxlogtap/Block$Kind;)V"⟩ : MethodName) prog_9_method_1_code 4 none :: ws) ({ frames := 2, cells := 0, slots := 0, locals := 24 } : Room)) (fun a_ U_ => a_ = #[(.ref o), (.long qp), (.ref ok)] ∧ Z.Warmed39 U_.vm ∧ U_.heap = h0) (fun _ _ _ _ _ => True) (fun _ U_ o_ U_' => ∃ v_ L_, o_ = .returned v_ ∧ (Q_blInit Z o qp ok h0 n0) v_ U_'.heap L_ ∧ FrameEnd U_ o_ U_' L_ 0 0) := by
  refine ow_body (plainFor_of_name pn_3) ?_
  intro p e s m below meth c T0 X0 hx hZ hby hml hown hnm hret hlk e0
  have N0 := Fr.nil n0
  refine Ends.cast (ef_blInit m o qp ok) ?_
  have r_qp := rng64 qp
  refine ow_aloadN X0 hx (hb hby d_blInit_0) rfl rfl (pc' := 1) rfl ?_
  refine ow_callI X0 hx hZ rfl rfl hown (hw _ (List.mem_of_getElem? (i := 39) rfl)) (hw _ (List.mem_of_getElem? (i := 40) rfl)) (hw _ (List.mem_of_getElem? (i := 42) rfl)) (hw _ (List.mem_of_getElem? (i := 43) rfl)) (by decide) (rm_recInit l Z a0 hw [] o h0 ) e0 0 (by decide) (by decide) (by decide) (by decide) [] (by rw [hml]; rfl) pd_0 rfl rfl rfl (Nat.le_of_eq rfl) (hb hby d_blInit_1) (pc' := 4) rfl (fun v1 T1 L1 hQ1 X1 => ?_)
  obtain ⟨rfl, rfl, e1⟩ := hQ1
  rw [List.append_nil] at X1
  show Ends _ _ _ _ T1 (mkF m 4 #[.val (.ref o), .val (.long qp), .second, .val (.ref ok)] [])
  refine ow_aloadN X1 hx (hb hby d_blInit_4) rfl rfl (pc' := 5) rfl ?_
  refine ow_lloadN X1 hx (hb hby d_blInit_5) rfl (pc' := 6) rfl ?_
  refine ow_putF X1 hx hZ hown (host := "") (Or.inl (hw _ (List.mem_of_getElem? (i := 47) rfl))) Via.refl e1 F_p E_o (Or.inr ⟨(hw _ (List.mem_of_getElem? (i := 48) rfl)), rfl, hnm⟩) (hw _ (List.mem_of_getElem? (i := 2) rfl)) (ty := .long) (by decide) rfl rfl (hb hby d_blInit_6) (pc' := 9) rfl (fun T2 h2 X2 e2 W2 => ?_)
  have F_o_position_2 := F_p.same W2
  have E_o_2 := E_o.wr W2
  have F_o_kind_2 := F_k.other W2 (Or.inr (slot_ne (Or.inr (hw _ (List.mem_of_getElem? (i := 50) rfl))) (Or.inr (hw _ (List.mem_of_getElem? (i := 48) rfl))) (by decide) (t := (.object "xlogtap/Block$Kind")) (t' := .long) (by decide) (by decide)))
  have Zs2 : n0 ≤ h2.size := Nat.le_trans Z0 (Keep.of_wr W2).1
  have K2 := (Keep.refl h0 [o]).wr W2 (Or.inl (List.mem_of_getElem? (i := 0) rfl))
  have N2 := Fr.snoc X2 N0 g_o
  refine ow_aloadN X2 hx (hb hby d_blInit_9) rfl rfl (pc' := 10) rfl ?_
  refine ow_aloadN X2 hx (hb hby d_blInit_10) rfl rfl (pc' := 11) rfl ?_
  refine ow_putF X2 hx hZ hown (host := "") (Or.inl (hw _ (List.mem_of_getElem? (i := 49) rfl))) Via.refl e2 F_o_kind_2 E_o_2 (Or.inr ⟨(hw _ (List.mem_of_getElem? (i := 50) rfl)), rfl, hnm⟩) (hw _ (List.mem_of_getElem? (i := 2) rfl)) (ty := (.object "xlogtap/Block$Kind")) (by decide) rfl rfl (hb hby d_blInit_11) (pc' := 14) rfl (fun T3 h3 X3 e3 W3 => ?_)
  have F_o_kind_3 := F_o_kind_2.same W3
  have E_o_3 := E_o_2.wr W3
  have F_o_position_3 := F_o_position_2.other W3 (Or.inr (slot_ne (Or.inr (hw _ (List.mem_of_getElem? (i := 48) rfl))) (Or.inr (hw _ (List.mem_of_getElem? (i := 50) rfl))) (by decide) (t := .long) (t' := (.object "xlogtap/Block$Kind")) (by decide) (by decide)))
  have Zs3 : n0 ≤ h3.size := Nat.le_trans Zs2 (Keep.of_wr W3).1
  have K3 := K2.wr W3 (Or.inl (List.mem_of_getElem? (i := 0) rfl))
  have N3 := Fr.snoc X3 N2 g_o
  exact ow_retV X3 hx hret hlk (hb hby d_blInit_14) (by decide) (by decide) (show Q_blInit Z o qp ok h0 n0 _ T3.heap _ from by rw [e3]; exact ⟨rfl, N3, K3, E_o_3, F_o_position_3, F_o_kind_3⟩)
theorem d_kindAt_0 : decode method_2_code 0 = .ok (.bipush 12, 2) := by decide +kernel
theorem d_kindAt_2 : decode method_2_code 2 = .ok (.anewarray 7, 3) := by decide +kernel
theorem d_kindAt_5 : decode method_2_code 5 = .ok (.dup, 1) := by decide +kernel
theorem d_kindAt_6 : decode method_2_code 6 = .ok (.iconst 0, 1) := by decide +kernel
theorem d_kindAt_7 : decode method_2_code 7 = .ok (.getstatic 9, 3) := by decide +kernel
theorem d_kindAt_10 : decode method_2_code 10 = .ok (.aastore, 1) := by decide +kernel
theorem d_kindAt_11 : decode method_2_code 11 = .ok (.dup, 1) := by decide +kernel
theorem d_kindAt_12 : decode method_2_code 12 = .ok (.iconst 1, 1) := by decide +kernel
theorem d_kindAt_13 : decode method_2_code 13 = .ok (.getstatic 13, 3) := by decide +kernel
theorem d_kindAt_16 : decode method_2_code 16 = .ok (.aastore, 1) := by decide +kernel
theorem d_kindAt_17 : decode method_2_code 17 = .ok (.dup, 1) := by decide +kernel
theorem d_kindAt_18 : decode method_2_code 18 = .ok (.iconst 2, 1) := by decide +kernel
theorem d_kindAt_19 : decode method_2_code 19 = .ok (.getstatic 16, 3) := by decide +kernel
theorem d_kindAt_22 : decode method_2_code 22 = .ok (.aastore, 1) := by decide +kernel
theorem d_kindAt_23 : decode method_2_code 23 = .ok (.dup, 1) := by decide +kernel
theorem d_kindAt_24 : decode method_2_code 24 = .ok (.iconst 3, 1) := by decide +kernel
theorem d_kindAt_25 : decode method_2_code 25 = .ok (.getstatic 19, 3) := by decide +kernel
theorem d_kindAt_28 : decode method_2_code 28 = .ok (.aastore, 1) := by decide +kernel
theorem d_kindAt_29 : decode method_2_code 29 = .ok (.dup, 1) := by decide +kernel
theorem d_kindAt_30 : decode method_2_code 30 = .ok (.iconst 4, 1) := by decide +kernel
theorem d_kindAt_31 : decode method_2_code 31 = .ok (.getstatic 22, 3) := by decide +kernel
theorem d_kindAt_34 : decode method_2_code 34 = .ok (.aastore, 1) := by decide +kernel
theorem d_kindAt_35 : decode method_2_code 35 = .ok (.dup, 1) := by decide +kernel
theorem d_kindAt_36 : decode method_2_code 36 = .ok (.iconst 5, 1) := by decide +kernel
theorem d_kindAt_37 : decode method_2_code 37 = .ok (.getstatic 25, 3) := by decide +kernel
theorem d_kindAt_40 : decode method_2_code 40 = .ok (.aastore, 1) := by decide +kernel
theorem d_kindAt_41 : decode method_2_code 41 = .ok (.dup, 1) := by decide +kernel
theorem d_kindAt_42 : decode method_2_code 42 = .ok (.bipush 6, 2) := by decide +kernel
theorem d_kindAt_44 : decode method_2_code 44 = .ok (.getstatic 28, 3) := by decide +kernel
theorem d_kindAt_47 : decode method_2_code 47 = .ok (.aastore, 1) := by decide +kernel
theorem d_kindAt_48 : decode method_2_code 48 = .ok (.dup, 1) := by decide +kernel
theorem d_kindAt_49 : decode method_2_code 49 = .ok (.bipush 7, 2) := by decide +kernel
theorem d_kindAt_51 : decode method_2_code 51 = .ok (.getstatic 31, 3) := by decide +kernel
theorem d_kindAt_54 : decode method_2_code 54 = .ok (.aastore, 1) := by decide +kernel
theorem d_kindAt_55 : decode method_2_code 55 = .ok (.dup, 1) := by decide +kernel
theorem d_kindAt_56 : decode method_2_code 56 = .ok (.bipush 8, 2) := by decide +kernel
theorem d_kindAt_58 : decode method_2_code 58 = .ok (.getstatic 34, 3) := by decide +kernel
theorem d_kindAt_61 : decode method_2_code 61 = .ok (.aastore, 1) := by decide +kernel
theorem d_kindAt_62 : decode method_2_code 62 = .ok (.dup, 1) := by decide +kernel
theorem d_kindAt_63 : decode method_2_code 63 = .ok (.bipush 9, 2) := by decide +kernel
theorem d_kindAt_65 : decode method_2_code 65 = .ok (.getstatic 37, 3) := by decide +kernel
theorem d_kindAt_68 : decode method_2_code 68 = .ok (.aastore, 1) := by decide +kernel
theorem d_kindAt_69 : decode method_2_code 69 = .ok (.dup, 1) := by decide +kernel
theorem d_kindAt_70 : decode method_2_code 70 = .ok (.bipush 10, 2) := by decide +kernel
theorem d_kindAt_72 : decode method_2_code 72 = .ok (.getstatic 40, 3) := by decide +kernel
theorem d_kindAt_75 : decode method_2_code 75 = .ok (.aastore, 1) := by decide +kernel
theorem d_kindAt_76 : decode method_2_code 76 = .ok (.dup, 1) := by decide +kernel
theorem d_kindAt_77 : decode method_2_code 77 = .ok (.bipush 11, 2) := by decide +kernel
theorem d_kindAt_79 : decode method_2_code 79 = .ok (.getstatic 43, 3) := by decide +kernel
theorem d_kindAt_82 : decode method_2_code 82 = .ok (.aastore, 1) := by decide +kernel
theorem d_kindAt_83 : decode method_2_code 83 = .ok (.astore_n 1, 1) := by decide +kernel
theorem d_kindAt_84 : decode method_2_code 84 = .ok (.aload_n 1, 1) := by decide +kernel
theorem d_kindAt_85 : decode method_2_code 85 = .ok (.iload_n 0, 1) := by decide +kernel
theorem d_kindAt_86 : decode method_2_code 86 = .ok (.aaload, 1) := by decide +kernel
theorem d_kindAt_87 : decode method_2_code 87 = .ok (.areturn, 1) := by decide +kernel
theorem ef_kindAt (m : MethodId) (x0 : Int32) : entryFrame m #[(.int x0)] 2 = mkF m 0 #[.val (.int x0), .unset] [] := by first | (simp [entryFrame, mkF, argsToLocals, Value.category]; done) | rfl
def Q_kindAt (Z : State) (pi : Int32) (kd : Nat → Addr) (h0 : Heap) (n0 : Nat) (v : Option Value) (h : Heap) (L : List Loc) : Prop := ∃ (ow : Addr), (v = some (.ref ow)) ∧ (Fr n0 L) ∧ (Keep h0 h []) ∧ (ow = kd pi.toInt.toNat)
theorem pn_4 : plainName "xlogtap/BlockEqualsPinLaw" = true := by first | (simp [plainName, overriddenIn]; done) | decide +kernel
set_option maxRecDepth 65536 in
set_option maxHeartbeats 40000000 in
theorem rm_kindAt (l : Launch) (Z : State) (a0 : Array Value) (hw : ∀ d ∈ tables_1, d.before a0 Z = true) (ws : List Jvm.Cond) (pi : Int32) (kd : Nat → Addr) (h0 : Heap) (n0 : Nat) (Z0 : n0 ≤ h0.size) (S_0 : Sta Z h0 "xlogtap/Block$Kind" "COPY" "Lxlogtap/Block$Kind;" (.ref (kd 0))) (S_1 : Sta Z h0 "xlogtap/Block$Kind" "RESYNC" "Lxlogtap/Block$Kind;" (.ref (kd 1))) (S_2 : Sta Z h0 "xlogtap/Block$Kind" "MESSAGE" "Lxlogtap/Block$Kind;" (.ref (kd 2))) (S_3 : Sta Z h0 "xlogtap/Block$Kind" "TRANSACTION" "Lxlogtap/Block$Kind;" (.ref (kd 3))) (S_4 : Sta Z h0 "xlogtap/Block$Kind" "PREPARED_TRANSACTION" "Lxlogtap/Block$Kind;" (.ref (kd 4))) (S_5 : Sta Z h0 "xlogtap/Block$Kind" "COMMIT_PREPARED" "Lxlogtap/Block$Kind;" (.ref (kd 5))) (S_6 : Sta Z h0 "xlogtap/Block$Kind" "ROLLBACK_PREPARED" "Lxlogtap/Block$Kind;" (.ref (kd 6))) (S_7 : Sta Z h0 "xlogtap/Block$Kind" "TABLE_COPY" "Lxlogtap/Block$Kind;" (.ref (kd 7))) (S_8 : Sta Z h0 "xlogtap/Block$Kind" "PARTED_COPY_BEGIN" "Lxlogtap/Block$Kind;" (.ref (kd 8))) (S_9 : Sta Z h0 "xlogtap/Block$Kind" "PARTITION_COPY_BEGIN" "Lxlogtap/Block$Kind;" (.ref (kd 9))) (S_10 : Sta Z h0 "xlogtap/Block$Kind" "TABLE_PART" "Lxlogtap/Block$Kind;" (.ref (kd 10))) (S_11 : Sta Z h0 "xlogtap/Block$Kind" "PARTED_COPY_END" "Lxlogtap/Block$Kind;" (.ref (kd 11))) (E_0 : Exa Z h0 (kd 0) "xlogtap/Block$Kind") (E_1 : Exa Z h0 (kd 1) "xlogtap/Block$Kind") (E_2 : Exa Z h0 (kd 2) "xlogtap/Block$Kind") (E_3 : Exa Z h0 (kd 3) "xlogtap/Block$Kind") (E_4 : Exa Z h0 (kd 4) "xlogtap/Block$Kind") (E_5 : Exa Z h0 (kd 5) "xlogtap/Block$Kind") (E_6 : Exa Z h0 (kd 6) "xlogtap/Block$Kind") (E_7 : Exa Z h0 (kd 7) "xlogtap/Block$Kind") (E_8 : Exa Z h0 (kd 8) "xlogtap/Block$Kind") (E_9 : Exa Z h0 (kd 9) "xlogtap/Block$Kind") (E_10 : Exa Z h0 (kd 10) "xlogtap/Block$Kind") (E_11 : Exa Z h0 (kd 11) "xlogtap/Block$Kind") (hi0 : 0 ≤ pi.toInt) (hi12 : pi.toInt < 12) :
    MetFree l (⟨"xlogtap/BlockEqualsPinLaw", "kindAt", "(I)Lxlogtap/Block$Kind;"⟩ : MethodName) (head1 (Jvm.Cond.code (⟨"xlogtap/BlockEqualsPinLaw", "kindAt", "(I)Lxlogtap/Block$Kind;"⟩ : MethodName) method_2_code 2 (some (.object "xlogtap/Block$Kind")) :: ws) ({ frames := 0, cells := 1, slots := 12, locals := 0 } : Room)) (fun a_ U_ => a_ = #[(.int pi)] ∧ Z.Warmed39 U_.vm ∧ U_.heap = h0) (fun _ _ _ _ _ => True) (fun _ U_ o_ U_' => ∃ v_ L_, o_ = .returned v_ ∧ (Q_kindAt Z pi kd h0 n0) v_ U_'.heap L_ ∧ FrameEnd U_ o_ U_' L_ 1 12) := by
  refine ow_body (plainFor_of_name pn_4) ?_
  intro p e s m below meth c T0 X0 hx hZ hby hml hown hnm hret hlk e0
  have N0 := Fr.nil n0
  refine Ends.cast (ef_kindAt m pi) ?_
  have r_pi := rng32 pi
  refine ow_bipush X0 hx (z := (12 : Int32)) (hb hby d_kindAt_0) rfl (pc' := 2) rfl ?_
  refine ow_newR X0 hx hZ hown (hw _ (List.mem_of_getElem? (i := 8) rfl)) (hw _ (List.mem_of_getElem? (i := 9) rfl)) e0 (hb hby d_kindAt_2) (by decide) 12 (by decide) (by decide) (by decide) (by decide) (pc' := 5) rfl (fun T1 h1 b1 k1 g1 X1 e1 E1 V1 O1 => ?_)
  have g_b1 : n0 ≤ b1 := Nat.le_trans Z0 (Nat.le_of_eq g1.symm)
  have sz_b1 : h0.size ≤ b1 := Nat.le_trans (Keep.refl h0 []).1 (Nat.le_of_eq g1.symm)
  have Zs1 : n0 ≤ h1.size := Nat.le_trans Z0 E1.1
  have K1 := (Keep.refl h0 []).ext E1
  have V_b1 : Arv Z h1 b1 k1 (.object "xlogtap/Block$Kind") (12 : Int32) [.null, .null, .null, .null, .null, .null, .null, .null, .null, .null, .null, .null] .null := V1.pad (pad_rep [] .null 12)
  refine ow_dup X1 hx (hb hby d_kindAt_5) rfl (pc' := 6) rfl ?_
  refine ow_iconst X1 hx (z := (0 : Int32)) (hb hby d_kindAt_6) rfl (pc' := 7) rfl ?_
  refine ow_getS X1 hx hZ hown (host := "") (Or.inl (hw _ (List.mem_of_getElem? (i := 10) rfl))) Via.refl e1 (ow_staKeep S_0 K1 all0) (hb hby d_kindAt_7) (pc' := 10) rfl (fun T2 X2 e2 => ?_)
  refine ow_stR X2 hx hZ e2 V_b1 O1 (Ins.self (E_0.keep K1)) 0 rfl (by decide) (by decide) (Nat.le_of_ble_eq_true rfl) (hb hby d_kindAt_10) (pc' := 11) rfl (fun T3 h3 X3 e3 W3 V3 => ?_)
  have V_b1_3 : Arv Z h3 b1 k1 (.object "xlogtap/Block$Kind") (12 : Int32) [(.ref (kd 0)), .null, .null, .null, .null, .null, .null, .null, .null, .null, .null, .null] .null := V3
  have Zs3 : n0 ≤ h3.size := Nat.le_trans Zs1 (Keep.of_wr W3).1
  have K3 := K1.wr W3 (Or.inr sz_b1)
  have N3 := Fr.snoc X3 N0 g_b1
  refine ow_dup X3 hx (hb hby d_kindAt_11) rfl (pc' := 12) rfl ?_
  refine ow_iconst X3 hx (z := (1 : Int32)) (hb hby d_kindAt_12) rfl (pc' := 13) rfl ?_
  refine ow_getS X3 hx hZ hown (host := "") (Or.inl (hw _ (List.mem_of_getElem? (i := 14) rfl))) Via.refl e3 (ow_staKeep S_1 K3 all0) (hb hby d_kindAt_13) (pc' := 16) rfl (fun T4 X4 e4 => ?_)
  refine ow_stR X4 hx hZ e4 V_b1_3 O1 (Ins.self (E_1.keep K3)) 1 rfl (by decide) (by decide) (Nat.le_of_ble_eq_true rfl) (hb hby d_kindAt_16) (pc' := 17) rfl (fun T5 h5 X5 e5 W5 V5 => ?_)
  have V_b1_5 : Arv Z h5 b1 k1 (.object "xlogtap/Block$Kind") (12 : Int32) [(.ref (kd 0)), (.ref (kd 1)), .null, .null, .null, .null, .null, .null, .null, .null, .null, .null] .null := V5
  have Zs5 : n0 ≤ h5.size := Nat.le_trans Zs3 (Keep.of_wr W5).1
  have K5 := K3.wr W5 (Or.inr sz_b1)
  have N5 := Fr.snoc X5 N3 g_b1
  refine ow_dup X5 hx (hb hby d_kindAt_17) rfl (pc' := 18) rfl ?_
  refine ow_iconst X5 hx (z := (2 : Int32)) (hb hby d_kindAt_18) rfl (pc' := 19) rfl ?_
  refine ow_getS X5 hx hZ hown (host := "") (Or.inl (hw _ (List.mem_of_getElem? (i := 16) rfl))) Via.refl e5 (ow_staKeep S_2 K5 all0) (hb hby d_kindAt_19) (pc' := 22) rfl (fun T6 X6 e6 => ?_)
  refine ow_stR X6 hx hZ e6 V_b1_5 O1 (Ins.self (E_2.keep K5)) 2 rfl (by decide) (by decide) (Nat.le_of_ble_eq_true rfl) (hb hby d_kindAt_22) (pc' := 23) rfl (fun T7 h7 X7 e7 W7 V7 => ?_)
  have V_b1_7 : Arv Z h7 b1 k1 (.object "xlogtap/Block$Kind") (12 : Int32) [(.ref (kd 0)), (.ref (kd 1)), (.ref (kd 2)), .null, .null, .null, .null, .null, .null, .null, .null, .null] .null := V7
  have Zs7 : n0 ≤ h7.size := Nat.le_trans Zs5 (Keep.of_wr W7).1
  have K7 := K5.wr W7 (Or.inr sz_b1)
  have N7 := Fr.snoc X7 N5 g_b1
  refine ow_dup X7 hx (hb hby d_kindAt_23) rfl (pc' := 24) rfl ?_
  refine ow_iconst X7 hx (z := (3 : Int32)) (hb hby d_kindAt_24) rfl (pc' := 25) rfl ?_
  refine ow_getS X7 hx hZ hown (host := "") (Or.inl (hw _ (List.mem_of_getElem? (i := 18) rfl))) Via.refl e7 (ow_staKeep S_3 K7 all0) (hb hby d_kindAt_25) (pc' := 28) rfl (fun T8 X8 e8 => ?_)
  refine ow_stR X8 hx hZ e8 V_b1_7 O1 (Ins.self (E_3.keep K7)) 3 rfl (by decide) (by decide) (Nat.le_of_ble_eq_true rfl) (hb hby d_kindAt_28) (pc' := 29) rfl (fun T9 h9 X9 e9 W9 V9 => ?_)
  have V_b1_9 : Arv Z h9 b1 k1 (.object "xlogtap/Block$Kind") (12 : Int32) [(.ref (kd 0)), (.ref (kd 1)), (.ref (kd 2)), (.ref (kd 3)), .null, .null, .null, .null, .null, .null, .null, .null] .null := V9
  have Zs9 : n0 ≤ h9.size := Nat.le_trans Zs7 (Keep.of_wr W9).1
  have K9 := K7.wr W9 (Or.inr sz_b1)
  have N9 := Fr.snoc X9 N7 g_b1
  refine ow_dup X9 hx (hb hby d_kindAt_29) rfl (pc' := 30) rfl ?_
  refine ow_iconst X9 hx (z := (4 : Int32)) (hb hby d_kindAt_30) rfl (pc' := 31) rfl ?_
  refine ow_getS X9 hx hZ hown (host := "") (Or.inl (hw _ (List.mem_of_getElem? (i := 20) rfl))) Via.refl e9 (ow_staKeep S_4 K9 all0) (hb hby d_kindAt_31) (pc' := 34) rfl (fun T10 X10 e10 => ?_)
  refine ow_stR X10 hx hZ e10 V_b1_9 O1 (Ins.self (E_4.keep K9)) 4 rfl (by decide) (by decide) (Nat.le_of_ble_eq_true rfl) (hb hby d_kindAt_34) (pc' := 35) rfl (fun T11 h11 X11 e11 W11 V11 => ?_)
  have V_b1_11 : Arv Z h11 b1 k1 (.object "xlogtap/Block$Kind") (12 : Int32) [(.ref (kd 0)), (.ref (kd 1)), (.ref (kd 2)), (.ref (kd 3)), (.ref (kd 4)), .null, .null, .null, .null, .null, .null, .null] .null := V11
  have Zs11 : n0 ≤ h11.size := Nat.le_trans Zs9 (Keep.of_wr W11).1
  have K11 := K9.wr W11 (Or.inr sz_b1)
  have N11 := Fr.snoc X11 N9 g_b1
  refine ow_dup X11 hx (hb hby d_kindAt_35) rfl (pc' := 36) rfl ?_
  refine ow_iconst X11 hx (z := (5 : Int32)) (hb hby d_kindAt_36) rfl (pc' := 37) rfl ?_
  refine ow_getS X11 hx hZ hown (host := "") (Or.inl (hw _ (List.mem_of_getElem? (i := 22) rfl))) Via.refl e11 (ow_staKeep S_5 K11 all0) (hb hby d_kindAt_37) (pc' := 40) rfl (fun T12 X12 e12 => ?_)
  refine ow_stR X12 hx hZ e12 V_b1_11 O1 (Ins.self (E_5.keep K11)) 5 rfl (by decide) (by decide) (Nat.le_of_ble_eq_true rfl) (hb hby d_kindAt_40) (pc' := 41) rfl (fun T13 h13 X13 e13 W13 V13 => ?_)
  have V_b1_13 : Arv Z h13 b1 k1 (.object "xlogtap/Block$Kind") (12 : Int32) [(.ref (kd 0)), (.ref (kd 1)), (.ref (kd 2)), (.ref (kd 3)), (.ref (kd 4)), (.ref (kd 5)), .null, .null, .null, .null, .null, .null] .null := V13
  have Zs13 : n0 ≤ h13.size := Nat.le_trans Zs11 (Keep.of_wr W13).1
  have K13 := K11.wr W13 (Or.inr sz_b1)
  have N13 := Fr.snoc X13 N11 g_b1
  refine ow_dup X13 hx (hb hby d_kindAt_41) rfl (pc' := 42) rfl ?_
  refine ow_bipush X13 hx (z := (6 : Int32)) (hb hby d_kindAt_42) rfl (pc' := 44) rfl ?_
  refine ow_getS X13 hx hZ hown (host := "") (Or.inl (hw _ (List.mem_of_getElem? (i := 24) rfl))) Via.refl e13 (ow_staKeep S_6 K13 all0) (hb hby d_kindAt_44) (pc' := 47) rfl (fun T14 X14 e14 => ?_)
  refine ow_stR X14 hx hZ e14 V_b1_13 O1 (Ins.self (E_6.keep K13)) 6 rfl (by decide) (by decide) (Nat.le_of_ble_eq_true rfl) (hb hby d_kindAt_47) (pc' := 48) rfl (fun T15 h15 X15 e15 W15 V15 => ?_)
  have V_b1_15 : Arv Z h15 b1 k1 (.object "xlogtap/Block$Kind") (12 : Int32) [(.ref (kd 0)), (.ref (kd 1)), (.ref (kd 2)), (.ref (kd 3)), (.ref (kd 4)), (.ref (kd 5)), (.ref (kd 6)), .null, .null, .null, .null, .null] .null := V15
  have Zs15 : n0 ≤ h15.size := Nat.le_trans Zs13 (Keep.of_wr W15).1
  have K15 := K13.wr W15 (Or.inr sz_b1)
  have N15 := Fr.snoc X15 N13 g_b1
  refine ow_dup X15 hx (hb hby d_kindAt_48) rfl (pc' := 49) rfl ?_
  refine ow_bipush X15 hx (z := (7 : Int32)) (hb hby d_kindAt_49) rfl (pc' := 51) rfl ?_
  refine ow_getS X15 hx hZ hown (host := "") (Or.inl (hw _ (List.mem_of_getElem? (i := 26) rfl))) Via.refl e15 (ow_staKeep S_7 K15 all0) (hb hby d_kindAt_51) (pc' := 54) rfl (fun T16 X16 e16 => ?_)
  refine ow_stR X16 hx hZ e16 V_b1_15 O1 (Ins.self (E_7.keep K15)) 7 rfl (by decide) (by decide) (Nat.le_of_ble_eq_true rfl) (hb hby d_kindAt_54) (pc' := 55) rfl (fun T17 h17 X17 e17 W17 V17 => ?_)
  have V_b1_17 : Arv Z h17 b1 k1 (.object "xlogtap/Block$Kind") (12 : Int32) [(.ref (kd 0)), (.ref (kd 1)), (.ref (kd 2)), (.ref (kd 3)), (.ref (kd 4)), (.ref (kd 5)), (.ref (kd 6)), (.ref (kd 7)), .null, .null, .null, .null] .null := V17
  have Zs17 : n0 ≤ h17.size := Nat.le_trans Zs15 (Keep.of_wr W17).1
  have K17 := K15.wr W17 (Or.inr sz_b1)
  have N17 := Fr.snoc X17 N15 g_b1
  refine ow_dup X17 hx (hb hby d_kindAt_55) rfl (pc' := 56) rfl ?_
  refine ow_bipush X17 hx (z := (8 : Int32)) (hb hby d_kindAt_56) rfl (pc' := 58) rfl ?_
  refine ow_getS X17 hx hZ hown (host := "") (Or.inl (hw _ (List.mem_of_getElem? (i := 28) rfl))) Via.refl e17 (ow_staKeep S_8 K17 all0) (hb hby d_kindAt_58) (pc' := 61) rfl (fun T18 X18 e18 => ?_)
  refine ow_stR X18 hx hZ e18 V_b1_17 O1 (Ins.self (E_8.keep K17)) 8 rfl (by decide) (by decide) (Nat.le_of_ble_eq_true rfl) (hb hby d_kindAt_61) (pc' := 62) rfl (fun T19 h19 X19 e19 W19 V19 => ?_)
  have V_b1_19 : Arv Z h19 b1 k1 (.object "xlogtap/Block$Kind") (12 : Int32) [(.ref (kd 0)), (.ref (kd 1)), (.ref (kd 2)), (.ref (kd 3)), (.ref (kd 4)), (.ref (kd 5)), (.ref (kd 6)), (.ref (kd 7)), (.ref (kd 8)), .null, .null, .null] .null := V19
  have Zs19 : n0 ≤ h19.size := Nat.le_trans Zs17 (Keep.of_wr W19).1
  have K19 := K17.wr W19 (Or.inr sz_b1)
  have N19 := Fr.snoc X19 N17 g_b1
  refine ow_dup X19 hx (hb hby d_kindAt_62) rfl (pc' := 63) rfl ?_
  refine ow_bipush X19 hx (z := (9 : Int32)) (hb hby d_kindAt_63) rfl (pc' := 65) rfl ?_
  refine ow_getS X19 hx hZ hown (host := "") (Or.inl (hw _ (List.mem_of_getElem? (i := 30) rfl))) Via.refl e19 (ow_staKeep S_9 K19 all0) (hb hby d_kindAt_65) (pc' := 68) rfl (fun T20 X20 e20 => ?_)
  refine ow_stR X20 hx hZ e20 V_b1_19 O1 (Ins.self (E_9.keep K19)) 9 rfl (by decide) (by decide) (Nat.le_of_ble_eq_true rfl) (hb hby d_kindAt_68) (pc' := 69) rfl (fun T21 h21 X21 e21 W21 V21 => ?_)
  have V_b1_21 : Arv Z h21 b1 k1 (.object "xlogtap/Block$Kind") (12 : Int32) [(.ref (kd 0)), (.ref (kd 1)), (.ref (kd 2)), (.ref (kd 3)), (.ref (kd 4)), (.ref (kd 5)), (.ref (kd 6)), (.ref (kd 7)), (.ref (kd 8)), (.ref (kd 9)), .null, .null] .null := V21
  have Zs21 : n0 ≤ h21.size := Nat.le_trans Zs19 (Keep.of_wr W21).1
  have K21 := K19.wr W21 (Or.inr sz_b1)
  have N21 := Fr.snoc X21 N19 g_b1
  refine ow_dup X21 hx (hb hby d_kindAt_69) rfl (pc' := 70) rfl ?_
  refine ow_bipush X21 hx (z := (10 : Int32)) (hb hby d_kindAt_70) rfl (pc' := 72) rfl ?_
  refine ow_getS X21 hx hZ hown (host := "") (Or.inl (hw _ (List.mem_of_getElem? (i := 32) rfl))) Via.refl e21 (ow_staKeep S_10 K21 all0) (hb hby d_kindAt_72) (pc' := 75) rfl (fun T22 X22 e22 => ?_)
  refine ow_stR X22 hx hZ e22 V_b1_21 O1 (Ins.self (E_10.keep K21)) 10 rfl (by decide) (by decide) (Nat.le_of_ble_eq_true rfl) (hb hby d_kindAt_75) (pc' := 76) rfl (fun T23 h23 X23 e23 W23 V23 => ?_)
  have V_b1_23 : Arv Z h23 b1 k1 (.object "xlogtap/Block$Kind") (12 : Int32) [(.ref (kd 0)), (.ref (kd 1)), (.ref (kd 2)), (.ref (kd 3)), (.ref (kd 4)), (.ref (kd 5)), (.ref (kd 6)), (.ref (kd 7)), (.ref (kd 8)), (.ref (kd 9)), (.ref (kd 10)), .null] .null := V23
  have Zs23 : n0 ≤ h23.size := Nat.le_trans Zs21 (Keep.of_wr W23).1
  have K23 := K21.wr W23 (Or.inr sz_b1)
  have N23 := Fr.snoc X23 N21 g_b1
  refine ow_dup X23 hx (hb hby d_kindAt_76) rfl (pc' := 77) rfl ?_
  refine ow_bipush X23 hx (z := (11 : Int32)) (hb hby d_kindAt_77) rfl (pc' := 79) rfl ?_
  refine ow_getS X23 hx hZ hown (host := "") (Or.inl (hw _ (List.mem_of_getElem? (i := 34) rfl))) Via.refl e23 (ow_staKeep S_11 K23 all0) (hb hby d_kindAt_79) (pc' := 82) rfl (fun T24 X24 e24 => ?_)
  refine ow_stR X24 hx hZ e24 V_b1_23 O1 (Ins.self (E_11.keep K23)) 11 rfl (by decide) (by decide) (Nat.le_of_ble_eq_true rfl) (hb hby d_kindAt_82) (pc' := 83) rfl (fun T25 h25 X25 e25 W25 V25 => ?_)
  have V_b1_25 : Arv Z h25 b1 k1 (.object "xlogtap/Block$Kind") (12 : Int32) [(.ref (kd 0)), (.ref (kd 1)), (.ref (kd 2)), (.ref (kd 3)), (.ref (kd 4)), (.ref (kd 5)), (.ref (kd 6)), (.ref (kd 7)), (.ref (kd 8)), (.ref (kd 9)), (.ref (kd 10)), (.ref (kd 11))] .null := V25
  have Zs25 : n0 ≤ h25.size := Nat.le_trans Zs23 (Keep.of_wr W25).1
  have K25 := K23.wr W25 (Or.inr sz_b1)
  have N25 := Fr.snoc X25 N23 g_b1
  refine ow_astoreN X25 hx (Ls' := #[.val (.int pi), .val (.ref b1)]) (hb hby d_kindAt_83) rfl rfl (pc' := 84) rfl ?_
  refine ow_aloadN X25 hx (hb hby d_kindAt_84) rfl rfl (pc' := 85) rfl ?_
  refine ow_iloadN X25 hx (hb hby d_kindAt_85) rfl (pc' := 86) rfl ?_
  have hv86 : ([(.ref (kd 0)), (.ref (kd 1)), (.ref (kd 2)), (.ref (kd 3)), (.ref (kd 4)), (.ref (kd 5)), (.ref (kd 6)), (.ref (kd 7)), (.ref (kd 8)), (.ref (kd 9)), (.ref (kd 10)), (.ref (kd 11))] : List Value).getD pi.toNatClampNeg .null = .ref (kd pi.toInt.toNat) := by
    have hn : pi.toNatClampNeg = pi.toInt.toNat := rfl
    have hl : pi.toInt.toNat < 12 := by omega
    rw [hn]
    generalize pi.toInt.toNat = i at hl ⊢
    match i, hl with
    | 0, _ => rfl
    | 1, _ => rfl
    | 2, _ => rfl
    | 3, _ => rfl
    | 4, _ => rfl
    | 5, _ => rfl
    | 6, _ => rfl
    | 7, _ => rfl
    | 8, _ => rfl
    | 9, _ => rfl
    | 10, _ => rfl
    | 11, _ => rfl
    | n + 12, hq => exact absurd hq (by omega)
  refine ow_ldA X25 hx hZ e25 V_b1_25 (ow_nlt (y := (0 : Int32)) (show ¬ pi.toInt < 0 from by omega)) (ow_lt (y := (12 : Int32)) (show pi.toInt < 12 from by omega)) hv86 (hb hby d_kindAt_86) (pc' := 87) rfl ?_
  exact ow_retA X25 hx hret hlk rfl rfl (hb hby d_kindAt_87) (by decide) (by decide) (show Q_kindAt Z pi kd h0 n0 _ T25.heap _ from by rw [e25]; exact ⟨(kd pi.toInt.toNat), rfl, N25, K25, rfl⟩)
theorem d_eqB_0 : decode prog_9_method_10_code 0 = .ok (.aload_n 1, 1) := by decide +kernel
theorem d_eqB_1 : decode prog_9_method_10_code 1 = .ok (.instanceof 8, 3) := by decide +kernel
theorem d_eqB_4 : decode prog_9_method_10_code 4 = .ok (.ifCond .eq 35, 3) := by decide +kernel
theorem d_eqB_7 : decode prog_9_method_10_code 7 = .ok (.aload_n 1, 1) := by decide +kernel
theorem d_eqB_8 : decode prog_9_method_10_code 8 = .ok (.checkcast 8, 3) := by decide +kernel
theorem d_eqB_11 : decode prog_9_method_10_code 11 = .ok (.astore_n 2, 1) := by decide +kernel
theorem d_eqB_12 : decode prog_9_method_10_code 12 = .ok (.aload_n 2, 1) := by decide +kernel
theorem d_eqB_13 : decode prog_9_method_10_code 13 = .ok (.getfield 7, 3) := by decide +kernel
theorem d_eqB_16 : decode prog_9_method_10_code 16 = .ok (.aload_n 0, 1) := by decide +kernel
theorem d_eqB_17 : decode prog_9_method_10_code 17 = .ok (.getfield 7, 3) := by decide +kernel
theorem d_eqB_20 : decode prog_9_method_10_code 20 = .ok (.lcmp, 1) := by decide +kernel
theorem d_eqB_21 : decode prog_9_method_10_code 21 = .ok (.ifCond .ne 18, 3) := by decide +kernel
theorem d_eqB_24 : decode prog_9_method_10_code 24 = .ok (.aload_n 2, 1) := by decide +kernel
theorem d_eqB_25 : decode prog_9_method_10_code 25 = .ok (.getfield 13, 3) := by decide +kernel
theorem d_eqB_28 : decode prog_9_method_10_code 28 = .ok (.aload_n 0, 1) := by decide +kernel
theorem d_eqB_29 : decode prog_9_method_10_code 29 = .ok (.getfield 13, 3) := by decide +kernel
theorem d_eqB_32 : decode prog_9_method_10_code 32 = .ok (.if_acmp .ne 7, 3) := by decide +kernel
theorem d_eqB_35 : decode prog_9_method_10_code 35 = .ok (.iconst 1, 1) := by decide +kernel
theorem d_eqB_36 : decode prog_9_method_10_code 36 = .ok (.goto 4, 3) := by decide +kernel
theorem d_eqB_39 : decode prog_9_method_10_code 39 = .ok (.iconst 0, 1) := by decide +kernel
theorem d_eqB_40 : decode prog_9_method_10_code 40 = .ok (.ireturn, 1) := by decide +kernel
theorem ef_eqB (m : MethodId) (x0 : Addr) (x1 : Addr) : entryFrame m #[(.ref x0), (.ref x1)] 3 = mkF m 0 #[.val (.ref x0), .val (.ref x1), .unset] [] := by first | (simp [entryFrame, mkF, argsToLocals, Value.category]; done) | rfl
set_option maxRecDepth 65536 in
set_option maxHeartbeats 40000000 in
theorem rm_eqB (l : Launch) (Z : State) (a0 : Array Value) (hw : ∀ d ∈ tables_1, d.before a0 Z = true) (ws : List Jvm.Cond) (o : Addr) (o2 : Addr) (q1 : Int64) (w1 : Addr) (q2 : Int64) (w2 : Addr) (h0 : Heap) (Fp_o : Fld Z h0 o "xlogtap/Block" "position" "J" (.long q1)) (Fk_o : Fld Z h0 o "xlogtap/Block" "kind" "Lxlogtap/Block$Kind;" (.ref w1)) (E_o2 : Exa Z h0 o2 "xlogtap/Block") (Fp_o2 : Fld Z h0 o2 "xlogtap/Block" "position" "J" (.long q2)) (Fk_o2 : Fld Z h0 o2 "xlogtap/Block" "kind" "Lxlogtap/Block$Kind;" (.ref w2)) :
    MetFree l (⟨"xlogtap/Block", "equals", "(Ljava/lang/Object;)Z"⟩ : MethodName) (head1 (Jvm.Cond.code (⟨"xlogtap/Block", "equals", "(Ljava/lang/Object;)Z"⟩ : MethodName) prog_9_method_10_code 3 (some .boolean) :: ws) ({ frames := 0, cells := 0, slots := 0, locals := 0 } : Room)) (fun a_ U_ => a_ = #[(.ref o), (.ref o2)] ∧ Z.Warmed39 U_.vm ∧ U_.heap = h0) (fun _ _ _ _ _ => True) (fun _ U_ o_ U_' => ∃ v_ L_, o_ = .returned v_ ∧ (QI (fun z => ((q2.toInt = q1.toInt ∧ w2 = w1) ∧ z.toInt = 1) ∨ (¬ (q2.toInt = q1.toInt ∧ w2 = w1) ∧ z.toInt = 0)) h0) v_ U_'.heap L_ ∧ FrameEnd U_ o_ U_' L_ 0 0) := by
  refine ow_body (plainFor_of_name pn_3) ?_
  intro p e s m below meth c T0 X0 hx hZ hby hml hown hnm hret hlk e0
  refine Ends.cast (ef_eqB m o o2) ?_
  refine ow_aloadN X0 hx (hb hby d_eqB_0) rfl rfl (pc' := 1) rfl ?_
  refine ow_instY X0 hx hZ hown (hw _ (List.mem_of_getElem? (i := 56) rfl)) e0 (Ins.self E_o2) (hb hby d_eqB_1) (pc' := 4) rfl (fun T1 X1 e1 => ?_)
  refine ow_ifN X1 hx (hb hby d_eqB_4) (by decide) (pc' := 7) rfl ?_
  refine ow_aloadN X1 hx (hb hby d_eqB_7) rfl rfl (pc' := 8) rfl ?_
  refine ow_castY X1 hx hZ hown (hw _ (List.mem_of_getElem? (i := 56) rfl)) e1 (Ins.self E_o2) (hb hby d_eqB_8) (pc' := 11) rfl (fun T2 X2 e2 => ?_)
  refine ow_astoreN X2 hx (Ls' := #[.val (.ref o), .val (.ref o2), .val (.ref o2)]) (hb hby d_eqB_11) rfl rfl (pc' := 12) rfl ?_
  refine ow_aloadN X2 hx (hb hby d_eqB_12) rfl rfl (pc' := 13) rfl ?_
  refine ow_getF X2 hx hZ hown (host := "") (Or.inl (hw _ (List.mem_of_getElem? (i := 47) rfl))) Via.refl e2 Fp_o2 (hb hby d_eqB_13) (pc' := 16) rfl (fun T3 X3 e3 => ?_)
  refine ow_aloadN X3 hx (hb hby d_eqB_16) rfl rfl (pc' := 17) rfl ?_
  refine ow_getF X3 hx hZ hown (host := "") (Or.inl (hw _ (List.mem_of_getElem? (i := 47) rfl))) Via.refl e3 Fp_o (hb hby d_eqB_17) (pc' := 20) rfl (fun T4 X4 e4 => ?_)
  refine ow_lcmp X4 hx (hb hby d_eqB_20) (pc' := 21) rfl (fun z5 hz5 => ?_)
  have az5 : (q2.toInt < q1.toInt → z5.toInt = -1) ∧ (q2.toInt = q1.toInt → z5.toInt = 0) ∧ (q1.toInt < q2.toInt → z5.toInt = 1) := by rw [hz5]; exact c_lcmp q2 q1
  have rz5 := rng32 z5
  refine ow_if_ne X4 hx (z5.toInt) (hb hby d_eqB_21) rfl (by decide) (pt := 39) (by decide) (pf := 24) rfl (fun c21 => ?_) (fun c21 => ?_)
  · refine ow_iconst X4 hx (z := (0 : Int32)) (hb hby d_eqB_39) rfl (pc' := 40) rfl ?_
    exact ow_retB X4 hx hret hlk (hb hby d_eqB_40) (by decide) (by decide) (z' := (0 : Int32)) rfl ⟨(0 : Int32), rfl, (show ((q2.toInt = q1.toInt ∧ w2 = w1) ∧ (0 : Int) = 1) ∨ (¬ (q2.toInt = q1.toInt ∧ w2 = w1) ∧ (0 : Int) = 0) from by exact Or.inr ⟨fun q => absurd q.1 (by omega), rfl⟩), rfl, e4⟩
  · refine ow_aloadN X4 hx (hb hby d_eqB_24) rfl rfl (pc' := 25) rfl ?_
    refine ow_getF X4 hx hZ hown (host := "") (Or.inl (hw _ (List.mem_of_getElem? (i := 49) rfl))) Via.refl e4 Fk_o2 (hb hby d_eqB_25) (pc' := 28) rfl (fun T6 X6 e6 => ?_)
    refine ow_aloadN X6 hx (hb hby d_eqB_28) rfl rfl (pc' := 29) rfl ?_
    refine ow_getF X6 hx hZ hown (host := "") (Or.inl (hw _ (List.mem_of_getElem? (i := 49) rfl))) Via.refl e6 Fk_o (hb hby d_eqB_29) (pc' := 32) rfl (fun T7 X7 e7 => ?_)
    refine ow_acmp_ne X7 hx (hb hby d_eqB_32) (by decide) (pt := 39) (by decide) (pf := 35) rfl (fun c32 => ?_) (fun c32 => ?_)
    · refine ow_iconst X7 hx (z := (0 : Int32)) (hb hby d_eqB_39) rfl (pc' := 40) rfl ?_
      exact ow_retB X7 hx hret hlk (hb hby d_eqB_40) (by decide) (by decide) (z' := (0 : Int32)) rfl ⟨(0 : Int32), rfl, (show ((q2.toInt = q1.toInt ∧ w2 = w1) ∧ (0 : Int) = 1) ∨ (¬ (q2.toInt = q1.toInt ∧ w2 = w1) ∧ (0 : Int) = 0) from by exact Or.inr ⟨fun q => c32 q.2, rfl⟩), rfl, e7⟩
    · refine ow_iconst X7 hx (z := (1 : Int32)) (hb hby d_eqB_35) rfl (pc' := 36) rfl ?_
      refine ow_goto X7 hx (hb hby d_eqB_36) (by decide) (pc' := 40) (by decide) ?_
      exact ow_retB X7 hx hret hlk (hb hby d_eqB_40) (by decide) (by decide) (z' := (1 : Int32)) rfl ⟨(1 : Int32), rfl, (show ((q2.toInt = q1.toInt ∧ w2 = w1) ∧ (1 : Int) = 1) ∨ (¬ (q2.toInt = q1.toInt ∧ w2 = w1) ∧ (1 : Int) = 0) from by exact Or.inl ⟨⟨by omega, c32⟩, rfl⟩), rfl, e7⟩
theorem d_eqN_0 : decode prog_9_method_10_code 0 = .ok (.aload_n 1, 1) := by decide +kernel
theorem d_eqN_1 : decode prog_9_method_10_code 1 = .ok (.instanceof 8, 3) := by decide +kernel
theorem d_eqN_4 : decode prog_9_method_10_code 4 = .ok (.ifCond .eq 35, 3) := by decide +kernel
theorem d_eqN_39 : decode prog_9_method_10_code 39 = .ok (.iconst 0, 1) := by decide +kernel
theorem d_eqN_40 : decode prog_9_method_10_code 40 = .ok (.ireturn, 1) := by decide +kernel
theorem ef_eqN (m : MethodId) (x0 : Addr) : entryFrame m #[(.ref x0), .null] 3 = mkF m 0 #[.val (.ref x0), .val .null, .unset] [] := by first | (simp [entryFrame, mkF, argsToLocals, Value.category]; done) | rfl
set_option maxRecDepth 65536 in
set_option maxHeartbeats 40000000 in
theorem rm_eqN (l : Launch) (Z : State) (a0 : Array Value) (hw : ∀ d ∈ tables_1, d.before a0 Z = true) (ws : List Jvm.Cond) (o : Addr) (h0 : Heap) :
    MetFree l (⟨"xlogtap/Block", "equals", "(Ljava/lang/Object;)Z"⟩ : MethodName) (head1 (Jvm.Cond.code (⟨"xlogtap/Block", "equals", "(Ljava/lang/Object;)Z"⟩ : MethodName) prog_9_method_10_code 3 (some .boolean) :: ws) ({ frames := 0, cells := 0, slots := 0, locals := 0 } : Room)) (fun a_ U_ => a_ = #[(.ref o), .null] ∧ Z.Warmed39 U_.vm ∧ U_.heap = h0) (fun _ _ _ _ _ => True) (fun _ U_ o_ U_' => ∃ v_ L_, o_ = .returned v_ ∧ (QI (fun z => z.toInt = 0) h0) v_ U_'.heap L_ ∧ FrameEnd U_ o_ U_' L_ 0 0) := by
  refine ow_body (plainFor_of_name pn_3) ?_
  intro p e s m below meth c T0 X0 hx hZ hby hml hown hnm hret hlk e0
  refine Ends.cast (ef_eqN m o) ?_
  refine ow_aloadN X0 hx (hb hby d_eqN_0) rfl rfl (pc' := 1) rfl ?_
  refine ow_instNull X0 hx (hb hby d_eqN_1) (pc' := 4) rfl ?_
  refine ow_ifY X0 hx (hb hby d_eqN_4) (by decide) (by decide) (pc' := 39) (by decide) ?_
  refine ow_iconst X0 hx (z := (0 : Int32)) (hb hby d_eqN_39) rfl (pc' := 40) rfl ?_
  exact ow_retB X0 hx hret hlk (hb hby d_eqN_40) (by decide) (by decide) (z' := (0 : Int32)) rfl ⟨(0 : Int32), rfl, (show (0 : Int) = 0 from by omega), rfl, e0⟩
theorem d_eqL_0 : decode prog_9_method_10_code 0 = .ok (.aload_n 1, 1) := by decide +kernel
theorem d_eqL_1 : decode prog_9_method_10_code 1 = .ok (.instanceof 8, 3) := by decide +kernel
theorem d_eqL_4 : decode prog_9_method_10_code 4 = .ok (.ifCond .eq 35, 3) := by decide +kernel
theorem d_eqL_39 : decode prog_9_method_10_code 39 = .ok (.iconst 0, 1) := by decide +kernel
theorem d_eqL_40 : decode prog_9_method_10_code 40 = .ok (.ireturn, 1) := by decide +kernel
theorem ef_eqL (m : MethodId) (x0 : Addr) (x1 : Addr) : entryFrame m #[(.ref x0), (.ref x1)] 3 = mkF m 0 #[.val (.ref x0), .val (.ref x1), .unset] [] := by first | (simp [entryFrame, mkF, argsToLocals, Value.category]; done) | rfl
set_option maxRecDepth 65536 in
set_option maxHeartbeats 40000000 in
theorem rm_eqL (l : Launch) (Z : State) (a0 : Array Value) (hw : ∀ d ∈ tables_1, d.before a0 Z = true) (ws : List Jvm.Cond) (o : Addr) (o2 : Addr) (h0 : Heap) (E_o2 : Exa Z h0 o2 "java/lang/Long") :
    MetFree l (⟨"xlogtap/Block", "equals", "(Ljava/lang/Object;)Z"⟩ : MethodName) (head1 (Jvm.Cond.code (⟨"xlogtap/Block", "equals", "(Ljava/lang/Object;)Z"⟩ : MethodName) prog_9_method_10_code 3 (some .boolean) :: ws) ({ frames := 0, cells := 0, slots := 0, locals := 0 } : Room)) (fun a_ U_ => a_ = #[(.ref o), (.ref o2)] ∧ Z.Warmed39 U_.vm ∧ U_.heap = h0) (fun _ _ _ _ _ => True) (fun _ U_ o_ U_' => ∃ v_ L_, o_ = .returned v_ ∧ (QI (fun z => z.toInt = 0) h0) v_ U_'.heap L_ ∧ FrameEnd U_ o_ U_' L_ 0 0) := by
  refine ow_body (plainFor_of_name pn_3) ?_
  intro p e s m below meth c T0 X0 hx hZ hby hml hown hnm hret hlk e0
  refine Ends.cast (ef_eqL m o o2) ?_
  refine ow_aloadN X0 hx (hb hby d_eqL_0) rfl rfl (pc' := 1) rfl ?_
  refine ow_instNo X0 hx hZ hown (hw _ (List.mem_of_getElem? (i := 56) rfl)) e0 E_o2 (nosub hw) (hb hby d_eqL_1) (pc' := 4) rfl (fun T1 X1 e1 => ?_)
  refine ow_ifY X1 hx (hb hby d_eqL_4) (by decide) (by decide) (pc' := 39) (by decide) ?_
  refine ow_iconst X1 hx (z := (0 : Int32)) (hb hby d_eqL_39) rfl (pc' := 40) rfl ?_
  exact ow_retB X1 hx hret hlk (hb hby d_eqL_40) (by decide) (by decide) (z' := (0 : Int32)) rfl ⟨(0 : Int32), rfl, (show (0 : Int) = 0 from by omega), rfl, e1⟩
theorem pd_1 : parseMethodDescriptor "(J)V" = some ⟨[.long], none⟩ := by decide +kernel
theorem d_valueOf_0 : decode jdk_35_method_24_code 0 = .ok (.sipush 128, 3) := by decide +kernel
theorem d_valueOf_3 : decode jdk_35_method_24_code 3 = .ok (.istore_n 2, 1) := by decide +kernel
theorem d_valueOf_4 : decode jdk_35_method_24_code 4 = .ok (.lload_n 0, 1) := by decide +kernel
theorem d_valueOf_5 : decode jdk_35_method_24_code 5 = .ok (.ldc2_w 230, 3) := by decide +kernel
theorem d_valueOf_8 : decode jdk_35_method_24_code 8 = .ok (.lcmp, 1) := by decide +kernel
theorem d_valueOf_9 : decode jdk_35_method_24_code 9 = .ok (.ifCond .lt 22, 3) := by decide +kernel
theorem d_valueOf_12 : decode jdk_35_method_24_code 12 = .ok (.lload_n 0, 1) := by decide +kernel
theorem d_valueOf_13 : decode jdk_35_method_24_code 13 = .ok (.ldc2_w 232, 3) := by decide +kernel
theorem d_valueOf_16 : decode jdk_35_method_24_code 16 = .ok (.lcmp, 1) := by decide +kernel
theorem d_valueOf_17 : decode jdk_35_method_24_code 17 = .ok (.ifCond .gt 14, 3) := by decide +kernel
theorem d_valueOf_20 : decode jdk_35_method_24_code 20 = .ok (.getstatic 234, 3) := by decide +kernel
theorem d_valueOf_23 : decode jdk_35_method_24_code 23 = .ok (.lload_n 0, 1) := by decide +kernel
theorem d_valueOf_24 : decode jdk_35_method_24_code 24 = .ok (.l2i, 1) := by decide +kernel
theorem d_valueOf_25 : decode jdk_35_method_24_code 25 = .ok (.sipush 128, 3) := by decide +kernel
theorem d_valueOf_28 : decode jdk_35_method_24_code 28 = .ok (.iadd, 1) := by decide +kernel
theorem d_valueOf_29 : decode jdk_35_method_24_code 29 = .ok (.aaload, 1) := by decide +kernel
theorem d_valueOf_30 : decode jdk_35_method_24_code 30 = .ok (.areturn, 1) := by decide +kernel
theorem d_valueOf_31 : decode jdk_35_method_24_code 31 = .ok (.new 1, 3) := by decide +kernel
theorem d_valueOf_34 : decode jdk_35_method_24_code 34 = .ok (.dup, 1) := by decide +kernel
theorem d_valueOf_35 : decode jdk_35_method_24_code 35 = .ok (.lload_n 0, 1) := by decide +kernel
theorem d_valueOf_36 : decode jdk_35_method_24_code 36 = .ok (.invokespecial 240, 3) := by decide +kernel
theorem d_valueOf_39 : decode jdk_35_method_24_code 39 = .ok (.areturn, 1) := by decide +kernel
theorem ef_valueOf (m : MethodId) (x0 : Int64) : entryFrame m #[(.long x0)] 3 = mkF m 0 #[.val (.long x0), .second, .unset] [] := by first | (simp [entryFrame, mkF, argsToLocals, Value.category]; done) | rfl
def Q_valueOf (Z : State) (qv : Int64) (oc : Addr) (cc : Cell) (h0 : Heap) (n0 : Nat) (v : Option Value) (h : Heap) (L : List Loc) : Prop := ∃ (ow : Addr), (v = some (.ref ow)) ∧ (Fr n0 L) ∧ (Keep h0 h []) ∧ (Exa Z h ow "java/lang/Long")
set_option maxRecDepth 65536 in
set_option maxHeartbeats 40000000 in
theorem rm_valueOf (l : Launch) (Z : State) (a0 : Array Value) (hw : ∀ d ∈ tables_1, d.before a0 Z = true) (ws : List Jvm.Cond) (qv : Int64) (oc : Addr) (cc : Cell) (h0 : Heap) (n0 : Nat) (Z0 : n0 ≤ h0.size) (S_c : Sta Z h0 "java/lang/Long$LongCache" "cache" "[Ljava/lang/Long;" (.ref oc)) (Ac : Arr Z Z.heap oc cc (.object "java/lang/Long")) (hc256 : cc.slots.size = 256) (hcache : ∀ j : Int32, ¬ (j < 0 ∨ cc.slots.size ≤ j.toNatClampNeg) → ∃ box, cc.slots[j.toNatClampNeg]? = some (.ref box) ∧ Exa Z Z.heap box "java/lang/Long") (KZ : Keep Z.heap h0 []) :
    MetFree l (⟨"java/lang/Long", "valueOf", "(J)Ljava/lang/Long;"⟩ : MethodName) (head1 (Jvm.Cond.code (⟨"java/lang/Long", "valueOf", "(J)Ljava/lang/Long;"⟩ : MethodName) jdk_35_method_24_code 3 (some (.object "java/lang/Long")) :: ws) ({ frames := 3, cells := 1, slots := 1, locals := 39 } : Room)) (fun a_ U_ => a_ = #[(.long qv)] ∧ Z.Warmed39 U_.vm ∧ U_.heap = h0) (fun _ _ _ _ _ => True) (fun _ U_ o_ U_' => ∃ v_ L_, o_ = .returned v_ ∧ (Q_valueOf Z qv oc cc h0 n0) v_ U_'.heap L_ ∧ FrameEnd U_ o_ U_' L_ 1 1) := by
  refine ow_body (plainFor_of_name pn_2) ?_
  intro p e s m below meth c T0 X0 hx hZ hby hml hown hnm hret hlk e0
  have N0 := Fr.nil n0
  refine Ends.cast (ef_valueOf m qv) ?_
  have r_qv := rng64 qv
  refine ow_sipush X0 hx (z := (128 : Int32)) (hb hby d_valueOf_0) rfl (pc' := 3) rfl ?_
  refine ow_istoreN X0 hx (Ls' := #[.val (.long qv), .second, .val (.int (128 : Int32))]) (hb hby d_valueOf_3) rfl (pc' := 4) rfl ?_
  refine ow_lloadN X0 hx (hb hby d_valueOf_4) rfl (pc' := 5) rfl ?_
  refine ow_ldc2Long X0 hx hZ hown (hw _ (List.mem_of_getElem? (i := 62) rfl)) (hb hby d_valueOf_5) (pc' := 8) rfl ?_
  refine ow_lcmp X0 hx (hb hby d_valueOf_8) (pc' := 9) rfl (fun z1 hz1 => ?_)
  have az1 : (qv.toInt < (-128 : Int) → z1.toInt = -1) ∧ (qv.toInt = (-128 : Int) → z1.toInt = 0) ∧ ((-128 : Int) < qv.toInt → z1.toInt = 1) := by rw [hz1]; exact c_lcmp qv (-128 : Int64)
  have rz1 := rng32 z1
  refine ow_if_lt X0 hx (z1.toInt) (hb hby d_valueOf_9) rfl (by decide) (pt := 31) (by decide) (pf := 12) rfl (fun c9 => ?_) (fun c9 => ?_)
  · refine ow_new X0 hx hZ hown (hw _ (List.mem_of_getElem? (i := 69) rfl)) (hw _ (List.mem_of_getElem? (i := 70) rfl)) (hw _ (List.mem_of_getElem? (i := 60) rfl)) e0 (hb hby d_valueOf_31) (by decide) (by decide) (pc' := 34) rfl (fun T2 h2 b2 g2 X2 e2 E2 A2 D2 => ?_)
    have g_b2 : n0 ≤ b2 := Nat.le_trans Z0 (Nat.le_of_eq g2.symm)
    have sz_b2 : h0.size ≤ b2 := Nat.le_trans (Keep.refl h0 []).1 (Nat.le_of_eq g2.symm)
    have Zs2 : n0 ≤ h2.size := Nat.le_trans Z0 E2.1
    have K2 := (Keep.refl h0 []).ext E2
    have F_b2_value : Fld Z h2 b2 "java/lang/Long" "value" "J" (.long (0 : Int64)) := D2 (Or.inr (hw _ (List.mem_of_getElem? (i := 83) rfl))) (ty := .long) (by decide)
    refine ow_dup X2 hx (hb hby d_valueOf_34) rfl (pc' := 35) rfl ?_
    refine ow_lloadN X2 hx (hb hby d_valueOf_35) rfl (pc' := 36) rfl ?_
    refine ow_callI X2 hx hZ rfl rfl hown (hw _ (List.mem_of_getElem? (i := 71) rfl)) (hw _ (List.mem_of_getElem? (i := 72) rfl)) (hw _ (List.mem_of_getElem? (i := 60) rfl)) (hw _ (List.mem_of_getElem? (i := 74) rfl)) (by decide) (rm_lgInit l Z a0 hw [] b2 qv h2 n0 Zs2 A2 F_b2_value g_b2) e2 1 (by decide) (by decide) (by decide) (by decide) [(.long qv)] (by rw [hml]; rfl) pd_1 rfl rfl rfl (Nat.le_of_eq rfl) (hb hby d_valueOf_36) (pc' := 39) rfl (fun v3 T3 L3 hQ3 X3 => ?_)
    obtain ⟨rfl, Nc3, Kc3, P3_0⟩ := hQ3
    have Zs3 : n0 ≤ T3.heap.size := Nat.le_trans Zs2 Kc3.1
    have K3 := K2.trans Kc3 (allS (Or.inr sz_b2) all0)
    have N3 := Fr.app N0 Nc3
    show Ends _ _ _ _ T3 (mkF m 39 #[.val (.long qv), .second, .val (.int (128 : Int32))] [(.ref b2)])
    exact ow_retA X3 hx hret hlk rfl rfl (hb hby d_valueOf_39) (by decide) (by decide) (show Q_valueOf Z qv oc cc h0 n0 _ T3.heap _ from ⟨b2, rfl, N3, K3, P3_0⟩)
  · refine ow_lloadN X0 hx (hb hby d_valueOf_12) rfl (pc' := 13) rfl ?_
    refine ow_ldc2Long X0 hx hZ hown (hw _ (List.mem_of_getElem? (i := 63) rfl)) (hb hby d_valueOf_13) (pc' := 16) rfl ?_
    refine ow_lcmp X0 hx (hb hby d_valueOf_16) (pc' := 17) rfl (fun z4 hz4 => ?_)
    have az4 : (qv.toInt < (127 : Int) → z4.toInt = -1) ∧ (qv.toInt = (127 : Int) → z4.toInt = 0) ∧ ((127 : Int) < qv.toInt → z4.toInt = 1) := by rw [hz4]; exact c_lcmp qv (127 : Int64)
    have rz4 := rng32 z4
    refine ow_if_gt X0 hx (z4.toInt) (hb hby d_valueOf_17) rfl (by decide) (pt := 31) (by decide) (pf := 20) rfl (fun c17 => ?_) (fun c17 => ?_)
    · refine ow_new X0 hx hZ hown (hw _ (List.mem_of_getElem? (i := 69) rfl)) (hw _ (List.mem_of_getElem? (i := 70) rfl)) (hw _ (List.mem_of_getElem? (i := 60) rfl)) e0 (hb hby d_valueOf_31) (by decide) (by decide) (pc' := 34) rfl (fun T5 h5 b5 g5 X5 e5 E5 A5 D5 => ?_)
      have g_b5 : n0 ≤ b5 := Nat.le_trans Z0 (Nat.le_of_eq g5.symm)
      have sz_b5 : h0.size ≤ b5 := Nat.le_trans (Keep.refl h0 []).1 (Nat.le_of_eq g5.symm)
      have Zs5 : n0 ≤ h5.size := Nat.le_trans Z0 E5.1
      have K5 := (Keep.refl h0 []).ext E5
      have F_b5_value : Fld Z h5 b5 "java/lang/Long" "value" "J" (.long (0 : Int64)) := D5 (Or.inr (hw _ (List.mem_of_getElem? (i := 83) rfl))) (ty := .long) (by decide)
      refine ow_dup X5 hx (hb hby d_valueOf_34) rfl (pc' := 35) rfl ?_
      refine ow_lloadN X5 hx (hb hby d_valueOf_35) rfl (pc' := 36) rfl ?_
      refine ow_callI X5 hx hZ rfl rfl hown (hw _ (List.mem_of_getElem? (i := 71) rfl)) (hw _ (List.mem_of_getElem? (i := 72) rfl)) (hw _ (List.mem_of_getElem? (i := 60) rfl)) (hw _ (List.mem_of_getElem? (i := 74) rfl)) (by decide) (rm_lgInit l Z a0 hw [] b5 qv h5 n0 Zs5 A5 F_b5_value g_b5) e5 1 (by decide) (by decide) (by decide) (by decide) [(.long qv)] (by rw [hml]; rfl) pd_1 rfl rfl rfl (Nat.le_of_eq rfl) (hb hby d_valueOf_36) (pc' := 39) rfl (fun v6 T6 L6 hQ6 X6 => ?_)
      obtain ⟨rfl, Nc6, Kc6, P6_0⟩ := hQ6
      have Zs6 : n0 ≤ T6.heap.size := Nat.le_trans Zs5 Kc6.1
      have K6 := K5.trans Kc6 (allS (Or.inr sz_b5) all0)
      have N6 := Fr.app N0 Nc6
      show Ends _ _ _ _ T6 (mkF m 39 #[.val (.long qv), .second, .val (.int (128 : Int32))] [(.ref b5)])
      exact ow_retA X6 hx hret hlk rfl rfl (hb hby d_valueOf_39) (by decide) (by decide) (show Q_valueOf Z qv oc cc h0 n0 _ T6.heap _ from ⟨b5, rfl, N6, K6, P6_0⟩)
    · refine ow_getS X0 hx hZ hown (host := "") (Or.inl (hw _ (List.mem_of_getElem? (i := 64) rfl))) Via.refl e0 S_c (hb hby d_valueOf_20) (pc' := 23) rfl (fun T7 X7 e7 => ?_)
      refine ow_lloadN X7 hx (hb hby d_valueOf_23) rfl (pc' := 24) rfl ?_
      refine ow_l2i X7 hx (hb hby d_valueOf_24) (pc' := 25) rfl (fun z8 hz8 => ?_)
      have az8 : (z8.toInt - qv.toInt) % 4294967296 = 0 := by rw [hz8]; exact c_l2i qv
      have rz8 := rng32 z8
      refine ow_sipush X7 hx (z := (128 : Int32)) (hb hby d_valueOf_25) rfl (pc' := 28) rfl ?_
      refine ow_iadd X7 hx (hb hby d_valueOf_28) (pc' := 29) rfl (fun z9 hz9 => ?_)
      have az9 : (z9.toInt - (z8.toInt + (128 : Int))) % 4294967296 = 0 := by rw [hz9]; exact c_iadd z8 (128 : Int32)
      have rz9 := rng32 z9
      obtain ⟨box, hbx, Ebx⟩ := hcache z9 (by rw [hc256]; exact fun q => q.elim (ow_nlt (y := (0 : Int32)) (show ¬ z9.toInt < 0 from by omega)) (by show ¬ 256 ≤ z9.toInt.toNat; omega))
      have Ebx0 := Ebx.keep KZ
      refine Ends.go (X7.aaload hx (by rw [e7]; exact KZ.2.1 _ _ Ac.1 nin0) (State.isArrayOf_alike hZ.alike Ac.2.1) rfl Ac.2.2 (by rw [hc256]; exact fun q => q.elim (ow_nlt (y := (0 : Int32)) (show ¬ z9.toInt < 0 from by omega)) (by show ¬ 256 ≤ z9.toInt.toNat; omega)) hbx (g := mkF m 29 #[.val (.long qv), .second, .val (.int (128 : Int32))] [(.int z9), (.ref oc)]) rfl rfl (hb hby d_valueOf_29)) ?_
      show Ends _ _ _ _ T7 (mkF m 30 #[.val (.long qv), .second, .val (.int (128 : Int32))] [(.ref box)])
      exact ow_retA X7 hx hret hlk rfl rfl (hb hby d_valueOf_30) (by decide) (by decide) (show Q_valueOf Z qv oc cc h0 n0 _ T7.heap _ from by rw [e7]; exact ⟨box, rfl, N0, (Keep.refl h0 []), Ebx0⟩)
theorem kinds_start {s : State} {args : Array Value} (hw : ∀ d ∈ tables_1, d.before args s = true) (hn : narrow_1.value args s none s [] = some true) :
    ∃ kd : Nat → Addr, (Sta s s.heap "xlogtap/Block$Kind" "COPY" "Lxlogtap/Block$Kind;" (.ref (kd 0)) ∧ Sta s s.heap "xlogtap/Block$Kind" "RESYNC" "Lxlogtap/Block$Kind;" (.ref (kd 1)) ∧ Sta s s.heap "xlogtap/Block$Kind" "MESSAGE" "Lxlogtap/Block$Kind;" (.ref (kd 2)) ∧ Sta s s.heap "xlogtap/Block$Kind" "TRANSACTION" "Lxlogtap/Block$Kind;" (.ref (kd 3)) ∧ Sta s s.heap "xlogtap/Block$Kind" "PREPARED_TRANSACTION" "Lxlogtap/Block$Kind;" (.ref (kd 4)) ∧ Sta s s.heap "xlogtap/Block$Kind" "COMMIT_PREPARED" "Lxlogtap/Block$Kind;" (.ref (kd 5)) ∧ Sta s s.heap "xlogtap/Block$Kind" "ROLLBACK_PREPARED" "Lxlogtap/Block$Kind;" (.ref (kd 6)) ∧ Sta s s.heap "xlogtap/Block$Kind" "TABLE_COPY" "Lxlogtap/Block$Kind;" (.ref (kd 7)) ∧ Sta s s.heap "xlogtap/Block$Kind" "PARTED_COPY_BEGIN" "Lxlogtap/Block$Kind;" (.ref (kd 8)) ∧ Sta s s.heap "xlogtap/Block$Kind" "PARTITION_COPY_BEGIN" "Lxlogtap/Block$Kind;" (.ref (kd 9)) ∧ Sta s s.heap "xlogtap/Block$Kind" "TABLE_PART" "Lxlogtap/Block$Kind;" (.ref (kd 10)) ∧ Sta s s.heap "xlogtap/Block$Kind" "PARTED_COPY_END" "Lxlogtap/Block$Kind;" (.ref (kd 11))) ∧ (Exa s s.heap (kd 0) "xlogtap/Block$Kind" ∧ Exa s s.heap (kd 1) "xlogtap/Block$Kind" ∧ Exa s s.heap (kd 2) "xlogtap/Block$Kind" ∧ Exa s s.heap (kd 3) "xlogtap/Block$Kind" ∧ Exa s s.heap (kd 4) "xlogtap/Block$Kind" ∧ Exa s s.heap (kd 5) "xlogtap/Block$Kind" ∧ Exa s s.heap (kd 6) "xlogtap/Block$Kind" ∧ Exa s s.heap (kd 7) "xlogtap/Block$Kind" ∧ Exa s s.heap (kd 8) "xlogtap/Block$Kind" ∧ Exa s s.heap (kd 9) "xlogtap/Block$Kind" ∧ Exa s s.heap (kd 10) "xlogtap/Block$Kind" ∧ Exa s s.heap (kd 11) "xlogtap/Block$Kind") ∧ ∀ i j, i < 12 → j < 12 → kd i = kd j → i = j := by
  obtain ⟨n0, r0⟩ := and_e hn
  obtain ⟨n1, r1⟩ := and_e r0
  obtain ⟨n2, r2⟩ := and_e r1
  obtain ⟨n3, r3⟩ := and_e r2
  obtain ⟨n4, r4⟩ := and_e r3
  obtain ⟨n5, r5⟩ := and_e r4
  obtain ⟨n6, r6⟩ := and_e r5
  obtain ⟨n7, r7⟩ := and_e r6
  obtain ⟨n8, r8⟩ := and_e r7
  obtain ⟨n9, r9⟩ := and_e r8
  obtain ⟨n10, r10⟩ := and_e r9
  obtain ⟨n11, r11⟩ := and_e r10
  obtain ⟨n12, r12⟩ := and_e r11
  obtain ⟨n13, r13⟩ := and_e r12
  obtain ⟨n14, r14⟩ := and_e r13
  obtain ⟨n15, r15⟩ := and_e r14
  obtain ⟨n16, r16⟩ := and_e r15
  obtain ⟨n17, r17⟩ := and_e r16
  obtain ⟨n18, r18⟩ := and_e r17
  obtain ⟨n19, r19⟩ := and_e r18
  obtain ⟨n20, r20⟩ := and_e r19
  obtain ⟨n21, r21⟩ := and_e r20
  obtain ⟨n22, n23⟩ := and_e r21
  obtain ⟨k0, e0⟩ := exa_v n0
  have f0 := fld_is n13 e0
  obtain ⟨k1, e1⟩ := exa_v n1
  have f1 := fld_is n14 e1
  obtain ⟨k2, e2⟩ := exa_v n2
  have f2 := fld_is n15 e2
  obtain ⟨k3, e3⟩ := exa_v n3
  have f3 := fld_is n12 e3
  obtain ⟨k4, e4⟩ := exa_v n4
  have f4 := fld_is n16 e4
  obtain ⟨k5, e5⟩ := exa_v n5
  have f5 := fld_is n17 e5
  obtain ⟨k6, e6⟩ := exa_v n6
  have f6 := fld_is n21 e6
  obtain ⟨k7, e7⟩ := exa_v n7
  have f7 := fld_is n20 e7
  obtain ⟨k8, e8⟩ := exa_v n8
  have f8 := fld_is n18 e8
  obtain ⟨k9, e9⟩ := exa_v n9
  have f9 := fld_is n22 e9
  obtain ⟨k10, e10⟩ := exa_v n10
  have f10 := fld_is n23 e10
  obtain ⟨k11, e11⟩ := exa_v n11
  have f11 := fld_is n19 e11
  have key : ∀ i, i < 12 → ∃ a, a = ([k0, k1, k2, k3, k4, k5, k6, k7, k8, k9, k10, k11] : List Addr).getD i 0 ∧ s.fieldOf? a "java/lang/Enum" "ordinal" "I" = some (.int (Int32.ofNat i)) := fun i hi => by
    match i, hi with
    | 0, _ => exact ⟨_, rfl, f0⟩
    | 1, _ => exact ⟨_, rfl, f1⟩
    | 2, _ => exact ⟨_, rfl, f2⟩
    | 3, _ => exact ⟨_, rfl, f3⟩
    | 4, _ => exact ⟨_, rfl, f4⟩
    | 5, _ => exact ⟨_, rfl, f5⟩
    | 6, _ => exact ⟨_, rfl, f6⟩
    | 7, _ => exact ⟨_, rfl, f7⟩
    | 8, _ => exact ⟨_, rfl, f8⟩
    | 9, _ => exact ⟨_, rfl, f9⟩
    | 10, _ => exact ⟨_, rfl, f10⟩
    | 11, _ => exact ⟨_, rfl, f11⟩
    | n + 12, hq => exact absurd hq (by omega)
  refine ⟨fun i => ([k0, k1, k2, k3, k4, k5, k6, k7, k8, k9, k10, k11] : List Addr).getD i 0, ⟨Sta.start e0 (Or.inr ⟨(hw _ (List.mem_of_getElem? (i := 11) rfl)), (hw _ (List.mem_of_getElem? (i := 12) rfl))⟩), Sta.start e1 (Or.inr ⟨(hw _ (List.mem_of_getElem? (i := 11) rfl)), (hw _ (List.mem_of_getElem? (i := 15) rfl))⟩), Sta.start e2 (Or.inr ⟨(hw _ (List.mem_of_getElem? (i := 11) rfl)), (hw _ (List.mem_of_getElem? (i := 17) rfl))⟩), Sta.start e3 (Or.inr ⟨(hw _ (List.mem_of_getElem? (i := 11) rfl)), (hw _ (List.mem_of_getElem? (i := 19) rfl))⟩), Sta.start e4 (Or.inr ⟨(hw _ (List.mem_of_getElem? (i := 11) rfl)), (hw _ (List.mem_of_getElem? (i := 21) rfl))⟩), Sta.start e5 (Or.inr ⟨(hw _ (List.mem_of_getElem? (i := 11) rfl)), (hw _ (List.mem_of_getElem? (i := 23) rfl))⟩), Sta.start e6 (Or.inr ⟨(hw _ (List.mem_of_getElem? (i := 11) rfl)), (hw _ (List.mem_of_getElem? (i := 25) rfl))⟩), Sta.start e7 (Or.inr ⟨(hw _ (List.mem_of_getElem? (i := 11) rfl)), (hw _ (List.mem_of_getElem? (i := 27) rfl))⟩), Sta.start e8 (Or.inr ⟨(hw _ (List.mem_of_getElem? (i := 11) rfl)), (hw _ (List.mem_of_getElem? (i := 29) rfl))⟩), Sta.start e9 (Or.inr ⟨(hw _ (List.mem_of_getElem? (i := 11) rfl)), (hw _ (List.mem_of_getElem? (i := 31) rfl))⟩), Sta.start e10 (Or.inr ⟨(hw _ (List.mem_of_getElem? (i := 11) rfl)), (hw _ (List.mem_of_getElem? (i := 33) rfl))⟩), Sta.start e11 (Or.inr ⟨(hw _ (List.mem_of_getElem? (i := 11) rfl)), (hw _ (List.mem_of_getElem? (i := 35) rfl))⟩)⟩, ⟨Exa.start e0 n0, Exa.start e1 n1, Exa.start e2 n2, Exa.start e3 n3, Exa.start e4 n4, Exa.start e5 n5, Exa.start e6 n6, Exa.start e7 n7, Exa.start e8 n8, Exa.start e9 n9, Exa.start e10 n10, Exa.start e11 n11⟩, fun i j hi hj q => ?_⟩
  obtain ⟨a, ea, fa⟩ := key i hi
  obtain ⟨b, eb, fb⟩ := key j hj
  have q2 : a = b := ea.trans (Eq.trans q eb.symm)
  rw [q2, fb] at fa
  have w := congrArg Int32.toInt (Value.int.inj (Option.some.inj fa))
  rw [show (Int32.ofNat j).toInt = (j : Int) from len_toInt (by omega), show (Int32.ofNat i).toInt = (i : Int) from len_toInt (by omega)] at w
  omega
theorem pd_2 : parseMethodDescriptor "(I)Lxlogtap/Block$Kind;" = some ⟨[.int], some (.object "xlogtap/Block$Kind")⟩ := by decide +kernel
theorem pd_3 : parseMethodDescriptor "(JLxlogtap/Block$Kind;)V" = some ⟨[.long, (.object "xlogtap/Block$Kind")], none⟩ := by decide +kernel
theorem pd_4 : parseMethodDescriptor "(Ljava/lang/Object;)Z" = some ⟨[(.object "java/lang/Object")], some .boolean⟩ := by decide +kernel
theorem pd_5 : parseMethodDescriptor "(J)Ljava/lang/Long;" = some ⟨[.long], some (.object "java/lang/Long")⟩ := by decide +kernel
theorem ef_law (m : MethodId) (x0 : Int64) (x1 : Int64) (x2 : Int32) (x3 : Int32) (x4 : Int32) : entryFrame m #[(.long x0), (.long x1), (.int x2), (.int x3), (.int x4)] maxLocals = mkF m 0 #[.val (.long x0), .second, .val (.long x1), .second, .val (.int x2), .val (.int x3), .val (.int x4), .unset, .unset, .unset, .unset, .unset, .unset, .unset, .unset] [] := by first | (simp [entryFrame, mkF, argsToLocals, Value.category, maxLocals]; done) | rfl
def Q_law (qp : Int64) (qr : Int64) (pk1 : Int32) (pk2 : Int32) (pm : Int32) (kd : Nat → Addr) (oc : Addr) (cc : Cell) (h0 : Heap) (n0 : Nat) (v : Option Value) (h : Heap) (L : List Loc) : Prop := v = some (.int 1) ∧ Fr n0 L
set_option maxRecDepth 65536 in
set_option maxHeartbeats 40000000 in
theorem rm_law (l : Launch) (Z : State) (a0 : Array Value) (hw : ∀ d ∈ tables_1, d.before a0 Z = true) (ws : List Jvm.Cond) (qp : Int64) (qr : Int64) (pk1 : Int32) (pk2 : Int32) (pm : Int32) (kd : Nat → Addr) (oc : Addr) (cc : Cell) (h0 : Heap) (n0 : Nat) (Z0 : n0 ≤ h0.size) (S_0 : Sta Z h0 "xlogtap/Block$Kind" "COPY" "Lxlogtap/Block$Kind;" (.ref (kd 0))) (S_1 : Sta Z h0 "xlogtap/Block$Kind" "RESYNC" "Lxlogtap/Block$Kind;" (.ref (kd 1))) (S_2 : Sta Z h0 "xlogtap/Block$Kind" "MESSAGE" "Lxlogtap/Block$Kind;" (.ref (kd 2))) (S_3 : Sta Z h0 "xlogtap/Block$Kind" "TRANSACTION" "Lxlogtap/Block$Kind;" (.ref (kd 3))) (S_4 : Sta Z h0 "xlogtap/Block$Kind" "PREPARED_TRANSACTION" "Lxlogtap/Block$Kind;" (.ref (kd 4))) (S_5 : Sta Z h0 "xlogtap/Block$Kind" "COMMIT_PREPARED" "Lxlogtap/Block$Kind;" (.ref (kd 5))) (S_6 : Sta Z h0 "xlogtap/Block$Kind" "ROLLBACK_PREPARED" "Lxlogtap/Block$Kind;" (.ref (kd 6))) (S_7 : Sta Z h0 "xlogtap/Block$Kind" "TABLE_COPY" "Lxlogtap/Block$Kind;" (.ref (kd 7))) (S_8 : Sta Z h0 "xlogtap/Block$Kind" "PARTED_COPY_BEGIN" "Lxlogtap/Block$Kind;" (.ref (kd 8))) (S_9 : Sta Z h0 "xlogtap/Block$Kind" "PARTITION_COPY_BEGIN" "Lxlogtap/Block$Kind;" (.ref (kd 9))) (S_10 : Sta Z h0 "xlogtap/Block$Kind" "TABLE_PART" "Lxlogtap/Block$Kind;" (.ref (kd 10))) (S_11 : Sta Z h0 "xlogtap/Block$Kind" "PARTED_COPY_END" "Lxlogtap/Block$Kind;" (.ref (kd 11))) (E_0 : Exa Z h0 (kd 0) "xlogtap/Block$Kind") (E_1 : Exa Z h0 (kd 1) "xlogtap/Block$Kind") (E_2 : Exa Z h0 (kd 2) "xlogtap/Block$Kind") (E_3 : Exa Z h0 (kd 3) "xlogtap/Block$Kind") (E_4 : Exa Z h0 (kd 4) "xlogtap/Block$Kind") (E_5 : Exa Z h0 (kd 5) "xlogtap/Block$Kind") (E_6 : Exa Z h0 (kd 6) "xlogtap/Block$Kind") (E_7 : Exa Z h0 (kd 7) "xlogtap/Block$Kind") (E_8 : Exa Z h0 (kd 8) "xlogtap/Block$Kind") (E_9 : Exa Z h0 (kd 9) "xlogtap/Block$Kind") (E_10 : Exa Z h0 (kd 10) "xlogtap/Block$Kind") (E_11 : Exa Z h0 (kd 11) "xlogtap/Block$Kind") (hinj : ∀ i j, i < 12 → j < 12 → kd i = kd j → i = j) (S_c : Sta Z h0 "java/lang/Long$LongCache" "cache" "[Ljava/lang/Long;" (.ref oc)) (Ac : Arr Z Z.heap oc cc (.object "java/lang/Long")) (hc256 : cc.slots.size = 256) (hcache : ∀ j : Int32, ¬ (j < 0 ∨ cc.slots.size ≤ j.toNatClampNeg) → ∃ box, cc.slots[j.toNatClampNeg]? = some (.ref box) ∧ Exa Z Z.heap box "java/lang/Long") (KZ : Keep Z.heap h0 []) :
    MetFree l x (head1 (Jvm.Cond.code x code maxLocals ret :: ws) room_1) (fun a_ U_ => a_ = #[(.long qp), (.long qr), (.int pk1), (.int pk2), (.int pm)] ∧ Z.Warmed39 U_.vm ∧ U_.heap = h0) (fun _ _ _ _ _ => True) (fun _ U_ o_ U_' => ∃ v_ L_, o_ = .returned v_ ∧ (Q_law qp qr pk1 pk2 pm kd oc cc h0 n0) v_ U_'.heap L_ ∧ FrameEnd U_ o_ U_' L_ 24 128) := by
  refine ow_body (plainFor_of_name pn_4) ?_
  intro p e s m below meth c T0 X0 hx hZ hby hml hown hnm hret hlk e0
  have N0 := Fr.nil n0
  have hret : meth.sig.returnType = (some .boolean) := hret
  refine Ends.cast (ef_law m qp qr pk1 pk2 pm) ?_
  have r_qp := rng64 qp
  have r_qr := rng64 qr
  have r_pk1 := rng32 pk1
  have r_pk2 := rng32 pk2
  have r_pm := rng32 pm
  refine ow_iload X0 hx (hb hby at_0) rfl (pc' := 2) rfl ?_
  refine ow_ldcInt X0 hx hZ hown (hw _ (List.mem_of_getElem? (i := 0) rfl)) (hb hby at_2) (pc' := 4) rfl ?_
  refine ow_iand X0 hx (hb hby at_4) (pc' := 5) rfl (fun z1 hz1 => ?_)
  have az1 : z1.toInt = pk1.toInt % 2147483648 := by rw [hz1]; exact c_mask pk1 (2147483647 : Int32) 31 (by decide) (by decide)
  have rz1 := rng32 z1
  refine ow_bipush X0 hx (z := (12 : Int32)) (hb hby at_5) rfl (pc' := 7) rfl ?_
  refine ow_irem X0 hx (hb hby at_7) (by decide) (pc' := 8) rfl (fun z2 hz2 => ?_)
  have az2 : (0 ≤ z1.toInt → z2.toInt = z1.toInt % 12) ∧ (z1.toInt < 0 → z2.toInt = -((-z1.toInt) % 12)) := by rw [hz2]; exact c_irem z1 (12 : Int32) 12 rfl
  have rz2 := rng32 z2
  refine ow_istore X0 hx (Ls' := #[.val (.long qp), .second, .val (.long qr), .second, .val (.int pk1), .val (.int pk2), .val (.int pm), .val (.int z2), .unset, .unset, .unset, .unset, .unset, .unset, .unset]) (hb hby at_8) rfl (pc' := 10) rfl ?_
  have J30 : ∀ (ii2 : Int32), (0 ≤ ii2.toInt ∧ ii2.toInt < 12) → Ends p e below (Out s 24 128 (Q_law qp qr pk1 pk2 pm kd oc cc h0 n0)) T0 (mkF m 30 #[.val (.long qp), .second, .val (.long qr), .second, .val (.int pk1), .val (.int pk2), .val (.int pm), .val (.int z2), .unset, .unset, .unset, .unset, .unset, .unset, .unset] [(.int ii2)]) := by
    intro ii2 hi30
    have r_ii2 := rng32 ii2
    refine ow_istore X0 hx (Ls' := #[.val (.long qp), .second, .val (.long qr), .second, .val (.int pk1), .val (.int pk2), .val (.int pm), .val (.int z2), .val (.int ii2), .unset, .unset, .unset, .unset, .unset, .unset]) (hb hby at_30) rfl (pc' := 32) rfl ?_
    refine ow_iload X0 hx (hb hby at_32) rfl (pc' := 34) rfl ?_
    refine ow_iconst X0 hx (z := (3 : Int32)) (hb hby at_34) rfl (pc' := 35) rfl ?_
    refine ow_iand X0 hx (hb hby at_35) (pc' := 36) rfl (fun z3 hz3 => ?_)
    have az3 : z3.toInt = pm.toInt % 4 := by rw [hz3]; exact c_mask pm (3 : Int32) 2 (by decide) (by decide)
    have rz3 := rng32 z3
    refine ow_istore X0 hx (Ls' := #[.val (.long qp), .second, .val (.long qr), .second, .val (.int pk1), .val (.int pk2), .val (.int pm), .val (.int z2), .val (.int ii2), .val (.int z3), .unset, .unset, .unset, .unset, .unset]) (hb hby at_36) rfl (pc' := 38) rfl ?_
    have J74 : ∀ (jp2 : Int64), Ends p e below (Out s 24 128 (Q_law qp qr pk1 pk2 pm kd oc cc h0 n0)) T0 (mkF m 74 #[.val (.long qp), .second, .val (.long qr), .second, .val (.int pk1), .val (.int pk2), .val (.int pm), .val (.int z2), .val (.int ii2), .val (.int z3), .val (.long jp2), .second, .unset, .unset, .unset] []) := by
      intro jp2 
      have r_jp2 := rng64 jp2
      refine ow_new X0 hx hZ hown (hw _ (List.mem_of_getElem? (i := 1) rfl)) (hw _ (List.mem_of_getElem? (i := 2) rfl)) (hw _ (List.mem_of_getElem? (i := 3) rfl)) e0 (hb hby at_74) (by decide) (by decide) (pc' := 77) rfl (fun T4 h4 b4 g4 X4 e4 E4 A4 D4 => ?_)
      have g_b4 : n0 ≤ b4 := Nat.le_trans Z0 (Nat.le_of_eq g4.symm)
      have sz_b4 : h0.size ≤ b4 := Nat.le_trans (Keep.refl h0 []).1 (Nat.le_of_eq g4.symm)
      have Zs4 : n0 ≤ h4.size := Nat.le_trans Z0 E4.1
      have K4 := (Keep.refl h0 []).ext E4
      have F_b4_position : Fld Z h4 b4 "xlogtap/Block" "position" "J" (.long (0 : Int64)) := D4 (Or.inr (hw _ (List.mem_of_getElem? (i := 48) rfl))) (ty := .long) (by decide)
      have F_b4_kind : Fld Z h4 b4 "xlogtap/Block" "kind" "Lxlogtap/Block$Kind;" .null := D4 (Or.inr (hw _ (List.mem_of_getElem? (i := 50) rfl))) (ty := (.object "xlogtap/Block$Kind")) (by decide)
      refine ow_dup X4 hx (hb hby at_77) rfl (pc' := 78) rfl ?_
      refine ow_lloadN X4 hx (hb hby at_78) rfl (pc' := 79) rfl ?_
      refine ow_iload X4 hx (hb hby at_79) rfl (pc' := 81) rfl ?_
      refine ow_callS X4 hx hZ hown (hw _ (List.mem_of_getElem? (i := 4) rfl)) (hw _ (List.mem_of_getElem? (i := 5) rfl)) (hw _ (List.mem_of_getElem? (i := 6) rfl)) (hw _ (List.mem_of_getElem? (i := 7) rfl)) (by decide) (rm_kindAt l Z a0 hw [] z2 kd h4 n0 Zs4 (ow_staKeep S_0 K4 all0) (ow_staKeep S_1 K4 all0) (ow_staKeep S_2 K4 all0) (ow_staKeep S_3 K4 all0) (ow_staKeep S_4 K4 all0) (ow_staKeep S_5 K4 all0) (ow_staKeep S_6 K4 all0) (ow_staKeep S_7 K4 all0) (ow_staKeep S_8 K4 all0) (ow_staKeep S_9 K4 all0) (ow_staKeep S_10 K4 all0) (ow_staKeep S_11 K4 all0) (E_0.keep K4) (E_1.keep K4) (E_2.keep K4) (E_3.keep K4) (E_4.keep K4) (E_5.keep K4) (E_6.keep K4) (E_7.keep K4) (E_8.keep K4) (E_9.keep K4) (E_10.keep K4) (E_11.keep K4) (by first | decide | omega) (by first | decide | omega)) e4 4 (by decide) (by decide) (by decide) (by decide) [(.int z2)] (by rw [hml]; rfl) pd_2 rfl rfl rfl (Nat.le_of_eq rfl) (hb hby at_81) (pc' := 84) rfl (fun v5 T5 L5 hQ5 X5 => ?_)
      obtain ⟨b5, rfl, Nc5, Kc5, P5_0⟩ := hQ5
      have P5_0 : b5 = kd z2.toInt.toNat := P5_0
      have E_b4_5 := A4.keep Kc5
      have F_b4_position_5 := F_b4_position.keep Kc5 nin0
      have F_b4_kind_5 := F_b4_kind.keep Kc5 nin0
      have Zs5 : n0 ≤ T5.heap.size := Nat.le_trans Zs4 Kc5.1
      have K5 := K4.trans Kc5 all0
      have N5 := Fr.app N0 Nc5
      show Ends _ _ _ _ T5 (mkF m 84 #[.val (.long qp), .second, .val (.long qr), .second, .val (.int pk1), .val (.int pk2), .val (.int pm), .val (.int z2), .val (.int ii2), .val (.int z3), .val (.long jp2), .second, .unset, .unset, .unset] [(.ref b5), (.long qp), (.ref b4), (.ref b4)])
      refine ow_callI X5 hx hZ rfl rfl hown (hw _ (List.mem_of_getElem? (i := 36) rfl)) (hw _ (List.mem_of_getElem? (i := 37) rfl)) (hw _ (List.mem_of_getElem? (i := 3) rfl)) (hw _ (List.mem_of_getElem? (i := 38) rfl)) (by decide) (rm_blInit l Z a0 hw [] b4 qp b5 T5.heap n0 Zs5 E_b4_5 F_b4_position_5 F_b4_kind_5 g_b4) rfl 1 (by decide) (by decide) (by decide) (by decide) [(.long qp), (.ref b5)] (by rw [hml]; rfl) pd_3 rfl rfl rfl (Nat.le_of_eq rfl) (hb hby at_84) (pc' := 87) rfl (fun v6 T6 L6 hQ6 X6 => ?_)
      obtain ⟨rfl, Nc6, Kc6, P6_0, P6_1, P6_2⟩ := hQ6
      have Zs6 : n0 ≤ T6.heap.size := Nat.le_trans Zs5 Kc6.1
      have K6 := K5.trans Kc6 (allS (Or.inr sz_b4) all0)
      have N6 := Fr.app N5 Nc6
      show Ends _ _ _ _ T6 (mkF m 87 #[.val (.long qp), .second, .val (.long qr), .second, .val (.int pk1), .val (.int pk2), .val (.int pm), .val (.int z2), .val (.int ii2), .val (.int z3), .val (.long jp2), .second, .unset, .unset, .unset] [(.ref b4)])
      refine ow_astore X6 hx (Ls' := #[.val (.long qp), .second, .val (.long qr), .second, .val (.int pk1), .val (.int pk2), .val (.int pm), .val (.int z2), .val (.int ii2), .val (.int z3), .val (.long jp2), .second, .val (.ref b4), .unset, .unset]) (hb hby at_87) rfl rfl (pc' := 89) rfl ?_
      refine ow_new X6 hx hZ hown (hw _ (List.mem_of_getElem? (i := 1) rfl)) (hw _ (List.mem_of_getElem? (i := 2) rfl)) (hw _ (List.mem_of_getElem? (i := 3) rfl)) rfl (hb hby at_89) (by decide) (by decide) (pc' := 92) rfl (fun T7 h7 b7 g7 X7 e7 E7 A7 D7 => ?_)
      have ne_b4_b7 : b4 ≠ b7 := Nat.ne_of_lt (Nat.lt_of_lt_of_le P6_0.lt (Nat.le_of_eq g7.symm))
      have g_b7 : n0 ≤ b7 := Nat.le_trans Zs6 (Nat.le_of_eq g7.symm)
      have sz_b7 : h0.size ≤ b7 := Nat.le_trans K6.1 (Nat.le_of_eq g7.symm)
      have E_b4_7 := P6_0.ext E7
      have F_b4_position_7 := P6_1.ext E7
      have F_b4_kind_7 := P6_2.ext E7
      have Zs7 : n0 ≤ h7.size := Nat.le_trans Zs6 E7.1
      have K7 := K6.ext E7
      have F_b7_position : Fld Z h7 b7 "xlogtap/Block" "position" "J" (.long (0 : Int64)) := D7 (Or.inr (hw _ (List.mem_of_getElem? (i := 48) rfl))) (ty := .long) (by decide)
      have F_b7_kind : Fld Z h7 b7 "xlogtap/Block" "kind" "Lxlogtap/Block$Kind;" .null := D7 (Or.inr (hw _ (List.mem_of_getElem? (i := 50) rfl))) (ty := (.object "xlogtap/Block$Kind")) (by decide)
      refine ow_dup X7 hx (hb hby at_92) rfl (pc' := 93) rfl ?_
      refine ow_lload X7 hx (hb hby at_93) rfl (pc' := 95) rfl ?_
      refine ow_iload X7 hx (hb hby at_95) rfl (pc' := 97) rfl ?_
      refine ow_callS X7 hx hZ hown (hw _ (List.mem_of_getElem? (i := 4) rfl)) (hw _ (List.mem_of_getElem? (i := 5) rfl)) (hw _ (List.mem_of_getElem? (i := 6) rfl)) (hw _ (List.mem_of_getElem? (i := 7) rfl)) (by decide) (rm_kindAt l Z a0 hw [] ii2 kd h7 n0 Zs7 (ow_staKeep S_0 K7 all0) (ow_staKeep S_1 K7 all0) (ow_staKeep S_2 K7 all0) (ow_staKeep S_3 K7 all0) (ow_staKeep S_4 K7 all0) (ow_staKeep S_5 K7 all0) (ow_staKeep S_6 K7 all0) (ow_staKeep S_7 K7 all0) (ow_staKeep S_8 K7 all0) (ow_staKeep S_9 K7 all0) (ow_staKeep S_10 K7 all0) (ow_staKeep S_11 K7 all0) (E_0.keep K7) (E_1.keep K7) (E_2.keep K7) (E_3.keep K7) (E_4.keep K7) (E_5.keep K7) (E_6.keep K7) (E_7.keep K7) (E_8.keep K7) (E_9.keep K7) (E_10.keep K7) (E_11.keep K7) (by first | decide | omega) (by first | decide | omega)) e7 4 (by decide) (by decide) (by decide) (by decide) [(.int ii2)] (by rw [hml]; rfl) pd_2 rfl rfl rfl (Nat.le_of_eq rfl) (hb hby at_97) (pc' := 100) rfl (fun v8 T8 L8 hQ8 X8 => ?_)
      obtain ⟨b8, rfl, Nc8, Kc8, P8_0⟩ := hQ8
      have P8_0 : b8 = kd ii2.toInt.toNat := P8_0
      have E_b4_8 := E_b4_7.keep Kc8
      have F_b4_position_8 := F_b4_position_7.keep Kc8 nin0
      have F_b4_kind_8 := F_b4_kind_7.keep Kc8 nin0
      have E_b7_8 := A7.keep Kc8
      have F_b7_position_8 := F_b7_position.keep Kc8 nin0
      have F_b7_kind_8 := F_b7_kind.keep Kc8 nin0
      have Zs8 : n0 ≤ T8.heap.size := Nat.le_trans Zs7 Kc8.1
      have K8 := K7.trans Kc8 all0
      have N8 := Fr.app N6 Nc8
      show Ends _ _ _ _ T8 (mkF m 100 #[.val (.long qp), .second, .val (.long qr), .second, .val (.int pk1), .val (.int pk2), .val (.int pm), .val (.int z2), .val (.int ii2), .val (.int z3), .val (.long jp2), .second, .val (.ref b4), .unset, .unset] [(.ref b8), (.long jp2), (.ref b7), (.ref b7)])
      refine ow_callI X8 hx hZ rfl rfl hown (hw _ (List.mem_of_getElem? (i := 36) rfl)) (hw _ (List.mem_of_getElem? (i := 37) rfl)) (hw _ (List.mem_of_getElem? (i := 3) rfl)) (hw _ (List.mem_of_getElem? (i := 38) rfl)) (by decide) (rm_blInit l Z a0 hw [] b7 jp2 b8 T8.heap n0 Zs8 E_b7_8 F_b7_position_8 F_b7_kind_8 g_b7) rfl 1 (by decide) (by decide) (by decide) (by decide) [(.long jp2), (.ref b8)] (by rw [hml]; rfl) pd_3 rfl rfl rfl (Nat.le_of_eq rfl) (hb hby at_100) (pc' := 103) rfl (fun v9 T9 L9 hQ9 X9 => ?_)
      obtain ⟨rfl, Nc9, Kc9, P9_0, P9_1, P9_2⟩ := hQ9
      have E_b4_9 := E_b4_8.keep Kc9
      have F_b4_position_9 := F_b4_position_8.keep Kc9 (ninS ne_b4_b7 nin0)
      have F_b4_kind_9 := F_b4_kind_8.keep Kc9 (ninS ne_b4_b7 nin0)
      have Zs9 : n0 ≤ T9.heap.size := Nat.le_trans Zs8 Kc9.1
      have K9 := K8.trans Kc9 (allS (Or.inr sz_b7) all0)
      have N9 := Fr.app N8 Nc9
      show Ends _ _ _ _ T9 (mkF m 103 #[.val (.long qp), .second, .val (.long qr), .second, .val (.int pk1), .val (.int pk2), .val (.int pm), .val (.int z2), .val (.int ii2), .val (.int z3), .val (.long jp2), .second, .val (.ref b4), .unset, .unset] [(.ref b7)])
      refine ow_astore X9 hx (Ls' := #[.val (.long qp), .second, .val (.long qr), .second, .val (.int pk1), .val (.int pk2), .val (.int pm), .val (.int z2), .val (.int ii2), .val (.int z3), .val (.long jp2), .second, .val (.ref b4), .val (.ref b7), .unset]) (hb hby at_103) rfl rfl (pc' := 105) rfl ?_
      have hk21 : b8 = b5 ↔ ii2.toInt = z2.toInt := by rw [P8_0, P5_0]; exact ⟨fun q => by have w := hinj _ _ (by omega) (by omega) q; omega, fun q => by rw [q]⟩
      have hk12 : b5 = b8 ↔ z2.toInt = ii2.toInt := by rw [P5_0, P8_0]; exact ⟨fun q => by have w := hinj _ _ (by omega) (by omega) q; omega, fun q => by rw [q]⟩
      have hk11 : b5 = b5 ↔ z2.toInt = z2.toInt := ⟨fun _ => rfl, fun _ => rfl⟩
      have J124 : ∀ (ie : Int32), (((qp.toInt = jp2.toInt ∧ z2.toInt = ii2.toInt) ∧ ie.toInt = 1) ∨ (¬ (qp.toInt = jp2.toInt ∧ z2.toInt = ii2.toInt) ∧ ie.toInt = 0)) → Ends p e below (Out s 24 128 (Q_law qp qr pk1 pk2 pm kd oc cc h0 n0)) T9 (mkF m 124 #[.val (.long qp), .second, .val (.long qr), .second, .val (.int pk1), .val (.int pk2), .val (.int pm), .val (.int z2), .val (.int ii2), .val (.int z3), .val (.long jp2), .second, .val (.ref b4), .val (.ref b7), .unset] [(.int ie)]) := by
        intro ie hi124
        have r_ie := rng32 ie
        refine ow_istore X9 hx (Ls' := #[.val (.long qp), .second, .val (.long qr), .second, .val (.int pk1), .val (.int pk2), .val (.int pm), .val (.int z2), .val (.int ii2), .val (.int z3), .val (.long jp2), .second, .val (.ref b4), .val (.ref b7), .val (.int ie)]) (hb hby at_124) rfl (pc' := 126) rfl ?_
        refine ow_aload X9 hx (hb hby at_126) rfl rfl (pc' := 128) rfl ?_
        refine ow_aload X9 hx (hb hby at_128) rfl rfl (pc' := 130) rfl ?_
        refine ow_callVPI X9 hx hZ rfl hown (hw _ (List.mem_of_getElem? (i := 51) rfl)) (hw _ (List.mem_of_getElem? (i := 52) rfl)) (hw _ (List.mem_of_getElem? (i := 54) rfl)) (hw _ (List.mem_of_getElem? (i := 53) rfl)) (hw _ (List.mem_of_getElem? (i := 3) rfl)) (hw _ (List.mem_of_getElem? (i := 55) rfl)) (by decide) (rm_eqB l Z a0 hw [] b4 b7 qp b5 jp2 b8 T9.heap F_b4_position_9 F_b4_kind_9 P9_0 P9_1 P9_2) rfl 0 (by decide) (by decide) (by decide) (by decide) [(.ref b7)] (by rw [hml]; rfl) pd_4 rfl E_b4_9 rfl rfl (Nat.le_of_eq rfl) (hb hby at_130) (pc' := 133) rfl (fun z10 T10 hz10 X10 e10 => ?_)
        have az10 : ((jp2.toInt = qp.toInt ∧ b8 = b5) ∧ z10.toInt = 1) ∨ (¬ (jp2.toInt = qp.toInt ∧ b8 = b5) ∧ z10.toInt = 0) := hz10
        have rz10 := rng32 z10
        rw [hk21] at az10
        refine ow_iload X10 hx (hb hby at_133) rfl (pc' := 135) rfl ?_
        refine ow_icmp_ne X10 hx (z10.toInt) (ie.toInt) (hb hby at_135) rfl rfl (by decide) (pt := 185) (by decide) (pf := 138) rfl (fun c135 => absurd c135 (by omega)) (fun c135 => ?_)
        refine ow_aload X10 hx (hb hby at_138) rfl rfl (pc' := 140) rfl ?_
        refine ow_aload X10 hx (hb hby at_140) rfl rfl (pc' := 142) rfl ?_
        refine ow_callVPI X10 hx hZ rfl hown (hw _ (List.mem_of_getElem? (i := 51) rfl)) (hw _ (List.mem_of_getElem? (i := 52) rfl)) (hw _ (List.mem_of_getElem? (i := 54) rfl)) (hw _ (List.mem_of_getElem? (i := 53) rfl)) (hw _ (List.mem_of_getElem? (i := 3) rfl)) (hw _ (List.mem_of_getElem? (i := 55) rfl)) (by decide) (rm_eqB l Z a0 hw [] b7 b4 jp2 b8 qp b5 T9.heap P9_1 P9_2 E_b4_9 F_b4_position_9 F_b4_kind_9) e10 0 (by decide) (by decide) (by decide) (by decide) [(.ref b4)] (by rw [hml]; rfl) pd_4 rfl P9_0 rfl rfl (Nat.le_of_eq rfl) (hb hby at_142) (pc' := 145) rfl (fun z11 T11 hz11 X11 e11 => ?_)
        have az11 : ((qp.toInt = jp2.toInt ∧ b5 = b8) ∧ z11.toInt = 1) ∨ (¬ (qp.toInt = jp2.toInt ∧ b5 = b8) ∧ z11.toInt = 0) := hz11
        have rz11 := rng32 z11
        rw [hk12] at az11
        refine ow_iload X11 hx (hb hby at_145) rfl (pc' := 147) rfl ?_
        refine ow_icmp_ne X11 hx (z11.toInt) (ie.toInt) (hb hby at_147) rfl rfl (by decide) (pt := 185) (by decide) (pf := 150) rfl (fun c147 => absurd c147 (by omega)) (fun c147 => ?_)
        refine ow_aload X11 hx (hb hby at_150) rfl rfl (pc' := 152) rfl ?_
        refine ow_aload X11 hx (hb hby at_152) rfl rfl (pc' := 154) rfl ?_
        refine ow_callVPI X11 hx hZ rfl hown (hw _ (List.mem_of_getElem? (i := 51) rfl)) (hw _ (List.mem_of_getElem? (i := 52) rfl)) (hw _ (List.mem_of_getElem? (i := 54) rfl)) (hw _ (List.mem_of_getElem? (i := 53) rfl)) (hw _ (List.mem_of_getElem? (i := 3) rfl)) (hw _ (List.mem_of_getElem? (i := 55) rfl)) (by decide) (rm_eqB l Z a0 hw [] b4 b4 qp b5 qp b5 T9.heap F_b4_position_9 F_b4_kind_9 E_b4_9 F_b4_position_9 F_b4_kind_9) e11 0 (by decide) (by decide) (by decide) (by decide) [(.ref b4)] (by rw [hml]; rfl) pd_4 rfl E_b4_9 rfl rfl (Nat.le_of_eq rfl) (hb hby at_154) (pc' := 157) rfl (fun z12 T12 hz12 X12 e12 => ?_)
        have az12 : ((qp.toInt = qp.toInt ∧ b5 = b5) ∧ z12.toInt = 1) ∨ (¬ (qp.toInt = qp.toInt ∧ b5 = b5) ∧ z12.toInt = 0) := hz12
        have rz12 := rng32 z12
        rw [hk11] at az12
        refine ow_if_eq X12 hx (z12.toInt) (hb hby at_157) rfl (by decide) (pt := 185) (by decide) (pf := 160) rfl (fun c157 => absurd c157 (by omega)) (fun c157 => ?_)
        refine ow_aload X12 hx (hb hby at_160) rfl rfl (pc' := 162) rfl ?_
        refine ow_aconstNull X12 hx (hb hby at_162) (pc' := 163) rfl ?_
        refine ow_callVPI X12 hx hZ rfl hown (hw _ (List.mem_of_getElem? (i := 51) rfl)) (hw _ (List.mem_of_getElem? (i := 52) rfl)) (hw _ (List.mem_of_getElem? (i := 54) rfl)) (hw _ (List.mem_of_getElem? (i := 53) rfl)) (hw _ (List.mem_of_getElem? (i := 3) rfl)) (hw _ (List.mem_of_getElem? (i := 55) rfl)) (by decide) (rm_eqN l Z a0 hw [] b4 T9.heap ) e12 0 (by decide) (by decide) (by decide) (by decide) [.null] (by rw [hml]; rfl) pd_4 rfl E_b4_9 rfl rfl (Nat.le_of_eq rfl) (hb hby at_163) (pc' := 166) rfl (fun z13 T13 hz13 X13 e13 => ?_)
        have az13 : z13.toInt = 0 := hz13
        have rz13 := rng32 z13
        refine ow_if_ne X13 hx (z13.toInt) (hb hby at_166) rfl (by decide) (pt := 185) (by decide) (pf := 169) rfl (fun c166 => absurd c166 (by omega)) (fun c166 => ?_)
        refine ow_aload X13 hx (hb hby at_169) rfl rfl (pc' := 171) rfl ?_
        refine ow_lloadN X13 hx (hb hby at_171) rfl (pc' := 172) rfl ?_
        refine ow_callS X13 hx hZ hown (hw _ (List.mem_of_getElem? (i := 58) rfl)) (hw _ (List.mem_of_getElem? (i := 59) rfl)) (hw _ (List.mem_of_getElem? (i := 60) rfl)) (hw _ (List.mem_of_getElem? (i := 61) rfl)) (by decide) (rm_valueOf l Z a0 hw [] qp oc cc T9.heap n0 Zs9 (ow_staKeep S_c K9 all0) Ac hc256 hcache (KZ.trans K9 all0)) e13 1 (by decide) (by decide) (by decide) (by decide) [(.long qp)] (by rw [hml]; rfl) pd_5 rfl rfl rfl (Nat.le_of_eq rfl) (hb hby at_172) (pc' := 175) rfl (fun v14 T14 L14 hQ14 X14 => ?_)
        obtain ⟨b14, rfl, Nc14, Kc14, P14_0⟩ := hQ14
        have E_b4_14 := E_b4_9.keep Kc14
        have F_b4_position_14 := F_b4_position_9.keep Kc14 nin0
        have F_b4_kind_14 := F_b4_kind_9.keep Kc14 nin0
        have E_b7_14 := P9_0.keep Kc14
        have F_b7_position_14 := P9_1.keep Kc14 nin0
        have F_b7_kind_14 := P9_2.keep Kc14 nin0
        have Zs14 : n0 ≤ T14.heap.size := Nat.le_trans Zs9 Kc14.1
        have K14 := K9.trans Kc14 all0
        have N14 := Fr.app N9 Nc14
        show Ends _ _ _ _ T14 (mkF m 175 #[.val (.long qp), .second, .val (.long qr), .second, .val (.int pk1), .val (.int pk2), .val (.int pm), .val (.int z2), .val (.int ii2), .val (.int z3), .val (.long jp2), .second, .val (.ref b4), .val (.ref b7), .val (.int ie)] [(.ref b14), (.ref b4)])
        refine ow_callVPI X14 hx hZ rfl hown (hw _ (List.mem_of_getElem? (i := 51) rfl)) (hw _ (List.mem_of_getElem? (i := 52) rfl)) (hw _ (List.mem_of_getElem? (i := 54) rfl)) (hw _ (List.mem_of_getElem? (i := 53) rfl)) (hw _ (List.mem_of_getElem? (i := 3) rfl)) (hw _ (List.mem_of_getElem? (i := 55) rfl)) (by decide) (rm_eqL l Z a0 hw [] b4 b14 T14.heap P14_0) rfl 0 (by decide) (by decide) (by decide) (by decide) [(.ref b14)] (by rw [hml]; rfl) pd_4 rfl E_b4_14 rfl rfl (Nat.le_of_eq rfl) (hb hby at_175) (pc' := 178) rfl (fun z15 T15 hz15 X15 e15 => ?_)
        have az15 : z15.toInt = 0 := hz15
        have rz15 := rng32 z15
        refine ow_if_ne X15 hx (z15.toInt) (hb hby at_178) rfl (by decide) (pt := 185) (by decide) (pf := 181) rfl (fun c178 => absurd c178 (by omega)) (fun c178 => ?_)
        refine ow_iconst X15 hx (z := (1 : Int32)) (hb hby at_181) rfl (pc' := 182) rfl ?_
        refine ow_goto X15 hx (hb hby at_182) (by decide) (pc' := 186) (by decide) ?_
        exact ow_retB X15 hx hret hlk (hb hby at_186) (by decide) (by decide) (z' := (1 : Int32)) rfl ⟨rfl, N14⟩
      refine ow_lloadN X9 hx (hb hby at_105) rfl (pc' := 106) rfl ?_
      refine ow_lload X9 hx (hb hby at_106) rfl (pc' := 108) rfl ?_
      refine ow_lcmp X9 hx (hb hby at_108) (pc' := 109) rfl (fun z16 hz16 => ?_)
      have az16 : (qp.toInt < jp2.toInt → z16.toInt = -1) ∧ (qp.toInt = jp2.toInt → z16.toInt = 0) ∧ (jp2.toInt < qp.toInt → z16.toInt = 1) := by rw [hz16]; exact c_lcmp qp jp2
      have rz16 := rng32 z16
      refine ow_if_ne X9 hx (z16.toInt) (hb hby at_109) rfl (by decide) (pt := 123) (by decide) (pf := 112) rfl (fun c109 => ?_) (fun c109 => ?_)
      · refine ow_iconst X9 hx (z := (0 : Int32)) (hb hby at_123) rfl (pc' := 124) rfl ?_
        exact J124 (0 : Int32) (show ((qp.toInt = jp2.toInt ∧ z2.toInt = ii2.toInt) ∧ (0 : Int) = 1) ∨ (¬ (qp.toInt = jp2.toInt ∧ z2.toInt = ii2.toInt) ∧ (0 : Int) = 0) from by omega)
      · refine ow_iload X9 hx (hb hby at_112) rfl (pc' := 114) rfl ?_
        refine ow_iload X9 hx (hb hby at_114) rfl (pc' := 116) rfl ?_
        refine ow_icmp_ne X9 hx (z2.toInt) (ii2.toInt) (hb hby at_116) rfl rfl (by decide) (pt := 123) (by decide) (pf := 119) rfl (fun c116 => ?_) (fun c116 => ?_)
        · refine ow_iconst X9 hx (z := (0 : Int32)) (hb hby at_123) rfl (pc' := 124) rfl ?_
          exact J124 (0 : Int32) (show ((qp.toInt = jp2.toInt ∧ z2.toInt = ii2.toInt) ∧ (0 : Int) = 1) ∨ (¬ (qp.toInt = jp2.toInt ∧ z2.toInt = ii2.toInt) ∧ (0 : Int) = 0) from by omega)
        · refine ow_iconst X9 hx (z := (1 : Int32)) (hb hby at_119) rfl (pc' := 120) rfl ?_
          refine ow_goto X9 hx (hb hby at_120) (by decide) (pc' := 124) (by decide) ?_
          exact J124 (1 : Int32) (show ((qp.toInt = jp2.toInt ∧ z2.toInt = ii2.toInt) ∧ (1 : Int) = 1) ∨ (¬ (qp.toInt = jp2.toInt ∧ z2.toInt = ii2.toInt) ∧ (1 : Int) = 0) from by omega)
    refine ow_iload X0 hx (hb hby at_38) rfl (pc' := 40) rfl ?_
    refine ow_iconst X0 hx (z := (1 : Int32)) (hb hby at_40) rfl (pc' := 41) rfl ?_
    refine ow_icmp_ne X0 hx (z3.toInt) ((1 : Int)) (hb hby at_41) rfl rfl (by decide) (pt := 50) (by decide) (pf := 44) rfl (fun c41 => ?_) (fun c41 => ?_)
    · refine ow_iload X0 hx (hb hby at_50) rfl (pc' := 52) rfl ?_
      refine ow_iconst X0 hx (z := (2 : Int32)) (hb hby at_52) rfl (pc' := 53) rfl ?_
      refine ow_icmp_ne X0 hx (z3.toInt) ((2 : Int)) (hb hby at_53) rfl rfl (by decide) (pt := 71) (by decide) (pf := 56) rfl (fun c53 => ?_) (fun c53 => ?_)
      · refine ow_lloadN X0 hx (hb hby at_71) rfl (pc' := 72) rfl ?_
        refine ow_lstore X0 hx (Ls' := #[.val (.long qp), .second, .val (.long qr), .second, .val (.int pk1), .val (.int pk2), .val (.int pm), .val (.int z2), .val (.int ii2), .val (.int z3), .val (.long qp), .second, .unset, .unset, .unset]) (hb hby at_72) rfl (pc' := 74) rfl ?_
        exact J74 qp
      · refine ow_lloadN X0 hx (hb hby at_56) rfl (pc' := 57) rfl ?_
        refine ow_lconst X0 hx (z := (1 : Int64)) (hb hby at_57) rfl (pc' := 58) rfl ?_
        refine ow_lloadN X0 hx (hb hby at_58) rfl (pc' := 59) rfl ?_
        refine ow_ldc2Long X0 hx hZ hown (hw _ (List.mem_of_getElem? (i := 84) rfl)) (hb hby at_59) (pc' := 62) rfl ?_
        refine ow_land X0 hx (hb hby at_62) (pc' := 63) rfl (fun z17 hz17 => ?_)
        have az17 : z17.toInt = qr.toInt % 64 := by rw [hz17]; exact c_maskL qr (63 : Int64) 6 (by decide) (by decide)
        have rz17 := rng64 z17
        refine ow_l2i X0 hx (hb hby at_63) (pc' := 64) rfl (fun z18 hz18 => ?_)
        have az18 : (z18.toInt - z17.toInt) % 4294967296 = 0 := by rw [hz18]; exact c_l2i z17
        have rz18 := rng32 z18
        refine ow_lshl X0 hx (hb hby at_64) (pc' := 65) rfl (fun z19 hz19 => ?_)
        have rz19 := rng64 z19
        refine ow_lxor X0 hx (hb hby at_65) (pc' := 66) rfl (fun z20 hz20 => ?_)
        have rz20 := rng64 z20
        refine ow_lstore X0 hx (Ls' := #[.val (.long qp), .second, .val (.long qr), .second, .val (.int pk1), .val (.int pk2), .val (.int pm), .val (.int z2), .val (.int ii2), .val (.int z3), .val (.long z20), .second, .unset, .unset, .unset]) (hb hby at_66) rfl (pc' := 68) rfl ?_
        refine ow_goto X0 hx (hb hby at_68) (by decide) (pc' := 74) (by decide) ?_
        exact J74 z20
    · refine ow_lloadN X0 hx (hb hby at_44) rfl (pc' := 45) rfl ?_
      refine ow_lstore X0 hx (Ls' := #[.val (.long qp), .second, .val (.long qr), .second, .val (.int pk1), .val (.int pk2), .val (.int pm), .val (.int z2), .val (.int ii2), .val (.int z3), .val (.long qr), .second, .unset, .unset, .unset]) (hb hby at_45) rfl (pc' := 47) rfl ?_
      refine ow_goto X0 hx (hb hby at_47) (by decide) (pc' := 74) (by decide) ?_
      exact J74 qr
  refine ow_iload X0 hx (hb hby at_10) rfl (pc' := 12) rfl ?_
  refine ow_iconst X0 hx (z := (4 : Int32)) (hb hby at_12) rfl (pc' := 13) rfl ?_
  refine ow_iand X0 hx (hb hby at_13) (pc' := 14) rfl (fun z21 hz21 => ?_)
  have az21 : z21.toInt = (((pm.toInt % 256).toNat / 4 % 2 * 4 : Nat) : Int) := by rw [hz21]; exact ow_lowbits pm (4 : Int32) (fun r => ((r / 4 % 2 * 4 : Nat) : Int)) (by decide) (by decide +kernel)
  have rz21 := rng32 z21
  refine ow_if_eq X0 hx (z21.toInt) (hb hby at_14) rfl (by decide) (pt := 22) (by decide) (pf := 17) rfl (fun c14 => ?_) (fun c14 => ?_)
  · refine ow_iload X0 hx (hb hby at_22) rfl (pc' := 24) rfl ?_
    refine ow_ldcInt X0 hx hZ hown (hw _ (List.mem_of_getElem? (i := 0) rfl)) (hb hby at_24) (pc' := 26) rfl ?_
    refine ow_iand X0 hx (hb hby at_26) (pc' := 27) rfl (fun z22 hz22 => ?_)
    have az22 : z22.toInt = pk2.toInt % 2147483648 := by rw [hz22]; exact c_mask pk2 (2147483647 : Int32) 31 (by decide) (by decide)
    have rz22 := rng32 z22
    refine ow_bipush X0 hx (z := (12 : Int32)) (hb hby at_27) rfl (pc' := 29) rfl ?_
    refine ow_irem X0 hx (hb hby at_29) (by decide) (pc' := 30) rfl (fun z23 hz23 => ?_)
    have az23 : (0 ≤ z22.toInt → z23.toInt = z22.toInt % 12) ∧ (z22.toInt < 0 → z23.toInt = -((-z22.toInt) % 12)) := by rw [hz23]; exact c_irem z22 (12 : Int32) 12 rfl
    have rz23 := rng32 z23
    exact J30 z23 (show 0 ≤ z23.toInt ∧ z23.toInt < 12 from by omega)
  · refine ow_iload X0 hx (hb hby at_17) rfl (pc' := 19) rfl ?_
    refine ow_goto X0 hx (hb hby at_19) (by decide) (pc' := 30) (by decide) ?_
    exact J30 z2 (show 0 ≤ z2.toInt ∧ z2.toInt < 12 from by omega)
set_option maxRecDepth 65536 in
set_option maxHeartbeats 40000000 in
theorem comes_1 {Post : Tables → Env → Array Value → State → Outcome → State → Prop} (hpost : ∀ tb e args s v u, (limb_1_1.after args s (.returned v) u = true ∧ limb_1_2.after args s (.returned v) u = true ∧ True) → FrameEnd s (.returned v) u (Jvm.fieldLocs frame_1_writes args s ++ Jvm.arrayLocs frame_1_arrays args s ++ Jvm.staticLocs frame_1_statics s) 24 128 → Post tb e args s (.returned v) u) :
    ArmFor flags0 classFile x code maxLocals ret World_1 tables_1 room_1 Calls_1 rest_1 Pre_1 Post := by
  intro l hfl _ _ p e ha hc hk s m args below hf hA hF happ hP
  obtain ⟨hcalls, hrest, hpre⟩ := hP
  obtain ⟨-, -, -, hnamed, -, -, -, hat⟩ := (Spec.applies_iff hf).mp happ
  obtain ⟨hg, hn⟩ := and_e (Cond.before_iff.mp (show (Jvm.Cond.and given_1 narrow_1).before args s = true from hpre))
  obtain ⟨gc, gr0⟩ := and_e hg
  obtain ⟨ga0, gr1⟩ := and_e gr0
  obtain ⟨ga1, gr2⟩ := and_e gr1
  obtain ⟨ga2, gr3⟩ := and_e gr2
  obtain ⟨ga3, ga4⟩ := and_e gr3
  obtain ⟨w0, w1, w2, w3, w4, rfl⟩ : ∃ w0 w1 w2 w3 w4 : Value, args = #[w0, w1, w2, w3, w4] := by
    have hs : args.size = 5 := by simpa [Cond.value, given_1] using gc
    obtain ⟨L⟩ := args
    match L, hs with
    | [w0, w1, w2, w3, w4], _ => exact ⟨w0, w1, w2, w3, w4, rfl⟩
  have hw := fun d (hd : d ∈ tables_1) => atoms_spec (ws := Jvm.Cond.code x code maxLocals ret :: tables_1) hat d (List.mem_cons_of_mem _ hd)
  have hfit : Fit s := fun {y c} hc i hi => by
    obtain ⟨ha, rfl⟩ := Array.getElem?_eq_some_iff.mp hc
    have q := List.all_eq_true.mp ((Array.all_eq_true_iff_forall_mem.mp hF) _ (Array.getElem_mem ha)) i (List.mem_range.mpr hi)
    simpa [Array.getElem?_eq_getElem hi] using q
  obtain ⟨hsets, hown0⟩ := atoms_of _ (rest_1_c_eq ▸ (show rest_1_c.before _ s = true from hrest))
  have hr0 := Cond.before_iff.mp hown0
  obtain ⟨i0, ei0⟩ := isL_v ga0
  obtain rfl : w0 = (.long i0) := Option.some.inj ei0
  obtain ⟨i1, ei1⟩ := isL_v ga1
  obtain rfl : w1 = (.long i1) := Option.some.inj ei1
  obtain ⟨i2, ei2⟩ := is_v ga2
  obtain rfl : w2 = (.int i2) := Option.some.inj ei2
  obtain ⟨i3, ei3⟩ := is_v ga3
  obtain rfl : w3 = (.int i3) := Option.some.inj ei3
  obtain ⟨i4, ei4⟩ := is_v ga4
  obtain rfl : w4 = (.int i4) := Option.some.inj ei4
  obtain ⟨kd, ⟨S0, S1, S2, S3, S4, S5, S6, S7, S8, S9, S10, S11⟩, ⟨E0, E1, E2, E3, E4, E5, E6, E7, E8, E9, E10, E11⟩, hinj⟩ := kinds_start hw hn
  obtain ⟨oc, cc, Sc, Ac, hc256, hcache⟩ := cache_start hsets
  obtain ⟨n, o, h1, h2, h3, _, L, rfl, ⟨rfl, N⟩, hq⟩ := rm_law l s _ hw tables_1 i0 i1 i2 i3 i4 kd oc cc s.heap s.heap.size (Nat.le_refl _) S0 S1 S2 S3 S4 S5 S6 S7 S8 S9 S10 S11 E0 E1 E2 E3 E4 E5 E6 E7 E8 E9 E10 E11 hinj Sc Ac hc256 hcache (Keep.refl _ _) p e ha hc hk s m _ below hf ((Spec.applies_iff_loose hf).mp happ).1 ⟨rfl, State.Warmed39.refl s, rfl⟩ trivial
  refine ⟨n, _, h1, h2, h3, hpost _ _ _ _ _ _ ⟨Cond.after_iff.mpr rfl, Cond.after_iff.mpr (eq_i res_at (Term.int_eval (1)) rfl), trivial⟩ ⟨hq.1, hq.2.1, (hq.2.2.sift fun y hy => Or.inr (N y hy)).mono (by decide) (by decide)⟩⟩
theorem main_1_1 : Claimed_1_1 := comes_1 fun _ _ _ _ _ _ h hF => ⟨h.1, hF⟩
theorem main_1_2 : Claimed_1_2 := comes_1 fun _ _ _ _ _ _ h hF => ⟨h.2.1, hF⟩
end Jvm.Pilot.@@N@@
namespace Jvm.Pilot.@@N@@
open Jvm Jvm.ClassFile Sem Op Lib Jvm.Free Jvm.Stand Jvm.Pilot.@@N@@.Jvm.D
/-! MADE BY PROGRAM (witnessworld.py) out of the Statement's table words and the real class files: 20 classes; the members and pool entries that the words name. The judged class is class 1, her method 2. -/
namespace start1
open Jvm.ClassFile
def u (s : String) : CpInfo := .utf8 (stringToUtf16 s)
/-- a pool by its gaps: so many unusable entries, then the entry; so many at the end -/
def gap : Nat → List CpInfo → List CpInfo
  | 0, r => r
  | n + 1, r => .unusable :: gap n r
def poolList (es : List (Nat × CpInfo)) (last : Nat) : List CpInfo := es.foldr (fun e r => gap e.1 (e.2 :: r)) (gap last [])
def pool (es : List (Nat × CpInfo)) (last : Nat) : Array CpInfo := ⟨poolList es last⟩
def fileOf (pool : Array CpInfo) (this : Nat) (attrs : Array Attribute := #[]) (ms : Array MethodInfo := #[]) (fl : Nat := 33) (sup : Nat := 0) (ifs : Array Nat := #[]) (fds : Array FieldInfo := #[]) : ClassFile where
  minorVersion := 0
  majorVersion := 65
  constantPool := pool
  accessFlags := fl
  thisClass := this
  superClass := sup
  interfaces := ifs
  fields := fds
  methods := ms
  attributes := attrs
def plain (name : String) (sup : Option ClassId) : Class where
  name := name
  kind := .ordinary
  loader := none
  accessFlags := 33
  super := sup
  interfaces := #[]
  cf := none
  fields := #[]
  methods := #[]
  instanceTypes := #[]
  staticTypes := #[]
  resolved := #[]
  callSites := []
  init := .initialized
  statics := none
  mirror := none

def pool0 : Array CpInfo := pool [(5, u "<init>"), (0, u "()V"), (1, .class_ 10), (1, u "java/lang/Object")] 113

def k0c0 : Code := { maxStack := 0, maxLocals := 1, code := object_method_1_code, exceptionTable := #[], attributes := #[] }
def k0m0 : Method := { name := "<init>", desc := "()V", sig := { parameters := [], returnType := none }, accessFlags := 1, code := some k0c0 }
/-- java/lang/Object -/
def k0 : Class := { plain "java/lang/Object" none with
  accessFlags := 33
  interfaces := #[]
  cf := some (fileOf pool0 8 #[] #[{ accessFlags := 1, nameIndex := 5, descriptorIndex := 6, attributes := #[] }] 33 0 #[] #[])
  fields := #[]
  methods := #[k0m0]
  instanceTypes := #[]
  staticTypes := #[]
  resolved := Array.replicate 124 none
  statics := none }

def pool1 : Array CpInfo := pool [(2, .class_ 4), (1, u "java/lang/Object"), (0, u "<init>"), (0, u "()V"), (0, .class_ 8), (0, u "xlogtap/Block$Kind"), (0, .fieldref 7 10), (0, .nameAndType 11 12), (0, u "COPY"), (0, u "Lxlogtap/Block$Kind;"), (0, .fieldref 7 14), (0, .nameAndType 15 12), (0, u "RESYNC"), (0, .fieldref 7 17), (0, .nameAndType 18 12), (0, u "MESSAGE"), (0, .fieldref 7 20), (0, .nameAndType 21 12), (0, u "TRANSACTION"), (0, .fieldref 7 23), (0, .nameAndType 24 12), (0, u "PREPARED_TRANSACTION"), (0, .fieldref 7 26), (0, .nameAndType 27 12), (0, u "COMMIT_PREPARED"), (0, .fieldref 7 29), (0, .nameAndType 30 12), (0, u "ROLLBACK_PREPARED"), (0, .fieldref 7 32), (0, .nameAndType 33 12), (0, u "TABLE_COPY"), (0, .fieldref 7 35), (0, .nameAndType 36 12), (0, u "PARTED_COPY_BEGIN"), (0, .fieldref 7 38), (0, .nameAndType 39 12), (0, u "PARTITION_COPY_BEGIN"), (0, .fieldref 7 41), (0, .nameAndType 42 12), (0, u "TABLE_PART"), (0, .fieldref 7 44), (0, .nameAndType 45 12), (0, u "PARTED_COPY_END"), (0, .integer 2147483647), (0, .long 63), (1, .class_ 50), (0, u "xlogtap/Block"), (0, .methodref 52 53), (0, .class_ 54), (0, .nameAndType 55 56), (0, u "xlogtap/BlockEqualsPinLaw"), (0, u "kindAt"), (0, u "(I)Lxlogtap/Block$Kind;"), (0, .methodref 49 58), (0, .nameAndType 5 59), (0, u "(JLxlogtap/Block$Kind;)V"), (0, .methodref 49 61), (0, .nameAndType 62 63), (0, u "equals"), (0, u "(Ljava/lang/Object;)Z"), (0, .methodref 65 66), (0, .class_ 67), (0, .nameAndType 68 69), (0, u "java/lang/Long"), (0, u "valueOf"), (0, u "(J)Ljava/lang/Long;"), (2, u "law"), (0, u "(JJIII)Z")] 5

def k1m0 : Method := { name := "<init>", desc := "()V", sig := { parameters := [], returnType := none }, accessFlags := 1, code := none }
def k1c1 : Code := { maxStack := 4, maxLocals := 2, code := method_2_code, exceptionTable := #[], attributes := #[] }
def k1m1 : Method := { name := "kindAt", desc := "(I)Lxlogtap/Block$Kind;", sig := { parameters := [.int], returnType := some (.object "xlogtap/Block$Kind") }, accessFlags := 10, code := some k1c1 }
def k1c2 : Code := { maxStack := 8, maxLocals := 15, code := code, exceptionTable := #[], attributes := #[] }
def k1m2 : Method := { name := "law", desc := "(JJIII)Z", sig := { parameters := [.long, .long, .int, .int, .int], returnType := some .boolean }, accessFlags := 9, code := some k1c2 }
/-- xlogtap/BlockEqualsPinLaw -/
def k1 : Class := { plain "xlogtap/BlockEqualsPinLaw" (some 0) with
  accessFlags := 49
  interfaces := #[]
  cf := some (fileOf pool1 52 #[] #[{ accessFlags := 1, nameIndex := 5, descriptorIndex := 6, attributes := #[] }, { accessFlags := 10, nameIndex := 55, descriptorIndex := 56, attributes := #[] }, { accessFlags := 9, nameIndex := 72, descriptorIndex := 73, attributes := #[] }] 49 2 #[] #[])
  fields := #[]
  methods := #[k1m0, k1m1, k1m2]
  instanceTypes := #[]
  staticTypes := #[]
  resolved := Array.replicate 79 none
  statics := none }

def pool2 : Array CpInfo := pool [(1, .methodref 2 3), (0, .class_ 4), (0, .nameAndType 5 6), (0, u "java/lang/Object"), (0, u "<init>"), (0, u "()V"), (0, .class_ 8), (0, u "java/lang/Record")] 13

def k2c0 : Code := { maxStack := 1, maxLocals := 1, code := jdk_30_method_1_code, exceptionTable := #[], attributes := #[] }
def k2m0 : Method := { name := "<init>", desc := "()V", sig := { parameters := [], returnType := none }, accessFlags := 4, code := some k2c0 }
/-- java/lang/Record -/
def k2 : Class := { plain "java/lang/Record" (some 0) with
  accessFlags := 1057
  interfaces := #[]
  cf := some (fileOf pool2 7 #[] #[{ accessFlags := 4, nameIndex := 5, descriptorIndex := 6, attributes := #[] }] 1057 2 #[] #[])
  fields := #[]
  methods := #[k2m0]
  instanceTypes := #[]
  staticTypes := #[]
  resolved := Array.replicate 22 none
  statics := none }

def pool3 : Array CpInfo := pool [(1, .class_ 2), (0, u "java/lang/Comparable"), (0, .class_ 4), (0, u "java/lang/Object")] 7

/-- java/lang/Comparable -/
def k3 : Class := { plain "java/lang/Comparable" (some 0) with
  accessFlags := 1537
  interfaces := #[]
  cf := some (fileOf pool3 1 #[] #[] 1537 3 #[] #[])
  fields := #[]
  methods := #[]
  instanceTypes := #[]
  staticTypes := #[]
  resolved := Array.replicate 12 none
  statics := none }

def pool4 : Array CpInfo := pool [(1, .methodref 2 3), (0, .class_ 4), (0, .nameAndType 5 6), (0, u "java/lang/Record"), (0, u "<init>"), (0, u "()V"), (0, .fieldref 8 9), (0, .class_ 10), (0, .nameAndType 11 12), (0, u "xlogtap/Block"), (0, u "position"), (0, u "J"), (0, .fieldref 8 14), (0, .nameAndType 15 16), (0, u "kind"), (0, u "Lxlogtap/Block$Kind;"), (1, .class_ 20), (1, u "xlogtap/Block$Kind"), (3, u "(JLxlogtap/Block$Kind;)V"), (42, .class_ 68), (0, u "java/lang/Comparable"), (15, u "equals"), (0, u "(Ljava/lang/Object;)Z")] 28

def k4c0 : Code := { maxStack := 3, maxLocals := 4, code := prog_9_method_1_code, exceptionTable := #[], attributes := #[] }
def k4m0 : Method := { name := "<init>", desc := "(JLxlogtap/Block$Kind;)V", sig := { parameters := [.long, (.object "xlogtap/Block$Kind")], returnType := none }, accessFlags := 0, code := some k4c0 }
def k4c1 : Code := { maxStack := 4, maxLocals := 3, code := prog_9_method_10_code, exceptionTable := #[], attributes := #[] }
def k4m1 : Method := { name := "equals", desc := "(Ljava/lang/Object;)Z", sig := { parameters := [(.object "java/lang/Object")], returnType := some .boolean }, accessFlags := 1, code := some k4c1 }
/-- xlogtap/Block -/
def k4 : Class := { plain "xlogtap/Block" (some 2) with
  accessFlags := 48
  interfaces := #[3]
  cf := some (fileOf pool4 8 #[.nestMembers #[18]] #[{ accessFlags := 0, nameIndex := 5, descriptorIndex := 24, attributes := #[] }, { accessFlags := 1, nameIndex := 84, descriptorIndex := 85, attributes := #[] }] 48 2 #[67] #[{ accessFlags := 18, nameIndex := 11, descriptorIndex := 12, attributes := #[] }, { accessFlags := 18, nameIndex := 15, descriptorIndex := 16, attributes := #[] }])
  fields := #[{ name := "position", type := .long, accessFlags := 18, slot := 0, constantValue := 0 }, { name := "kind", type := (.object "xlogtap/Block$Kind"), accessFlags := 18, slot := 1, constantValue := 0 }]
  methods := #[k4m0, k4m1]
  instanceTypes := #[.long, (.object "xlogtap/Block$Kind")]
  staticTypes := #[]
  resolved := Array.replicate 114 none
  statics := none }

def pool5 : Array CpInfo := pool [(1, .class_ 2), (0, u "java/lang/constant/Constable"), (0, .class_ 4), (0, u "java/lang/Object")] 6

/-- java/lang/constant/Constable -/
def k5 : Class := { plain "java/lang/constant/Constable" (some 0) with
  accessFlags := 1537
  interfaces := #[]
  cf := some (fileOf pool5 1 #[] #[] 1537 3 #[] #[])
  fields := #[]
  methods := #[]
  instanceTypes := #[]
  staticTypes := #[]
  resolved := Array.replicate 11 none
  statics := none }

def pool6 : Array CpInfo := pool [(1, .class_ 2), (0, u "java/io/Serializable"), (0, .class_ 4), (0, u "java/lang/Object")] 2

/-- java/io/Serializable -/
def k6 : Class := { plain "java/io/Serializable" (some 0) with
  accessFlags := 1537
  interfaces := #[]
  cf := some (fileOf pool6 1 #[] #[] 1537 3 #[] #[])
  fields := #[]
  methods := #[]
  instanceTypes := #[]
  staticTypes := #[]
  resolved := Array.replicate 7 none
  statics := none }

def pool7 : Array CpInfo := pool [(2, .class_ 4), (1, u "java/lang/Enum"), (0, u "name"), (0, u "Ljava/lang/String;"), (2, u "ordinal"), (0, u "I"), (1, .class_ 14), (1, u "java/lang/Object"), (4, u "hash"), (86, .class_ 108), (1, u "java/lang/Enum$EnumDesc"), (2, .class_ 112), (0, u "java/lang/constant/Constable"), (0, .class_ 114), (0, u "java/lang/Comparable"), (0, .class_ 116), (0, u "java/io/Serializable")] 87

/-- java/lang/Enum -/
def k7 : Class := { plain "java/lang/Enum" (some 0) with
  accessFlags := 1057
  interfaces := #[5, 3, 6]
  cf := some (fileOf pool7 2 #[.nestMembers #[106]] #[] 1057 12 #[111, 113, 115] #[{ accessFlags := 18, nameIndex := 5, descriptorIndex := 6, attributes := #[] }, { accessFlags := 18, nameIndex := 9, descriptorIndex := 10, attributes := #[] }, { accessFlags := 2, nameIndex := 19, descriptorIndex := 10, attributes := #[] }])
  fields := #[{ name := "name", type := (.object "java/lang/String"), accessFlags := 18, slot := 0, constantValue := 0 }, { name := "ordinal", type := .int, accessFlags := 18, slot := 1, constantValue := 0 }, { name := "hash", type := .int, accessFlags := 2, slot := 2, constantValue := 0 }]
  methods := #[]
  instanceTypes := #[(.object "java/lang/String"), .int, .int]
  staticTypes := #[]
  resolved := Array.replicate 204 none
  statics := none }

def pool8 : Array CpInfo := pool [(1, .class_ 2), (0, u "xlogtap/Block$Kind"), (2, u "COPY"), (0, u "Lxlogtap/Block$Kind;"), (2, u "RESYNC"), (2, u "MESSAGE"), (2, u "TRANSACTION"), (2, u "PREPARED_TRANSACTION"), (2, u "COMMIT_PREPARED"), (2, u "ROLLBACK_PREPARED"), (2, u "TABLE_COPY"), (2, u "PARTED_COPY_BEGIN"), (2, u "PARTITION_COPY_BEGIN"), (2, u "TABLE_PART"), (2, u "PARTED_COPY_END"), (2, u "$VALUES"), (0, u "[Lxlogtap/Block$Kind;"), (6, .class_ 52), (1, u "java/lang/Enum"), (8, u "copiedByTheRun"), (0, u "Z"), (32, .class_ 96), (0, u "xlogtap/Block")] 2

/-- xlogtap/Block$Kind -/
def k8 : Class := { plain "xlogtap/Block$Kind" (some 7) with
  accessFlags := 16432
  interfaces := #[]
  cf := some (fileOf pool8 1 #[.nestHost 95] #[] 16432 50 #[] #[{ accessFlags := 16409, nameIndex := 5, descriptorIndex := 6, attributes := #[] }, { accessFlags := 16409, nameIndex := 9, descriptorIndex := 6, attributes := #[] }, { accessFlags := 16409, nameIndex := 12, descriptorIndex := 6, attributes := #[] }, { accessFlags := 16409, nameIndex := 15, descriptorIndex := 6, attributes := #[] }, { accessFlags := 16409, nameIndex := 18, descriptorIndex := 6, attributes := #[] }, { accessFlags := 16409, nameIndex := 21, descriptorIndex := 6, attributes := #[] }, { accessFlags := 16409, nameIndex := 24, descriptorIndex := 6, attributes := #[] }, { accessFlags := 16409, nameIndex := 27, descriptorIndex := 6, attributes := #[] }, { accessFlags := 16409, nameIndex := 30, descriptorIndex := 6, attributes := #[] }, { accessFlags := 16409, nameIndex := 33, descriptorIndex := 6, attributes := #[] }, { accessFlags := 16409, nameIndex := 36, descriptorIndex := 6, attributes := #[] }, { accessFlags := 16409, nameIndex := 39, descriptorIndex := 6, attributes := #[] }, { accessFlags := 18, nameIndex := 61, descriptorIndex := 62, attributes := #[] }, { accessFlags := 4122, nameIndex := 42, descriptorIndex := 43, attributes := #[] }])
  fields := #[{ name := "COPY", type := (.object "xlogtap/Block$Kind"), accessFlags := 16409, slot := 0, constantValue := 0 }, { name := "RESYNC", type := (.object "xlogtap/Block$Kind"), accessFlags := 16409, slot := 1, constantValue := 0 }, { name := "MESSAGE", type := (.object "xlogtap/Block$Kind"), accessFlags := 16409, slot := 2, constantValue := 0 }, { name := "TRANSACTION", type := (.object "xlogtap/Block$Kind"), accessFlags := 16409, slot := 3, constantValue := 0 }, { name := "PREPARED_TRANSACTION", type := (.object "xlogtap/Block$Kind"), accessFlags := 16409, slot := 4, constantValue := 0 }, { name := "COMMIT_PREPARED", type := (.object "xlogtap/Block$Kind"), accessFlags := 16409, slot := 5, constantValue := 0 }, { name := "ROLLBACK_PREPARED", type := (.object "xlogtap/Block$Kind"), accessFlags := 16409, slot := 6, constantValue := 0 }, { name := "TABLE_COPY", type := (.object "xlogtap/Block$Kind"), accessFlags := 16409, slot := 7, constantValue := 0 }, { name := "PARTED_COPY_BEGIN", type := (.object "xlogtap/Block$Kind"), accessFlags := 16409, slot := 8, constantValue := 0 }, { name := "PARTITION_COPY_BEGIN", type := (.object "xlogtap/Block$Kind"), accessFlags := 16409, slot := 9, constantValue := 0 }, { name := "TABLE_PART", type := (.object "xlogtap/Block$Kind"), accessFlags := 16409, slot := 10, constantValue := 0 }, { name := "PARTED_COPY_END", type := (.object "xlogtap/Block$Kind"), accessFlags := 16409, slot := 11, constantValue := 0 }, { name := "copiedByTheRun", type := .boolean, accessFlags := 18, slot := 3, constantValue := 0 }, { name := "$VALUES", type := (.array (.object "xlogtap/Block$Kind")), accessFlags := 4122, slot := 12, constantValue := 0 }]
  methods := #[]
  instanceTypes := #[(.object "java/lang/String"), .int, .int, .boolean]
  staticTypes := #[(.object "xlogtap/Block$Kind"), (.object "xlogtap/Block$Kind"), (.object "xlogtap/Block$Kind"), (.object "xlogtap/Block$Kind"), (.object "xlogtap/Block$Kind"), (.object "xlogtap/Block$Kind"), (.object "xlogtap/Block$Kind"), (.object "xlogtap/Block$Kind"), (.object "xlogtap/Block$Kind"), (.object "xlogtap/Block$Kind"), (.object "xlogtap/Block$Kind"), (.object "xlogtap/Block$Kind"), (.array (.object "xlogtap/Block$Kind"))]
  resolved := Array.replicate 99 none
  statics := some 0 }

def pool9 : Array CpInfo := pool [(1, .methodref 2 3), (0, .class_ 4), (0, .nameAndType 5 6), (0, u "java/lang/Object"), (0, u "<init>"), (0, u "()V"), (1, .class_ 10), (1, u "java/lang/Number"), (2, .class_ 14), (0, u "java/io/Serializable"), (0, u "serialVersionUID"), (0, u "J")] 20

def k9c0 : Code := { maxStack := 1, maxLocals := 1, code := jdk_18_method_1_code, exceptionTable := #[], attributes := #[] }
def k9m0 : Method := { name := "<init>", desc := "()V", sig := { parameters := [], returnType := none }, accessFlags := 1, code := some k9c0 }
/-- java/lang/Number -/
def k9 : Class := { plain "java/lang/Number" (some 0) with
  accessFlags := 1057
  interfaces := #[6]
  cf := some (fileOf pool9 8 #[] #[{ accessFlags := 1, nameIndex := 5, descriptorIndex := 6, attributes := #[] }] 1057 2 #[13] #[{ accessFlags := 26, nameIndex := 15, descriptorIndex := 16, attributes := #[] }])
  fields := #[{ name := "serialVersionUID", type := .long, accessFlags := 26, slot := 0, constantValue := 0 }]
  methods := #[k9m0]
  instanceTypes := #[]
  staticTypes := #[.long]
  resolved := Array.replicate 37 none
  statics := none }

def pool10 : Array CpInfo := pool [(1, .class_ 2), (0, u "java/lang/constant/ConstantDesc"), (0, .class_ 4), (0, u "java/lang/Object")] 32

/-- java/lang/constant/ConstantDesc -/
def k10 : Class := { plain "java/lang/constant/ConstantDesc" (some 0) with
  accessFlags := 1537
  interfaces := #[]
  cf := some (fileOf pool10 1 #[] #[] 1537 3 #[] #[])
  fields := #[]
  methods := #[]
  instanceTypes := #[]
  staticTypes := #[]
  resolved := Array.replicate 37 none
  statics := none }

def pool11 : Array CpInfo := pool [(1, .class_ 2), (0, u "java/lang/Long"), (55, .nameAndType 59 60), (0, u "<init>"), (0, u "()V"), (24, u "valueOf"), (143, u "(J)Ljava/lang/Long;"), (0, .long 18446744073709551488), (1, .long 127), (1, .fieldref 235 236), (0, .class_ 237), (0, .nameAndType 238 239), (0, u "java/lang/Long$LongCache"), (0, u "cache"), (0, u "[Ljava/lang/Long;"), (0, .methodref 1 241), (0, .nameAndType 59 242), (0, u "(J)V"), (27, .methodref 271 58), (0, .class_ 272), (0, u "java/lang/Number"), (0, .fieldref 1 274), (0, .nameAndType 275 276), (0, u "value"), (0, u "J"), (84, u "TYPE"), (0, u "Ljava/lang/Class;"), (0, .class_ 364), (0, u "java/lang/Comparable"), (0, .class_ 366), (0, u "java/lang/constant/Constable"), (0, .class_ 368), (0, u "java/lang/constant/ConstantDesc"), (0, u "MIN_VALUE"), (1, u "MAX_VALUE"), (4, u "SIZE"), (0, u "I"), (1, u "BYTES"), (1, u "serialVersionUID")] 142

def k11c0 : Code := { maxStack := 4, maxLocals := 3, code := jdk_35_method_24_code, exceptionTable := #[], attributes := #[] }
def k11m0 : Method := { name := "valueOf", desc := "(J)Ljava/lang/Long;", sig := { parameters := [.long], returnType := some (.object "java/lang/Long") }, accessFlags := 9, code := some k11c0 }
def k11c1 : Code := { maxStack := 3, maxLocals := 3, code := jdk_35_method_26_code, exceptionTable := #[], attributes := #[] }
def k11m1 : Method := { name := "<init>", desc := "(J)V", sig := { parameters := [.long], returnType := none }, accessFlags := 1, code := some k11c1 }
/-- java/lang/Long -/
def k11 : Class := { plain "java/lang/Long" (some 9) with
  accessFlags := 49
  interfaces := #[3, 5, 10]
  cf := some (fileOf pool11 1 #[.nestMembers #[235]] #[{ accessFlags := 9, nameIndex := 85, descriptorIndex := 229, attributes := #[] }, { accessFlags := 1, nameIndex := 59, descriptorIndex := 242, attributes := #[] }] 49 271 #[363, 365, 367] #[{ accessFlags := 25, nameIndex := 369, descriptorIndex := 276, attributes := #[] }, { accessFlags := 25, nameIndex := 371, descriptorIndex := 276, attributes := #[] }, { accessFlags := 25, nameIndex := 361, descriptorIndex := 362, attributes := #[] }, { accessFlags := 18, nameIndex := 275, descriptorIndex := 276, attributes := #[] }, { accessFlags := 25, nameIndex := 376, descriptorIndex := 377, attributes := #[] }, { accessFlags := 25, nameIndex := 379, descriptorIndex := 377, attributes := #[] }, { accessFlags := 26, nameIndex := 381, descriptorIndex := 276, attributes := #[] }])
  fields := #[{ name := "MIN_VALUE", type := .long, accessFlags := 25, slot := 0, constantValue := 0 }, { name := "MAX_VALUE", type := .long, accessFlags := 25, slot := 1, constantValue := 0 }, { name := "TYPE", type := (.object "java/lang/Class"), accessFlags := 25, slot := 2, constantValue := 0 }, { name := "value", type := .long, accessFlags := 18, slot := 0, constantValue := 0 }, { name := "SIZE", type := .int, accessFlags := 25, slot := 3, constantValue := 0 }, { name := "BYTES", type := .int, accessFlags := 25, slot := 4, constantValue := 0 }, { name := "serialVersionUID", type := .long, accessFlags := 26, slot := 5, constantValue := 0 }]
  methods := #[k11m0, k11m1]
  instanceTypes := #[.long]
  staticTypes := #[.long, .long, (.object "java/lang/Class"), .int, .int, .long]
  resolved := Array.replicate 524 none
  statics := none }

def pool12 : Array CpInfo := pool [(2, .class_ 4), (1, u "java/lang/Object"), (0, u "<init>"), (0, u "()V"), (0, .class_ 8), (0, u "java/lang/Long"), (7, .class_ 18), (1, u "java/lang/Long$LongCache"), (0, u "$assertionsDisabled"), (0, u "Z"), (8, u "archivedCache"), (0, u "[Ljava/lang/Long;"), (7, u "cache")] 24

def k12m0 : Method := { name := "<init>", desc := "()V", sig := { parameters := [], returnType := none }, accessFlags := 2, code := none }
/-- java/lang/Long$LongCache -/
def k12 : Class := { plain "java/lang/Long$LongCache" (some 0) with
  accessFlags := 48
  interfaces := #[]
  cf := some (fileOf pool12 16 #[.nestHost 7] #[{ accessFlags := 2, nameIndex := 5, descriptorIndex := 6, attributes := #[] }] 48 2 #[] #[{ accessFlags := 24, nameIndex := 38, descriptorIndex := 30, attributes := #[] }, { accessFlags := 8, nameIndex := 29, descriptorIndex := 30, attributes := #[] }, { accessFlags := 4120, nameIndex := 19, descriptorIndex := 20, attributes := #[] }])
  fields := #[{ name := "cache", type := (.array (.object "java/lang/Long")), accessFlags := 24, slot := 0, constantValue := 0 }, { name := "archivedCache", type := (.array (.object "java/lang/Long")), accessFlags := 8, slot := 1, constantValue := 0 }, { name := "$assertionsDisabled", type := .boolean, accessFlags := 4120, slot := 2, constantValue := 0 }]
  methods := #[k12m0]
  instanceTypes := #[]
  staticTypes := #[(.array (.object "java/lang/Long")), (.array (.object "java/lang/Long")), .boolean]
  resolved := Array.replicate 63 none
  statics := some 1 }

def pool13 : Array CpInfo := pool [(1, u "java/lang/Cloneable"), (0, .class_ 1), (0, u "java/lang/Object"), (0, .class_ 3)] 3

/-- java/lang/Cloneable -/
def k13 : Class := { plain "java/lang/Cloneable" (some 0) with
  accessFlags := 1537
  interfaces := #[]
  cf := some (fileOf pool13 2 #[] #[] 1537 4 #[] #[])
  fields := #[]
  methods := #[]
  instanceTypes := #[]
  staticTypes := #[]
  resolved := Array.replicate 8 none
  statics := none }

/-- the primitive byte -/
def k14 : Class := { plain "byte" none with kind := .primitive 'B', accessFlags := 0x411 }
/-- [B -/
def k15 : Class := { plain "[B" (some 0) with kind := .array 14 .byte, interfaces := #[13, 6], accessFlags := 1041 }

/-- the primitive int -/
def k16 : Class := { plain "int" none with kind := .primitive 'I', accessFlags := 0x411 }
/-- [I -/
def k17 : Class := { plain "[I" (some 0) with kind := .array 16 .int, interfaces := #[13, 6], accessFlags := 1041 }

/-- [Ljava/lang/Long; -/
def k18 : Class := { plain "[Ljava/lang/Long;" (some 0) with kind := .array 11 (.object "java/lang/Long"), interfaces := #[13, 6], accessFlags := 1041 }

/-- [Lxlogtap/Block$Kind; -/
def k19 : Class := { plain "[Lxlogtap/Block$Kind;" (some 0) with kind := .array 8 (.object "xlogtap/Block$Kind"), interfaces := #[13, 6], accessFlags := 1041 }

def heap : Heap := #[{ cls := 8, slots := #[.ref 3, .ref 4, .ref 5, .ref 6, .ref 7, .ref 8, .ref 9, .ref 10, .ref 11, .ref 12, .ref 13, .ref 14, .null], vm := .statics 8 },
  { cls := 12, slots := #[.ref 2, .null, .int 0], vm := .statics 12 },
  { cls := 18, slots := #[.ref 15, .ref 16, .ref 17, .ref 18, .ref 19, .ref 20, .ref 21, .ref 22, .ref 23, .ref 24, .ref 25, .ref 26, .ref 27, .ref 28, .ref 29, .ref 30, .ref 31, .ref 32, .ref 33, .ref 34, .ref 35, .ref 36, .ref 37, .ref 38, .ref 39, .ref 40, .ref 41, .ref 42, .ref 43, .ref 44, .ref 45, .ref 46, .ref 47, .ref 48, .ref 49, .ref 50, .ref 51, .ref 52, .ref 53, .ref 54, .ref 55, .ref 56, .ref 57, .ref 58, .ref 59, .ref 60, .ref 61, .ref 62, .ref 63, .ref 64, .ref 65, .ref 66, .ref 67, .ref 68, .ref 69, .ref 70, .ref 71, .ref 72, .ref 73, .ref 74, .ref 75, .ref 76, .ref 77, .ref 78, .ref 79, .ref 80, .ref 81, .ref 82, .ref 83, .ref 84, .ref 85, .ref 86, .ref 87, .ref 88, .ref 89, .ref 90, .ref 91, .ref 92, .ref 93, .ref 94, .ref 95, .ref 96, .ref 97, .ref 98, .ref 99, .ref 100, .ref 101, .ref 102, .ref 103, .ref 104, .ref 105, .ref 106, .ref 107, .ref 108, .ref 109, .ref 110, .ref 111, .ref 112, .ref 113, .ref 114, .ref 115, .ref 116, .ref 117, .ref 118, .ref 119, .ref 120, .ref 121, .ref 122, .ref 123, .ref 124, .ref 125, .ref 126, .ref 127, .ref 128, .ref 129, .ref 130, .ref 131, .ref 132, .ref 133, .ref 134, .ref 135, .ref 136, .ref 137, .ref 138, .ref 139, .ref 140, .ref 141, .ref 142, .ref 143, .ref 144, .ref 145, .ref 146, .ref 147, .ref 148, .ref 149, .ref 150, .ref 151, .ref 152, .ref 153, .ref 154, .ref 155, .ref 156, .ref 157, .ref 158, .ref 159, .ref 160, .ref 161, .ref 162, .ref 163, .ref 164, .ref 165, .ref 166, .ref 167, .ref 168, .ref 169, .ref 170, .ref 171, .ref 172, .ref 173, .ref 174, .ref 175, .ref 176, .ref 177, .ref 178, .ref 179, .ref 180, .ref 181, .ref 182, .ref 183, .ref 184, .ref 185, .ref 186, .ref 187, .ref 188, .ref 189, .ref 190, .ref 191, .ref 192, .ref 193, .ref 194, .ref 195, .ref 196, .ref 197, .ref 198, .ref 199, .ref 200, .ref 201, .ref 202, .ref 203, .ref 204, .ref 205, .ref 206, .ref 207, .ref 208, .ref 209, .ref 210, .ref 211, .ref 212, .ref 213, .ref 214, .ref 215, .ref 216, .ref 217, .ref 218, .ref 219, .ref 220, .ref 221, .ref 222, .ref 223, .ref 224, .ref 225, .ref 226, .ref 227, .ref 228, .ref 229, .ref 230, .ref 231, .ref 232, .ref 233, .ref 234, .ref 235, .ref 236, .ref 237, .ref 238, .ref 239, .ref 240, .ref 241, .ref 242, .ref 243, .ref 244, .ref 245, .ref 246, .ref 247, .ref 248, .ref 249, .ref 250, .ref 251, .ref 252, .ref 253, .ref 254, .ref 255, .ref 256, .ref 257, .ref 258, .ref 259, .ref 260, .ref 261, .ref 262, .ref 263, .ref 264, .ref 265, .ref 266, .ref 267, .ref 268, .ref 269, .ref 270], vm := .none },
  { cls := 8, slots := #[.null, .int 0, .int 0, .int 0], vm := .none },
  { cls := 8, slots := #[.null, .int 1, .int 0, .int 0], vm := .none },
  { cls := 8, slots := #[.null, .int 2, .int 0, .int 0], vm := .none },
  { cls := 8, slots := #[.null, .int 3, .int 0, .int 0], vm := .none },
  { cls := 8, slots := #[.null, .int 4, .int 0, .int 0], vm := .none },
  { cls := 8, slots := #[.null, .int 5, .int 0, .int 0], vm := .none },
  { cls := 8, slots := #[.null, .int 6, .int 0, .int 0], vm := .none },
  { cls := 8, slots := #[.null, .int 7, .int 0, .int 0], vm := .none },
  { cls := 8, slots := #[.null, .int 8, .int 0, .int 0], vm := .none },
  { cls := 8, slots := #[.null, .int 9, .int 0, .int 0], vm := .none },
  { cls := 8, slots := #[.null, .int 10, .int 0, .int 0], vm := .none },
  { cls := 8, slots := #[.null, .int 11, .int 0, .int 0], vm := .none },
  { cls := 11, slots := #[.long (-128)], vm := .none },
  { cls := 11, slots := #[.long (-127)], vm := .none },
  { cls := 11, slots := #[.long (-126)], vm := .none },
  { cls := 11, slots := #[.long (-125)], vm := .none },
  { cls := 11, slots := #[.long (-124)], vm := .none },
  { cls := 11, slots := #[.long (-123)], vm := .none },
  { cls := 11, slots := #[.long (-122)], vm := .none },
  { cls := 11, slots := #[.long (-121)], vm := .none },
  { cls := 11, slots := #[.long (-120)], vm := .none },
  { cls := 11, slots := #[.long (-119)], vm := .none },
  { cls := 11, slots := #[.long (-118)], vm := .none },
  { cls := 11, slots := #[.long (-117)], vm := .none },
  { cls := 11, slots := #[.long (-116)], vm := .none },
  { cls := 11, slots := #[.long (-115)], vm := .none },
  { cls := 11, slots := #[.long (-114)], vm := .none },
  { cls := 11, slots := #[.long (-113)], vm := .none },
  { cls := 11, slots := #[.long (-112)], vm := .none },
  { cls := 11, slots := #[.long (-111)], vm := .none },
  { cls := 11, slots := #[.long (-110)], vm := .none },
  { cls := 11, slots := #[.long (-109)], vm := .none },
  { cls := 11, slots := #[.long (-108)], vm := .none },
  { cls := 11, slots := #[.long (-107)], vm := .none },
  { cls := 11, slots := #[.long (-106)], vm := .none },
  { cls := 11, slots := #[.long (-105)], vm := .none },
  { cls := 11, slots := #[.long (-104)], vm := .none },
  { cls := 11, slots := #[.long (-103)], vm := .none },
  { cls := 11, slots := #[.long (-102)], vm := .none },
  { cls := 11, slots := #[.long (-101)], vm := .none },
  { cls := 11, slots := #[.long (-100)], vm := .none },
  { cls := 11, slots := #[.long (-99)], vm := .none },
  { cls := 11, slots := #[.long (-98)], vm := .none },
  { cls := 11, slots := #[.long (-97)], vm := .none },
  { cls := 11, slots := #[.long (-96)], vm := .none },
  { cls := 11, slots := #[.long (-95)], vm := .none },
  { cls := 11, slots := #[.long (-94)], vm := .none },
  { cls := 11, slots := #[.long (-93)], vm := .none },
  { cls := 11, slots := #[.long (-92)], vm := .none },
  { cls := 11, slots := #[.long (-91)], vm := .none },
  { cls := 11, slots := #[.long (-90)], vm := .none },
  { cls := 11, slots := #[.long (-89)], vm := .none },
  { cls := 11, slots := #[.long (-88)], vm := .none },
  { cls := 11, slots := #[.long (-87)], vm := .none },
  { cls := 11, slots := #[.long (-86)], vm := .none },
  { cls := 11, slots := #[.long (-85)], vm := .none },
  { cls := 11, slots := #[.long (-84)], vm := .none },
  { cls := 11, slots := #[.long (-83)], vm := .none },
  { cls := 11, slots := #[.long (-82)], vm := .none },
  { cls := 11, slots := #[.long (-81)], vm := .none },
  { cls := 11, slots := #[.long (-80)], vm := .none },
  { cls := 11, slots := #[.long (-79)], vm := .none },
  { cls := 11, slots := #[.long (-78)], vm := .none },
  { cls := 11, slots := #[.long (-77)], vm := .none },
  { cls := 11, slots := #[.long (-76)], vm := .none },
  { cls := 11, slots := #[.long (-75)], vm := .none },
  { cls := 11, slots := #[.long (-74)], vm := .none },
  { cls := 11, slots := #[.long (-73)], vm := .none },
  { cls := 11, slots := #[.long (-72)], vm := .none },
  { cls := 11, slots := #[.long (-71)], vm := .none },
  { cls := 11, slots := #[.long (-70)], vm := .none },
  { cls := 11, slots := #[.long (-69)], vm := .none },
  { cls := 11, slots := #[.long (-68)], vm := .none },
  { cls := 11, slots := #[.long (-67)], vm := .none },
  { cls := 11, slots := #[.long (-66)], vm := .none },
  { cls := 11, slots := #[.long (-65)], vm := .none },
  { cls := 11, slots := #[.long (-64)], vm := .none },
  { cls := 11, slots := #[.long (-63)], vm := .none },
  { cls := 11, slots := #[.long (-62)], vm := .none },
  { cls := 11, slots := #[.long (-61)], vm := .none },
  { cls := 11, slots := #[.long (-60)], vm := .none },
  { cls := 11, slots := #[.long (-59)], vm := .none },
  { cls := 11, slots := #[.long (-58)], vm := .none },
  { cls := 11, slots := #[.long (-57)], vm := .none },
  { cls := 11, slots := #[.long (-56)], vm := .none },
  { cls := 11, slots := #[.long (-55)], vm := .none },
  { cls := 11, slots := #[.long (-54)], vm := .none },
  { cls := 11, slots := #[.long (-53)], vm := .none },
  { cls := 11, slots := #[.long (-52)], vm := .none },
  { cls := 11, slots := #[.long (-51)], vm := .none },
  { cls := 11, slots := #[.long (-50)], vm := .none },
  { cls := 11, slots := #[.long (-49)], vm := .none },
  { cls := 11, slots := #[.long (-48)], vm := .none },
  { cls := 11, slots := #[.long (-47)], vm := .none },
  { cls := 11, slots := #[.long (-46)], vm := .none },
  { cls := 11, slots := #[.long (-45)], vm := .none },
  { cls := 11, slots := #[.long (-44)], vm := .none },
  { cls := 11, slots := #[.long (-43)], vm := .none },
  { cls := 11, slots := #[.long (-42)], vm := .none },
  { cls := 11, slots := #[.long (-41)], vm := .none },
  { cls := 11, slots := #[.long (-40)], vm := .none },
  { cls := 11, slots := #[.long (-39)], vm := .none },
  { cls := 11, slots := #[.long (-38)], vm := .none },
  { cls := 11, slots := #[.long (-37)], vm := .none },
  { cls := 11, slots := #[.long (-36)], vm := .none },
  { cls := 11, slots := #[.long (-35)], vm := .none },
  { cls := 11, slots := #[.long (-34)], vm := .none },
  { cls := 11, slots := #[.long (-33)], vm := .none },
  { cls := 11, slots := #[.long (-32)], vm := .none },
  { cls := 11, slots := #[.long (-31)], vm := .none },
  { cls := 11, slots := #[.long (-30)], vm := .none },
  { cls := 11, slots := #[.long (-29)], vm := .none },
  { cls := 11, slots := #[.long (-28)], vm := .none },
  { cls := 11, slots := #[.long (-27)], vm := .none },
  { cls := 11, slots := #[.long (-26)], vm := .none },
  { cls := 11, slots := #[.long (-25)], vm := .none },
  { cls := 11, slots := #[.long (-24)], vm := .none },
  { cls := 11, slots := #[.long (-23)], vm := .none },
  { cls := 11, slots := #[.long (-22)], vm := .none },
  { cls := 11, slots := #[.long (-21)], vm := .none },
  { cls := 11, slots := #[.long (-20)], vm := .none },
  { cls := 11, slots := #[.long (-19)], vm := .none },
  { cls := 11, slots := #[.long (-18)], vm := .none },
  { cls := 11, slots := #[.long (-17)], vm := .none },
  { cls := 11, slots := #[.long (-16)], vm := .none },
  { cls := 11, slots := #[.long (-15)], vm := .none },
  { cls := 11, slots := #[.long (-14)], vm := .none },
  { cls := 11, slots := #[.long (-13)], vm := .none },
  { cls := 11, slots := #[.long (-12)], vm := .none },
  { cls := 11, slots := #[.long (-11)], vm := .none },
  { cls := 11, slots := #[.long (-10)], vm := .none },
  { cls := 11, slots := #[.long (-9)], vm := .none },
  { cls := 11, slots := #[.long (-8)], vm := .none },
  { cls := 11, slots := #[.long (-7)], vm := .none },
  { cls := 11, slots := #[.long (-6)], vm := .none },
  { cls := 11, slots := #[.long (-5)], vm := .none },
  { cls := 11, slots := #[.long (-4)], vm := .none },
  { cls := 11, slots := #[.long (-3)], vm := .none },
  { cls := 11, slots := #[.long (-2)], vm := .none },
  { cls := 11, slots := #[.long (-1)], vm := .none },
  { cls := 11, slots := #[.long (0)], vm := .none },
  { cls := 11, slots := #[.long (1)], vm := .none },
  { cls := 11, slots := #[.long (2)], vm := .none },
  { cls := 11, slots := #[.long (3)], vm := .none },
  { cls := 11, slots := #[.long (4)], vm := .none },
  { cls := 11, slots := #[.long (5)], vm := .none },
  { cls := 11, slots := #[.long (6)], vm := .none },
  { cls := 11, slots := #[.long (7)], vm := .none },
  { cls := 11, slots := #[.long (8)], vm := .none },
  { cls := 11, slots := #[.long (9)], vm := .none },
  { cls := 11, slots := #[.long (10)], vm := .none },
  { cls := 11, slots := #[.long (11)], vm := .none },
  { cls := 11, slots := #[.long (12)], vm := .none },
  { cls := 11, slots := #[.long (13)], vm := .none },
  { cls := 11, slots := #[.long (14)], vm := .none },
  { cls := 11, slots := #[.long (15)], vm := .none },
  { cls := 11, slots := #[.long (16)], vm := .none },
  { cls := 11, slots := #[.long (17)], vm := .none },
  { cls := 11, slots := #[.long (18)], vm := .none },
  { cls := 11, slots := #[.long (19)], vm := .none },
  { cls := 11, slots := #[.long (20)], vm := .none },
  { cls := 11, slots := #[.long (21)], vm := .none },
  { cls := 11, slots := #[.long (22)], vm := .none },
  { cls := 11, slots := #[.long (23)], vm := .none },
  { cls := 11, slots := #[.long (24)], vm := .none },
  { cls := 11, slots := #[.long (25)], vm := .none },
  { cls := 11, slots := #[.long (26)], vm := .none },
  { cls := 11, slots := #[.long (27)], vm := .none },
  { cls := 11, slots := #[.long (28)], vm := .none },
  { cls := 11, slots := #[.long (29)], vm := .none },
  { cls := 11, slots := #[.long (30)], vm := .none },
  { cls := 11, slots := #[.long (31)], vm := .none },
  { cls := 11, slots := #[.long (32)], vm := .none },
  { cls := 11, slots := #[.long (33)], vm := .none },
  { cls := 11, slots := #[.long (34)], vm := .none },
  { cls := 11, slots := #[.long (35)], vm := .none },
  { cls := 11, slots := #[.long (36)], vm := .none },
  { cls := 11, slots := #[.long (37)], vm := .none },
  { cls := 11, slots := #[.long (38)], vm := .none },
  { cls := 11, slots := #[.long (39)], vm := .none },
  { cls := 11, slots := #[.long (40)], vm := .none },
  { cls := 11, slots := #[.long (41)], vm := .none },
  { cls := 11, slots := #[.long (42)], vm := .none },
  { cls := 11, slots := #[.long (43)], vm := .none },
  { cls := 11, slots := #[.long (44)], vm := .none },
  { cls := 11, slots := #[.long (45)], vm := .none },
  { cls := 11, slots := #[.long (46)], vm := .none },
  { cls := 11, slots := #[.long (47)], vm := .none },
  { cls := 11, slots := #[.long (48)], vm := .none },
  { cls := 11, slots := #[.long (49)], vm := .none },
  { cls := 11, slots := #[.long (50)], vm := .none },
  { cls := 11, slots := #[.long (51)], vm := .none },
  { cls := 11, slots := #[.long (52)], vm := .none },
  { cls := 11, slots := #[.long (53)], vm := .none },
  { cls := 11, slots := #[.long (54)], vm := .none },
  { cls := 11, slots := #[.long (55)], vm := .none },
  { cls := 11, slots := #[.long (56)], vm := .none },
  { cls := 11, slots := #[.long (57)], vm := .none },
  { cls := 11, slots := #[.long (58)], vm := .none },
  { cls := 11, slots := #[.long (59)], vm := .none },
  { cls := 11, slots := #[.long (60)], vm := .none },
  { cls := 11, slots := #[.long (61)], vm := .none },
  { cls := 11, slots := #[.long (62)], vm := .none },
  { cls := 11, slots := #[.long (63)], vm := .none },
  { cls := 11, slots := #[.long (64)], vm := .none },
  { cls := 11, slots := #[.long (65)], vm := .none },
  { cls := 11, slots := #[.long (66)], vm := .none },
  { cls := 11, slots := #[.long (67)], vm := .none },
  { cls := 11, slots := #[.long (68)], vm := .none },
  { cls := 11, slots := #[.long (69)], vm := .none },
  { cls := 11, slots := #[.long (70)], vm := .none },
  { cls := 11, slots := #[.long (71)], vm := .none },
  { cls := 11, slots := #[.long (72)], vm := .none },
  { cls := 11, slots := #[.long (73)], vm := .none },
  { cls := 11, slots := #[.long (74)], vm := .none },
  { cls := 11, slots := #[.long (75)], vm := .none },
  { cls := 11, slots := #[.long (76)], vm := .none },
  { cls := 11, slots := #[.long (77)], vm := .none },
  { cls := 11, slots := #[.long (78)], vm := .none },
  { cls := 11, slots := #[.long (79)], vm := .none },
  { cls := 11, slots := #[.long (80)], vm := .none },
  { cls := 11, slots := #[.long (81)], vm := .none },
  { cls := 11, slots := #[.long (82)], vm := .none },
  { cls := 11, slots := #[.long (83)], vm := .none },
  { cls := 11, slots := #[.long (84)], vm := .none },
  { cls := 11, slots := #[.long (85)], vm := .none },
  { cls := 11, slots := #[.long (86)], vm := .none },
  { cls := 11, slots := #[.long (87)], vm := .none },
  { cls := 11, slots := #[.long (88)], vm := .none },
  { cls := 11, slots := #[.long (89)], vm := .none },
  { cls := 11, slots := #[.long (90)], vm := .none },
  { cls := 11, slots := #[.long (91)], vm := .none },
  { cls := 11, slots := #[.long (92)], vm := .none },
  { cls := 11, slots := #[.long (93)], vm := .none },
  { cls := 11, slots := #[.long (94)], vm := .none },
  { cls := 11, slots := #[.long (95)], vm := .none },
  { cls := 11, slots := #[.long (96)], vm := .none },
  { cls := 11, slots := #[.long (97)], vm := .none },
  { cls := 11, slots := #[.long (98)], vm := .none },
  { cls := 11, slots := #[.long (99)], vm := .none },
  { cls := 11, slots := #[.long (100)], vm := .none },
  { cls := 11, slots := #[.long (101)], vm := .none },
  { cls := 11, slots := #[.long (102)], vm := .none },
  { cls := 11, slots := #[.long (103)], vm := .none },
  { cls := 11, slots := #[.long (104)], vm := .none },
  { cls := 11, slots := #[.long (105)], vm := .none },
  { cls := 11, slots := #[.long (106)], vm := .none },
  { cls := 11, slots := #[.long (107)], vm := .none },
  { cls := 11, slots := #[.long (108)], vm := .none },
  { cls := 11, slots := #[.long (109)], vm := .none },
  { cls := 11, slots := #[.long (110)], vm := .none },
  { cls := 11, slots := #[.long (111)], vm := .none },
  { cls := 11, slots := #[.long (112)], vm := .none },
  { cls := 11, slots := #[.long (113)], vm := .none },
  { cls := 11, slots := #[.long (114)], vm := .none },
  { cls := 11, slots := #[.long (115)], vm := .none },
  { cls := 11, slots := #[.long (116)], vm := .none },
  { cls := 11, slots := #[.long (117)], vm := .none },
  { cls := 11, slots := #[.long (118)], vm := .none },
  { cls := 11, slots := #[.long (119)], vm := .none },
  { cls := 11, slots := #[.long (120)], vm := .none },
  { cls := 11, slots := #[.long (121)], vm := .none },
  { cls := 11, slots := #[.long (122)], vm := .none },
  { cls := 11, slots := #[.long (123)], vm := .none },
  { cls := 11, slots := #[.long (124)], vm := .none },
  { cls := 11, slots := #[.long (125)], vm := .none },
  { cls := 11, slots := #[.long (126)], vm := .none },
  { cls := 11, slots := #[.long (127)], vm := .none }]
def classes : Array Class := #[k0, k1, k2, k3, k4, k5, k6, k7, k8, k9, k10, k11, k12, k13, k14, k15, k16, k17, k18, k19]
def interned : List (Array UInt16 × Addr) := []
def slotsUsed : Nat := 576
def theMethod : MethodId := ⟨1, 2⟩
def args0 : Array Value := #[.long 5, .long 7, .int 3, .int 2, .int 1]
def aboutOver (below : List Frame) : State where
  vm := { classes := classes, interned := interned.toArray }
  heap := heap
  slotsUsed := slotsUsed
  threads := #[{ frames := .invoking theMethod args0 :: below }]
def below0 : List Frame := [.native { method := ⟨0, 0⟩, args := #[] }]
def about1 : State := aboutOver below0
def p0 : Program := .bare "" "" ""
def e0 : Env := launch0.env 0 0 0
theorem w_frames : about1.frames = Frame.invoking theMethod args0 :: below0 := rfl
set_option maxRecDepth 65536 in
theorem w_args : argsFit about1.vm theMethod args0 = true := by decide +kernel
set_option maxRecDepth 65536 in
theorem w_heap : heapFits about1 = true := by decide +kernel
set_option maxRecDepth 65536 in
theorem w_runnable : about1.curStatus? = some .runnable := by decide +kernel
set_option maxRecDepth 65536 in
theorem w_alone : about1.alone = true := by decide +kernel
set_option maxRecDepth 65536 in
theorem w_named : about1.methodNamed? x = some theMethod := by decide +kernel
set_option maxRecDepth 65536 in
theorem w_hears : about1.hears theMethod below0 = true := by decide +kernel
set_option maxRecDepth 65536 in
theorem w_ripe : about1.ripe theMethod args0 below0 = true := by decide +kernel
theorem w_running : about1.status = .running := rfl
set_option maxRecDepth 65536 in
theorem w_room : about1.hasRoom e0.platform room_1 = true :=
  launch0.hasRoom_least _ room_1 (by decide +kernel) (by decide +kernel) (by decide +kernel) (by decide +kernel) (by decide +kernel) (by decide +kernel)
theorem allAtoms_all (ts : List Jvm.Cond) (a : Array Jvm.Value) (st : Jvm.State) : (allAtoms ts).before a st = ts.all (fun c => c.before a st) := by
  induction ts with
  | nil => rfl
  | cons c t ih =>
    show (Jvm.Cond.and c (allAtoms t)).before a st = _
    rw [Jvm.Cond.before_and, ih, List.all_cons]
def words1 : List Jvm.Cond := Jvm.Cond.code x code maxLocals ret :: tables_1
/-- a 'code' word, met by the world's own term for the bytes: nothing is compared byte by byte -/
theorem code_word {y : MethodName} {bytes : ByteArray} {mx : Nat} {rt : Option FieldType} {a : Array Value} {s : State} {m : MethodId} {meth : Method} {c : Code} (h1 : s.methodNamed? y = some m) (h2 : s.vm.method? m = some meth) (h3 : meth.code = some c) (h4 : c.code = bytes)
    (h5 : (c.maxLocals == mx && c.exceptionTable.isEmpty && decide (c.maxStack ≤ mostOperands) && decide (meth.sig.returnType = rt) && !meth.locks && decide (parseMethodDescriptor y.desc = some meth.sig)) = true) : (Jvm.Cond.code y bytes mx rt).before a s = true := by
  simp only [Bool.and_eq_true, beq_iff_eq, Bool.not_eq_true', decide_eq_true_eq] at h5
  obtain ⟨⟨⟨⟨⟨g1, g2⟩, g3⟩, g4⟩, g5⟩, g6⟩ := h5
  simp [Cond.before, Cond.holds, Cond.value, h1, h2, h3, h4, g1, g2, g3, g4, g5, g6]
def isCode : Jvm.Cond → Bool
  | .code _ _ _ _ => true
  | _ => false
theorem all_split {L : List Jvm.Cond} {P : Jvm.Cond → Bool} (h1 : L.all (fun c => isCode c || P c) = true) (h2 : ∀ c ∈ L.filter isCode, P c = true) : L.all P = true := by
  refine List.all_eq_true.mpr fun c hc => ?_
  have h := List.all_eq_true.mp h1 c hc
  rcases Bool.eq_false_or_eq_true (isCode c) with hi | hi
  · exact h2 c (List.mem_filter.mpr ⟨hc, hi⟩)
  · simpa [hi] using h
set_option maxRecDepth 65536 in
theorem w_c0 : (Jvm.Cond.code x code maxLocals ret).before args0 about1 = true := code_word (m := ⟨1, 2⟩) (meth := k1m2) (c := k1c2) (by decide +kernel) rfl rfl rfl (by decide +kernel)
set_option maxRecDepth 65536 in
theorem w_c1 : (Jvm.Cond.code ({ cls := "xlogtap/BlockEqualsPinLaw", name := "kindAt", desc := "(I)Lxlogtap/Block$Kind;" } : Jvm.MethodName) method_2_code (2 : Nat) (Option.some (Jvm.ClassFile.FieldType.object "xlogtap/Block$Kind"))).before args0 about1 = true := code_word (m := ⟨1, 1⟩) (meth := k1m1) (c := k1c1) (by decide +kernel) rfl rfl rfl (by decide +kernel)
set_option maxRecDepth 65536 in
theorem w_c2 : (Jvm.Cond.code ({ cls := "xlogtap/Block", name := "<init>", desc := "(JLxlogtap/Block$Kind;)V" } : Jvm.MethodName) prog_9_method_1_code (4 : Nat) (Option.none : Option Jvm.ClassFile.FieldType)).before args0 about1 = true := code_word (m := ⟨4, 0⟩) (meth := k4m0) (c := k4c0) (by decide +kernel) rfl rfl rfl (by decide +kernel)
set_option maxRecDepth 65536 in
theorem w_c3 : (Jvm.Cond.code ({ cls := "java/lang/Record", name := "<init>", desc := "()V" } : Jvm.MethodName) jdk_30_method_1_code (1 : Nat) (Option.none : Option Jvm.ClassFile.FieldType)).before args0 about1 = true := code_word (m := ⟨2, 0⟩) (meth := k2m0) (c := k2c0) (by decide +kernel) rfl rfl rfl (by decide +kernel)
set_option maxRecDepth 65536 in
theorem w_c4 : (Jvm.Cond.code ({ cls := "java/lang/Object", name := "<init>", desc := "()V" } : Jvm.MethodName) object_method_1_code (1 : Nat) (Option.none : Option Jvm.ClassFile.FieldType)).before args0 about1 = true := code_word (m := ⟨0, 0⟩) (meth := k0m0) (c := k0c0) (by decide +kernel) rfl rfl rfl (by decide +kernel)
set_option maxRecDepth 65536 in
theorem w_c5 : (Jvm.Cond.code ({ cls := "xlogtap/Block", name := "equals", desc := "(Ljava/lang/Object;)Z" } : Jvm.MethodName) prog_9_method_10_code (3 : Nat) (Option.some Jvm.ClassFile.FieldType.boolean)).before args0 about1 = true := code_word (m := ⟨4, 1⟩) (meth := k4m1) (c := k4c1) (by decide +kernel) rfl rfl rfl (by decide +kernel)
set_option maxRecDepth 65536 in
theorem w_c6 : (Jvm.Cond.code ({ cls := "java/lang/Long", name := "valueOf", desc := "(J)Ljava/lang/Long;" } : Jvm.MethodName) jdk_35_method_24_code (3 : Nat) (Option.some (Jvm.ClassFile.FieldType.object "java/lang/Long"))).before args0 about1 = true := code_word (m := ⟨11, 0⟩) (meth := k11m0) (c := k11c0) (by decide +kernel) rfl rfl rfl (by decide +kernel)
set_option maxRecDepth 65536 in
theorem w_c7 : (Jvm.Cond.code ({ cls := "java/lang/Long", name := "<init>", desc := "(J)V" } : Jvm.MethodName) jdk_35_method_26_code (3 : Nat) (Option.none : Option Jvm.ClassFile.FieldType)).before args0 about1 = true := code_word (m := ⟨11, 1⟩) (meth := k11m1) (c := k11c1) (by decide +kernel) rfl rfl rfl (by decide +kernel)
set_option maxRecDepth 65536 in
theorem w_c8 : (Jvm.Cond.code ({ cls := "java/lang/Number", name := "<init>", desc := "()V" } : Jvm.MethodName) jdk_18_method_1_code (1 : Nat) (Option.none : Option Jvm.ClassFile.FieldType)).before args0 about1 = true := code_word (m := ⟨9, 0⟩) (meth := k9m0) (c := k9c0) (by decide +kernel) rfl rfl rfl (by decide +kernel)
def codes1 : List Jvm.Cond := [Jvm.Cond.code x code maxLocals ret, Jvm.Cond.code ({ cls := "xlogtap/BlockEqualsPinLaw", name := "kindAt", desc := "(I)Lxlogtap/Block$Kind;" } : Jvm.MethodName) method_2_code (2 : Nat) (Option.some (Jvm.ClassFile.FieldType.object "xlogtap/Block$Kind")), Jvm.Cond.code ({ cls := "xlogtap/Block", name := "<init>", desc := "(JLxlogtap/Block$Kind;)V" } : Jvm.MethodName) prog_9_method_1_code (4 : Nat) (Option.none : Option Jvm.ClassFile.FieldType), Jvm.Cond.code ({ cls := "java/lang/Record", name := "<init>", desc := "()V" } : Jvm.MethodName) jdk_30_method_1_code (1 : Nat) (Option.none : Option Jvm.ClassFile.FieldType), Jvm.Cond.code ({ cls := "java/lang/Object", name := "<init>", desc := "()V" } : Jvm.MethodName) object_method_1_code (1 : Nat) (Option.none : Option Jvm.ClassFile.FieldType), Jvm.Cond.code ({ cls := "xlogtap/Block", name := "equals", desc := "(Ljava/lang/Object;)Z" } : Jvm.MethodName) prog_9_method_10_code (3 : Nat) (Option.some Jvm.ClassFile.FieldType.boolean), Jvm.Cond.code ({ cls := "java/lang/Long", name := "valueOf", desc := "(J)Ljava/lang/Long;" } : Jvm.MethodName) jdk_35_method_24_code (3 : Nat) (Option.some (Jvm.ClassFile.FieldType.object "java/lang/Long")), Jvm.Cond.code ({ cls := "java/lang/Long", name := "<init>", desc := "(J)V" } : Jvm.MethodName) jdk_35_method_26_code (3 : Nat) (Option.none : Option Jvm.ClassFile.FieldType), Jvm.Cond.code ({ cls := "java/lang/Number", name := "<init>", desc := "()V" } : Jvm.MethodName) jdk_18_method_1_code (1 : Nat) (Option.none : Option Jvm.ClassFile.FieldType)]
set_option maxRecDepth 65536 in
theorem codes_eq : words1.filter isCode = codes1 := rfl
theorem w_codes : ∀ c ∈ words1.filter isCode, c.before args0 about1 = true := by
  rw [codes_eq]
  intro c hc
  simp only [codes1, List.mem_cons, List.not_mem_nil, or_false] at hc
  rcases hc with rfl | rfl | rfl | rfl | rfl | rfl | rfl | rfl | rfl
  · exact w_c0
  · exact w_c1
  · exact w_c2
  · exact w_c3
  · exact w_c4
  · exact w_c5
  · exact w_c6
  · exact w_c7
  · exact w_c8
set_option maxRecDepth 65536 in
theorem w_t1 : (words1.take 24).all (fun c => isCode c || c.before args0 about1) = true := by decide +kernel
set_option maxRecDepth 65536 in
theorem w_t2 : ((words1.drop 24).take 24).all (fun c => isCode c || c.before args0 about1) = true := by decide +kernel
set_option maxRecDepth 65536 in
theorem w_t3 : (((words1.drop 24).drop 24).take 24).all (fun c => isCode c || c.before args0 about1) = true := by decide +kernel
set_option maxRecDepth 65536 in
theorem w_t4 : (((words1.drop 24).drop 24).drop 24).all (fun c => isCode c || c.before args0 about1) = true := by decide +kernel
theorem w_tables : (allAtoms (Jvm.Cond.code x code maxLocals ret :: tables_1)).before args0 about1 = true := by
  rw [allAtoms_all]
  show words1.all (fun c => c.before args0 about1) = true
  refine all_split ?_ w_codes
  rw [← List.take_append_drop 24 words1, List.all_append, w_t1, ← List.take_append_drop 24 (words1.drop 24), List.all_append, w_t2, ← List.take_append_drop 24 ((words1.drop 24).drop 24), List.all_append, w_t3, w_t4]
  rfl
set_option maxRecDepth 65536 in
theorem w_rest : rest_1_c.before args0 about1 = true := by decide +kernel
set_option maxRecDepth 65536 in
theorem w_case : (Jvm.Cond.and given_1 narrow_1).before args0 about1 = true := by decide +kernel
theorem w_applies : (headSpec (Jvm.Cond.code x code maxLocals ret :: tables_1) room_1).applies x e0.platform about1 = true :=
  (Spec.applies_iff w_frames).mpr ⟨w_running, w_runnable, w_alone, w_named, w_hears, w_ripe, w_room, w_tables⟩
theorem atStart : AtStart classFile x code maxLocals ret World_1 tables_1 room_1 Calls_1 rest_1 Pre_1 launch0 p0 e0 about1 theMethod args0 below0 :=
  ⟨lists_1, trivial, launch0.admits_env _ _ _, launch0.least_env, fairChoices_fair.cas, fairChoices_fair.clock, w_frames, w_args, w_heap, w_applies, trivial, w_rest, w_case⟩
end start1
theorem witness_1 : WitnessClaimed_1 := ⟨start1.p0, start1.e0, start1.about1, start1.theMethod, start1.args0, start1.below0, start1.atStart⟩
end Jvm.Pilot.@@N@@
