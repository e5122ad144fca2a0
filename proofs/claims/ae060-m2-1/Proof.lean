import JvmDerived
import JvmDerived.Pilot.@@N@@Statement
import JvmDerived.Pilot.@@N@@Code
set_option linter.unusedVariables false
set_option linter.unusedSimpArgs false
namespace Jvm.Pilot.@@N@@
open Jvm Jvm.ClassFile Sem Op Lib Jvm.Free Jvm.Stand Jvm.LawKit Jvm.RoadKit Bundle Jvm.Pilot.@@N@@.Jvm.D
section Own
variable {p : Program} {l : Launch} {e : Env} {R : Room} {s : State} {m : MethodId} {args : Array Value} {below : List Frame} {meth : Method} {c : Code} {T : State} {locs : List Loc} {cells slots : Nat} {Q : Outcome → State → Prop} {Z : State} {a0 : Array Value} {h : Heap}
/-- from T, with g on top, the run ends as Q says -/
def Ends (p : Program) (e : Env) (below : List Frame) (Q : Outcome → State → Prop) (T : State) (g : JFrame) : Prop :=
  ∃ s₂ o, Steps p.tables e below (T.setTop g) s₂ ∧ s₂.status = .running ∧ Ended s₂ below o ∧ Q o s₂
theorem Ends.go {T' : State} {g g' : JFrame} (st : ∀ t, Steps p.tables e below (T'.setTop g') t → Steps p.tables e below (T.setTop g) t) (k : Ends p e below Q T' g') : Ends p e below Q T g := by
  obtain ⟨s₂, o, h1, r⟩ := k
  exact ⟨s₂, o, st _ h1, r⟩
theorem Ends.cast {g g' : JFrame} (q : g = g') (k : Ends p e below Q T g') : Ends p e below Q T g := q ▸ k
/-- what a body that returns leaves -/
def Out (s : State) (ce sl : Nat) (Qv : Option Value → Heap → List Loc → Prop) (o : Outcome) (U : State) : Prop := ∃ v L, o = .returned v ∧ Qv v U.heap L ∧ FrameEnd s o U L ce sl
theorem ow_body {y : MethodName} {bytes : ByteArray} {ml : Nat} {ret : Option FieldType} {ws : List Jvm.Cond} {rm : Room} {as : Array Value} {ce sl : Nat} {Qv : Option Value → Heap → List Loc → Prop} (hp : plainFor y = true)
    (body : ∀ (p : Program) (e : Env) (s : State) (m : MethodId) (below : List Frame) (meth : Method) (c : Code) (T : State), Stand p l e rm s m as below meth c T [] 0 0 → p.tables.exec = Jvm.exec → Z.Warmed39 s.vm → c.code = bytes → c.maxLocals = ml → s.vm.findClass y.cls = some m.cls → meth.name = y.name → meth.sig.returnType = ret → meth.locks = false → T.heap = h → Ends p e below (Out s ce sl Qv) T (entryFrame m as ml)) :
    MetFree l y (head1 (Jvm.Cond.code y bytes ml ret :: ws) rm) (fun a U => a = as ∧ Z.Warmed39 U.vm ∧ U.heap = h) (fun _ _ _ _ _ => True) (fun _ U o U' => ∃ v L, o = .returned v ∧ Qv v U'.heap L ∧ FrameEnd U o U' L ce sl) := by
  refine MetFree.of_bodySF hp hisR ?_
  intro p e s m args below meth c s₁ Bd hml0 hP hK
  obtain ⟨rfl, hZ, hh⟩ := hP
  exact body p e s m below meth c s₁ (Stand.of_body Bd) Bd.exec hZ Bd.bytes hml0 (findClass_of_methodNamed Bd.named) (name_of_methodNamed Bd.named Bd.method).1 Bd.returns Bd.notSynchronized (by rw [← hh, Bd.state]; rfl)
theorem ow_iload (X : Stand p l e R s m args below meth c T locs cells slots) (hx : p.tables.exec = Jvm.exec) {pc pc' : Nat} {Ls : Array Slot} {St : List Value} {k : Nat} {v : Int32} (hd : decode c.code pc = .ok (.iload k, 2)) (hl : Ls[k]? = some (.val (.int v))) (hp : pc + 2 = pc') (kk : Ends p e below Q T (mkF m pc' Ls (.int v :: St))) : Ends p e below Q T (mkF m pc Ls St) := by subst hp; exact Ends.go (fun _ q => XS.iload X.here hx rfl hd hl q) kk
theorem ow_iloadN (X : Stand p l e R s m args below meth c T locs cells slots) (hx : p.tables.exec = Jvm.exec) {pc pc' : Nat} {Ls : Array Slot} {St : List Value} {k : Fin 4} {v : Int32} (hd : decode c.code pc = .ok (.iload_n k, 1)) (hl : Ls[k.val]? = some (.val (.int v))) (hp : pc + 1 = pc') (kk : Ends p e below Q T (mkF m pc' Ls (.int v :: St))) : Ends p e below Q T (mkF m pc Ls St) := by subst hp; exact Ends.go (fun _ q => XS.iloadN X.here hx rfl hd hl q) kk
theorem ow_aload (X : Stand p l e R s m args below meth c T locs cells slots) (hx : p.tables.exec = Jvm.exec) {pc pc' : Nat} {Ls : Array Slot} {St : List Value} {k : Nat} {v : Value} (hd : decode c.code pc = .ok (.aload k, 2)) (hl : Ls[k]? = some (.val v)) (hv : v.isRef = true) (hp : pc + 2 = pc') (kk : Ends p e below Q T (mkF m pc' Ls (v :: St))) : Ends p e below Q T (mkF m pc Ls St) := by subst hp; exact Ends.go (fun _ q => XS.aload X.here hx rfl hd hl hv q) kk
theorem ow_aloadN (X : Stand p l e R s m args below meth c T locs cells slots) (hx : p.tables.exec = Jvm.exec) {pc pc' : Nat} {Ls : Array Slot} {St : List Value} {k : Fin 4} {v : Value} (hd : decode c.code pc = .ok (.aload_n k, 1)) (hl : Ls[k.val]? = some (.val v)) (hv : v.isRef = true) (hp : pc + 1 = pc') (kk : Ends p e below Q T (mkF m pc' Ls (v :: St))) : Ends p e below Q T (mkF m pc Ls St) := by subst hp; exact Ends.go (fun _ q => XS.aloadN X.here hx rfl hd hl hv q) kk
theorem ow_istore (X : Stand p l e R s m args below meth c T locs cells slots) (hx : p.tables.exec = Jvm.exec) {pc pc' : Nat} {Ls : Array Slot} {Ls' : Array Slot} {St : List Value} {k : Nat} {v : Int32} (hd : decode c.code pc = .ok (.istore k, 2)) (hl : storeLocals Ls k (.int v) = some Ls') (hp : pc + 2 = pc') (kk : Ends p e below Q T (mkF m pc' Ls' St)) : Ends p e below Q T (mkF m pc Ls (.int v :: St)) := by subst hp; exact Ends.go (fun _ q => XS.istore X.here hx rfl hd rfl hl q) kk
theorem ow_istoreN (X : Stand p l e R s m args below meth c T locs cells slots) (hx : p.tables.exec = Jvm.exec) {pc pc' : Nat} {Ls : Array Slot} {Ls' : Array Slot} {St : List Value} {k : Fin 4} {v : Int32} (hd : decode c.code pc = .ok (.istore_n k, 1)) (hl : storeLocals Ls k.val (.int v) = some Ls') (hp : pc + 1 = pc') (kk : Ends p e below Q T (mkF m pc' Ls' St)) : Ends p e below Q T (mkF m pc Ls (.int v :: St)) := by subst hp; exact Ends.go (fun _ q => XS.istoreN X.here hx rfl hd rfl hl q) kk
theorem ow_astore (X : Stand p l e R s m args below meth c T locs cells slots) (hx : p.tables.exec = Jvm.exec) {pc pc' : Nat} {Ls : Array Slot} {Ls' : Array Slot} {St : List Value} {k : Nat} {v : Value} (hd : decode c.code pc = .ok (.astore k, 2)) (hv : v.isRef = true) (hl : storeLocals Ls k v = some Ls') (hp : pc + 2 = pc') (kk : Ends p e below Q T (mkF m pc' Ls' St)) : Ends p e below Q T (mkF m pc Ls (v :: St)) := by subst hp; exact Ends.go (fun _ q => XS.astore X.here hx rfl hd rfl hv hl q) kk
theorem ow_iconst (X : Stand p l e R s m args below meth c T locs cells slots) (hx : p.tables.exec = Jvm.exec) {pc pc' : Nat} {Ls : Array Slot} {St : List Value} {i : Int} {z : Int32} (hd : decode c.code pc = .ok (.iconst i, 1)) (hz : Int32.ofInt i = z) (hp : pc + 1 = pc') (kk : Ends p e below Q T (mkF m pc' Ls (.int z :: St))) : Ends p e below Q T (mkF m pc Ls St) := by subst hp hz; exact Ends.go (fun _ q => XS.iconst X.here hx rfl hd q) kk
theorem ow_bipush (X : Stand p l e R s m args below meth c T locs cells slots) (hx : p.tables.exec = Jvm.exec) {pc pc' : Nat} {Ls : Array Slot} {St : List Value} {i : Int} {z : Int32} (hd : decode c.code pc = .ok (.bipush i, 2)) (hz : (Int8.ofInt i).toInt32 = z) (hp : pc + 2 = pc') (kk : Ends p e below Q T (mkF m pc' Ls (.int z :: St))) : Ends p e below Q T (mkF m pc Ls St) := by subst hp hz; exact Ends.go (fun _ q => XS.bipush X.here hx rfl hd q) kk
theorem ow_sipush (X : Stand p l e R s m args below meth c T locs cells slots) (hx : p.tables.exec = Jvm.exec) {pc pc' : Nat} {Ls : Array Slot} {St : List Value} {i : Int} {z : Int32} (hd : decode c.code pc = .ok (.sipush i, 3)) (hz : (Int16.ofInt i).toInt32 = z) (hp : pc + 3 = pc') (kk : Ends p e below Q T (mkF m pc' Ls (.int z :: St))) : Ends p e below Q T (mkF m pc Ls St) := by subst hp hz; exact Ends.go (fun _ q => XS.sipush X.here hx rfl hd q) kk
theorem ow_ldcInt (X : Stand p l e R s m args below meth c T locs cells slots) (hx : p.tables.exec = Jvm.exec) (hZ : Z.Warmed39 s.vm) {own : String} {i : Nat} {z : Int32} (hown : s.vm.findClass own = some m.cls) (w : (Jvm.Cond.constant own i z).before a0 Z = true) {pc pc' : Nat} {Ls : Array Slot} {St : List Value} (hd : decode c.code pc = .ok (.ldc i, 2)) (hp : pc + 2 = pc') (kk : Ends p e below Q T (mkF m pc' Ls (.int z :: St))) : Ends p e below Q T (mkF m pc Ls St) := by subst hp; exact Ends.go (X.ldcInt hx hown (mvT hZ w) (g := mkF m pc Ls St) rfl hd) kk
theorem ow_iadd (X : Stand p l e R s m args below meth c T locs cells slots) (hx : p.tables.exec = Jvm.exec) {pc pc' : Nat} {Ls : Array Slot} {St : List Value} {x : Int32} {y : Int32} (hd : decode c.code pc = .ok (.iadd, 1)) (hp : pc + 1 = pc') (kk : ∀ z : Int32, z = x + y → Ends p e below Q T (mkF m pc' Ls (.int z :: St))) : Ends p e below Q T (mkF m pc Ls (.int y :: .int x :: St)) := by subst hp; exact Ends.go (fun _ q => XS.iadd X.here hx rfl hd rfl q) (kk _ rfl)
theorem ow_isub (X : Stand p l e R s m args below meth c T locs cells slots) (hx : p.tables.exec = Jvm.exec) {pc pc' : Nat} {Ls : Array Slot} {St : List Value} {x : Int32} {y : Int32} (hd : decode c.code pc = .ok (.isub, 1)) (hp : pc + 1 = pc') (kk : ∀ z : Int32, z = x - y → Ends p e below Q T (mkF m pc' Ls (.int z :: St))) : Ends p e below Q T (mkF m pc Ls (.int y :: .int x :: St)) := by subst hp; exact Ends.go (fun _ q => XS.isub X.here hx rfl hd rfl q) (kk _ rfl)
theorem ow_iand (X : Stand p l e R s m args below meth c T locs cells slots) (hx : p.tables.exec = Jvm.exec) {pc pc' : Nat} {Ls : Array Slot} {St : List Value} {x : Int32} {y : Int32} (hd : decode c.code pc = .ok (.iand, 1)) (hp : pc + 1 = pc') (kk : ∀ z : Int32, z = x &&& y → Ends p e below Q T (mkF m pc' Ls (.int z :: St))) : Ends p e below Q T (mkF m pc Ls (.int y :: .int x :: St)) := by subst hp; exact Ends.go (fun _ q => XS.iand X.here hx rfl hd rfl q) (kk _ rfl)
theorem ow_irem (X : Stand p l e R s m args below meth c T locs cells slots) (hx : p.tables.exec = Jvm.exec) {pc pc' : Nat} {Ls : Array Slot} {St : List Value} {x : Int32} {y : Int32} (hd : decode c.code pc = .ok (.irem, 1)) (hy : y ≠ 0) (hp : pc + 1 = pc') (kk : ∀ z : Int32, z = x % y → Ends p e below Q T (mkF m pc' Ls (.int z :: St))) : Ends p e below Q T (mkF m pc Ls (.int y :: .int x :: St)) := by subst hp; exact Ends.go (fun _ q => iremM (g := mkF m pc Ls (.int y :: .int x :: St)) X hx rfl hd rfl hy q) (kk _ rfl)
theorem ow_ishr (X : Stand p l e R s m args below meth c T locs cells slots) (hx : p.tables.exec = Jvm.exec) {pc pc' : Nat} {Ls : Array Slot} {St : List Value} {x : Int32} {y : Int32} (hd : decode c.code pc = .ok (.ishr, 1)) (hp : pc + 1 = pc') (kk : ∀ z : Int32, z = x >>> (y &&& 31) → Ends p e below Q T (mkF m pc' Ls (.int z :: St))) : Ends p e below Q T (mkF m pc Ls (.int y :: .int x :: St)) := by subst hp; exact Ends.go (fun _ q => XS.ishr X.here hx rfl hd rfl q) (kk _ rfl)
theorem ow_i2b (X : Stand p l e R s m args below meth c T locs cells slots) (hx : p.tables.exec = Jvm.exec) {pc pc' : Nat} {Ls : Array Slot} {St : List Value} {x : Int32} (hd : decode c.code pc = .ok (.i2b, 1)) (hp : pc + 1 = pc') (kk : ∀ z : Int32, z = x.toInt8.toInt32 → Ends p e below Q T (mkF m pc' Ls (.int z :: St))) : Ends p e below Q T (mkF m pc Ls (.int x :: St)) := by subst hp; exact Ends.go (fun _ q => XS.i2b X.here hx rfl hd rfl q) (kk _ rfl)
theorem ow_iinc (X : Stand p l e R s m args below meth c T locs cells slots) (hx : p.tables.exec = Jvm.exec) {pc pc' : Nat} {Ls : Array Slot} {Ls' : Array Slot} {St : List Value} {k : Nat} {i : Int} {x : Int32} (hd : decode c.code pc = .ok (.iinc k i, 3)) (hl : Ls[k]? = some (.val (.int x))) (hl' : ∀ z, storeLocals Ls k (.int z) = some (Ls'.setIfInBounds k (.val (.int z)))) (hp : pc + 3 = pc') (kk : ∀ z : Int32, z = x + Int32.ofInt i → Ends p e below Q T (mkF m pc' (Ls'.setIfInBounds k (.val (.int z))) St)) : Ends p e below Q T (mkF m pc Ls St) := by subst hp; exact Ends.go (fun _ q => XS.iinc X.here hx rfl hd hl (hl' _) q) (kk _ rfl)
theorem ow_dup (X : Stand p l e R s m args below meth c T locs cells slots) (hx : p.tables.exec = Jvm.exec) {pc pc' : Nat} {Ls : Array Slot} {St : List Value} {v : Value} (hd : decode c.code pc = .ok (.dup, 1)) (hc : v.category = 1) (hp : pc + 1 = pc') (kk : Ends p e below Q T (mkF m pc' Ls (v :: v :: St))) : Ends p e below Q T (mkF m pc Ls (v :: St)) := by subst hp; exact Ends.go (fun _ q => XS.dup X.here hx rfl hd rfl hc q) kk
theorem ow_goto (X : Stand p l e R s m args below meth c T locs cells slots) (hx : p.tables.exec = Jvm.exec) {pc pc' : Nat} {Ls : Array Slot} {St : List Value} {o : Int} (hd : decode c.code pc = .ok (.goto o, 3)) (ho : 0 ≤ (pc : Int) + o) (hp : ((pc : Int) + o).toNat = pc') (kk : Ends p e below Q T (mkF m pc' Ls St)) : Ends p e below Q T (mkF m pc Ls St) := Ends.go (fun _ q => XS.goto X.here hx rfl (pc0 := pc) (pc' := pc') rfl hd ho hp q) kk
theorem ow_icmpY (X : Stand p l e R s m args below meth c T locs cells slots) (hx : p.tables.exec = Jvm.exec) {pc pc' : Nat} {Ls : Array Slot} {St : List Value} {cd : ClassFile.Cond} {x y : Int32} {o : Int} (hd : decode c.code pc = .ok (.if_icmp cd o, 3)) (hc : if_icmp.holds cd x y = true) (ho : 0 ≤ (pc : Int) + o) (hp : ((pc : Int) + o).toNat = pc') (kk : Ends p e below Q T (mkF m pc' Ls St)) : Ends p e below Q T (mkF m pc Ls (.int y :: .int x :: St)) := Ends.go (fun _ q => XS.icmpYes X.here hx rfl (pc0 := pc) (pc' := pc') rfl hd rfl hc ho hp q) kk
theorem ow_icmpN (X : Stand p l e R s m args below meth c T locs cells slots) (hx : p.tables.exec = Jvm.exec) {pc pc' : Nat} {Ls : Array Slot} {St : List Value} {cd : ClassFile.Cond} {x y : Int32} {o : Int} (hd : decode c.code pc = .ok (.if_icmp cd o, 3)) (hc : if_icmp.holds cd x y = false) (hp : pc + 3 = pc') (kk : Ends p e below Q T (mkF m pc' Ls St)) : Ends p e below Q T (mkF m pc Ls (.int y :: .int x :: St)) := by subst hp; exact Ends.go (fun _ q => XS.icmpNo X.here hx rfl hd rfl hc q) kk
theorem ow_ifY (X : Stand p l e R s m args below meth c T locs cells slots) (hx : p.tables.exec = Jvm.exec) {pc pc' : Nat} {Ls : Array Slot} {St : List Value} {cd : ClassFile.Cond} {x : Int32} {o : Int} (hd : decode c.code pc = .ok (.ifCond cd o, 3)) (hc : if_icmp.holds cd x 0 = true) (ho : 0 ≤ (pc : Int) + o) (hp : ((pc : Int) + o).toNat = pc') (kk : Ends p e below Q T (mkF m pc' Ls St)) : Ends p e below Q T (mkF m pc Ls (.int x :: St)) := Ends.go (fun _ q => XS.ifYes X.here hx rfl (pc0 := pc) (pc' := pc') rfl hd rfl ((if0 _ _).trans hc) ho hp q) kk
theorem ow_ifN (X : Stand p l e R s m args below meth c T locs cells slots) (hx : p.tables.exec = Jvm.exec) {pc pc' : Nat} {Ls : Array Slot} {St : List Value} {cd : ClassFile.Cond} {x : Int32} {o : Int} (hd : decode c.code pc = .ok (.ifCond cd o, 3)) (hc : if_icmp.holds cd x 0 = false) (hp : pc + 3 = pc') (kk : Ends p e below Q T (mkF m pc' Ls St)) : Ends p e below Q T (mkF m pc Ls (.int x :: St)) := by subst hp; exact Ends.go (fun _ q => XS.ifNo X.here hx rfl hd rfl ((if0 _ _).trans hc) q) kk
/-- the six comparisons, said of the signed worth -/
def cmpI : ClassFile.Cond → Int → Int → Prop
  | .eq, a, b => a = b
  | .ne, a, b => ¬ a = b
  | .lt, a, b => a < b
  | .ge, a, b => ¬ a < b
  | .gt, a, b => b < a
  | .le, a, b => ¬ b < a
theorem cmpI_y {cd : ClassFile.Cond} {x y : Int32} (q : cmpI cd x.toInt y.toInt) : if_icmp.holds cd x y = true := by
  cases cd <;> simp only [cmpI] at q <;> simp [if_icmp.holds, ← Int32.toInt_inj, Int32.lt_iff_toInt_lt, Int32.le_iff_toInt_le] <;> omega
theorem cmpI_n {cd : ClassFile.Cond} {x y : Int32} (q : ¬ cmpI cd x.toInt y.toInt) : if_icmp.holds cd x y = false := by
  cases cd <;> simp only [cmpI] at q <;> simp [if_icmp.holds, ← Int32.toInt_inj, Int32.lt_iff_toInt_lt, Int32.le_iff_toInt_le] <;> omega
theorem ow_icmp_eq (X : Stand p l e R s m args below meth c T locs cells slots) (hx : p.tables.exec = Jvm.exec) {pc pt pf : Nat} {Ls : Array Slot} {St : List Value} {x y : Int32} {o : Int} (xi yi : Int) (hd : decode c.code pc = .ok (.if_icmp .eq o, 3)) (hxi : x.toInt = xi) (hyi : y.toInt = yi) (ho : 0 ≤ (pc : Int) + o) (hp : ((pc : Int) + o).toNat = pt) (hq : pc + 3 = pf) (kt : xi = yi → Ends p e below Q T (mkF m pt Ls St)) (kf : ¬ xi = yi → Ends p e below Q T (mkF m pf Ls St)) : Ends p e below Q T (mkF m pc Ls (.int y :: .int x :: St)) := by
  subst hxi hyi
  rcases Classical.em (cmpI .eq x.toInt y.toInt) with w | w
  · exact ow_icmpY X hx hd (cmpI_y w) ho hp (kt w)
  · exact ow_icmpN X hx hd (cmpI_n w) hq (kf (by simp only [cmpI] at w; omega))
theorem ow_if_eq (X : Stand p l e R s m args below meth c T locs cells slots) (hx : p.tables.exec = Jvm.exec) {pc pt pf : Nat} {Ls : Array Slot} {St : List Value} {x : Int32} {o : Int} (xi : Int) (hd : decode c.code pc = .ok (.ifCond .eq o, 3)) (hxi : x.toInt = xi) (ho : 0 ≤ (pc : Int) + o) (hp : ((pc : Int) + o).toNat = pt) (hq : pc + 3 = pf) (kt : xi = 0 → Ends p e below Q T (mkF m pt Ls St)) (kf : ¬ xi = 0 → Ends p e below Q T (mkF m pf Ls St)) : Ends p e below Q T (mkF m pc Ls (.int x :: St)) := by
  subst hxi
  have z0 : (0 : Int32).toInt = 0 := rfl
  rcases Classical.em (cmpI .eq x.toInt (0 : Int32).toInt) with w | w
  · exact ow_ifY X hx hd (cmpI_y w) ho hp (kt (by simp only [cmpI, z0] at w; omega))
  · exact ow_ifN X hx hd (cmpI_n w) hq (kf (by simp only [cmpI, z0] at w; omega))
theorem ow_icmp_ne (X : Stand p l e R s m args below meth c T locs cells slots) (hx : p.tables.exec = Jvm.exec) {pc pt pf : Nat} {Ls : Array Slot} {St : List Value} {x y : Int32} {o : Int} (xi yi : Int) (hd : decode c.code pc = .ok (.if_icmp .ne o, 3)) (hxi : x.toInt = xi) (hyi : y.toInt = yi) (ho : 0 ≤ (pc : Int) + o) (hp : ((pc : Int) + o).toNat = pt) (hq : pc + 3 = pf) (kt : ¬ xi = yi → Ends p e below Q T (mkF m pt Ls St)) (kf : xi = yi → Ends p e below Q T (mkF m pf Ls St)) : Ends p e below Q T (mkF m pc Ls (.int y :: .int x :: St)) := by
  subst hxi hyi
  rcases Classical.em (cmpI .ne x.toInt y.toInt) with w | w
  · exact ow_icmpY X hx hd (cmpI_y w) ho hp (kt w)
  · exact ow_icmpN X hx hd (cmpI_n w) hq (kf (by simp only [cmpI] at w; omega))
theorem ow_if_ne (X : Stand p l e R s m args below meth c T locs cells slots) (hx : p.tables.exec = Jvm.exec) {pc pt pf : Nat} {Ls : Array Slot} {St : List Value} {x : Int32} {o : Int} (xi : Int) (hd : decode c.code pc = .ok (.ifCond .ne o, 3)) (hxi : x.toInt = xi) (ho : 0 ≤ (pc : Int) + o) (hp : ((pc : Int) + o).toNat = pt) (hq : pc + 3 = pf) (kt : ¬ xi = 0 → Ends p e below Q T (mkF m pt Ls St)) (kf : xi = 0 → Ends p e below Q T (mkF m pf Ls St)) : Ends p e below Q T (mkF m pc Ls (.int x :: St)) := by
  subst hxi
  have z0 : (0 : Int32).toInt = 0 := rfl
  rcases Classical.em (cmpI .ne x.toInt (0 : Int32).toInt) with w | w
  · exact ow_ifY X hx hd (cmpI_y w) ho hp (kt (by simp only [cmpI, z0] at w; omega))
  · exact ow_ifN X hx hd (cmpI_n w) hq (kf (by simp only [cmpI, z0] at w; omega))
theorem ow_icmp_lt (X : Stand p l e R s m args below meth c T locs cells slots) (hx : p.tables.exec = Jvm.exec) {pc pt pf : Nat} {Ls : Array Slot} {St : List Value} {x y : Int32} {o : Int} (xi yi : Int) (hd : decode c.code pc = .ok (.if_icmp .lt o, 3)) (hxi : x.toInt = xi) (hyi : y.toInt = yi) (ho : 0 ≤ (pc : Int) + o) (hp : ((pc : Int) + o).toNat = pt) (hq : pc + 3 = pf) (kt : xi < yi → Ends p e below Q T (mkF m pt Ls St)) (kf : ¬ xi < yi → Ends p e below Q T (mkF m pf Ls St)) : Ends p e below Q T (mkF m pc Ls (.int y :: .int x :: St)) := by
  subst hxi hyi
  rcases Classical.em (cmpI .lt x.toInt y.toInt) with w | w
  · exact ow_icmpY X hx hd (cmpI_y w) ho hp (kt w)
  · exact ow_icmpN X hx hd (cmpI_n w) hq (kf (by simp only [cmpI] at w; omega))
theorem ow_icmp_ge (X : Stand p l e R s m args below meth c T locs cells slots) (hx : p.tables.exec = Jvm.exec) {pc pt pf : Nat} {Ls : Array Slot} {St : List Value} {x y : Int32} {o : Int} (xi yi : Int) (hd : decode c.code pc = .ok (.if_icmp .ge o, 3)) (hxi : x.toInt = xi) (hyi : y.toInt = yi) (ho : 0 ≤ (pc : Int) + o) (hp : ((pc : Int) + o).toNat = pt) (hq : pc + 3 = pf) (kt : ¬ xi < yi → Ends p e below Q T (mkF m pt Ls St)) (kf : xi < yi → Ends p e below Q T (mkF m pf Ls St)) : Ends p e below Q T (mkF m pc Ls (.int y :: .int x :: St)) := by
  subst hxi hyi
  rcases Classical.em (cmpI .ge x.toInt y.toInt) with w | w
  · exact ow_icmpY X hx hd (cmpI_y w) ho hp (kt w)
  · exact ow_icmpN X hx hd (cmpI_n w) hq (kf (by simp only [cmpI] at w; omega))
theorem ow_retB (X : Stand p l e R s m args below meth c T locs cells slots) (hx : p.tables.exec = Jvm.exec) {pc : Nat} {Ls : Array Slot} {rest : List Value} {z z' : Int32} (hret : meth.sig.returnType = some .boolean) (hlk : meth.locks = false) (hd : decode c.code pc = .ok (.ireturn, 1)) {ce sl : Nat} (hc : cells ≤ ce) (hs : slots ≤ sl) {Qv : Option Value → Heap → List Loc → Prop} (hz : nar .boolean z = z') (q : Qv (some (.int z')) T.heap locs) : Ends p e below (Out s ce sl Qv) T (mkF m pc Ls (.int z :: rest)) := by
  subst hz
  obtain ⟨fs, hr, hrun, hended, hW, hsame⟩ := X.leave (v := some (.int (nar .boolean z))) (fun h => by rw [hret] at h; cases h) hlk
  exact ⟨_, _, retN X hx (t := .boolean) hret (by simp) hd hr, hrun, hended, _, _, rfl, q, ⟨_, rfl⟩, hW, hsame.mono hc hs⟩
theorem ow_retI (X : Stand p l e R s m args below meth c T locs cells slots) (hx : p.tables.exec = Jvm.exec) {pc : Nat} {Ls : Array Slot} {z : Int32} (hret : meth.sig.returnType = some .int) (hlk : meth.locks = false) (hd : decode c.code pc = .ok (.ireturn, 1)) {ce sl : Nat} (hc : cells ≤ ce) (hs : slots ≤ sl) {Qv : Option Value → Heap → List Loc → Prop} (q : Qv (some (.int z)) T.heap locs) : Ends p e below (Out s ce sl Qv) T (mkF m pc Ls [.int z]) := by
  obtain ⟨fs, hr, hrun, hended, hW, hsame⟩ := X.leave (v := some (.int z)) (fun h => by rw [hret] at h; cases h) hlk
  exact ⟨_, _, X.ireturnOut hx hret rfl (Or.inl rfl) hd hr, hrun, hended, _, _, rfl, q, ⟨_, rfl⟩, hW, hsame.mono hc hs⟩
theorem ow_callS (X : Stand p l e R s m args below meth c T locs cells slots) (hx : p.tables.exec = Jvm.exec) (hZ : Z.Warmed39 s.vm) {own : String} {index : Nat} {y : MethodName} {bytes : ByteArray} {maxL : Nat} {ret : Option FieldType} (hown : s.vm.findClass own = some m.cls)
    (wl : (Jvm.Cond.methodLink own index y).before a0 Z = true) (wst : (Jvm.Cond.static y).before a0 Z = true) (wi : (Jvm.Cond.initialized y.cls).before a0 Z = true) (wc : (Jvm.Cond.code y bytes maxL ret).before a0 Z = true) (hy : y.cls ≠ "java/lang/invoke/MethodHandle" ∧ y.cls ≠ "java/lang/invoke/VarHandle")
    {rm : Room} {as' : Array Value} {Qc : Option Value → Heap → List Loc → Prop} (hM : MetFree l y (head1 [Jvm.Cond.code y bytes maxL ret] rm) (fun a U => a = as' ∧ Z.Warmed39 U.vm ∧ U.heap = h) (fun _ _ _ _ _ => True) (fun _ U o U' => ∃ v L, o = .returned v ∧ Qc v U'.heap L ∧ FrameEnd U o U' L rm.cells rm.slots))
    (eT : T.heap = h) (W : Nat) (hf : rm.frames + 1 ≤ R.frames) (hl : W + (maxL + 11) + rm.locals ≤ R.locals) (hce : cells + rm.cells ≤ R.cells) (hsl : slots + rm.slots ≤ R.slots) {pc pc' : Nat} {Ls : Array Slot} {St rest : List Value} (argsL : List Value) {ps : List FieldType} {rt : Option FieldType} (hsize : Ls.size = c.maxLocals) (hdesc : parseMethodDescriptor y.desc = some ⟨ps, rt⟩) (hlen : argsL.length = ps.length) (hst : St = argsL.reverse ++ rest) (has : argsL.toArray = as') (hW : (rest.map fun v => v.category).sum ≤ W)
    (hd : decode c.code pc = .ok (.invokestatic index, 3)) (hp : pc + 3 = pc')
    (kk : ∀ (v : Option Value) (T' : State) (L' : List Loc), Qc v T'.heap L' → Stand p l e R s m args below meth c T' (locs ++ L') (cells + rm.cells) (slots + rm.slots) → Ends p e below Q T' (mkF m pc' Ls (v.toList ++ rest))) : Ends p e below Q T (mkF m pc Ls St) := by
  subst hst has hp
  obtain ⟨v, vm₁, ⟨T', L, k2, n2⟩, -, X', ⟨Lc, hQ, l1, y1, z1⟩, st⟩ := Jvm.LawKit.callS X hx hown (mvT hZ wl) (mvT hZ wst) (mvT hZ wi) (mvT hZ wc) hy (backOf (W := W) hM hZ wc wi hf hl) (g := mkF m pc Ls (argsL.reverse ++ rest)) rfl hsize (argsL := argsL) (rest := rest) (lenOf hdesc hlen) rfl (by show 2 * 0 + _ ≤ _; omega) hd (fun _ _ => ⟨rfl, eT, hce, hsl⟩)
  dsimp only [Pt.U, Pt.locs, Pt.cells, Pt.slots] at X' l1 y1 z1 st hQ
  subst l1 y1 z1
  exact Ends.go st (kk v T' Lc hQ X')
theorem ow_getS (X : Stand p l e R s m args below meth c T locs cells slots) (hx : p.tables.exec = Jvm.exec) (hZ : Z.Warmed39 s.vm) {own R0 O n d host : String} {index : Nat} (hown : s.vm.findClass own = some m.cls) (w : (Jvm.Cond.fieldLink own index R0 n d).before a0 Z = true ∨ (Jvm.Cond.fieldLinkNest own index R0 n d host).before a0 Z = true) (via : Via Z R0 O n d) (eT : T.heap = h) {v : Value} (F : Sta Z h O n d v) {pc pc' : Nat} {Ls : Array Slot} {St : List Value} (hd : decode c.code pc = .ok (.getstatic index, 3)) (hp : pc + 3 = pc')
    (kk : ∀ T' : State, Stand p l e R s m args below meth c T' locs cells slots → T'.heap = h → Ends p e below Q T' (mkF m pc' Ls (v :: St))) : Ends p e below Q T (mkF m pc Ls St) := by
  subst hp
  obtain ⟨T', X', e', st⟩ := getS2 X hx hZ hown w via eT F (g := mkF m pc Ls St) rfl hd
  exact Ends.go st (kk T' X' e')
theorem ow_newP (X : Stand p l e R s m args below meth c T locs cells slots) (hx : p.tables.exec = Jvm.exec) (hZ : Z.Warmed39 s.vm) {aty : ArrayType} (w : (Jvm.Cond.arrayClass (newarray.typeOf aty)).before a0 Z = true) (eT : T.heap = h) {pc pc' : Nat} {Ls : Array Slot} {St : List Value} {n : Int32} (hd : decode c.code pc = .ok (.newarray aty, 2)) (hn : ¬ n < 0) (cap : Nat) (hcap : n.toNatClampNeg ≤ cap) (hb : cap * 8 ≤ 536870912) (hc : cells + 1 ≤ R.cells) (hl : slots + cap ≤ R.slots) (hp : pc + 2 = pc')
    (kk : ∀ (T' : State) (h' : Heap) (b : Addr) (k : ClassId), b = h.size → Stand p l e R s m args below meth c T' locs (cells + 1) (slots + cap) → T'.heap = h' → Ext h h' → Arv Z h' b k (newarray.typeOf aty) n [] (defaultValue (newarray.typeOf aty)) → Ends p e below Q T' (mkF m pc' Ls (.ref b :: St))) : Ends p e below Q T (mkF m pc Ls (.int n :: St)) := by
  subst hp
  obtain ⟨T', h', k, X', e', E', A', st⟩ := newP X hx hZ w eT (g := mkF m pc Ls (.int n :: St)) rfl hd rfl hn (cap := cap) hcap hb hc hl
  exact Ends.go st (kk T' h' _ k rfl X' e' E' (Arv.new A' hn))
theorem ow_stB (X : Stand p l e R s m args below meth c T locs cells slots) (hx : p.tables.exec = Jvm.exec) (hZ : Z.Warmed39 s.vm) (eT : T.heap = h) {a : Addr} {k : ClassId} {z : Int32} {vs : List Value} {dv : Value} (V : Arv Z h a k .byte z vs dv) {pc pc' : Nat} {Ls : Array Slot} {St : List Value} {j x : Int32} (i : Nat) (hj : j.toNatClampNeg = i) (hj0 : ¬ j < 0) (hjz : j < z) (hi : i < vs.length) (hd : decode c.code pc = .ok (.bastore, 1)) (hp : pc + 1 = pc')
    (kk : ∀ (T' : State) (h' : Heap), Stand p l e R s m args below meth c T' (locs ++ [⟨a, j.toNatClampNeg⟩]) cells slots → T'.heap = h' → Wr h h' a j.toNatClampNeg (.int x.toInt8.toInt32) → Arv Z h' a k .byte z (vs.set i (.int x.toInt8.toInt32)) dv → Ends p e below Q T' (mkF m pc' Ls St)) : Ends p e below Q T (mkF m pc Ls (.int x :: .int j :: .ref a :: St)) := by
  subst hp
  obtain ⟨cl, A, q1, S, N, H, G⟩ := V
  obtain ⟨T', h', X', e', W', st⟩ := stB X hx hZ eT A (inb_of S ⟨hj0, hjz⟩) (g := mkF m pc Ls (.int x :: .int j :: .ref a :: St)) rfl rfl hd
  exact Ends.go st (kk T' h' X' e' W' (Arv.set A q1 S N H G (fits_nar_byte _) W' i hj hi))
theorem ow_ldB (X : Stand p l e R s m args below meth c T locs cells slots) (hx : p.tables.exec = Jvm.exec) (hZ : Z.Warmed39 s.vm) (eT : T.heap = h) {a : Addr} {k : ClassId} {z : Int32} {vs : List Value} {dv : Value} (V : Arv Z h a k .byte z vs dv) {pc pc' : Nat} {Ls : Array Slot} {St : List Value} {j : Int32} {v : Value} (hj0 : ¬ j < 0) (hjz : j < z) (hv : vs.getD j.toNatClampNeg dv = v) (hd : decode c.code pc = .ok (.baload, 1)) (hp : pc + 1 = pc')
    (kk : Ends p e below Q T (mkF m pc' Ls (v :: St))) : Ends p e below Q T (mkF m pc Ls (.int j :: .ref a :: St)) := by
  subst hp
  obtain ⟨cl, A, q1, S, N, H, G⟩ := V
  have hin := inb_of S ⟨hj0, hjz⟩
  exact Ends.go (X.baloadBytes hx (by rw [eT]; exact A.1) (State.isArrayOf_alike hZ.alike A.2.1) A.2.2 hin (H.at hin hv) (g := mkF m pc Ls (.int j :: .ref a :: St)) rfl rfl hd) kk
theorem ow_ldZ (X : Stand p l e R s m args below meth c T locs cells slots) (hx : p.tables.exec = Jvm.exec) (hZ : Z.Warmed39 s.vm) (eT : T.heap = h) {a : Addr} {k : ClassId} {z : Int32} {vs : List Value} {dv : Value} (V : Arv Z h a k .boolean z vs dv) {pc pc' : Nat} {Ls : Array Slot} {St : List Value} {j : Int32} {v : Value} (hj0 : ¬ j < 0) (hjz : j < z) (hv : vs.getD j.toNatClampNeg dv = v) (hd : decode c.code pc = .ok (.baload, 1)) (hp : pc + 1 = pc')
    (kk : Ends p e below Q T (mkF m pc' Ls (v :: St))) : Ends p e below Q T (mkF m pc Ls (.int j :: .ref a :: St)) := by
  subst hp
  obtain ⟨cl, A, q1, S, N, H, G⟩ := V
  have hin := inb_of S ⟨hj0, hjz⟩
  exact Ends.go (X.baloadBooleans hx (by rw [eT]; exact A.1) (State.isArrayOf_alike hZ.alike A.2.1) A.2.2 hin (H.at hin hv) (g := mkF m pc Ls (.int j :: .ref a :: St)) rfl rfl hd) kk
/-- a body that returns a number and leaves the heap as it is -/
def QI (P : Int32 → Prop) (h0 : Heap) (v : Option Value) (h : Heap) (L : List Loc) : Prop := ∃ z, v = some (.int z) ∧ P z ∧ L = [] ∧ h = h0
theorem ow_callPI (X : Stand p l e R s m args below meth c T locs cells slots) (hx : p.tables.exec = Jvm.exec) (hZ : Z.Warmed39 s.vm) {own : String} {index : Nat} {y : MethodName} {bytes : ByteArray} {maxL : Nat} {ret : Option FieldType} (hown : s.vm.findClass own = some m.cls)
    (wl : (Jvm.Cond.methodLink own index y).before a0 Z = true) (wst : (Jvm.Cond.static y).before a0 Z = true) (wi : (Jvm.Cond.initialized y.cls).before a0 Z = true) (wc : (Jvm.Cond.code y bytes maxL ret).before a0 Z = true) (hy : y.cls ≠ "java/lang/invoke/MethodHandle" ∧ y.cls ≠ "java/lang/invoke/VarHandle")
    {fr lo : Nat} {as' : Array Value} {P : Int32 → Prop} (hM : MetFree l y (head1 [Jvm.Cond.code y bytes maxL ret] ({ frames := fr, cells := 0, slots := 0, locals := lo } : Room)) (fun a U => a = as' ∧ Z.Warmed39 U.vm ∧ U.heap = h) (fun _ _ _ _ _ => True) (fun _ U o U' => ∃ v L, o = .returned v ∧ QI P h v U'.heap L ∧ FrameEnd U o U' L 0 0))
    (eT : T.heap = h) (W : Nat) (hf : fr + 1 ≤ R.frames) (hl : W + (maxL + 11) + lo ≤ R.locals) (hce : cells ≤ R.cells) (hsl : slots ≤ R.slots) {pc pc' : Nat} {Ls : Array Slot} {St rest : List Value} (argsL : List Value) {ps : List FieldType} {rt : Option FieldType} (hsize : Ls.size = c.maxLocals) (hdesc : parseMethodDescriptor y.desc = some ⟨ps, rt⟩) (hlen : argsL.length = ps.length) (hst : St = argsL.reverse ++ rest) (has : argsL.toArray = as') (hW : (rest.map fun v => v.category).sum ≤ W)
    (hd : decode c.code pc = .ok (.invokestatic index, 3)) (hp : pc + 3 = pc')
    (kk : ∀ (z : Int32) (T' : State), P z → Stand p l e R s m args below meth c T' locs cells slots → T'.heap = h → Ends p e below Q T' (mkF m pc' Ls (.int z :: rest))) : Ends p e below Q T (mkF m pc Ls St) := by
  refine ow_callS X hx hZ hown wl wst wi wc hy hM eT W hf hl hce hsl argsL hsize hdesc hlen hst has hW hd hp ?_
  rintro v T' L' ⟨z, rfl, hP, rfl, hh⟩ X'
  rw [List.append_nil] at X'
  exact kk z T' hP X' hh
theorem ow_tab (f : Nat → Int32) (n : Nat) (j : Int32) (d : Value) (h0 : 0 ≤ j.toInt) (h1 : j.toInt < n) : ((List.range n).map fun i => Value.int (f i)).getD j.toNatClampNeg d = .int (f j.toInt.toNat) := by
  have q : j.toNatClampNeg = j.toInt.toNat := rfl
  rw [q, List.getD_eq_getElem?_getD, List.getElem?_map, List.getElem?_range (by omega)]
  rfl
theorem ow_eq {x y : Int32} (q : x.toInt = y.toInt) : x = y := Int32.toInt_inj.mp q
theorem ow_lt {x y : Int32} (q : x.toInt < y.toInt) : x < y := Int32.lt_iff_toInt_lt.mpr q
theorem ow_nlt {x y : Int32} (q : ¬ x.toInt < y.toInt) : ¬ x < y := fun w => q (Int32.lt_iff_toInt_lt.mp w)
end Own

/-- which byte (by its worth mod 256) the table marks -/
def pl (x : Int) : Int := if 32 ≤ x % 256 ∧ x % 256 < 127 ∧ ¬ x % 256 = 34 ∧ ¬ x % 256 = 92 then 1 else 0
theorem pl_iff (x : Int) : ((32 ≤ x % 256 ∧ x % 256 < 127 ∧ ¬ x % 256 = 34 ∧ ¬ x % 256 = 92) ∧ pl x = 1) ∨ (¬ (32 ≤ x % 256 ∧ x % 256 < 127 ∧ ¬ x % 256 = 34 ∧ ¬ x % 256 = 92) ∧ pl x = 0) := by
  unfold pl
  split
  · exact Or.inl ⟨by assumption, rfl⟩
  · exact Or.inr ⟨by assumption, rfl⟩
theorem pl01 (x : Int) : pl x = 0 ∨ pl x = 1 := by
  rcases pl_iff x with h | h
  · exact Or.inr h.2
  · exact Or.inl h.2
theorem st_t {P : Prop} {z : Int} (h : (P ∧ z = 1) ∨ (¬ P ∧ z = 0)) (c : ¬ z = 0) : P := by
  rcases h with h | h
  · exact h.1
  · exact absurd h.2 c
theorem st_f {P : Prop} {z : Int} (h : (P ∧ z = 1) ∨ (¬ P ∧ z = 0)) (c : z = 0) : ¬ P := by
  rcases h with h | h
  · exact absurd (h.2.symm.trans c) (by decide)
  · exact h.1
theorem st_y {P : Prop} {z : Int} (h : (P ∧ z = 1) ∨ (¬ P ∧ z = 0)) (p : P) : ¬ z = 0 := by
  rcases h with h | h
  · exact fun q => absurd (h.2.symm.trans q) (by decide)
  · exact absurd p h.1
theorem kii_y {i s r p0 p1 p2 p3 : Int} {z : Int} (h : (((i < s) ∨ r ≤ i ∨ (i = 0 ∧ p0 = 1) ∨ (i = 1 ∧ p1 = 1) ∨ (i = 2 ∧ p2 = 1) ∨ (i = 3 ∧ p3 = 1)) ∧ z = 1) ∨ (¬ ((i < s) ∨ r ≤ i ∨ (i = 0 ∧ p0 = 1) ∨ (i = 1 ∧ p1 = 1) ∨ (i = 2 ∧ p2 = 1) ∨ (i = 3 ∧ p3 = 1)) ∧ z = 0)) (k : s ≤ i → i < r → (i = 0 ∧ p0 = 1) ∨ (i = 1 ∧ p1 = 1) ∨ (i = 2 ∧ p2 = 1) ∨ (i = 3 ∧ p3 = 1)) : ¬ z = 0 := by
  refine st_y h ?_
  by_cases q1 : i < s
  · exact Or.inl q1
  · by_cases q2 : r ≤ i
    · exact Or.inr (Or.inl q2)
    · exact Or.inr (Or.inr (k (by omega) (by omega)))
theorem pl_mod (x : Int) : pl (x % 256) = pl x := by
  unfold pl
  rw [Int.emod_emod_of_dvd x (Int.dvd_refl 256)]
/-- the table's content -/
def tabF (i : Nat) : Int32 := if 32 ≤ i ∧ i < 127 ∧ ¬ i = 34 ∧ ¬ i = 92 then 1 else 0
theorem tabF_pl (i : Nat) (hi : i < 256) : (tabF i).toInt = pl i := by
  have w := pl_iff i
  unfold tabF
  split
  · show (1 : Int) = _; omega
  · show (0 : Int) = _; omega
def TAB : List Value := (List.range 256).map fun i => Value.int (tabF i)
theorem fin_0 {f e r p0 p1 p2 p3 : Int} (R : f ≤ r ∧ r ≤ e ∧ (f ≤ 0 → 0 < r → p0 = 1) ∧ (f ≤ 1 → 1 < r → p1 = 1) ∧ (f ≤ 2 → 2 < r → p2 = 1) ∧ (f ≤ 3 → 3 < r → p3 = 1) ∧ (r = e ∨ (r = 0 ∧ p0 = 0) ∨ (r = 1 ∧ p1 = 0) ∨ (r = 2 ∧ p2 = 0) ∨ (r = 3 ∧ p3 = 0)))  (s0 : f ≤ 0 ∧ 0 < e ∧ p0 = 0) : r = 0 := by
  obtain ⟨a, b, i0, i1, i2, i3, h⟩ := R
  rcases h with h | ⟨h, g⟩ | ⟨h, g⟩ | ⟨h, g⟩ | ⟨h, g⟩
  · clear i1 i2 i3; omega
  · exact h
  · clear i1 i2 i3; omega
  · clear i1 i2 i3; omega
  · clear i1 i2 i3; omega
theorem fin_1 {f e r p0 p1 p2 p3 : Int} (R : f ≤ r ∧ r ≤ e ∧ (f ≤ 0 → 0 < r → p0 = 1) ∧ (f ≤ 1 → 1 < r → p1 = 1) ∧ (f ≤ 2 → 2 < r → p2 = 1) ∧ (f ≤ 3 → 3 < r → p3 = 1) ∧ (r = e ∨ (r = 0 ∧ p0 = 0) ∨ (r = 1 ∧ p1 = 0) ∨ (r = 2 ∧ p2 = 0) ∨ (r = 3 ∧ p3 = 0))) (s0 : ¬ (f ≤ 0 ∧ 0 < e ∧ p0 = 0)) (s1 : f ≤ 1 ∧ 1 < e ∧ p1 = 0) : r = 1 := by
  obtain ⟨a, b, i0, i1, i2, i3, h⟩ := R
  rcases h with h | ⟨h, g⟩ | ⟨h, g⟩ | ⟨h, g⟩ | ⟨h, g⟩
  · clear i0 i2 i3 s0; omega
  · clear i0 i1 i2 i3; omega
  · exact h
  · clear i0 i2 i3 s0; omega
  · clear i0 i2 i3 s0; omega
theorem fin_2 {f e r p0 p1 p2 p3 : Int} (R : f ≤ r ∧ r ≤ e ∧ (f ≤ 0 → 0 < r → p0 = 1) ∧ (f ≤ 1 → 1 < r → p1 = 1) ∧ (f ≤ 2 → 2 < r → p2 = 1) ∧ (f ≤ 3 → 3 < r → p3 = 1) ∧ (r = e ∨ (r = 0 ∧ p0 = 0) ∨ (r = 1 ∧ p1 = 0) ∨ (r = 2 ∧ p2 = 0) ∨ (r = 3 ∧ p3 = 0))) (s0 : ¬ (f ≤ 0 ∧ 0 < e ∧ p0 = 0)) (s1 : ¬ (f ≤ 1 ∧ 1 < e ∧ p1 = 0)) (s2 : f ≤ 2 ∧ 2 < e ∧ p2 = 0) : r = 2 := by
  obtain ⟨a, b, i0, i1, i2, i3, h⟩ := R
  rcases h with h | ⟨h, g⟩ | ⟨h, g⟩ | ⟨h, g⟩ | ⟨h, g⟩
  · clear i0 i1 i3 s0 s1; omega
  · clear i0 i1 i2 i3 s1; omega
  · clear i0 i1 i2 i3 s0; omega
  · exact h
  · clear i0 i1 i3 s0 s1; omega
theorem fin_3 {f e r p0 p1 p2 p3 : Int} (R : f ≤ r ∧ r ≤ e ∧ (f ≤ 0 → 0 < r → p0 = 1) ∧ (f ≤ 1 → 1 < r → p1 = 1) ∧ (f ≤ 2 → 2 < r → p2 = 1) ∧ (f ≤ 3 → 3 < r → p3 = 1) ∧ (r = e ∨ (r = 0 ∧ p0 = 0) ∨ (r = 1 ∧ p1 = 0) ∨ (r = 2 ∧ p2 = 0) ∨ (r = 3 ∧ p3 = 0))) (s0 : ¬ (f ≤ 0 ∧ 0 < e ∧ p0 = 0)) (s1 : ¬ (f ≤ 1 ∧ 1 < e ∧ p1 = 0)) (s2 : ¬ (f ≤ 2 ∧ 2 < e ∧ p2 = 0)) (s3 : f ≤ 3 ∧ 3 < e ∧ p3 = 0) : r = 3 := by
  obtain ⟨a, b, i0, i1, i2, i3, h⟩ := R
  rcases h with h | ⟨h, g⟩ | ⟨h, g⟩ | ⟨h, g⟩ | ⟨h, g⟩
  · clear i0 i1 i2 s0 s1 s2; omega
  · clear i0 i1 i2 i3 s1 s2; omega
  · clear i0 i1 i2 i3 s0 s2; omega
  · clear i0 i1 i2 i3 s0 s1; omega
  · exact h
theorem fin_4 {f e r p0 p1 p2 p3 : Int} (R : f ≤ r ∧ r ≤ e ∧ (f ≤ 0 → 0 < r → p0 = 1) ∧ (f ≤ 1 → 1 < r → p1 = 1) ∧ (f ≤ 2 → 2 < r → p2 = 1) ∧ (f ≤ 3 → 3 < r → p3 = 1) ∧ (r = e ∨ (r = 0 ∧ p0 = 0) ∨ (r = 1 ∧ p1 = 0) ∨ (r = 2 ∧ p2 = 0) ∨ (r = 3 ∧ p3 = 0))) (s0 : ¬ (f ≤ 0 ∧ 0 < e ∧ p0 = 0)) (s1 : ¬ (f ≤ 1 ∧ 1 < e ∧ p1 = 0)) (s2 : ¬ (f ≤ 2 ∧ 2 < e ∧ p2 = 0)) (s3 : ¬ (f ≤ 3 ∧ 3 < e ∧ p3 = 0)) : r = e := by
  obtain ⟨a, b, i0, i1, i2, i3, h⟩ := R
  rcases h with h | ⟨h, g⟩ | ⟨h, g⟩ | ⟨h, g⟩ | ⟨h, g⟩
  · exact h
  · clear i0 i1 i2 i3 s1 s2 s3; omega
  · clear i0 i1 i2 i3 s0 s2 s3; omega
  · clear i0 i1 i2 i3 s0 s1 s3; omega
  · clear i0 i1 i2 i3 s0 s1 s2; omega

theorem d_plain_0 : decode method_2_code 0 = .ok (.iload_n 0, 1) := by decide +kernel
theorem d_plain_1 : decode method_2_code 1 = .ok (.sipush 255, 3) := by decide +kernel
theorem d_plain_4 : decode method_2_code 4 = .ok (.iand, 1) := by decide +kernel
theorem d_plain_5 : decode method_2_code 5 = .ok (.istore_n 1, 1) := by decide +kernel
theorem d_plain_6 : decode method_2_code 6 = .ok (.iload_n 1, 1) := by decide +kernel
theorem d_plain_7 : decode method_2_code 7 = .ok (.bipush 32, 2) := by decide +kernel
theorem d_plain_9 : decode method_2_code 9 = .ok (.if_icmp .lt 25, 3) := by decide +kernel
theorem d_plain_12 : decode method_2_code 12 = .ok (.iload_n 1, 1) := by decide +kernel
theorem d_plain_13 : decode method_2_code 13 = .ok (.bipush 127, 2) := by decide +kernel
theorem d_plain_15 : decode method_2_code 15 = .ok (.if_icmp .ge 19, 3) := by decide +kernel
theorem d_plain_18 : decode method_2_code 18 = .ok (.iload_n 1, 1) := by decide +kernel
theorem d_plain_19 : decode method_2_code 19 = .ok (.bipush 34, 2) := by decide +kernel
theorem d_plain_21 : decode method_2_code 21 = .ok (.if_icmp .eq 13, 3) := by decide +kernel
theorem d_plain_24 : decode method_2_code 24 = .ok (.iload_n 1, 1) := by decide +kernel
theorem d_plain_25 : decode method_2_code 25 = .ok (.bipush 92, 2) := by decide +kernel
theorem d_plain_27 : decode method_2_code 27 = .ok (.if_icmp .eq 7, 3) := by decide +kernel
theorem d_plain_30 : decode method_2_code 30 = .ok (.iconst 1, 1) := by decide +kernel
theorem d_plain_31 : decode method_2_code 31 = .ok (.goto 4, 3) := by decide +kernel
theorem d_plain_34 : decode method_2_code 34 = .ok (.iconst 0, 1) := by decide +kernel
theorem d_plain_35 : decode method_2_code 35 = .ok (.ireturn, 1) := by decide +kernel
theorem ef_plain (m : MethodId) (x0 : Int32) : entryFrame m #[(.int x0)] 2 = mkF m 0 #[.val (.int x0), .unset] [] := by first | (simp [entryFrame, mkF, argsToLocals, Value.category]; done) | rfl
theorem pn_0 : plainName "xlogtap/JsonBuilderFirstNotPlainPinLaw" = true := by first | (simp [plainName, overriddenIn]; done) | decide +kernel
set_option maxRecDepth 65536 in
set_option maxHeartbeats 40000000 in
theorem rm_plain (l : Launch) (Z : State) (a0 : Array Value) (hw : ∀ d ∈ tables_1, d.before a0 Z = true) (ws : List Jvm.Cond) (pb : Int32) (h0 : Heap) :
    MetFree l (⟨"xlogtap/JsonBuilderFirstNotPlainPinLaw", "plain", "(B)Z"⟩ : MethodName) (head1 (Jvm.Cond.code (⟨"xlogtap/JsonBuilderFirstNotPlainPinLaw", "plain", "(B)Z"⟩ : MethodName) method_2_code 2 (some .boolean) :: ws) ({ frames := 0, cells := 0, slots := 0, locals := 0 } : Room)) (fun a_ U_ => a_ = #[(.int pb)] ∧ Z.Warmed39 U_.vm ∧ U_.heap = h0) (fun _ _ _ _ _ => True) (fun _ U_ o_ U_' => ∃ v_ L_, o_ = .returned v_ ∧ (QI (fun z => z.toInt = pl pb.toInt) h0) v_ U_'.heap L_ ∧ FrameEnd U_ o_ U_' L_ 0 0) := by
  refine ow_body (plainFor_of_name pn_0) ?_
  intro p e s m below meth c T0 X0 hx hZ hby hml hown hnm hret hlk e0
  refine Ends.cast (ef_plain m pb) ?_
  have r_pb := rng32 pb
  refine ow_iloadN X0 hx (hb hby d_plain_0) rfl (pc' := 1) rfl ?_
  refine ow_sipush X0 hx (z := (255 : Int32)) (hb hby d_plain_1) rfl (pc' := 4) rfl ?_
  refine ow_iand X0 hx (hb hby d_plain_4) (pc' := 5) rfl (fun z1 hz1 => ?_)
  have az1 : z1.toInt = pb.toInt % 256 := by rw [hz1]; exact c_mask pb (255 : Int32) 8 (by decide) (by decide)
  have rz1 := rng32 z1
  refine ow_istoreN X0 hx (Ls' := #[.val (.int pb), .val (.int z1)]) (hb hby d_plain_5) rfl (pc' := 6) rfl ?_
  refine ow_iloadN X0 hx (hb hby d_plain_6) rfl (pc' := 7) rfl ?_
  refine ow_bipush X0 hx (z := (32 : Int32)) (hb hby d_plain_7) rfl (pc' := 9) rfl ?_
  refine ow_icmp_lt X0 hx (z1.toInt) ((32 : Int)) (hb hby d_plain_9) rfl rfl (by decide) (pt := 34) (by decide) (pf := 12) rfl (fun c9 => ?_) (fun c9 => ?_)
  · refine ow_iconst X0 hx (z := (0 : Int32)) (hb hby d_plain_34) rfl (pc' := 35) rfl ?_
    exact ow_retB X0 hx hret hlk (hb hby d_plain_35) (by decide) (by decide) (z' := (0 : Int32)) rfl ⟨(0 : Int32), rfl, (show (0 : Int) = pl pb.toInt from by (have w := pl_iff pb.toInt; omega)), rfl, e0⟩
  · refine ow_iloadN X0 hx (hb hby d_plain_12) rfl (pc' := 13) rfl ?_
    refine ow_bipush X0 hx (z := (127 : Int32)) (hb hby d_plain_13) rfl (pc' := 15) rfl ?_
    refine ow_icmp_ge X0 hx (z1.toInt) ((127 : Int)) (hb hby d_plain_15) rfl rfl (by decide) (pt := 34) (by decide) (pf := 18) rfl (fun c15 => ?_) (fun c15 => ?_)
    · refine ow_iconst X0 hx (z := (0 : Int32)) (hb hby d_plain_34) rfl (pc' := 35) rfl ?_
      exact ow_retB X0 hx hret hlk (hb hby d_plain_35) (by decide) (by decide) (z' := (0 : Int32)) rfl ⟨(0 : Int32), rfl, (show (0 : Int) = pl pb.toInt from by (have w := pl_iff pb.toInt; omega)), rfl, e0⟩
    · refine ow_iloadN X0 hx (hb hby d_plain_18) rfl (pc' := 19) rfl ?_
      refine ow_bipush X0 hx (z := (34 : Int32)) (hb hby d_plain_19) rfl (pc' := 21) rfl ?_
      refine ow_icmp_eq X0 hx (z1.toInt) ((34 : Int)) (hb hby d_plain_21) rfl rfl (by decide) (pt := 34) (by decide) (pf := 24) rfl (fun c21 => ?_) (fun c21 => ?_)
      · refine ow_iconst X0 hx (z := (0 : Int32)) (hb hby d_plain_34) rfl (pc' := 35) rfl ?_
        exact ow_retB X0 hx hret hlk (hb hby d_plain_35) (by decide) (by decide) (z' := (0 : Int32)) rfl ⟨(0 : Int32), rfl, (show (0 : Int) = pl pb.toInt from by (have w := pl_iff pb.toInt; omega)), rfl, e0⟩
      · refine ow_iloadN X0 hx (hb hby d_plain_24) rfl (pc' := 25) rfl ?_
        refine ow_bipush X0 hx (z := (92 : Int32)) (hb hby d_plain_25) rfl (pc' := 27) rfl ?_
        refine ow_icmp_eq X0 hx (z1.toInt) ((92 : Int)) (hb hby d_plain_27) rfl rfl (by decide) (pt := 34) (by decide) (pf := 30) rfl (fun c27 => ?_) (fun c27 => ?_)
        · refine ow_iconst X0 hx (z := (0 : Int32)) (hb hby d_plain_34) rfl (pc' := 35) rfl ?_
          exact ow_retB X0 hx hret hlk (hb hby d_plain_35) (by decide) (by decide) (z' := (0 : Int32)) rfl ⟨(0 : Int32), rfl, (show (0 : Int) = pl pb.toInt from by (have w := pl_iff pb.toInt; omega)), rfl, e0⟩
        · refine ow_iconst X0 hx (z := (1 : Int32)) (hb hby d_plain_30) rfl (pc' := 31) rfl ?_
          refine ow_goto X0 hx (hb hby d_plain_31) (by decide) (pc' := 35) (by decide) ?_
          exact ow_retB X0 hx hret hlk (hb hby d_plain_35) (by decide) (by decide) (z' := (1 : Int32)) rfl ⟨(1 : Int32), rfl, (show (1 : Int) = pl pb.toInt from by (have w := pl_iff pb.toInt; omega)), rfl, e0⟩
theorem pd_0 : parseMethodDescriptor "(B)Z" = some ⟨[.byte], some .boolean⟩ := by decide +kernel
theorem d_stops_0 : decode method_3_code 0 = .ok (.iload_n 0, 1) := by decide +kernel
theorem d_stops_1 : decode method_3_code 1 = .ok (.iload_n 1, 1) := by decide +kernel
theorem d_stops_2 : decode method_3_code 2 = .ok (.if_icmp .lt 19, 3) := by decide +kernel
theorem d_stops_5 : decode method_3_code 5 = .ok (.iload_n 0, 1) := by decide +kernel
theorem d_stops_6 : decode method_3_code 6 = .ok (.iload_n 2, 1) := by decide +kernel
theorem d_stops_7 : decode method_3_code 7 = .ok (.if_icmp .ge 14, 3) := by decide +kernel
theorem d_stops_10 : decode method_3_code 10 = .ok (.iload_n 3, 1) := by decide +kernel
theorem d_stops_11 : decode method_3_code 11 = .ok (.invokestatic 7, 3) := by decide +kernel
theorem d_stops_14 : decode method_3_code 14 = .ok (.ifCond .ne 7, 3) := by decide +kernel
theorem d_stops_17 : decode method_3_code 17 = .ok (.iconst 1, 1) := by decide +kernel
theorem d_stops_18 : decode method_3_code 18 = .ok (.goto 4, 3) := by decide +kernel
theorem d_stops_21 : decode method_3_code 21 = .ok (.iconst 0, 1) := by decide +kernel
theorem d_stops_22 : decode method_3_code 22 = .ok (.ireturn, 1) := by decide +kernel
theorem ef_stops (m : MethodId) (x0 : Int32) (x1 : Int32) (x2 : Int32) (x3 : Int32) : entryFrame m #[(.int x0), (.int x1), (.int x2), (.int x3)] 4 = mkF m 0 #[.val (.int x0), .val (.int x1), .val (.int x2), .val (.int x3)] [] := by first | (simp [entryFrame, mkF, argsToLocals, Value.category]; done) | rfl
set_option maxRecDepth 65536 in
set_option maxHeartbeats 40000000 in
theorem rm_stops (l : Launch) (Z : State) (a0 : Array Value) (hw : ∀ d ∈ tables_1, d.before a0 Z = true) (ws : List Jvm.Cond) (pi : Int32) (pf : Int32) (pe : Int32) (pb : Int32) (h0 : Heap) :
    MetFree l (⟨"xlogtap/JsonBuilderFirstNotPlainPinLaw", "stops", "(IIIB)Z"⟩ : MethodName) (head1 (Jvm.Cond.code (⟨"xlogtap/JsonBuilderFirstNotPlainPinLaw", "stops", "(IIIB)Z"⟩ : MethodName) method_3_code 4 (some .boolean) :: ws) ({ frames := 1, cells := 0, slots := 0, locals := 13 } : Room)) (fun a_ U_ => a_ = #[(.int pi), (.int pf), (.int pe), (.int pb)] ∧ Z.Warmed39 U_.vm ∧ U_.heap = h0) (fun _ _ _ _ _ => True) (fun _ U_ o_ U_' => ∃ v_ L_, o_ = .returned v_ ∧ (QI (fun z => ((pf.toInt ≤ pi.toInt ∧ pi.toInt < pe.toInt ∧ pl pb.toInt = 0) ∧ z.toInt = 1) ∨ (¬ (pf.toInt ≤ pi.toInt ∧ pi.toInt < pe.toInt ∧ pl pb.toInt = 0) ∧ z.toInt = 0)) h0) v_ U_'.heap L_ ∧ FrameEnd U_ o_ U_' L_ 0 0) := by
  refine ow_body (plainFor_of_name pn_0) ?_
  intro p e s m below meth c T0 X0 hx hZ hby hml hown hnm hret hlk e0
  refine Ends.cast (ef_stops m pi pf pe pb) ?_
  have r_pi := rng32 pi
  have r_pf := rng32 pf
  have r_pe := rng32 pe
  have r_pb := rng32 pb
  refine ow_iloadN X0 hx (hb hby d_stops_0) rfl (pc' := 1) rfl ?_
  refine ow_iloadN X0 hx (hb hby d_stops_1) rfl (pc' := 2) rfl ?_
  refine ow_icmp_lt X0 hx (pi.toInt) (pf.toInt) (hb hby d_stops_2) rfl rfl (by decide) (pt := 21) (by decide) (pf := 5) rfl (fun c2 => ?_) (fun c2 => ?_)
  · refine ow_iconst X0 hx (z := (0 : Int32)) (hb hby d_stops_21) rfl (pc' := 22) rfl ?_
    exact ow_retB X0 hx hret hlk (hb hby d_stops_22) (by decide) (by decide) (z' := (0 : Int32)) rfl ⟨(0 : Int32), rfl, (show ((pf.toInt ≤ pi.toInt ∧ pi.toInt < pe.toInt ∧ pl pb.toInt = 0) ∧ (0 : Int) = 1) ∨ (¬ (pf.toInt ≤ pi.toInt ∧ pi.toInt < pe.toInt ∧ pl pb.toInt = 0) ∧ (0 : Int) = 0) from by (have w := pl01 pb.toInt; omega)), rfl, e0⟩
  · refine ow_iloadN X0 hx (hb hby d_stops_5) rfl (pc' := 6) rfl ?_
    refine ow_iloadN X0 hx (hb hby d_stops_6) rfl (pc' := 7) rfl ?_
    refine ow_icmp_ge X0 hx (pi.toInt) (pe.toInt) (hb hby d_stops_7) rfl rfl (by decide) (pt := 21) (by decide) (pf := 10) rfl (fun c7 => ?_) (fun c7 => ?_)
    · refine ow_iconst X0 hx (z := (0 : Int32)) (hb hby d_stops_21) rfl (pc' := 22) rfl ?_
      exact ow_retB X0 hx hret hlk (hb hby d_stops_22) (by decide) (by decide) (z' := (0 : Int32)) rfl ⟨(0 : Int32), rfl, (show ((pf.toInt ≤ pi.toInt ∧ pi.toInt < pe.toInt ∧ pl pb.toInt = 0) ∧ (0 : Int) = 1) ∨ (¬ (pf.toInt ≤ pi.toInt ∧ pi.toInt < pe.toInt ∧ pl pb.toInt = 0) ∧ (0 : Int) = 0) from by (have w := pl01 pb.toInt; omega)), rfl, e0⟩
    · refine ow_iloadN X0 hx (hb hby d_stops_10) rfl (pc' := 11) rfl ?_
      refine ow_callPI X0 hx hZ hown (hw _ (List.mem_of_getElem? (i := 10) rfl)) (hw _ (List.mem_of_getElem? (i := 11) rfl)) (hw _ (List.mem_of_getElem? (i := 4) rfl)) (hw _ (List.mem_of_getElem? (i := 12) rfl)) (by decide) (rm_plain l Z a0 hw [] pb h0 ) e0 0 (by decide) (by decide) (by decide) (by decide) [(.int pb)] (by rw [hml]; rfl) pd_0 rfl rfl rfl (Nat.le_of_eq rfl) (hb hby d_stops_11) (pc' := 14) rfl (fun z1 T1 hz1 X1 e1 => ?_)
      have az1 : z1.toInt = pl pb.toInt := hz1
      have rz1 := rng32 z1
      refine ow_if_ne X1 hx (z1.toInt) (hb hby d_stops_14) rfl (by decide) (pt := 21) (by decide) (pf := 17) rfl (fun c14 => ?_) (fun c14 => ?_)
      · refine ow_iconst X1 hx (z := (0 : Int32)) (hb hby d_stops_21) rfl (pc' := 22) rfl ?_
        exact ow_retB X1 hx hret hlk (hb hby d_stops_22) (by decide) (by decide) (z' := (0 : Int32)) rfl ⟨(0 : Int32), rfl, (show ((pf.toInt ≤ pi.toInt ∧ pi.toInt < pe.toInt ∧ pl pb.toInt = 0) ∧ (0 : Int) = 1) ∨ (¬ (pf.toInt ≤ pi.toInt ∧ pi.toInt < pe.toInt ∧ pl pb.toInt = 0) ∧ (0 : Int) = 0) from by (have w := pl01 pb.toInt; omega)), rfl, e1⟩
      · refine ow_iconst X1 hx (z := (1 : Int32)) (hb hby d_stops_17) rfl (pc' := 18) rfl ?_
        refine ow_goto X1 hx (hb hby d_stops_18) (by decide) (pc' := 22) (by decide) ?_
        exact ow_retB X1 hx hret hlk (hb hby d_stops_22) (by decide) (by decide) (z' := (1 : Int32)) rfl ⟨(1 : Int32), rfl, (show ((pf.toInt ≤ pi.toInt ∧ pi.toInt < pe.toInt ∧ pl pb.toInt = 0) ∧ (1 : Int) = 1) ∨ (¬ (pf.toInt ≤ pi.toInt ∧ pi.toInt < pe.toInt ∧ pl pb.toInt = 0) ∧ (1 : Int) = 0) from by (have w := pl01 pb.toInt; omega)), rfl, e1⟩
theorem d_fnp_0 : decode prog_41_method_33_code 0 = .ok (.iload_n 1, 1) := by decide +kernel
theorem d_fnp_1 : decode prog_41_method_33_code 1 = .ok (.istore_n 3, 1) := by decide +kernel
theorem d_fnp_2 : decode prog_41_method_33_code 2 = .ok (.iload_n 3, 1) := by decide +kernel
theorem d_fnp_3 : decode prog_41_method_33_code 3 = .ok (.iload_n 2, 1) := by decide +kernel
theorem d_fnp_4 : decode prog_41_method_33_code 4 = .ok (.if_icmp .ge 23, 3) := by decide +kernel
theorem d_fnp_7 : decode prog_41_method_33_code 7 = .ok (.getstatic 262, 3) := by decide +kernel
theorem d_fnp_10 : decode prog_41_method_33_code 10 = .ok (.aload_n 0, 1) := by decide +kernel
theorem d_fnp_11 : decode prog_41_method_33_code 11 = .ok (.iload_n 3, 1) := by decide +kernel
theorem d_fnp_12 : decode prog_41_method_33_code 12 = .ok (.baload, 1) := by decide +kernel
theorem d_fnp_13 : decode prog_41_method_33_code 13 = .ok (.sipush 255, 3) := by decide +kernel
theorem d_fnp_16 : decode prog_41_method_33_code 16 = .ok (.iand, 1) := by decide +kernel
theorem d_fnp_17 : decode prog_41_method_33_code 17 = .ok (.baload, 1) := by decide +kernel
theorem d_fnp_18 : decode prog_41_method_33_code 18 = .ok (.ifCond .eq 9, 3) := by decide +kernel
theorem d_fnp_21 : decode prog_41_method_33_code 21 = .ok (.iinc 3 1, 3) := by decide +kernel
theorem d_fnp_24 : decode prog_41_method_33_code 24 = .ok (.goto (-22), 3) := by decide +kernel
theorem d_fnp_27 : decode prog_41_method_33_code 27 = .ok (.iload_n 3, 1) := by decide +kernel
theorem d_fnp_28 : decode prog_41_method_33_code 28 = .ok (.ireturn, 1) := by decide +kernel
theorem ef_fnp (m : MethodId) (x0 : Addr) (x1 : Int32) (x2 : Int32) : entryFrame m #[(.ref x0), (.int x1), (.int x2)] 4 = mkF m 0 #[.val (.ref x0), .val (.int x1), .val (.int x2), .unset] [] := by first | (simp [entryFrame, mkF, argsToLocals, Value.category]; done) | rfl
theorem pn_1 : plainName "xlogtap/JsonBuilder" = true := by first | (simp [plainName, overriddenIn]; done) | decide +kernel
set_option maxRecDepth 65536 in
set_option maxHeartbeats 40000000 in
theorem rm_fnp (l : Launch) (Z : State) (a0 : Array Value) (hw : ∀ d ∈ tables_1, d.before a0 Z = true) (ws : List Jvm.Cond) (oa : Addr) (pf : Int32) (pe : Int32) (ka : ClassId) (px0 : Int32) (px1 : Int32) (px2 : Int32) (px3 : Int32) (ot : Addr) (kt : ClassId) (h0 : Heap) (S_t : Sta Z h0 "xlogtap/JsonBuilder" "PLAIN" "[Z" (.ref ot)) (V_t : Arv Z h0 ot kt (.boolean) (256 : Int32) TAB (.int (0 : Int32))) (V_a : Arv Z h0 oa ka (.byte) (4 : Int32) [(.int px0), (.int px1), (.int px2), (.int px3)] (.int (0 : Int32))) (hf0 : 0 ≤ pf.toInt) (hfe : pf.toInt ≤ pe.toInt) (he4 : pe.toInt ≤ 4) :
    MetFree l (⟨"xlogtap/JsonBuilder", "firstNotPlain", "([BII)I"⟩ : MethodName) (head1 (Jvm.Cond.code (⟨"xlogtap/JsonBuilder", "firstNotPlain", "([BII)I"⟩ : MethodName) prog_41_method_33_code 4 (some .int) :: ws) ({ frames := 0, cells := 0, slots := 0, locals := 0 } : Room)) (fun a_ U_ => a_ = #[(.ref oa), (.int pf), (.int pe)] ∧ Z.Warmed39 U_.vm ∧ U_.heap = h0) (fun _ _ _ _ _ => True) (fun _ U_ o_ U_' => ∃ v_ L_, o_ = .returned v_ ∧ (QI (fun z => pf.toInt ≤ z.toInt ∧ z.toInt ≤ pe.toInt ∧ (pf.toInt ≤ 0 → 0 < z.toInt → pl px0.toInt = 1) ∧ (pf.toInt ≤ 1 → 1 < z.toInt → pl px1.toInt = 1) ∧ (pf.toInt ≤ 2 → 2 < z.toInt → pl px2.toInt = 1) ∧ (pf.toInt ≤ 3 → 3 < z.toInt → pl px3.toInt = 1) ∧ (z.toInt = pe.toInt ∨ (z.toInt = 0 ∧ pl px0.toInt = 0) ∨ (z.toInt = 1 ∧ pl px1.toInt = 0) ∨ (z.toInt = 2 ∧ pl px2.toInt = 0) ∨ (z.toInt = 3 ∧ pl px3.toInt = 0))) h0) v_ U_'.heap L_ ∧ FrameEnd U_ o_ U_' L_ 0 0) := by
  refine ow_body (plainFor_of_name pn_1) ?_
  intro p e s m below meth c T0 X0 hx hZ hby hml hown hnm hret hlk e0
  refine Ends.cast (ef_fnp m oa pf pe) ?_
  have r_pf := rng32 pf
  have r_pe := rng32 pe
  refine ow_iloadN X0 hx (hb hby d_fnp_0) rfl (pc' := 1) rfl ?_
  refine ow_istoreN X0 hx (Ls' := #[.val (.ref oa), .val (.int pf), .val (.int pe), .val (.int pf)]) (hb hby d_fnp_1) rfl (pc' := 2) rfl ?_
  have J2 : ∀ (n : Nat) (ii : Int32) (T1 : State), Stand p l e ({ frames := 0, cells := 0, slots := 0, locals := 0 } : Room) s m #[(.ref oa), (.int pf), (.int pe)] below meth c T1 [] 0 0 → T1.heap = h0 → (pf.toInt ≤ ii.toInt ∧ ii.toInt ≤ pe.toInt ∧ (pf.toInt ≤ 0 → 0 < ii.toInt → pl px0.toInt = 1) ∧ (pf.toInt ≤ 1 → 1 < ii.toInt → pl px1.toInt = 1) ∧ (pf.toInt ≤ 2 → 2 < ii.toInt → pl px2.toInt = 1) ∧ (pf.toInt ≤ 3 → 3 < ii.toInt → pl px3.toInt = 1)) → (pe.toInt - ii.toInt) = (n : Int) → Ends p e below (Out s 0 0 (QI (fun z => pf.toInt ≤ z.toInt ∧ z.toInt ≤ pe.toInt ∧ (pf.toInt ≤ 0 → 0 < z.toInt → pl px0.toInt = 1) ∧ (pf.toInt ≤ 1 → 1 < z.toInt → pl px1.toInt = 1) ∧ (pf.toInt ≤ 2 → 2 < z.toInt → pl px2.toInt = 1) ∧ (pf.toInt ≤ 3 → 3 < z.toInt → pl px3.toInt = 1) ∧ (z.toInt = pe.toInt ∨ (z.toInt = 0 ∧ pl px0.toInt = 0) ∨ (z.toInt = 1 ∧ pl px1.toInt = 0) ∨ (z.toInt = 2 ∧ pl px2.toInt = 0) ∨ (z.toInt = 3 ∧ pl px3.toInt = 0))) h0)) T1 (mkF m 2 #[.val (.ref oa), .val (.int pf), .val (.int pe), .val (.int ii)] []) := by
    intro n
    induction n using Nat.strongRecOn with
    | _ n ih =>
      intro ii T1 X1 e1 hi2 hm2
      have r_ii := rng32 ii
      refine ow_iloadN X1 hx (hb hby d_fnp_2) rfl (pc' := 3) rfl ?_
      refine ow_iloadN X1 hx (hb hby d_fnp_3) rfl (pc' := 4) rfl ?_
      refine ow_icmp_ge X1 hx (ii.toInt) (pe.toInt) (hb hby d_fnp_4) rfl rfl (by decide) (pt := 27) (by decide) (pf := 7) rfl (fun c4 => ?_) (fun c4 => ?_)
      · refine ow_iloadN X1 hx (hb hby d_fnp_27) rfl (pc' := 28) rfl ?_
        exact ow_retI X1 hx hret hlk (hb hby d_fnp_28) (by decide) (by decide) ⟨ii, rfl, (show pf.toInt ≤ ii.toInt ∧ ii.toInt ≤ pe.toInt ∧ (pf.toInt ≤ 0 → 0 < ii.toInt → pl px0.toInt = 1) ∧ (pf.toInt ≤ 1 → 1 < ii.toInt → pl px1.toInt = 1) ∧ (pf.toInt ≤ 2 → 2 < ii.toInt → pl px2.toInt = 1) ∧ (pf.toInt ≤ 3 → 3 < ii.toInt → pl px3.toInt = 1) ∧ (ii.toInt = pe.toInt ∨ (ii.toInt = 0 ∧ pl px0.toInt = 0) ∨ (ii.toInt = 1 ∧ pl px1.toInt = 0) ∨ (ii.toInt = 2 ∧ pl px2.toInt = 0) ∨ (ii.toInt = 3 ∧ pl px3.toInt = 0)) from by omega), rfl, e1⟩
      · refine ow_getS X1 hx hZ hown (host := "") (Or.inl (hw _ (List.mem_of_getElem? (i := 13) rfl))) Via.refl e1 S_t (hb hby d_fnp_7) (pc' := 10) rfl (fun T2 X2 e2 => ?_)
        refine ow_aloadN X2 hx (hb hby d_fnp_10) rfl rfl (pc' := 11) rfl ?_
        refine ow_iloadN X2 hx (hb hby d_fnp_11) rfl (pc' := 12) rfl ?_
        obtain ⟨w3, hv3, hw3⟩ : ∃ w : Int32, ([(.int px0), (.int px1), (.int px2), (.int px3)] : List Value).getD ii.toNatClampNeg (.int (0 : Int32)) = .int w ∧ ((ii.toInt = 0 ∧ pl w.toInt = pl px0.toInt) ∨ (ii.toInt = 1 ∧ pl w.toInt = pl px1.toInt) ∨ (ii.toInt = 2 ∧ pl w.toInt = pl px2.toInt) ∨ (ii.toInt = 3 ∧ pl w.toInt = pl px3.toInt)) := by
          have hn : ii.toNatClampNeg = ii.toInt.toNat := rfl
          have hj4 : ii.toInt = 0 ∨ ii.toInt = 1 ∨ ii.toInt = 2 ∨ ii.toInt = 3 := by omega
          rw [hn]
          rcases hj4 with q | q | q | q <;> rw [q] <;> exact ⟨_, rfl, by omega⟩
        have rw3 := rng32 w3
        refine ow_ldB X2 hx hZ e2 V_a (ow_nlt (y := (0 : Int32)) (show ¬ ii.toInt < 0 from by omega)) (ow_lt (y := (4 : Int32)) (show ii.toInt < 4 from by omega)) hv3 (hb hby d_fnp_12) (pc' := 13) rfl ?_
        refine ow_sipush X2 hx (z := (255 : Int32)) (hb hby d_fnp_13) rfl (pc' := 16) rfl ?_
        refine ow_iand X2 hx (hb hby d_fnp_16) (pc' := 17) rfl (fun z4 hz4 => ?_)
        have az4 : z4.toInt = w3.toInt % 256 := by rw [hz4]; exact c_mask w3 (255 : Int32) 8 (by decide) (by decide)
        have rz4 := rng32 z4
        obtain ⟨w5, hw5⟩ : ∃ w : Int32, w = tabF z4.toInt.toNat := ⟨_, rfl⟩
        have hv5 : TAB.getD z4.toNatClampNeg (.int (0 : Int32)) = .int w5 := by rw [hw5]; exact ow_tab tabF 256 z4 _ (by omega) (by omega)
        have aw5 : w5.toInt = pl w3.toInt := by
          rw [hw5, tabF_pl _ (by omega), show ((z4.toInt.toNat : Nat) : Int) = w3.toInt % 256 from by omega, pl_mod]
        have ap5 := pl01 w3.toInt
        refine ow_ldZ X2 hx hZ e2 V_t (ow_nlt (y := (0 : Int32)) (show ¬ z4.toInt < 0 from by omega)) (ow_lt (y := (256 : Int32)) (show z4.toInt < 256 from by omega)) hv5 (hb hby d_fnp_17) (pc' := 18) rfl ?_
        refine ow_if_eq X2 hx (w5.toInt) (hb hby d_fnp_18) rfl (by decide) (pt := 27) (by decide) (pf := 21) rfl (fun c18 => ?_) (fun c18 => ?_)
        · refine ow_iloadN X2 hx (hb hby d_fnp_27) rfl (pc' := 28) rfl ?_
          exact ow_retI X2 hx hret hlk (hb hby d_fnp_28) (by decide) (by decide) ⟨ii, rfl, (show pf.toInt ≤ ii.toInt ∧ ii.toInt ≤ pe.toInt ∧ (pf.toInt ≤ 0 → 0 < ii.toInt → pl px0.toInt = 1) ∧ (pf.toInt ≤ 1 → 1 < ii.toInt → pl px1.toInt = 1) ∧ (pf.toInt ≤ 2 → 2 < ii.toInt → pl px2.toInt = 1) ∧ (pf.toInt ≤ 3 → 3 < ii.toInt → pl px3.toInt = 1) ∧ (ii.toInt = pe.toInt ∨ (ii.toInt = 0 ∧ pl px0.toInt = 0) ∨ (ii.toInt = 1 ∧ pl px1.toInt = 0) ∨ (ii.toInt = 2 ∧ pl px2.toInt = 0) ∨ (ii.toInt = 3 ∧ pl px3.toInt = 0)) from by omega), rfl, e2⟩
        · refine ow_iinc X2 hx (Ls' := #[.val (.ref oa), .val (.int pf), .val (.int pe), .val (.int ii)]) (hb hby d_fnp_21) rfl (fun z => rfl) (pc' := 24) rfl (fun z6 hz6 => ?_)
          show Ends _ _ _ _ T2 (mkF m 24 #[.val (.ref oa), .val (.int pf), .val (.int pe), .val (.int z6)] [])
          have az6 : (z6.toInt - (ii.toInt + 1)) % 4294967296 = 0 := by rw [hz6]; exact c_iadd ii (1 : Int32)
          have rz6 := rng32 z6
          refine ow_goto X2 hx (hb hby d_fnp_24) (by decide) (pc' := 2) (by decide) ?_
          exact ih (pe.toInt - z6.toInt).toNat (by omega) z6 T2 X2 e2 (show pf.toInt ≤ z6.toInt ∧ z6.toInt ≤ pe.toInt ∧ (pf.toInt ≤ 0 → 0 < z6.toInt → pl px0.toInt = 1) ∧ (pf.toInt ≤ 1 → 1 < z6.toInt → pl px1.toInt = 1) ∧ (pf.toInt ≤ 2 → 2 < z6.toInt → pl px2.toInt = 1) ∧ (pf.toInt ≤ 3 → 3 < z6.toInt → pl px3.toInt = 1) from by omega) (show (pe.toInt - z6.toInt) = (((pe.toInt - z6.toInt).toNat : Nat) : Int) from by omega)
  exact J2 (pe.toInt - pf.toInt).toNat pf T0 X0 e0 (show pf.toInt ≤ pf.toInt ∧ pf.toInt ≤ pe.toInt ∧ (pf.toInt ≤ 0 → 0 < pf.toInt → pl px0.toInt = 1) ∧ (pf.toInt ≤ 1 → 1 < pf.toInt → pl px1.toInt = 1) ∧ (pf.toInt ≤ 2 → 2 < pf.toInt → pl px2.toInt = 1) ∧ (pf.toInt ≤ 3 → 3 < pf.toInt → pl px3.toInt = 1) from by omega) (show (pe.toInt - pf.toInt) = (((pe.toInt - pf.toInt).toNat : Nat) : Int) from by omega)
theorem pd_1 : parseMethodDescriptor "(IIIB)Z" = some ⟨[.int, .int, .int, .byte], some .boolean⟩ := by decide +kernel
theorem pd_2 : parseMethodDescriptor "([BII)I" = some ⟨[(.array .byte), .int, .int], some .int⟩ := by decide +kernel
theorem ef_law (m : MethodId) (x0 : Int32) (x1 : Int32) (x2 : Int32) : entryFrame m #[(.int x0), (.int x1), (.int x2)] maxLocals = mkF m 0 #[.val (.int x0), .val (.int x1), .val (.int x2), .unset, .unset, .unset, .unset, .unset, .unset, .unset, .unset] [] := by first | (simp [entryFrame, mkF, argsToLocals, Value.category, maxLocals]; done) | rfl
def Q_law (pa : Int32) (pf : Int32) (pg : Int32) (ot : Addr) (kt : ClassId) (h0 : Heap) (n0 : Nat) (v : Option Value) (h : Heap) (L : List Loc) : Prop := v = some (.int 1) ∧ Fr n0 L
set_option maxRecDepth 65536 in
set_option maxHeartbeats 40000000 in
theorem rm_law (l : Launch) (Z : State) (a0 : Array Value) (hw : ∀ d ∈ tables_1, d.before a0 Z = true) (ws : List Jvm.Cond) (pa : Int32) (pf : Int32) (pg : Int32) (ot : Addr) (kt : ClassId) (h0 : Heap) (n0 : Nat) (Z0 : n0 ≤ h0.size) (S_t : Sta Z h0 "xlogtap/JsonBuilder" "PLAIN" "[Z" (.ref ot)) (V_t : Arv Z h0 ot kt (.boolean) (256 : Int32) TAB (.int (0 : Int32))) :
    MetFree l x (head1 (Jvm.Cond.code x code maxLocals ret :: ws) room_1) (fun a_ U_ => a_ = #[(.int pa), (.int pf), (.int pg)] ∧ Z.Warmed39 U_.vm ∧ U_.heap = h0) (fun _ _ _ _ _ => True) (fun _ U_ o_ U_' => ∃ v_ L_, o_ = .returned v_ ∧ (Q_law pa pf pg ot kt h0 n0) v_ U_'.heap L_ ∧ FrameEnd U_ o_ U_' L_ 16 128) := by
  refine ow_body (plainFor_of_name pn_0) ?_
  intro p e s m below meth c T0 X0 hx hZ hby hml hown hnm hret hlk e0
  have N0 := Fr.nil n0
  have hret : meth.sig.returnType = (some .boolean) := hret
  refine Ends.cast (ef_law m pa pf pg) ?_
  have r_pa := rng32 pa
  have r_pf := rng32 pf
  have r_pg := rng32 pg
  refine ow_iloadN X0 hx (hb hby at_0) rfl (pc' := 1) rfl ?_
  refine ow_i2b X0 hx (hb hby at_1) (pc' := 2) rfl (fun z1 hz1 => ?_)
  have az1 : (z1.toInt - pa.toInt) % 256 = 0 ∧ -128 ≤ z1.toInt ∧ z1.toInt < 128 := by rw [hz1]; exact c_i2b pa
  have rz1 := rng32 z1
  refine ow_istoreN X0 hx (Ls' := #[.val (.int pa), .val (.int pf), .val (.int pg), .val (.int z1), .unset, .unset, .unset, .unset, .unset, .unset, .unset]) (hb hby at_2) rfl (pc' := 3) rfl ?_
  refine ow_iloadN X0 hx (hb hby at_3) rfl (pc' := 4) rfl ?_
  refine ow_bipush X0 hx (z := (8 : Int32)) (hb hby at_4) rfl (pc' := 6) rfl ?_
  refine ow_ishr X0 hx (hb hby at_6) (pc' := 7) rfl (fun z2 hz2 => ?_)
  have az2 : z2.toInt = pa.toInt / 256 := by rw [hz2]; exact c_ishr pa (8 : Int32) 8 (by decide)
  have rz2 := rng32 z2
  refine ow_i2b X0 hx (hb hby at_7) (pc' := 8) rfl (fun z3 hz3 => ?_)
  have az3 : (z3.toInt - z2.toInt) % 256 = 0 ∧ -128 ≤ z3.toInt ∧ z3.toInt < 128 := by rw [hz3]; exact c_i2b z2
  have rz3 := rng32 z3
  refine ow_istore X0 hx (Ls' := #[.val (.int pa), .val (.int pf), .val (.int pg), .val (.int z1), .val (.int z3), .unset, .unset, .unset, .unset, .unset, .unset]) (hb hby at_8) rfl (pc' := 10) rfl ?_
  refine ow_iloadN X0 hx (hb hby at_10) rfl (pc' := 11) rfl ?_
  refine ow_bipush X0 hx (z := (16 : Int32)) (hb hby at_11) rfl (pc' := 13) rfl ?_
  refine ow_ishr X0 hx (hb hby at_13) (pc' := 14) rfl (fun z4 hz4 => ?_)
  have az4 : z4.toInt = pa.toInt / 65536 := by rw [hz4]; exact c_ishr pa (16 : Int32) 16 (by decide)
  have rz4 := rng32 z4
  refine ow_i2b X0 hx (hb hby at_14) (pc' := 15) rfl (fun z5 hz5 => ?_)
  have az5 : (z5.toInt - z4.toInt) % 256 = 0 ∧ -128 ≤ z5.toInt ∧ z5.toInt < 128 := by rw [hz5]; exact c_i2b z4
  have rz5 := rng32 z5
  refine ow_istore X0 hx (Ls' := #[.val (.int pa), .val (.int pf), .val (.int pg), .val (.int z1), .val (.int z3), .val (.int z5), .unset, .unset, .unset, .unset, .unset]) (hb hby at_15) rfl (pc' := 17) rfl ?_
  refine ow_iloadN X0 hx (hb hby at_17) rfl (pc' := 18) rfl ?_
  refine ow_bipush X0 hx (z := (24 : Int32)) (hb hby at_18) rfl (pc' := 20) rfl ?_
  refine ow_ishr X0 hx (hb hby at_20) (pc' := 21) rfl (fun z6 hz6 => ?_)
  have az6 : z6.toInt = pa.toInt / 16777216 := by rw [hz6]; exact c_ishr pa (24 : Int32) 24 (by decide)
  have rz6 := rng32 z6
  refine ow_i2b X0 hx (hb hby at_21) (pc' := 22) rfl (fun z7 hz7 => ?_)
  have az7 : (z7.toInt - z6.toInt) % 256 = 0 ∧ -128 ≤ z7.toInt ∧ z7.toInt < 128 := by rw [hz7]; exact c_i2b z6
  have rz7 := rng32 z7
  refine ow_istore X0 hx (Ls' := #[.val (.int pa), .val (.int pf), .val (.int pg), .val (.int z1), .val (.int z3), .val (.int z5), .val (.int z7), .unset, .unset, .unset, .unset]) (hb hby at_22) rfl (pc' := 24) rfl ?_
  refine ow_iconst X0 hx (z := (4 : Int32)) (hb hby at_24) rfl (pc' := 25) rfl ?_
  refine ow_newP X0 hx hZ (hw _ (List.mem_of_getElem? (i := 0) rfl)) e0 (hb hby at_25) (by decide) 4 (by decide) (by decide) (by decide) (by decide) (pc' := 27) rfl (fun T8 h8 b8 k8 g8 X8 e8 E8 V8 => ?_)
  have ne_ot_b8 : ot ≠ b8 := Nat.ne_of_lt (Nat.lt_of_lt_of_le V_t.lt (Nat.le_of_eq g8.symm))
  have g_b8 : n0 ≤ b8 := Nat.le_trans Z0 (Nat.le_of_eq g8.symm)
  have sz_b8 : h0.size ≤ b8 := Nat.le_trans (Keep.refl h0 []).1 (Nat.le_of_eq g8.symm)
  have S_xlogtap_JsonBuilder_PLAIN_8 := S_t.ext E8
  have V_ot_8 := V_t.ext E8
  have Zs8 : n0 ≤ h8.size := Nat.le_trans Z0 E8.1
  have K8 := (Keep.refl h0 []).ext E8
  have V_b8 : Arv Z h8 b8 k8 .byte (4 : Int32) [(.int (0 : Int32)), (.int (0 : Int32)), (.int (0 : Int32)), (.int (0 : Int32))] (.int (0 : Int32)) := V8.pad (pad_rep [] (.int (0 : Int32)) 4)
  refine ow_dup X8 hx (hb hby at_27) rfl (pc' := 28) rfl ?_
  refine ow_iconst X8 hx (z := (0 : Int32)) (hb hby at_28) rfl (pc' := 29) rfl ?_
  refine ow_iloadN X8 hx (hb hby at_29) rfl (pc' := 30) rfl ?_
  refine ow_stB X8 hx hZ e8 V_b8 0 rfl (by decide) (by decide) (Nat.le_of_ble_eq_true rfl) (hb hby at_30) (pc' := 31) rfl (fun T9 h9 X9 e9 W9 V9 => ?_)
  obtain ⟨y9, hy9⟩ : ∃ y : Int32, y = z1.toInt8.toInt32 := ⟨_, rfl⟩
  rw [← hy9] at W9 V9
  have ay9 : (y9.toInt - z1.toInt) % 256 = 0 ∧ -128 ≤ y9.toInt ∧ y9.toInt < 128 := by rw [hy9]; exact c_i2b z1
  rw [show y9 = z1 from ow_eq (by omega)] at W9 V9
  have V_b8_9 : Arv Z h9 b8 k8 .byte (4 : Int32) [(.int z1), (.int (0 : Int32)), (.int (0 : Int32)), (.int (0 : Int32))] (.int (0 : Int32)) := V9
  have S_xlogtap_JsonBuilder_PLAIN_9 := S_xlogtap_JsonBuilder_PLAIN_8.wr W9
  have V_ot_9 := V_ot_8.other W9 ne_ot_b8
  have Zs9 : n0 ≤ h9.size := Nat.le_trans Zs8 (Keep.of_wr W9).1
  have K9 := K8.wr W9 (Or.inr sz_b8)
  have N9 := Fr.snoc X9 N0 g_b8
  refine ow_dup X9 hx (hb hby at_31) rfl (pc' := 32) rfl ?_
  refine ow_iconst X9 hx (z := (1 : Int32)) (hb hby at_32) rfl (pc' := 33) rfl ?_
  refine ow_iload X9 hx (hb hby at_33) rfl (pc' := 35) rfl ?_
  refine ow_stB X9 hx hZ e9 V_b8_9 1 rfl (by decide) (by decide) (Nat.le_of_ble_eq_true rfl) (hb hby at_35) (pc' := 36) rfl (fun T10 h10 X10 e10 W10 V10 => ?_)
  obtain ⟨y10, hy10⟩ : ∃ y : Int32, y = z3.toInt8.toInt32 := ⟨_, rfl⟩
  rw [← hy10] at W10 V10
  have ay10 : (y10.toInt - z3.toInt) % 256 = 0 ∧ -128 ≤ y10.toInt ∧ y10.toInt < 128 := by rw [hy10]; exact c_i2b z3
  rw [show y10 = z3 from ow_eq (by omega)] at W10 V10
  have V_b8_10 : Arv Z h10 b8 k8 .byte (4 : Int32) [(.int z1), (.int z3), (.int (0 : Int32)), (.int (0 : Int32))] (.int (0 : Int32)) := V10
  have S_xlogtap_JsonBuilder_PLAIN_10 := S_xlogtap_JsonBuilder_PLAIN_9.wr W10
  have V_ot_10 := V_ot_9.other W10 ne_ot_b8
  have Zs10 : n0 ≤ h10.size := Nat.le_trans Zs9 (Keep.of_wr W10).1
  have K10 := K9.wr W10 (Or.inr sz_b8)
  have N10 := Fr.snoc X10 N9 g_b8
  refine ow_dup X10 hx (hb hby at_36) rfl (pc' := 37) rfl ?_
  refine ow_iconst X10 hx (z := (2 : Int32)) (hb hby at_37) rfl (pc' := 38) rfl ?_
  refine ow_iload X10 hx (hb hby at_38) rfl (pc' := 40) rfl ?_
  refine ow_stB X10 hx hZ e10 V_b8_10 2 rfl (by decide) (by decide) (Nat.le_of_ble_eq_true rfl) (hb hby at_40) (pc' := 41) rfl (fun T11 h11 X11 e11 W11 V11 => ?_)
  obtain ⟨y11, hy11⟩ : ∃ y : Int32, y = z5.toInt8.toInt32 := ⟨_, rfl⟩
  rw [← hy11] at W11 V11
  have ay11 : (y11.toInt - z5.toInt) % 256 = 0 ∧ -128 ≤ y11.toInt ∧ y11.toInt < 128 := by rw [hy11]; exact c_i2b z5
  rw [show y11 = z5 from ow_eq (by omega)] at W11 V11
  have V_b8_11 : Arv Z h11 b8 k8 .byte (4 : Int32) [(.int z1), (.int z3), (.int z5), (.int (0 : Int32))] (.int (0 : Int32)) := V11
  have S_xlogtap_JsonBuilder_PLAIN_11 := S_xlogtap_JsonBuilder_PLAIN_10.wr W11
  have V_ot_11 := V_ot_10.other W11 ne_ot_b8
  have Zs11 : n0 ≤ h11.size := Nat.le_trans Zs10 (Keep.of_wr W11).1
  have K11 := K10.wr W11 (Or.inr sz_b8)
  have N11 := Fr.snoc X11 N10 g_b8
  refine ow_dup X11 hx (hb hby at_41) rfl (pc' := 42) rfl ?_
  refine ow_iconst X11 hx (z := (3 : Int32)) (hb hby at_42) rfl (pc' := 43) rfl ?_
  refine ow_iload X11 hx (hb hby at_43) rfl (pc' := 45) rfl ?_
  refine ow_stB X11 hx hZ e11 V_b8_11 3 rfl (by decide) (by decide) (Nat.le_of_ble_eq_true rfl) (hb hby at_45) (pc' := 46) rfl (fun T12 h12 X12 e12 W12 V12 => ?_)
  obtain ⟨y12, hy12⟩ : ∃ y : Int32, y = z7.toInt8.toInt32 := ⟨_, rfl⟩
  rw [← hy12] at W12 V12
  have ay12 : (y12.toInt - z7.toInt) % 256 = 0 ∧ -128 ≤ y12.toInt ∧ y12.toInt < 128 := by rw [hy12]; exact c_i2b z7
  rw [show y12 = z7 from ow_eq (by omega)] at W12 V12
  have V_b8_12 : Arv Z h12 b8 k8 .byte (4 : Int32) [(.int z1), (.int z3), (.int z5), (.int z7)] (.int (0 : Int32)) := V12
  have S_xlogtap_JsonBuilder_PLAIN_12 := S_xlogtap_JsonBuilder_PLAIN_11.wr W12
  have V_ot_12 := V_ot_11.other W12 ne_ot_b8
  have Zs12 : n0 ≤ h12.size := Nat.le_trans Zs11 (Keep.of_wr W12).1
  have K12 := K11.wr W12 (Or.inr sz_b8)
  have N12 := Fr.snoc X12 N11 g_b8
  refine ow_astore X12 hx (Ls' := #[.val (.int pa), .val (.int pf), .val (.int pg), .val (.int z1), .val (.int z3), .val (.int z5), .val (.int z7), .val (.ref b8), .unset, .unset, .unset]) (hb hby at_46) rfl rfl (pc' := 48) rfl ?_
  refine ow_iloadN X12 hx (hb hby at_48) rfl (pc' := 49) rfl ?_
  refine ow_ldcInt X12 hx hZ hown (hw _ (List.mem_of_getElem? (i := 1) rfl)) (hb hby at_49) (pc' := 51) rfl ?_
  refine ow_iand X12 hx (hb hby at_51) (pc' := 52) rfl (fun z13 hz13 => ?_)
  have az13 : z13.toInt = pf.toInt % 2147483648 := by rw [hz13]; exact c_mask pf (2147483647 : Int32) 31 (by decide) (by decide)
  have rz13 := rng32 z13
  refine ow_iconst X12 hx (z := (5 : Int32)) (hb hby at_52) rfl (pc' := 53) rfl ?_
  refine ow_irem X12 hx (hb hby at_53) (by decide) (pc' := 54) rfl (fun z14 hz14 => ?_)
  have az14 : (0 ≤ z13.toInt → z14.toInt = z13.toInt % 5) ∧ (z13.toInt < 0 → z14.toInt = -((-z13.toInt) % 5)) := by rw [hz14]; exact c_irem z13 (5 : Int32) 5 rfl
  have rz14 := rng32 z14
  refine ow_istore X12 hx (Ls' := #[.val (.int pa), .val (.int pf), .val (.int pg), .val (.int z1), .val (.int z3), .val (.int z5), .val (.int z7), .val (.ref b8), .val (.int z14), .unset, .unset]) (hb hby at_54) rfl (pc' := 56) rfl ?_
  refine ow_iload X12 hx (hb hby at_56) rfl (pc' := 58) rfl ?_
  refine ow_iloadN X12 hx (hb hby at_58) rfl (pc' := 59) rfl ?_
  refine ow_ldcInt X12 hx hZ hown (hw _ (List.mem_of_getElem? (i := 1) rfl)) (hb hby at_59) (pc' := 61) rfl ?_
  refine ow_iand X12 hx (hb hby at_61) (pc' := 62) rfl (fun z15 hz15 => ?_)
  have az15 : z15.toInt = pg.toInt % 2147483648 := by rw [hz15]; exact c_mask pg (2147483647 : Int32) 31 (by decide) (by decide)
  have rz15 := rng32 z15
  refine ow_iconst X12 hx (z := (5 : Int32)) (hb hby at_62) rfl (pc' := 63) rfl ?_
  refine ow_iload X12 hx (hb hby at_63) rfl (pc' := 65) rfl ?_
  refine ow_isub X12 hx (hb hby at_65) (pc' := 66) rfl (fun z16 hz16 => ?_)
  have az16 : (z16.toInt - ((5 : Int) - z14.toInt)) % 4294967296 = 0 := by rw [hz16]; exact c_isub (5 : Int32) z14
  have rz16 := rng32 z16
  refine ow_irem X12 hx (hb hby at_66) (fun q => absurd (show z16.toInt = 0 from congrArg Int32.toInt q) (by omega)) (pc' := 67) rfl (fun z17 hz17 => ?_)
  have az17 : 0 ≤ z15.toInt → 0 < z16.toInt → 0 ≤ z17.toInt ∧ z17.toInt < z16.toInt ∧ z17.toInt ≤ z15.toInt ∧ (z15.toInt < z16.toInt → z17.toInt = z15.toInt) ∧ (z16.toInt ≤ z15.toInt → z15.toInt < 2 * z16.toInt → z17.toInt = z15.toInt - z16.toInt) := by rw [hz17]; exact (c_iremV z15 z16).1
  have rz17 := rng32 z17
  refine ow_iadd X12 hx (hb hby at_67) (pc' := 68) rfl (fun z18 hz18 => ?_)
  have az18 : (z18.toInt - (z14.toInt + z17.toInt)) % 4294967296 = 0 := by rw [hz18]; exact c_iadd z14 z17
  have rz18 := rng32 z18
  refine ow_istore X12 hx (Ls' := #[.val (.int pa), .val (.int pf), .val (.int pg), .val (.int z1), .val (.int z3), .val (.int z5), .val (.int z7), .val (.ref b8), .val (.int z14), .val (.int z18), .unset]) (hb hby at_68) rfl (pc' := 70) rfl ?_
  refine ow_iload X12 hx (hb hby at_70) rfl (pc' := 72) rfl ?_
  refine ow_istore X12 hx (Ls' := #[.val (.int pa), .val (.int pf), .val (.int pg), .val (.int z1), .val (.int z3), .val (.int z5), .val (.int z7), .val (.ref b8), .val (.int z14), .val (.int z18), .val (.int z18)]) (hb hby at_72) rfl (pc' := 74) rfl ?_
  have hbf : 0 ≤ z14.toInt := by omega
  have hbe : z14.toInt ≤ z18.toInt := by omega
  have hb4 : z18.toInt ≤ 4 := by omega
  refine ow_iconst X12 hx (z := (3 : Int32)) (hb hby at_74) rfl (pc' := 75) rfl ?_
  refine ow_iload X12 hx (hb hby at_75) rfl (pc' := 77) rfl ?_
  refine ow_iload X12 hx (hb hby at_77) rfl (pc' := 79) rfl ?_
  refine ow_iload X12 hx (hb hby at_79) rfl (pc' := 81) rfl ?_
  refine ow_callPI X12 hx hZ hown (hw _ (List.mem_of_getElem? (i := 2) rfl)) (hw _ (List.mem_of_getElem? (i := 3) rfl)) (hw _ (List.mem_of_getElem? (i := 4) rfl)) (hw _ (List.mem_of_getElem? (i := 5) rfl)) (by decide) (rm_stops l Z a0 hw [] (3 : Int32) z14 z18 z7 h12 ) e12 0 (by decide) (by decide) (by decide) (by decide) [(.int (3 : Int32)), (.int z14), (.int z18), (.int z7)] (by rw [hml]; rfl) pd_1 rfl rfl rfl (Nat.le_of_eq rfl) (hb hby at_81) (pc' := 84) rfl (fun z19 T19 hz19 X19 e19 => ?_)
  have az19 : ((z14.toInt ≤ (3 : Int) ∧ (3 : Int) < z18.toInt ∧ pl z7.toInt = 0) ∧ z19.toInt = 1) ∨ (¬ (z14.toInt ≤ (3 : Int) ∧ (3 : Int) < z18.toInt ∧ pl z7.toInt = 0) ∧ z19.toInt = 0) := hz19
  have rz19 := rng32 z19
  refine ow_if_eq X19 hx (z19.toInt) (hb hby at_84) rfl (by decide) (pt := 90) (by decide) (pf := 87) rfl (fun c84 => ?_) (fun c84 => ?_)
  · have s3 : ¬ (z14.toInt ≤ 3 ∧ 3 < z18.toInt ∧ pl z7.toInt = 0) := st_f az19 c84
    clear az19 hz19 c84
    refine ow_iconst X19 hx (z := (2 : Int32)) (hb hby at_90) rfl (pc' := 91) rfl ?_
    refine ow_iload X19 hx (hb hby at_91) rfl (pc' := 93) rfl ?_
    refine ow_iload X19 hx (hb hby at_93) rfl (pc' := 95) rfl ?_
    refine ow_iload X19 hx (hb hby at_95) rfl (pc' := 97) rfl ?_
    refine ow_callPI X19 hx hZ hown (hw _ (List.mem_of_getElem? (i := 2) rfl)) (hw _ (List.mem_of_getElem? (i := 3) rfl)) (hw _ (List.mem_of_getElem? (i := 4) rfl)) (hw _ (List.mem_of_getElem? (i := 5) rfl)) (by decide) (rm_stops l Z a0 hw [] (2 : Int32) z14 z18 z5 h12 ) e19 0 (by decide) (by decide) (by decide) (by decide) [(.int (2 : Int32)), (.int z14), (.int z18), (.int z5)] (by rw [hml]; rfl) pd_1 rfl rfl rfl (Nat.le_of_eq rfl) (hb hby at_97) (pc' := 100) rfl (fun z20 T20 hz20 X20 e20 => ?_)
    have az20 : ((z14.toInt ≤ (2 : Int) ∧ (2 : Int) < z18.toInt ∧ pl z5.toInt = 0) ∧ z20.toInt = 1) ∨ (¬ (z14.toInt ≤ (2 : Int) ∧ (2 : Int) < z18.toInt ∧ pl z5.toInt = 0) ∧ z20.toInt = 0) := hz20
    have rz20 := rng32 z20
    refine ow_if_eq X20 hx (z20.toInt) (hb hby at_100) rfl (by decide) (pt := 106) (by decide) (pf := 103) rfl (fun c100 => ?_) (fun c100 => ?_)
    · have s2 : ¬ (z14.toInt ≤ 2 ∧ 2 < z18.toInt ∧ pl z5.toInt = 0) := st_f az20 c100
      clear az20 hz20 c100
      refine ow_iconst X20 hx (z := (1 : Int32)) (hb hby at_106) rfl (pc' := 107) rfl ?_
      refine ow_iload X20 hx (hb hby at_107) rfl (pc' := 109) rfl ?_
      refine ow_iload X20 hx (hb hby at_109) rfl (pc' := 111) rfl ?_
      refine ow_iload X20 hx (hb hby at_111) rfl (pc' := 113) rfl ?_
      refine ow_callPI X20 hx hZ hown (hw _ (List.mem_of_getElem? (i := 2) rfl)) (hw _ (List.mem_of_getElem? (i := 3) rfl)) (hw _ (List.mem_of_getElem? (i := 4) rfl)) (hw _ (List.mem_of_getElem? (i := 5) rfl)) (by decide) (rm_stops l Z a0 hw [] (1 : Int32) z14 z18 z3 h12 ) e20 0 (by decide) (by decide) (by decide) (by decide) [(.int (1 : Int32)), (.int z14), (.int z18), (.int z3)] (by rw [hml]; rfl) pd_1 rfl rfl rfl (Nat.le_of_eq rfl) (hb hby at_113) (pc' := 116) rfl (fun z21 T21 hz21 X21 e21 => ?_)
      have az21 : ((z14.toInt ≤ (1 : Int) ∧ (1 : Int) < z18.toInt ∧ pl z3.toInt = 0) ∧ z21.toInt = 1) ∨ (¬ (z14.toInt ≤ (1 : Int) ∧ (1 : Int) < z18.toInt ∧ pl z3.toInt = 0) ∧ z21.toInt = 0) := hz21
      have rz21 := rng32 z21
      refine ow_if_eq X21 hx (z21.toInt) (hb hby at_116) rfl (by decide) (pt := 122) (by decide) (pf := 119) rfl (fun c116 => ?_) (fun c116 => ?_)
      · have s1 : ¬ (z14.toInt ≤ 1 ∧ 1 < z18.toInt ∧ pl z3.toInt = 0) := st_f az21 c116
        clear az21 hz21 c116
        refine ow_iconst X21 hx (z := (0 : Int32)) (hb hby at_122) rfl (pc' := 123) rfl ?_
        refine ow_iload X21 hx (hb hby at_123) rfl (pc' := 125) rfl ?_
        refine ow_iload X21 hx (hb hby at_125) rfl (pc' := 127) rfl ?_
        refine ow_iloadN X21 hx (hb hby at_127) rfl (pc' := 128) rfl ?_
        refine ow_callPI X21 hx hZ hown (hw _ (List.mem_of_getElem? (i := 2) rfl)) (hw _ (List.mem_of_getElem? (i := 3) rfl)) (hw _ (List.mem_of_getElem? (i := 4) rfl)) (hw _ (List.mem_of_getElem? (i := 5) rfl)) (by decide) (rm_stops l Z a0 hw [] (0 : Int32) z14 z18 z1 h12 ) e21 0 (by decide) (by decide) (by decide) (by decide) [(.int (0 : Int32)), (.int z14), (.int z18), (.int z1)] (by rw [hml]; rfl) pd_1 rfl rfl rfl (Nat.le_of_eq rfl) (hb hby at_128) (pc' := 131) rfl (fun z22 T22 hz22 X22 e22 => ?_)
        have az22 : ((z14.toInt ≤ (0 : Int) ∧ (0 : Int) < z18.toInt ∧ pl z1.toInt = 0) ∧ z22.toInt = 1) ∨ (¬ (z14.toInt ≤ (0 : Int) ∧ (0 : Int) < z18.toInt ∧ pl z1.toInt = 0) ∧ z22.toInt = 0) := hz22
        have rz22 := rng32 z22
        refine ow_if_eq X22 hx (z22.toInt) (hb hby at_131) rfl (by decide) (pt := 137) (by decide) (pf := 134) rfl (fun c131 => ?_) (fun c131 => ?_)
        · have s0 : ¬ (z14.toInt ≤ 0 ∧ 0 < z18.toInt ∧ pl z1.toInt = 0) := st_f az22 c131
          clear az22 hz22 c131
          refine ow_aload X22 hx (hb hby at_137) rfl rfl (pc' := 139) rfl ?_
          refine ow_iload X22 hx (hb hby at_139) rfl (pc' := 141) rfl ?_
          refine ow_iload X22 hx (hb hby at_141) rfl (pc' := 143) rfl ?_
          refine ow_callPI X22 hx hZ hown (hw _ (List.mem_of_getElem? (i := 6) rfl)) (hw _ (List.mem_of_getElem? (i := 7) rfl)) (hw _ (List.mem_of_getElem? (i := 8) rfl)) (hw _ (List.mem_of_getElem? (i := 9) rfl)) (by decide) (rm_fnp l Z a0 hw [] b8 z14 z18 k8 z1 z3 z5 z7 ot kt h12 S_xlogtap_JsonBuilder_PLAIN_12 V_ot_12 V_b8_12 hbf hbe hb4) e22 0 (by decide) (by decide) (by decide) (by decide) [(.ref b8), (.int z14), (.int z18)] (by rw [hml]; rfl) pd_2 rfl rfl rfl (Nat.le_of_eq rfl) (hb hby at_143) (pc' := 146) rfl (fun z23 T23 hz23 X23 e23 => ?_)
          have az23 : z14.toInt ≤ z23.toInt ∧ z23.toInt ≤ z18.toInt ∧ (z14.toInt ≤ 0 → 0 < z23.toInt → pl z1.toInt = 1) ∧ (z14.toInt ≤ 1 → 1 < z23.toInt → pl z3.toInt = 1) ∧ (z14.toInt ≤ 2 → 2 < z23.toInt → pl z5.toInt = 1) ∧ (z14.toInt ≤ 3 → 3 < z23.toInt → pl z7.toInt = 1) ∧ (z23.toInt = z18.toInt ∨ (z23.toInt = 0 ∧ pl z1.toInt = 0) ∨ (z23.toInt = 1 ∧ pl z3.toInt = 0) ∨ (z23.toInt = 2 ∧ pl z5.toInt = 0) ∨ (z23.toInt = 3 ∧ pl z7.toInt = 0)) := hz23
          have rz23 := rng32 z23
          refine ow_iload X23 hx (hb hby at_146) rfl (pc' := 148) rfl ?_
          refine ow_icmp_ne X23 hx (z23.toInt) (z18.toInt) (hb hby at_148) rfl rfl (by decide) (pt := 155) (by decide) (pf := 151) rfl (fun c148 => absurd c148 (by exact fun q => q (fin_4 az23 s0 s1 s2 s3))) (fun c148 => ?_)
          refine ow_iconst X23 hx (z := (1 : Int32)) (hb hby at_151) rfl (pc' := 152) rfl ?_
          refine ow_goto X23 hx (hb hby at_152) (by decide) (pc' := 156) (by decide) ?_
          exact ow_retB X23 hx hret hlk (hb hby at_156) (by decide) (by decide) (z' := (1 : Int32)) rfl ⟨rfl, N12⟩
        · refine ow_iconst X22 hx (z := (0 : Int32)) (hb hby at_134) rfl (pc' := 135) rfl ?_
          refine ow_istore X22 hx (Ls' := #[.val (.int pa), .val (.int pf), .val (.int pg), .val (.int z1), .val (.int z3), .val (.int z5), .val (.int z7), .val (.ref b8), .val (.int z14), .val (.int z18), .val (.int (0 : Int32))]) (hb hby at_135) rfl (pc' := 137) rfl ?_
          have s0 : z14.toInt ≤ 0 ∧ 0 < z18.toInt ∧ pl z1.toInt = 0 := st_t az22 c131
          clear az22 hz22 c131
          refine ow_aload X22 hx (hb hby at_137) rfl rfl (pc' := 139) rfl ?_
          refine ow_iload X22 hx (hb hby at_139) rfl (pc' := 141) rfl ?_
          refine ow_iload X22 hx (hb hby at_141) rfl (pc' := 143) rfl ?_
          refine ow_callPI X22 hx hZ hown (hw _ (List.mem_of_getElem? (i := 6) rfl)) (hw _ (List.mem_of_getElem? (i := 7) rfl)) (hw _ (List.mem_of_getElem? (i := 8) rfl)) (hw _ (List.mem_of_getElem? (i := 9) rfl)) (by decide) (rm_fnp l Z a0 hw [] b8 z14 z18 k8 z1 z3 z5 z7 ot kt h12 S_xlogtap_JsonBuilder_PLAIN_12 V_ot_12 V_b8_12 hbf hbe hb4) e22 0 (by decide) (by decide) (by decide) (by decide) [(.ref b8), (.int z14), (.int z18)] (by rw [hml]; rfl) pd_2 rfl rfl rfl (Nat.le_of_eq rfl) (hb hby at_143) (pc' := 146) rfl (fun z24 T24 hz24 X24 e24 => ?_)
          have az24 : z14.toInt ≤ z24.toInt ∧ z24.toInt ≤ z18.toInt ∧ (z14.toInt ≤ 0 → 0 < z24.toInt → pl z1.toInt = 1) ∧ (z14.toInt ≤ 1 → 1 < z24.toInt → pl z3.toInt = 1) ∧ (z14.toInt ≤ 2 → 2 < z24.toInt → pl z5.toInt = 1) ∧ (z14.toInt ≤ 3 → 3 < z24.toInt → pl z7.toInt = 1) ∧ (z24.toInt = z18.toInt ∨ (z24.toInt = 0 ∧ pl z1.toInt = 0) ∨ (z24.toInt = 1 ∧ pl z3.toInt = 0) ∨ (z24.toInt = 2 ∧ pl z5.toInt = 0) ∨ (z24.toInt = 3 ∧ pl z7.toInt = 0)) := hz24
          have rz24 := rng32 z24
          refine ow_iload X24 hx (hb hby at_146) rfl (pc' := 148) rfl ?_
          refine ow_icmp_ne X24 hx (z24.toInt) ((0 : Int)) (hb hby at_148) rfl rfl (by decide) (pt := 155) (by decide) (pf := 151) rfl (fun c148 => absurd c148 (by exact fun q => q (fin_0 az24 s0))) (fun c148 => ?_)
          refine ow_iconst X24 hx (z := (1 : Int32)) (hb hby at_151) rfl (pc' := 152) rfl ?_
          refine ow_goto X24 hx (hb hby at_152) (by decide) (pc' := 156) (by decide) ?_
          exact ow_retB X24 hx hret hlk (hb hby at_156) (by decide) (by decide) (z' := (1 : Int32)) rfl ⟨rfl, N12⟩
      · refine ow_iconst X21 hx (z := (1 : Int32)) (hb hby at_119) rfl (pc' := 120) rfl ?_
        refine ow_istore X21 hx (Ls' := #[.val (.int pa), .val (.int pf), .val (.int pg), .val (.int z1), .val (.int z3), .val (.int z5), .val (.int z7), .val (.ref b8), .val (.int z14), .val (.int z18), .val (.int (1 : Int32))]) (hb hby at_120) rfl (pc' := 122) rfl ?_
        have s1 : z14.toInt ≤ 1 ∧ 1 < z18.toInt ∧ pl z3.toInt = 0 := st_t az21 c116
        clear az21 hz21 c116
        refine ow_iconst X21 hx (z := (0 : Int32)) (hb hby at_122) rfl (pc' := 123) rfl ?_
        refine ow_iload X21 hx (hb hby at_123) rfl (pc' := 125) rfl ?_
        refine ow_iload X21 hx (hb hby at_125) rfl (pc' := 127) rfl ?_
        refine ow_iloadN X21 hx (hb hby at_127) rfl (pc' := 128) rfl ?_
        refine ow_callPI X21 hx hZ hown (hw _ (List.mem_of_getElem? (i := 2) rfl)) (hw _ (List.mem_of_getElem? (i := 3) rfl)) (hw _ (List.mem_of_getElem? (i := 4) rfl)) (hw _ (List.mem_of_getElem? (i := 5) rfl)) (by decide) (rm_stops l Z a0 hw [] (0 : Int32) z14 z18 z1 h12 ) e21 0 (by decide) (by decide) (by decide) (by decide) [(.int (0 : Int32)), (.int z14), (.int z18), (.int z1)] (by rw [hml]; rfl) pd_1 rfl rfl rfl (Nat.le_of_eq rfl) (hb hby at_128) (pc' := 131) rfl (fun z25 T25 hz25 X25 e25 => ?_)
        have az25 : ((z14.toInt ≤ (0 : Int) ∧ (0 : Int) < z18.toInt ∧ pl z1.toInt = 0) ∧ z25.toInt = 1) ∨ (¬ (z14.toInt ≤ (0 : Int) ∧ (0 : Int) < z18.toInt ∧ pl z1.toInt = 0) ∧ z25.toInt = 0) := hz25
        have rz25 := rng32 z25
        refine ow_if_eq X25 hx (z25.toInt) (hb hby at_131) rfl (by decide) (pt := 137) (by decide) (pf := 134) rfl (fun c131 => ?_) (fun c131 => ?_)
        · have s0 : ¬ (z14.toInt ≤ 0 ∧ 0 < z18.toInt ∧ pl z1.toInt = 0) := st_f az25 c131
          clear az25 hz25 c131
          refine ow_aload X25 hx (hb hby at_137) rfl rfl (pc' := 139) rfl ?_
          refine ow_iload X25 hx (hb hby at_139) rfl (pc' := 141) rfl ?_
          refine ow_iload X25 hx (hb hby at_141) rfl (pc' := 143) rfl ?_
          refine ow_callPI X25 hx hZ hown (hw _ (List.mem_of_getElem? (i := 6) rfl)) (hw _ (List.mem_of_getElem? (i := 7) rfl)) (hw _ (List.mem_of_getElem? (i := 8) rfl)) (hw _ (List.mem_of_getElem? (i := 9) rfl)) (by decide) (rm_fnp l Z a0 hw [] b8 z14 z18 k8 z1 z3 z5 z7 ot kt h12 S_xlogtap_JsonBuilder_PLAIN_12 V_ot_12 V_b8_12 hbf hbe hb4) e25 0 (by decide) (by decide) (by decide) (by decide) [(.ref b8), (.int z14), (.int z18)] (by rw [hml]; rfl) pd_2 rfl rfl rfl (Nat.le_of_eq rfl) (hb hby at_143) (pc' := 146) rfl (fun z26 T26 hz26 X26 e26 => ?_)
          have az26 : z14.toInt ≤ z26.toInt ∧ z26.toInt ≤ z18.toInt ∧ (z14.toInt ≤ 0 → 0 < z26.toInt → pl z1.toInt = 1) ∧ (z14.toInt ≤ 1 → 1 < z26.toInt → pl z3.toInt = 1) ∧ (z14.toInt ≤ 2 → 2 < z26.toInt → pl z5.toInt = 1) ∧ (z14.toInt ≤ 3 → 3 < z26.toInt → pl z7.toInt = 1) ∧ (z26.toInt = z18.toInt ∨ (z26.toInt = 0 ∧ pl z1.toInt = 0) ∨ (z26.toInt = 1 ∧ pl z3.toInt = 0) ∨ (z26.toInt = 2 ∧ pl z5.toInt = 0) ∨ (z26.toInt = 3 ∧ pl z7.toInt = 0)) := hz26
          have rz26 := rng32 z26
          refine ow_iload X26 hx (hb hby at_146) rfl (pc' := 148) rfl ?_
          refine ow_icmp_ne X26 hx (z26.toInt) ((1 : Int)) (hb hby at_148) rfl rfl (by decide) (pt := 155) (by decide) (pf := 151) rfl (fun c148 => absurd c148 (by exact fun q => q (fin_1 az26 s0 s1))) (fun c148 => ?_)
          refine ow_iconst X26 hx (z := (1 : Int32)) (hb hby at_151) rfl (pc' := 152) rfl ?_
          refine ow_goto X26 hx (hb hby at_152) (by decide) (pc' := 156) (by decide) ?_
          exact ow_retB X26 hx hret hlk (hb hby at_156) (by decide) (by decide) (z' := (1 : Int32)) rfl ⟨rfl, N12⟩
        · refine ow_iconst X25 hx (z := (0 : Int32)) (hb hby at_134) rfl (pc' := 135) rfl ?_
          refine ow_istore X25 hx (Ls' := #[.val (.int pa), .val (.int pf), .val (.int pg), .val (.int z1), .val (.int z3), .val (.int z5), .val (.int z7), .val (.ref b8), .val (.int z14), .val (.int z18), .val (.int (0 : Int32))]) (hb hby at_135) rfl (pc' := 137) rfl ?_
          have s0 : z14.toInt ≤ 0 ∧ 0 < z18.toInt ∧ pl z1.toInt = 0 := st_t az25 c131
          clear az25 hz25 c131
          refine ow_aload X25 hx (hb hby at_137) rfl rfl (pc' := 139) rfl ?_
          refine ow_iload X25 hx (hb hby at_139) rfl (pc' := 141) rfl ?_
          refine ow_iload X25 hx (hb hby at_141) rfl (pc' := 143) rfl ?_
          refine ow_callPI X25 hx hZ hown (hw _ (List.mem_of_getElem? (i := 6) rfl)) (hw _ (List.mem_of_getElem? (i := 7) rfl)) (hw _ (List.mem_of_getElem? (i := 8) rfl)) (hw _ (List.mem_of_getElem? (i := 9) rfl)) (by decide) (rm_fnp l Z a0 hw [] b8 z14 z18 k8 z1 z3 z5 z7 ot kt h12 S_xlogtap_JsonBuilder_PLAIN_12 V_ot_12 V_b8_12 hbf hbe hb4) e25 0 (by decide) (by decide) (by decide) (by decide) [(.ref b8), (.int z14), (.int z18)] (by rw [hml]; rfl) pd_2 rfl rfl rfl (Nat.le_of_eq rfl) (hb hby at_143) (pc' := 146) rfl (fun z27 T27 hz27 X27 e27 => ?_)
          have az27 : z14.toInt ≤ z27.toInt ∧ z27.toInt ≤ z18.toInt ∧ (z14.toInt ≤ 0 → 0 < z27.toInt → pl z1.toInt = 1) ∧ (z14.toInt ≤ 1 → 1 < z27.toInt → pl z3.toInt = 1) ∧ (z14.toInt ≤ 2 → 2 < z27.toInt → pl z5.toInt = 1) ∧ (z14.toInt ≤ 3 → 3 < z27.toInt → pl z7.toInt = 1) ∧ (z27.toInt = z18.toInt ∨ (z27.toInt = 0 ∧ pl z1.toInt = 0) ∨ (z27.toInt = 1 ∧ pl z3.toInt = 0) ∨ (z27.toInt = 2 ∧ pl z5.toInt = 0) ∨ (z27.toInt = 3 ∧ pl z7.toInt = 0)) := hz27
          have rz27 := rng32 z27
          refine ow_iload X27 hx (hb hby at_146) rfl (pc' := 148) rfl ?_
          refine ow_icmp_ne X27 hx (z27.toInt) ((0 : Int)) (hb hby at_148) rfl rfl (by decide) (pt := 155) (by decide) (pf := 151) rfl (fun c148 => absurd c148 (by exact fun q => q (fin_0 az27 s0))) (fun c148 => ?_)
          refine ow_iconst X27 hx (z := (1 : Int32)) (hb hby at_151) rfl (pc' := 152) rfl ?_
          refine ow_goto X27 hx (hb hby at_152) (by decide) (pc' := 156) (by decide) ?_
          exact ow_retB X27 hx hret hlk (hb hby at_156) (by decide) (by decide) (z' := (1 : Int32)) rfl ⟨rfl, N12⟩
    · refine ow_iconst X20 hx (z := (2 : Int32)) (hb hby at_103) rfl (pc' := 104) rfl ?_
      refine ow_istore X20 hx (Ls' := #[.val (.int pa), .val (.int pf), .val (.int pg), .val (.int z1), .val (.int z3), .val (.int z5), .val (.int z7), .val (.ref b8), .val (.int z14), .val (.int z18), .val (.int (2 : Int32))]) (hb hby at_104) rfl (pc' := 106) rfl ?_
      have s2 : z14.toInt ≤ 2 ∧ 2 < z18.toInt ∧ pl z5.toInt = 0 := st_t az20 c100
      clear az20 hz20 c100
      refine ow_iconst X20 hx (z := (1 : Int32)) (hb hby at_106) rfl (pc' := 107) rfl ?_
      refine ow_iload X20 hx (hb hby at_107) rfl (pc' := 109) rfl ?_
      refine ow_iload X20 hx (hb hby at_109) rfl (pc' := 111) rfl ?_
      refine ow_iload X20 hx (hb hby at_111) rfl (pc' := 113) rfl ?_
      refine ow_callPI X20 hx hZ hown (hw _ (List.mem_of_getElem? (i := 2) rfl)) (hw _ (List.mem_of_getElem? (i := 3) rfl)) (hw _ (List.mem_of_getElem? (i := 4) rfl)) (hw _ (List.mem_of_getElem? (i := 5) rfl)) (by decide) (rm_stops l Z a0 hw [] (1 : Int32) z14 z18 z3 h12 ) e20 0 (by decide) (by decide) (by decide) (by decide) [(.int (1 : Int32)), (.int z14), (.int z18), (.int z3)] (by rw [hml]; rfl) pd_1 rfl rfl rfl (Nat.le_of_eq rfl) (hb hby at_113) (pc' := 116) rfl (fun z28 T28 hz28 X28 e28 => ?_)
      have az28 : ((z14.toInt ≤ (1 : Int) ∧ (1 : Int) < z18.toInt ∧ pl z3.toInt = 0) ∧ z28.toInt = 1) ∨ (¬ (z14.toInt ≤ (1 : Int) ∧ (1 : Int) < z18.toInt ∧ pl z3.toInt = 0) ∧ z28.toInt = 0) := hz28
      have rz28 := rng32 z28
      refine ow_if_eq X28 hx (z28.toInt) (hb hby at_116) rfl (by decide) (pt := 122) (by decide) (pf := 119) rfl (fun c116 => ?_) (fun c116 => ?_)
      · have s1 : ¬ (z14.toInt ≤ 1 ∧ 1 < z18.toInt ∧ pl z3.toInt = 0) := st_f az28 c116
        clear az28 hz28 c116
        refine ow_iconst X28 hx (z := (0 : Int32)) (hb hby at_122) rfl (pc' := 123) rfl ?_
        refine ow_iload X28 hx (hb hby at_123) rfl (pc' := 125) rfl ?_
        refine ow_iload X28 hx (hb hby at_125) rfl (pc' := 127) rfl ?_
        refine ow_iloadN X28 hx (hb hby at_127) rfl (pc' := 128) rfl ?_
        refine ow_callPI X28 hx hZ hown (hw _ (List.mem_of_getElem? (i := 2) rfl)) (hw _ (List.mem_of_getElem? (i := 3) rfl)) (hw _ (List.mem_of_getElem? (i := 4) rfl)) (hw _ (List.mem_of_getElem? (i := 5) rfl)) (by decide) (rm_stops l Z a0 hw [] (0 : Int32) z14 z18 z1 h12 ) e28 0 (by decide) (by decide) (by decide) (by decide) [(.int (0 : Int32)), (.int z14), (.int z18), (.int z1)] (by rw [hml]; rfl) pd_1 rfl rfl rfl (Nat.le_of_eq rfl) (hb hby at_128) (pc' := 131) rfl (fun z29 T29 hz29 X29 e29 => ?_)
        have az29 : ((z14.toInt ≤ (0 : Int) ∧ (0 : Int) < z18.toInt ∧ pl z1.toInt = 0) ∧ z29.toInt = 1) ∨ (¬ (z14.toInt ≤ (0 : Int) ∧ (0 : Int) < z18.toInt ∧ pl z1.toInt = 0) ∧ z29.toInt = 0) := hz29
        have rz29 := rng32 z29
        refine ow_if_eq X29 hx (z29.toInt) (hb hby at_131) rfl (by decide) (pt := 137) (by decide) (pf := 134) rfl (fun c131 => ?_) (fun c131 => ?_)
        · have s0 : ¬ (z14.toInt ≤ 0 ∧ 0 < z18.toInt ∧ pl z1.toInt = 0) := st_f az29 c131
          clear az29 hz29 c131
          refine ow_aload X29 hx (hb hby at_137) rfl rfl (pc' := 139) rfl ?_
          refine ow_iload X29 hx (hb hby at_139) rfl (pc' := 141) rfl ?_
          refine ow_iload X29 hx (hb hby at_141) rfl (pc' := 143) rfl ?_
          refine ow_callPI X29 hx hZ hown (hw _ (List.mem_of_getElem? (i := 6) rfl)) (hw _ (List.mem_of_getElem? (i := 7) rfl)) (hw _ (List.mem_of_getElem? (i := 8) rfl)) (hw _ (List.mem_of_getElem? (i := 9) rfl)) (by decide) (rm_fnp l Z a0 hw [] b8 z14 z18 k8 z1 z3 z5 z7 ot kt h12 S_xlogtap_JsonBuilder_PLAIN_12 V_ot_12 V_b8_12 hbf hbe hb4) e29 0 (by decide) (by decide) (by decide) (by decide) [(.ref b8), (.int z14), (.int z18)] (by rw [hml]; rfl) pd_2 rfl rfl rfl (Nat.le_of_eq rfl) (hb hby at_143) (pc' := 146) rfl (fun z30 T30 hz30 X30 e30 => ?_)
          have az30 : z14.toInt ≤ z30.toInt ∧ z30.toInt ≤ z18.toInt ∧ (z14.toInt ≤ 0 → 0 < z30.toInt → pl z1.toInt = 1) ∧ (z14.toInt ≤ 1 → 1 < z30.toInt → pl z3.toInt = 1) ∧ (z14.toInt ≤ 2 → 2 < z30.toInt → pl z5.toInt = 1) ∧ (z14.toInt ≤ 3 → 3 < z30.toInt → pl z7.toInt = 1) ∧ (z30.toInt = z18.toInt ∨ (z30.toInt = 0 ∧ pl z1.toInt = 0) ∨ (z30.toInt = 1 ∧ pl z3.toInt = 0) ∨ (z30.toInt = 2 ∧ pl z5.toInt = 0) ∨ (z30.toInt = 3 ∧ pl z7.toInt = 0)) := hz30
          have rz30 := rng32 z30
          refine ow_iload X30 hx (hb hby at_146) rfl (pc' := 148) rfl ?_
          refine ow_icmp_ne X30 hx (z30.toInt) ((2 : Int)) (hb hby at_148) rfl rfl (by decide) (pt := 155) (by decide) (pf := 151) rfl (fun c148 => absurd c148 (by exact fun q => q (fin_2 az30 s0 s1 s2))) (fun c148 => ?_)
          refine ow_iconst X30 hx (z := (1 : Int32)) (hb hby at_151) rfl (pc' := 152) rfl ?_
          refine ow_goto X30 hx (hb hby at_152) (by decide) (pc' := 156) (by decide) ?_
          exact ow_retB X30 hx hret hlk (hb hby at_156) (by decide) (by decide) (z' := (1 : Int32)) rfl ⟨rfl, N12⟩
        · refine ow_iconst X29 hx (z := (0 : Int32)) (hb hby at_134) rfl (pc' := 135) rfl ?_
          refine ow_istore X29 hx (Ls' := #[.val (.int pa), .val (.int pf), .val (.int pg), .val (.int z1), .val (.int z3), .val (.int z5), .val (.int z7), .val (.ref b8), .val (.int z14), .val (.int z18), .val (.int (0 : Int32))]) (hb hby at_135) rfl (pc' := 137) rfl ?_
          have s0 : z14.toInt ≤ 0 ∧ 0 < z18.toInt ∧ pl z1.toInt = 0 := st_t az29 c131
          clear az29 hz29 c131
          refine ow_aload X29 hx (hb hby at_137) rfl rfl (pc' := 139) rfl ?_
          refine ow_iload X29 hx (hb hby at_139) rfl (pc' := 141) rfl ?_
          refine ow_iload X29 hx (hb hby at_141) rfl (pc' := 143) rfl ?_
          refine ow_callPI X29 hx hZ hown (hw _ (List.mem_of_getElem? (i := 6) rfl)) (hw _ (List.mem_of_getElem? (i := 7) rfl)) (hw _ (List.mem_of_getElem? (i := 8) rfl)) (hw _ (List.mem_of_getElem? (i := 9) rfl)) (by decide) (rm_fnp l Z a0 hw [] b8 z14 z18 k8 z1 z3 z5 z7 ot kt h12 S_xlogtap_JsonBuilder_PLAIN_12 V_ot_12 V_b8_12 hbf hbe hb4) e29 0 (by decide) (by decide) (by decide) (by decide) [(.ref b8), (.int z14), (.int z18)] (by rw [hml]; rfl) pd_2 rfl rfl rfl (Nat.le_of_eq rfl) (hb hby at_143) (pc' := 146) rfl (fun z31 T31 hz31 X31 e31 => ?_)
          have az31 : z14.toInt ≤ z31.toInt ∧ z31.toInt ≤ z18.toInt ∧ (z14.toInt ≤ 0 → 0 < z31.toInt → pl z1.toInt = 1) ∧ (z14.toInt ≤ 1 → 1 < z31.toInt → pl z3.toInt = 1) ∧ (z14.toInt ≤ 2 → 2 < z31.toInt → pl z5.toInt = 1) ∧ (z14.toInt ≤ 3 → 3 < z31.toInt → pl z7.toInt = 1) ∧ (z31.toInt = z18.toInt ∨ (z31.toInt = 0 ∧ pl z1.toInt = 0) ∨ (z31.toInt = 1 ∧ pl z3.toInt = 0) ∨ (z31.toInt = 2 ∧ pl z5.toInt = 0) ∨ (z31.toInt = 3 ∧ pl z7.toInt = 0)) := hz31
          have rz31 := rng32 z31
          refine ow_iload X31 hx (hb hby at_146) rfl (pc' := 148) rfl ?_
          refine ow_icmp_ne X31 hx (z31.toInt) ((0 : Int)) (hb hby at_148) rfl rfl (by decide) (pt := 155) (by decide) (pf := 151) rfl (fun c148 => absurd c148 (by exact fun q => q (fin_0 az31 s0))) (fun c148 => ?_)
          refine ow_iconst X31 hx (z := (1 : Int32)) (hb hby at_151) rfl (pc' := 152) rfl ?_
          refine ow_goto X31 hx (hb hby at_152) (by decide) (pc' := 156) (by decide) ?_
          exact ow_retB X31 hx hret hlk (hb hby at_156) (by decide) (by decide) (z' := (1 : Int32)) rfl ⟨rfl, N12⟩
      · refine ow_iconst X28 hx (z := (1 : Int32)) (hb hby at_119) rfl (pc' := 120) rfl ?_
        refine ow_istore X28 hx (Ls' := #[.val (.int pa), .val (.int pf), .val (.int pg), .val (.int z1), .val (.int z3), .val (.int z5), .val (.int z7), .val (.ref b8), .val (.int z14), .val (.int z18), .val (.int (1 : Int32))]) (hb hby at_120) rfl (pc' := 122) rfl ?_
        have s1 : z14.toInt ≤ 1 ∧ 1 < z18.toInt ∧ pl z3.toInt = 0 := st_t az28 c116
        clear az28 hz28 c116
        refine ow_iconst X28 hx (z := (0 : Int32)) (hb hby at_122) rfl (pc' := 123) rfl ?_
        refine ow_iload X28 hx (hb hby at_123) rfl (pc' := 125) rfl ?_
        refine ow_iload X28 hx (hb hby at_125) rfl (pc' := 127) rfl ?_
        refine ow_iloadN X28 hx (hb hby at_127) rfl (pc' := 128) rfl ?_
        refine ow_callPI X28 hx hZ hown (hw _ (List.mem_of_getElem? (i := 2) rfl)) (hw _ (List.mem_of_getElem? (i := 3) rfl)) (hw _ (List.mem_of_getElem? (i := 4) rfl)) (hw _ (List.mem_of_getElem? (i := 5) rfl)) (by decide) (rm_stops l Z a0 hw [] (0 : Int32) z14 z18 z1 h12 ) e28 0 (by decide) (by decide) (by decide) (by decide) [(.int (0 : Int32)), (.int z14), (.int z18), (.int z1)] (by rw [hml]; rfl) pd_1 rfl rfl rfl (Nat.le_of_eq rfl) (hb hby at_128) (pc' := 131) rfl (fun z32 T32 hz32 X32 e32 => ?_)
        have az32 : ((z14.toInt ≤ (0 : Int) ∧ (0 : Int) < z18.toInt ∧ pl z1.toInt = 0) ∧ z32.toInt = 1) ∨ (¬ (z14.toInt ≤ (0 : Int) ∧ (0 : Int) < z18.toInt ∧ pl z1.toInt = 0) ∧ z32.toInt = 0) := hz32
        have rz32 := rng32 z32
        refine ow_if_eq X32 hx (z32.toInt) (hb hby at_131) rfl (by decide) (pt := 137) (by decide) (pf := 134) rfl (fun c131 => ?_) (fun c131 => ?_)
        · have s0 : ¬ (z14.toInt ≤ 0 ∧ 0 < z18.toInt ∧ pl z1.toInt = 0) := st_f az32 c131
          clear az32 hz32 c131
          refine ow_aload X32 hx (hb hby at_137) rfl rfl (pc' := 139) rfl ?_
          refine ow_iload X32 hx (hb hby at_139) rfl (pc' := 141) rfl ?_
          refine ow_iload X32 hx (hb hby at_141) rfl (pc' := 143) rfl ?_
          refine ow_callPI X32 hx hZ hown (hw _ (List.mem_of_getElem? (i := 6) rfl)) (hw _ (List.mem_of_getElem? (i := 7) rfl)) (hw _ (List.mem_of_getElem? (i := 8) rfl)) (hw _ (List.mem_of_getElem? (i := 9) rfl)) (by decide) (rm_fnp l Z a0 hw [] b8 z14 z18 k8 z1 z3 z5 z7 ot kt h12 S_xlogtap_JsonBuilder_PLAIN_12 V_ot_12 V_b8_12 hbf hbe hb4) e32 0 (by decide) (by decide) (by decide) (by decide) [(.ref b8), (.int z14), (.int z18)] (by rw [hml]; rfl) pd_2 rfl rfl rfl (Nat.le_of_eq rfl) (hb hby at_143) (pc' := 146) rfl (fun z33 T33 hz33 X33 e33 => ?_)
          have az33 : z14.toInt ≤ z33.toInt ∧ z33.toInt ≤ z18.toInt ∧ (z14.toInt ≤ 0 → 0 < z33.toInt → pl z1.toInt = 1) ∧ (z14.toInt ≤ 1 → 1 < z33.toInt → pl z3.toInt = 1) ∧ (z14.toInt ≤ 2 → 2 < z33.toInt → pl z5.toInt = 1) ∧ (z14.toInt ≤ 3 → 3 < z33.toInt → pl z7.toInt = 1) ∧ (z33.toInt = z18.toInt ∨ (z33.toInt = 0 ∧ pl z1.toInt = 0) ∨ (z33.toInt = 1 ∧ pl z3.toInt = 0) ∨ (z33.toInt = 2 ∧ pl z5.toInt = 0) ∨ (z33.toInt = 3 ∧ pl z7.toInt = 0)) := hz33
          have rz33 := rng32 z33
          refine ow_iload X33 hx (hb hby at_146) rfl (pc' := 148) rfl ?_
          refine ow_icmp_ne X33 hx (z33.toInt) ((1 : Int)) (hb hby at_148) rfl rfl (by decide) (pt := 155) (by decide) (pf := 151) rfl (fun c148 => absurd c148 (by exact fun q => q (fin_1 az33 s0 s1))) (fun c148 => ?_)
          refine ow_iconst X33 hx (z := (1 : Int32)) (hb hby at_151) rfl (pc' := 152) rfl ?_
          refine ow_goto X33 hx (hb hby at_152) (by decide) (pc' := 156) (by decide) ?_
          exact ow_retB X33 hx hret hlk (hb hby at_156) (by decide) (by decide) (z' := (1 : Int32)) rfl ⟨rfl, N12⟩
        · refine ow_iconst X32 hx (z := (0 : Int32)) (hb hby at_134) rfl (pc' := 135) rfl ?_
          refine ow_istore X32 hx (Ls' := #[.val (.int pa), .val (.int pf), .val (.int pg), .val (.int z1), .val (.int z3), .val (.int z5), .val (.int z7), .val (.ref b8), .val (.int z14), .val (.int z18), .val (.int (0 : Int32))]) (hb hby at_135) rfl (pc' := 137) rfl ?_
          have s0 : z14.toInt ≤ 0 ∧ 0 < z18.toInt ∧ pl z1.toInt = 0 := st_t az32 c131
          clear az32 hz32 c131
          refine ow_aload X32 hx (hb hby at_137) rfl rfl (pc' := 139) rfl ?_
          refine ow_iload X32 hx (hb hby at_139) rfl (pc' := 141) rfl ?_
          refine ow_iload X32 hx (hb hby at_141) rfl (pc' := 143) rfl ?_
          refine ow_callPI X32 hx hZ hown (hw _ (List.mem_of_getElem? (i := 6) rfl)) (hw _ (List.mem_of_getElem? (i := 7) rfl)) (hw _ (List.mem_of_getElem? (i := 8) rfl)) (hw _ (List.mem_of_getElem? (i := 9) rfl)) (by decide) (rm_fnp l Z a0 hw [] b8 z14 z18 k8 z1 z3 z5 z7 ot kt h12 S_xlogtap_JsonBuilder_PLAIN_12 V_ot_12 V_b8_12 hbf hbe hb4) e32 0 (by decide) (by decide) (by decide) (by decide) [(.ref b8), (.int z14), (.int z18)] (by rw [hml]; rfl) pd_2 rfl rfl rfl (Nat.le_of_eq rfl) (hb hby at_143) (pc' := 146) rfl (fun z34 T34 hz34 X34 e34 => ?_)
          have az34 : z14.toInt ≤ z34.toInt ∧ z34.toInt ≤ z18.toInt ∧ (z14.toInt ≤ 0 → 0 < z34.toInt → pl z1.toInt = 1) ∧ (z14.toInt ≤ 1 → 1 < z34.toInt → pl z3.toInt = 1) ∧ (z14.toInt ≤ 2 → 2 < z34.toInt → pl z5.toInt = 1) ∧ (z14.toInt ≤ 3 → 3 < z34.toInt → pl z7.toInt = 1) ∧ (z34.toInt = z18.toInt ∨ (z34.toInt = 0 ∧ pl z1.toInt = 0) ∨ (z34.toInt = 1 ∧ pl z3.toInt = 0) ∨ (z34.toInt = 2 ∧ pl z5.toInt = 0) ∨ (z34.toInt = 3 ∧ pl z7.toInt = 0)) := hz34
          have rz34 := rng32 z34
          refine ow_iload X34 hx (hb hby at_146) rfl (pc' := 148) rfl ?_
          refine ow_icmp_ne X34 hx (z34.toInt) ((0 : Int)) (hb hby at_148) rfl rfl (by decide) (pt := 155) (by decide) (pf := 151) rfl (fun c148 => absurd c148 (by exact fun q => q (fin_0 az34 s0))) (fun c148 => ?_)
          refine ow_iconst X34 hx (z := (1 : Int32)) (hb hby at_151) rfl (pc' := 152) rfl ?_
          refine ow_goto X34 hx (hb hby at_152) (by decide) (pc' := 156) (by decide) ?_
          exact ow_retB X34 hx hret hlk (hb hby at_156) (by decide) (by decide) (z' := (1 : Int32)) rfl ⟨rfl, N12⟩
  · refine ow_iconst X19 hx (z := (3 : Int32)) (hb hby at_87) rfl (pc' := 88) rfl ?_
    refine ow_istore X19 hx (Ls' := #[.val (.int pa), .val (.int pf), .val (.int pg), .val (.int z1), .val (.int z3), .val (.int z5), .val (.int z7), .val (.ref b8), .val (.int z14), .val (.int z18), .val (.int (3 : Int32))]) (hb hby at_88) rfl (pc' := 90) rfl ?_
    have s3 : z14.toInt ≤ 3 ∧ 3 < z18.toInt ∧ pl z7.toInt = 0 := st_t az19 c84
    clear az19 hz19 c84
    refine ow_iconst X19 hx (z := (2 : Int32)) (hb hby at_90) rfl (pc' := 91) rfl ?_
    refine ow_iload X19 hx (hb hby at_91) rfl (pc' := 93) rfl ?_
    refine ow_iload X19 hx (hb hby at_93) rfl (pc' := 95) rfl ?_
    refine ow_iload X19 hx (hb hby at_95) rfl (pc' := 97) rfl ?_
    refine ow_callPI X19 hx hZ hown (hw _ (List.mem_of_getElem? (i := 2) rfl)) (hw _ (List.mem_of_getElem? (i := 3) rfl)) (hw _ (List.mem_of_getElem? (i := 4) rfl)) (hw _ (List.mem_of_getElem? (i := 5) rfl)) (by decide) (rm_stops l Z a0 hw [] (2 : Int32) z14 z18 z5 h12 ) e19 0 (by decide) (by decide) (by decide) (by decide) [(.int (2 : Int32)), (.int z14), (.int z18), (.int z5)] (by rw [hml]; rfl) pd_1 rfl rfl rfl (Nat.le_of_eq rfl) (hb hby at_97) (pc' := 100) rfl (fun z35 T35 hz35 X35 e35 => ?_)
    have az35 : ((z14.toInt ≤ (2 : Int) ∧ (2 : Int) < z18.toInt ∧ pl z5.toInt = 0) ∧ z35.toInt = 1) ∨ (¬ (z14.toInt ≤ (2 : Int) ∧ (2 : Int) < z18.toInt ∧ pl z5.toInt = 0) ∧ z35.toInt = 0) := hz35
    have rz35 := rng32 z35
    refine ow_if_eq X35 hx (z35.toInt) (hb hby at_100) rfl (by decide) (pt := 106) (by decide) (pf := 103) rfl (fun c100 => ?_) (fun c100 => ?_)
    · have s2 : ¬ (z14.toInt ≤ 2 ∧ 2 < z18.toInt ∧ pl z5.toInt = 0) := st_f az35 c100
      clear az35 hz35 c100
      refine ow_iconst X35 hx (z := (1 : Int32)) (hb hby at_106) rfl (pc' := 107) rfl ?_
      refine ow_iload X35 hx (hb hby at_107) rfl (pc' := 109) rfl ?_
      refine ow_iload X35 hx (hb hby at_109) rfl (pc' := 111) rfl ?_
      refine ow_iload X35 hx (hb hby at_111) rfl (pc' := 113) rfl ?_
      refine ow_callPI X35 hx hZ hown (hw _ (List.mem_of_getElem? (i := 2) rfl)) (hw _ (List.mem_of_getElem? (i := 3) rfl)) (hw _ (List.mem_of_getElem? (i := 4) rfl)) (hw _ (List.mem_of_getElem? (i := 5) rfl)) (by decide) (rm_stops l Z a0 hw [] (1 : Int32) z14 z18 z3 h12 ) e35 0 (by decide) (by decide) (by decide) (by decide) [(.int (1 : Int32)), (.int z14), (.int z18), (.int z3)] (by rw [hml]; rfl) pd_1 rfl rfl rfl (Nat.le_of_eq rfl) (hb hby at_113) (pc' := 116) rfl (fun z36 T36 hz36 X36 e36 => ?_)
      have az36 : ((z14.toInt ≤ (1 : Int) ∧ (1 : Int) < z18.toInt ∧ pl z3.toInt = 0) ∧ z36.toInt = 1) ∨ (¬ (z14.toInt ≤ (1 : Int) ∧ (1 : Int) < z18.toInt ∧ pl z3.toInt = 0) ∧ z36.toInt = 0) := hz36
      have rz36 := rng32 z36
      refine ow_if_eq X36 hx (z36.toInt) (hb hby at_116) rfl (by decide) (pt := 122) (by decide) (pf := 119) rfl (fun c116 => ?_) (fun c116 => ?_)
      · have s1 : ¬ (z14.toInt ≤ 1 ∧ 1 < z18.toInt ∧ pl z3.toInt = 0) := st_f az36 c116
        clear az36 hz36 c116
        refine ow_iconst X36 hx (z := (0 : Int32)) (hb hby at_122) rfl (pc' := 123) rfl ?_
        refine ow_iload X36 hx (hb hby at_123) rfl (pc' := 125) rfl ?_
        refine ow_iload X36 hx (hb hby at_125) rfl (pc' := 127) rfl ?_
        refine ow_iloadN X36 hx (hb hby at_127) rfl (pc' := 128) rfl ?_
        refine ow_callPI X36 hx hZ hown (hw _ (List.mem_of_getElem? (i := 2) rfl)) (hw _ (List.mem_of_getElem? (i := 3) rfl)) (hw _ (List.mem_of_getElem? (i := 4) rfl)) (hw _ (List.mem_of_getElem? (i := 5) rfl)) (by decide) (rm_stops l Z a0 hw [] (0 : Int32) z14 z18 z1 h12 ) e36 0 (by decide) (by decide) (by decide) (by decide) [(.int (0 : Int32)), (.int z14), (.int z18), (.int z1)] (by rw [hml]; rfl) pd_1 rfl rfl rfl (Nat.le_of_eq rfl) (hb hby at_128) (pc' := 131) rfl (fun z37 T37 hz37 X37 e37 => ?_)
        have az37 : ((z14.toInt ≤ (0 : Int) ∧ (0 : Int) < z18.toInt ∧ pl z1.toInt = 0) ∧ z37.toInt = 1) ∨ (¬ (z14.toInt ≤ (0 : Int) ∧ (0 : Int) < z18.toInt ∧ pl z1.toInt = 0) ∧ z37.toInt = 0) := hz37
        have rz37 := rng32 z37
        refine ow_if_eq X37 hx (z37.toInt) (hb hby at_131) rfl (by decide) (pt := 137) (by decide) (pf := 134) rfl (fun c131 => ?_) (fun c131 => ?_)
        · have s0 : ¬ (z14.toInt ≤ 0 ∧ 0 < z18.toInt ∧ pl z1.toInt = 0) := st_f az37 c131
          clear az37 hz37 c131
          refine ow_aload X37 hx (hb hby at_137) rfl rfl (pc' := 139) rfl ?_
          refine ow_iload X37 hx (hb hby at_139) rfl (pc' := 141) rfl ?_
          refine ow_iload X37 hx (hb hby at_141) rfl (pc' := 143) rfl ?_
          refine ow_callPI X37 hx hZ hown (hw _ (List.mem_of_getElem? (i := 6) rfl)) (hw _ (List.mem_of_getElem? (i := 7) rfl)) (hw _ (List.mem_of_getElem? (i := 8) rfl)) (hw _ (List.mem_of_getElem? (i := 9) rfl)) (by decide) (rm_fnp l Z a0 hw [] b8 z14 z18 k8 z1 z3 z5 z7 ot kt h12 S_xlogtap_JsonBuilder_PLAIN_12 V_ot_12 V_b8_12 hbf hbe hb4) e37 0 (by decide) (by decide) (by decide) (by decide) [(.ref b8), (.int z14), (.int z18)] (by rw [hml]; rfl) pd_2 rfl rfl rfl (Nat.le_of_eq rfl) (hb hby at_143) (pc' := 146) rfl (fun z38 T38 hz38 X38 e38 => ?_)
          have az38 : z14.toInt ≤ z38.toInt ∧ z38.toInt ≤ z18.toInt ∧ (z14.toInt ≤ 0 → 0 < z38.toInt → pl z1.toInt = 1) ∧ (z14.toInt ≤ 1 → 1 < z38.toInt → pl z3.toInt = 1) ∧ (z14.toInt ≤ 2 → 2 < z38.toInt → pl z5.toInt = 1) ∧ (z14.toInt ≤ 3 → 3 < z38.toInt → pl z7.toInt = 1) ∧ (z38.toInt = z18.toInt ∨ (z38.toInt = 0 ∧ pl z1.toInt = 0) ∨ (z38.toInt = 1 ∧ pl z3.toInt = 0) ∨ (z38.toInt = 2 ∧ pl z5.toInt = 0) ∨ (z38.toInt = 3 ∧ pl z7.toInt = 0)) := hz38
          have rz38 := rng32 z38
          refine ow_iload X38 hx (hb hby at_146) rfl (pc' := 148) rfl ?_
          refine ow_icmp_ne X38 hx (z38.toInt) ((3 : Int)) (hb hby at_148) rfl rfl (by decide) (pt := 155) (by decide) (pf := 151) rfl (fun c148 => absurd c148 (by exact fun q => q (fin_3 az38 s0 s1 s2 s3))) (fun c148 => ?_)
          refine ow_iconst X38 hx (z := (1 : Int32)) (hb hby at_151) rfl (pc' := 152) rfl ?_
          refine ow_goto X38 hx (hb hby at_152) (by decide) (pc' := 156) (by decide) ?_
          exact ow_retB X38 hx hret hlk (hb hby at_156) (by decide) (by decide) (z' := (1 : Int32)) rfl ⟨rfl, N12⟩
        · refine ow_iconst X37 hx (z := (0 : Int32)) (hb hby at_134) rfl (pc' := 135) rfl ?_
          refine ow_istore X37 hx (Ls' := #[.val (.int pa), .val (.int pf), .val (.int pg), .val (.int z1), .val (.int z3), .val (.int z5), .val (.int z7), .val (.ref b8), .val (.int z14), .val (.int z18), .val (.int (0 : Int32))]) (hb hby at_135) rfl (pc' := 137) rfl ?_
          have s0 : z14.toInt ≤ 0 ∧ 0 < z18.toInt ∧ pl z1.toInt = 0 := st_t az37 c131
          clear az37 hz37 c131
          refine ow_aload X37 hx (hb hby at_137) rfl rfl (pc' := 139) rfl ?_
          refine ow_iload X37 hx (hb hby at_139) rfl (pc' := 141) rfl ?_
          refine ow_iload X37 hx (hb hby at_141) rfl (pc' := 143) rfl ?_
          refine ow_callPI X37 hx hZ hown (hw _ (List.mem_of_getElem? (i := 6) rfl)) (hw _ (List.mem_of_getElem? (i := 7) rfl)) (hw _ (List.mem_of_getElem? (i := 8) rfl)) (hw _ (List.mem_of_getElem? (i := 9) rfl)) (by decide) (rm_fnp l Z a0 hw [] b8 z14 z18 k8 z1 z3 z5 z7 ot kt h12 S_xlogtap_JsonBuilder_PLAIN_12 V_ot_12 V_b8_12 hbf hbe hb4) e37 0 (by decide) (by decide) (by decide) (by decide) [(.ref b8), (.int z14), (.int z18)] (by rw [hml]; rfl) pd_2 rfl rfl rfl (Nat.le_of_eq rfl) (hb hby at_143) (pc' := 146) rfl (fun z39 T39 hz39 X39 e39 => ?_)
          have az39 : z14.toInt ≤ z39.toInt ∧ z39.toInt ≤ z18.toInt ∧ (z14.toInt ≤ 0 → 0 < z39.toInt → pl z1.toInt = 1) ∧ (z14.toInt ≤ 1 → 1 < z39.toInt → pl z3.toInt = 1) ∧ (z14.toInt ≤ 2 → 2 < z39.toInt → pl z5.toInt = 1) ∧ (z14.toInt ≤ 3 → 3 < z39.toInt → pl z7.toInt = 1) ∧ (z39.toInt = z18.toInt ∨ (z39.toInt = 0 ∧ pl z1.toInt = 0) ∨ (z39.toInt = 1 ∧ pl z3.toInt = 0) ∨ (z39.toInt = 2 ∧ pl z5.toInt = 0) ∨ (z39.toInt = 3 ∧ pl z7.toInt = 0)) := hz39
          have rz39 := rng32 z39
          refine ow_iload X39 hx (hb hby at_146) rfl (pc' := 148) rfl ?_
          refine ow_icmp_ne X39 hx (z39.toInt) ((0 : Int)) (hb hby at_148) rfl rfl (by decide) (pt := 155) (by decide) (pf := 151) rfl (fun c148 => absurd c148 (by exact fun q => q (fin_0 az39 s0))) (fun c148 => ?_)
          refine ow_iconst X39 hx (z := (1 : Int32)) (hb hby at_151) rfl (pc' := 152) rfl ?_
          refine ow_goto X39 hx (hb hby at_152) (by decide) (pc' := 156) (by decide) ?_
          exact ow_retB X39 hx hret hlk (hb hby at_156) (by decide) (by decide) (z' := (1 : Int32)) rfl ⟨rfl, N12⟩
      · refine ow_iconst X36 hx (z := (1 : Int32)) (hb hby at_119) rfl (pc' := 120) rfl ?_
        refine ow_istore X36 hx (Ls' := #[.val (.int pa), .val (.int pf), .val (.int pg), .val (.int z1), .val (.int z3), .val (.int z5), .val (.int z7), .val (.ref b8), .val (.int z14), .val (.int z18), .val (.int (1 : Int32))]) (hb hby at_120) rfl (pc' := 122) rfl ?_
        have s1 : z14.toInt ≤ 1 ∧ 1 < z18.toInt ∧ pl z3.toInt = 0 := st_t az36 c116
        clear az36 hz36 c116
        refine ow_iconst X36 hx (z := (0 : Int32)) (hb hby at_122) rfl (pc' := 123) rfl ?_
        refine ow_iload X36 hx (hb hby at_123) rfl (pc' := 125) rfl ?_
        refine ow_iload X36 hx (hb hby at_125) rfl (pc' := 127) rfl ?_
        refine ow_iloadN X36 hx (hb hby at_127) rfl (pc' := 128) rfl ?_
        refine ow_callPI X36 hx hZ hown (hw _ (List.mem_of_getElem? (i := 2) rfl)) (hw _ (List.mem_of_getElem? (i := 3) rfl)) (hw _ (List.mem_of_getElem? (i := 4) rfl)) (hw _ (List.mem_of_getElem? (i := 5) rfl)) (by decide) (rm_stops l Z a0 hw [] (0 : Int32) z14 z18 z1 h12 ) e36 0 (by decide) (by decide) (by decide) (by decide) [(.int (0 : Int32)), (.int z14), (.int z18), (.int z1)] (by rw [hml]; rfl) pd_1 rfl rfl rfl (Nat.le_of_eq rfl) (hb hby at_128) (pc' := 131) rfl (fun z40 T40 hz40 X40 e40 => ?_)
        have az40 : ((z14.toInt ≤ (0 : Int) ∧ (0 : Int) < z18.toInt ∧ pl z1.toInt = 0) ∧ z40.toInt = 1) ∨ (¬ (z14.toInt ≤ (0 : Int) ∧ (0 : Int) < z18.toInt ∧ pl z1.toInt = 0) ∧ z40.toInt = 0) := hz40
        have rz40 := rng32 z40
        refine ow_if_eq X40 hx (z40.toInt) (hb hby at_131) rfl (by decide) (pt := 137) (by decide) (pf := 134) rfl (fun c131 => ?_) (fun c131 => ?_)
        · have s0 : ¬ (z14.toInt ≤ 0 ∧ 0 < z18.toInt ∧ pl z1.toInt = 0) := st_f az40 c131
          clear az40 hz40 c131
          refine ow_aload X40 hx (hb hby at_137) rfl rfl (pc' := 139) rfl ?_
          refine ow_iload X40 hx (hb hby at_139) rfl (pc' := 141) rfl ?_
          refine ow_iload X40 hx (hb hby at_141) rfl (pc' := 143) rfl ?_
          refine ow_callPI X40 hx hZ hown (hw _ (List.mem_of_getElem? (i := 6) rfl)) (hw _ (List.mem_of_getElem? (i := 7) rfl)) (hw _ (List.mem_of_getElem? (i := 8) rfl)) (hw _ (List.mem_of_getElem? (i := 9) rfl)) (by decide) (rm_fnp l Z a0 hw [] b8 z14 z18 k8 z1 z3 z5 z7 ot kt h12 S_xlogtap_JsonBuilder_PLAIN_12 V_ot_12 V_b8_12 hbf hbe hb4) e40 0 (by decide) (by decide) (by decide) (by decide) [(.ref b8), (.int z14), (.int z18)] (by rw [hml]; rfl) pd_2 rfl rfl rfl (Nat.le_of_eq rfl) (hb hby at_143) (pc' := 146) rfl (fun z41 T41 hz41 X41 e41 => ?_)
          have az41 : z14.toInt ≤ z41.toInt ∧ z41.toInt ≤ z18.toInt ∧ (z14.toInt ≤ 0 → 0 < z41.toInt → pl z1.toInt = 1) ∧ (z14.toInt ≤ 1 → 1 < z41.toInt → pl z3.toInt = 1) ∧ (z14.toInt ≤ 2 → 2 < z41.toInt → pl z5.toInt = 1) ∧ (z14.toInt ≤ 3 → 3 < z41.toInt → pl z7.toInt = 1) ∧ (z41.toInt = z18.toInt ∨ (z41.toInt = 0 ∧ pl z1.toInt = 0) ∨ (z41.toInt = 1 ∧ pl z3.toInt = 0) ∨ (z41.toInt = 2 ∧ pl z5.toInt = 0) ∨ (z41.toInt = 3 ∧ pl z7.toInt = 0)) := hz41
          have rz41 := rng32 z41
          refine ow_iload X41 hx (hb hby at_146) rfl (pc' := 148) rfl ?_
          refine ow_icmp_ne X41 hx (z41.toInt) ((1 : Int)) (hb hby at_148) rfl rfl (by decide) (pt := 155) (by decide) (pf := 151) rfl (fun c148 => absurd c148 (by exact fun q => q (fin_1 az41 s0 s1))) (fun c148 => ?_)
          refine ow_iconst X41 hx (z := (1 : Int32)) (hb hby at_151) rfl (pc' := 152) rfl ?_
          refine ow_goto X41 hx (hb hby at_152) (by decide) (pc' := 156) (by decide) ?_
          exact ow_retB X41 hx hret hlk (hb hby at_156) (by decide) (by decide) (z' := (1 : Int32)) rfl ⟨rfl, N12⟩
        · refine ow_iconst X40 hx (z := (0 : Int32)) (hb hby at_134) rfl (pc' := 135) rfl ?_
          refine ow_istore X40 hx (Ls' := #[.val (.int pa), .val (.int pf), .val (.int pg), .val (.int z1), .val (.int z3), .val (.int z5), .val (.int z7), .val (.ref b8), .val (.int z14), .val (.int z18), .val (.int (0 : Int32))]) (hb hby at_135) rfl (pc' := 137) rfl ?_
          have s0 : z14.toInt ≤ 0 ∧ 0 < z18.toInt ∧ pl z1.toInt = 0 := st_t az40 c131
          clear az40 hz40 c131
          refine ow_aload X40 hx (hb hby at_137) rfl rfl (pc' := 139) rfl ?_
          refine ow_iload X40 hx (hb hby at_139) rfl (pc' := 141) rfl ?_
          refine ow_iload X40 hx (hb hby at_141) rfl (pc' := 143) rfl ?_
          refine ow_callPI X40 hx hZ hown (hw _ (List.mem_of_getElem? (i := 6) rfl)) (hw _ (List.mem_of_getElem? (i := 7) rfl)) (hw _ (List.mem_of_getElem? (i := 8) rfl)) (hw _ (List.mem_of_getElem? (i := 9) rfl)) (by decide) (rm_fnp l Z a0 hw [] b8 z14 z18 k8 z1 z3 z5 z7 ot kt h12 S_xlogtap_JsonBuilder_PLAIN_12 V_ot_12 V_b8_12 hbf hbe hb4) e40 0 (by decide) (by decide) (by decide) (by decide) [(.ref b8), (.int z14), (.int z18)] (by rw [hml]; rfl) pd_2 rfl rfl rfl (Nat.le_of_eq rfl) (hb hby at_143) (pc' := 146) rfl (fun z42 T42 hz42 X42 e42 => ?_)
          have az42 : z14.toInt ≤ z42.toInt ∧ z42.toInt ≤ z18.toInt ∧ (z14.toInt ≤ 0 → 0 < z42.toInt → pl z1.toInt = 1) ∧ (z14.toInt ≤ 1 → 1 < z42.toInt → pl z3.toInt = 1) ∧ (z14.toInt ≤ 2 → 2 < z42.toInt → pl z5.toInt = 1) ∧ (z14.toInt ≤ 3 → 3 < z42.toInt → pl z7.toInt = 1) ∧ (z42.toInt = z18.toInt ∨ (z42.toInt = 0 ∧ pl z1.toInt = 0) ∨ (z42.toInt = 1 ∧ pl z3.toInt = 0) ∨ (z42.toInt = 2 ∧ pl z5.toInt = 0) ∨ (z42.toInt = 3 ∧ pl z7.toInt = 0)) := hz42
          have rz42 := rng32 z42
          refine ow_iload X42 hx (hb hby at_146) rfl (pc' := 148) rfl ?_
          refine ow_icmp_ne X42 hx (z42.toInt) ((0 : Int)) (hb hby at_148) rfl rfl (by decide) (pt := 155) (by decide) (pf := 151) rfl (fun c148 => absurd c148 (by exact fun q => q (fin_0 az42 s0))) (fun c148 => ?_)
          refine ow_iconst X42 hx (z := (1 : Int32)) (hb hby at_151) rfl (pc' := 152) rfl ?_
          refine ow_goto X42 hx (hb hby at_152) (by decide) (pc' := 156) (by decide) ?_
          exact ow_retB X42 hx hret hlk (hb hby at_156) (by decide) (by decide) (z' := (1 : Int32)) rfl ⟨rfl, N12⟩
    · refine ow_iconst X35 hx (z := (2 : Int32)) (hb hby at_103) rfl (pc' := 104) rfl ?_
      refine ow_istore X35 hx (Ls' := #[.val (.int pa), .val (.int pf), .val (.int pg), .val (.int z1), .val (.int z3), .val (.int z5), .val (.int z7), .val (.ref b8), .val (.int z14), .val (.int z18), .val (.int (2 : Int32))]) (hb hby at_104) rfl (pc' := 106) rfl ?_
      have s2 : z14.toInt ≤ 2 ∧ 2 < z18.toInt ∧ pl z5.toInt = 0 := st_t az35 c100
      clear az35 hz35 c100
      refine ow_iconst X35 hx (z := (1 : Int32)) (hb hby at_106) rfl (pc' := 107) rfl ?_
      refine ow_iload X35 hx (hb hby at_107) rfl (pc' := 109) rfl ?_
      refine ow_iload X35 hx (hb hby at_109) rfl (pc' := 111) rfl ?_
      refine ow_iload X35 hx (hb hby at_111) rfl (pc' := 113) rfl ?_
      refine ow_callPI X35 hx hZ hown (hw _ (List.mem_of_getElem? (i := 2) rfl)) (hw _ (List.mem_of_getElem? (i := 3) rfl)) (hw _ (List.mem_of_getElem? (i := 4) rfl)) (hw _ (List.mem_of_getElem? (i := 5) rfl)) (by decide) (rm_stops l Z a0 hw [] (1 : Int32) z14 z18 z3 h12 ) e35 0 (by decide) (by decide) (by decide) (by decide) [(.int (1 : Int32)), (.int z14), (.int z18), (.int z3)] (by rw [hml]; rfl) pd_1 rfl rfl rfl (Nat.le_of_eq rfl) (hb hby at_113) (pc' := 116) rfl (fun z43 T43 hz43 X43 e43 => ?_)
      have az43 : ((z14.toInt ≤ (1 : Int) ∧ (1 : Int) < z18.toInt ∧ pl z3.toInt = 0) ∧ z43.toInt = 1) ∨ (¬ (z14.toInt ≤ (1 : Int) ∧ (1 : Int) < z18.toInt ∧ pl z3.toInt = 0) ∧ z43.toInt = 0) := hz43
      have rz43 := rng32 z43
      refine ow_if_eq X43 hx (z43.toInt) (hb hby at_116) rfl (by decide) (pt := 122) (by decide) (pf := 119) rfl (fun c116 => ?_) (fun c116 => ?_)
      · have s1 : ¬ (z14.toInt ≤ 1 ∧ 1 < z18.toInt ∧ pl z3.toInt = 0) := st_f az43 c116
        clear az43 hz43 c116
        refine ow_iconst X43 hx (z := (0 : Int32)) (hb hby at_122) rfl (pc' := 123) rfl ?_
        refine ow_iload X43 hx (hb hby at_123) rfl (pc' := 125) rfl ?_
        refine ow_iload X43 hx (hb hby at_125) rfl (pc' := 127) rfl ?_
        refine ow_iloadN X43 hx (hb hby at_127) rfl (pc' := 128) rfl ?_
        refine ow_callPI X43 hx hZ hown (hw _ (List.mem_of_getElem? (i := 2) rfl)) (hw _ (List.mem_of_getElem? (i := 3) rfl)) (hw _ (List.mem_of_getElem? (i := 4) rfl)) (hw _ (List.mem_of_getElem? (i := 5) rfl)) (by decide) (rm_stops l Z a0 hw [] (0 : Int32) z14 z18 z1 h12 ) e43 0 (by decide) (by decide) (by decide) (by decide) [(.int (0 : Int32)), (.int z14), (.int z18), (.int z1)] (by rw [hml]; rfl) pd_1 rfl rfl rfl (Nat.le_of_eq rfl) (hb hby at_128) (pc' := 131) rfl (fun z44 T44 hz44 X44 e44 => ?_)
        have az44 : ((z14.toInt ≤ (0 : Int) ∧ (0 : Int) < z18.toInt ∧ pl z1.toInt = 0) ∧ z44.toInt = 1) ∨ (¬ (z14.toInt ≤ (0 : Int) ∧ (0 : Int) < z18.toInt ∧ pl z1.toInt = 0) ∧ z44.toInt = 0) := hz44
        have rz44 := rng32 z44
        refine ow_if_eq X44 hx (z44.toInt) (hb hby at_131) rfl (by decide) (pt := 137) (by decide) (pf := 134) rfl (fun c131 => ?_) (fun c131 => ?_)
        · have s0 : ¬ (z14.toInt ≤ 0 ∧ 0 < z18.toInt ∧ pl z1.toInt = 0) := st_f az44 c131
          clear az44 hz44 c131
          refine ow_aload X44 hx (hb hby at_137) rfl rfl (pc' := 139) rfl ?_
          refine ow_iload X44 hx (hb hby at_139) rfl (pc' := 141) rfl ?_
          refine ow_iload X44 hx (hb hby at_141) rfl (pc' := 143) rfl ?_
          refine ow_callPI X44 hx hZ hown (hw _ (List.mem_of_getElem? (i := 6) rfl)) (hw _ (List.mem_of_getElem? (i := 7) rfl)) (hw _ (List.mem_of_getElem? (i := 8) rfl)) (hw _ (List.mem_of_getElem? (i := 9) rfl)) (by decide) (rm_fnp l Z a0 hw [] b8 z14 z18 k8 z1 z3 z5 z7 ot kt h12 S_xlogtap_JsonBuilder_PLAIN_12 V_ot_12 V_b8_12 hbf hbe hb4) e44 0 (by decide) (by decide) (by decide) (by decide) [(.ref b8), (.int z14), (.int z18)] (by rw [hml]; rfl) pd_2 rfl rfl rfl (Nat.le_of_eq rfl) (hb hby at_143) (pc' := 146) rfl (fun z45 T45 hz45 X45 e45 => ?_)
          have az45 : z14.toInt ≤ z45.toInt ∧ z45.toInt ≤ z18.toInt ∧ (z14.toInt ≤ 0 → 0 < z45.toInt → pl z1.toInt = 1) ∧ (z14.toInt ≤ 1 → 1 < z45.toInt → pl z3.toInt = 1) ∧ (z14.toInt ≤ 2 → 2 < z45.toInt → pl z5.toInt = 1) ∧ (z14.toInt ≤ 3 → 3 < z45.toInt → pl z7.toInt = 1) ∧ (z45.toInt = z18.toInt ∨ (z45.toInt = 0 ∧ pl z1.toInt = 0) ∨ (z45.toInt = 1 ∧ pl z3.toInt = 0) ∨ (z45.toInt = 2 ∧ pl z5.toInt = 0) ∨ (z45.toInt = 3 ∧ pl z7.toInt = 0)) := hz45
          have rz45 := rng32 z45
          refine ow_iload X45 hx (hb hby at_146) rfl (pc' := 148) rfl ?_
          refine ow_icmp_ne X45 hx (z45.toInt) ((2 : Int)) (hb hby at_148) rfl rfl (by decide) (pt := 155) (by decide) (pf := 151) rfl (fun c148 => absurd c148 (by exact fun q => q (fin_2 az45 s0 s1 s2))) (fun c148 => ?_)
          refine ow_iconst X45 hx (z := (1 : Int32)) (hb hby at_151) rfl (pc' := 152) rfl ?_
          refine ow_goto X45 hx (hb hby at_152) (by decide) (pc' := 156) (by decide) ?_
          exact ow_retB X45 hx hret hlk (hb hby at_156) (by decide) (by decide) (z' := (1 : Int32)) rfl ⟨rfl, N12⟩
        · refine ow_iconst X44 hx (z := (0 : Int32)) (hb hby at_134) rfl (pc' := 135) rfl ?_
          refine ow_istore X44 hx (Ls' := #[.val (.int pa), .val (.int pf), .val (.int pg), .val (.int z1), .val (.int z3), .val (.int z5), .val (.int z7), .val (.ref b8), .val (.int z14), .val (.int z18), .val (.int (0 : Int32))]) (hb hby at_135) rfl (pc' := 137) rfl ?_
          have s0 : z14.toInt ≤ 0 ∧ 0 < z18.toInt ∧ pl z1.toInt = 0 := st_t az44 c131
          clear az44 hz44 c131
          refine ow_aload X44 hx (hb hby at_137) rfl rfl (pc' := 139) rfl ?_
          refine ow_iload X44 hx (hb hby at_139) rfl (pc' := 141) rfl ?_
          refine ow_iload X44 hx (hb hby at_141) rfl (pc' := 143) rfl ?_
          refine ow_callPI X44 hx hZ hown (hw _ (List.mem_of_getElem? (i := 6) rfl)) (hw _ (List.mem_of_getElem? (i := 7) rfl)) (hw _ (List.mem_of_getElem? (i := 8) rfl)) (hw _ (List.mem_of_getElem? (i := 9) rfl)) (by decide) (rm_fnp l Z a0 hw [] b8 z14 z18 k8 z1 z3 z5 z7 ot kt h12 S_xlogtap_JsonBuilder_PLAIN_12 V_ot_12 V_b8_12 hbf hbe hb4) e44 0 (by decide) (by decide) (by decide) (by decide) [(.ref b8), (.int z14), (.int z18)] (by rw [hml]; rfl) pd_2 rfl rfl rfl (Nat.le_of_eq rfl) (hb hby at_143) (pc' := 146) rfl (fun z46 T46 hz46 X46 e46 => ?_)
          have az46 : z14.toInt ≤ z46.toInt ∧ z46.toInt ≤ z18.toInt ∧ (z14.toInt ≤ 0 → 0 < z46.toInt → pl z1.toInt = 1) ∧ (z14.toInt ≤ 1 → 1 < z46.toInt → pl z3.toInt = 1) ∧ (z14.toInt ≤ 2 → 2 < z46.toInt → pl z5.toInt = 1) ∧ (z14.toInt ≤ 3 → 3 < z46.toInt → pl z7.toInt = 1) ∧ (z46.toInt = z18.toInt ∨ (z46.toInt = 0 ∧ pl z1.toInt = 0) ∨ (z46.toInt = 1 ∧ pl z3.toInt = 0) ∨ (z46.toInt = 2 ∧ pl z5.toInt = 0) ∨ (z46.toInt = 3 ∧ pl z7.toInt = 0)) := hz46
          have rz46 := rng32 z46
          refine ow_iload X46 hx (hb hby at_146) rfl (pc' := 148) rfl ?_
          refine ow_icmp_ne X46 hx (z46.toInt) ((0 : Int)) (hb hby at_148) rfl rfl (by decide) (pt := 155) (by decide) (pf := 151) rfl (fun c148 => absurd c148 (by exact fun q => q (fin_0 az46 s0))) (fun c148 => ?_)
          refine ow_iconst X46 hx (z := (1 : Int32)) (hb hby at_151) rfl (pc' := 152) rfl ?_
          refine ow_goto X46 hx (hb hby at_152) (by decide) (pc' := 156) (by decide) ?_
          exact ow_retB X46 hx hret hlk (hb hby at_156) (by decide) (by decide) (z' := (1 : Int32)) rfl ⟨rfl, N12⟩
      · refine ow_iconst X43 hx (z := (1 : Int32)) (hb hby at_119) rfl (pc' := 120) rfl ?_
        refine ow_istore X43 hx (Ls' := #[.val (.int pa), .val (.int pf), .val (.int pg), .val (.int z1), .val (.int z3), .val (.int z5), .val (.int z7), .val (.ref b8), .val (.int z14), .val (.int z18), .val (.int (1 : Int32))]) (hb hby at_120) rfl (pc' := 122) rfl ?_
        have s1 : z14.toInt ≤ 1 ∧ 1 < z18.toInt ∧ pl z3.toInt = 0 := st_t az43 c116
        clear az43 hz43 c116
        refine ow_iconst X43 hx (z := (0 : Int32)) (hb hby at_122) rfl (pc' := 123) rfl ?_
        refine ow_iload X43 hx (hb hby at_123) rfl (pc' := 125) rfl ?_
        refine ow_iload X43 hx (hb hby at_125) rfl (pc' := 127) rfl ?_
        refine ow_iloadN X43 hx (hb hby at_127) rfl (pc' := 128) rfl ?_
        refine ow_callPI X43 hx hZ hown (hw _ (List.mem_of_getElem? (i := 2) rfl)) (hw _ (List.mem_of_getElem? (i := 3) rfl)) (hw _ (List.mem_of_getElem? (i := 4) rfl)) (hw _ (List.mem_of_getElem? (i := 5) rfl)) (by decide) (rm_stops l Z a0 hw [] (0 : Int32) z14 z18 z1 h12 ) e43 0 (by decide) (by decide) (by decide) (by decide) [(.int (0 : Int32)), (.int z14), (.int z18), (.int z1)] (by rw [hml]; rfl) pd_1 rfl rfl rfl (Nat.le_of_eq rfl) (hb hby at_128) (pc' := 131) rfl (fun z47 T47 hz47 X47 e47 => ?_)
        have az47 : ((z14.toInt ≤ (0 : Int) ∧ (0 : Int) < z18.toInt ∧ pl z1.toInt = 0) ∧ z47.toInt = 1) ∨ (¬ (z14.toInt ≤ (0 : Int) ∧ (0 : Int) < z18.toInt ∧ pl z1.toInt = 0) ∧ z47.toInt = 0) := hz47
        have rz47 := rng32 z47
        refine ow_if_eq X47 hx (z47.toInt) (hb hby at_131) rfl (by decide) (pt := 137) (by decide) (pf := 134) rfl (fun c131 => ?_) (fun c131 => ?_)
        · have s0 : ¬ (z14.toInt ≤ 0 ∧ 0 < z18.toInt ∧ pl z1.toInt = 0) := st_f az47 c131
          clear az47 hz47 c131
          refine ow_aload X47 hx (hb hby at_137) rfl rfl (pc' := 139) rfl ?_
          refine ow_iload X47 hx (hb hby at_139) rfl (pc' := 141) rfl ?_
          refine ow_iload X47 hx (hb hby at_141) rfl (pc' := 143) rfl ?_
          refine ow_callPI X47 hx hZ hown (hw _ (List.mem_of_getElem? (i := 6) rfl)) (hw _ (List.mem_of_getElem? (i := 7) rfl)) (hw _ (List.mem_of_getElem? (i := 8) rfl)) (hw _ (List.mem_of_getElem? (i := 9) rfl)) (by decide) (rm_fnp l Z a0 hw [] b8 z14 z18 k8 z1 z3 z5 z7 ot kt h12 S_xlogtap_JsonBuilder_PLAIN_12 V_ot_12 V_b8_12 hbf hbe hb4) e47 0 (by decide) (by decide) (by decide) (by decide) [(.ref b8), (.int z14), (.int z18)] (by rw [hml]; rfl) pd_2 rfl rfl rfl (Nat.le_of_eq rfl) (hb hby at_143) (pc' := 146) rfl (fun z48 T48 hz48 X48 e48 => ?_)
          have az48 : z14.toInt ≤ z48.toInt ∧ z48.toInt ≤ z18.toInt ∧ (z14.toInt ≤ 0 → 0 < z48.toInt → pl z1.toInt = 1) ∧ (z14.toInt ≤ 1 → 1 < z48.toInt → pl z3.toInt = 1) ∧ (z14.toInt ≤ 2 → 2 < z48.toInt → pl z5.toInt = 1) ∧ (z14.toInt ≤ 3 → 3 < z48.toInt → pl z7.toInt = 1) ∧ (z48.toInt = z18.toInt ∨ (z48.toInt = 0 ∧ pl z1.toInt = 0) ∨ (z48.toInt = 1 ∧ pl z3.toInt = 0) ∨ (z48.toInt = 2 ∧ pl z5.toInt = 0) ∨ (z48.toInt = 3 ∧ pl z7.toInt = 0)) := hz48
          have rz48 := rng32 z48
          refine ow_iload X48 hx (hb hby at_146) rfl (pc' := 148) rfl ?_
          refine ow_icmp_ne X48 hx (z48.toInt) ((1 : Int)) (hb hby at_148) rfl rfl (by decide) (pt := 155) (by decide) (pf := 151) rfl (fun c148 => absurd c148 (by exact fun q => q (fin_1 az48 s0 s1))) (fun c148 => ?_)
          refine ow_iconst X48 hx (z := (1 : Int32)) (hb hby at_151) rfl (pc' := 152) rfl ?_
          refine ow_goto X48 hx (hb hby at_152) (by decide) (pc' := 156) (by decide) ?_
          exact ow_retB X48 hx hret hlk (hb hby at_156) (by decide) (by decide) (z' := (1 : Int32)) rfl ⟨rfl, N12⟩
        · refine ow_iconst X47 hx (z := (0 : Int32)) (hb hby at_134) rfl (pc' := 135) rfl ?_
          refine ow_istore X47 hx (Ls' := #[.val (.int pa), .val (.int pf), .val (.int pg), .val (.int z1), .val (.int z3), .val (.int z5), .val (.int z7), .val (.ref b8), .val (.int z14), .val (.int z18), .val (.int (0 : Int32))]) (hb hby at_135) rfl (pc' := 137) rfl ?_
          have s0 : z14.toInt ≤ 0 ∧ 0 < z18.toInt ∧ pl z1.toInt = 0 := st_t az47 c131
          clear az47 hz47 c131
          refine ow_aload X47 hx (hb hby at_137) rfl rfl (pc' := 139) rfl ?_
          refine ow_iload X47 hx (hb hby at_139) rfl (pc' := 141) rfl ?_
          refine ow_iload X47 hx (hb hby at_141) rfl (pc' := 143) rfl ?_
          refine ow_callPI X47 hx hZ hown (hw _ (List.mem_of_getElem? (i := 6) rfl)) (hw _ (List.mem_of_getElem? (i := 7) rfl)) (hw _ (List.mem_of_getElem? (i := 8) rfl)) (hw _ (List.mem_of_getElem? (i := 9) rfl)) (by decide) (rm_fnp l Z a0 hw [] b8 z14 z18 k8 z1 z3 z5 z7 ot kt h12 S_xlogtap_JsonBuilder_PLAIN_12 V_ot_12 V_b8_12 hbf hbe hb4) e47 0 (by decide) (by decide) (by decide) (by decide) [(.ref b8), (.int z14), (.int z18)] (by rw [hml]; rfl) pd_2 rfl rfl rfl (Nat.le_of_eq rfl) (hb hby at_143) (pc' := 146) rfl (fun z49 T49 hz49 X49 e49 => ?_)
          have az49 : z14.toInt ≤ z49.toInt ∧ z49.toInt ≤ z18.toInt ∧ (z14.toInt ≤ 0 → 0 < z49.toInt → pl z1.toInt = 1) ∧ (z14.toInt ≤ 1 → 1 < z49.toInt → pl z3.toInt = 1) ∧ (z14.toInt ≤ 2 → 2 < z49.toInt → pl z5.toInt = 1) ∧ (z14.toInt ≤ 3 → 3 < z49.toInt → pl z7.toInt = 1) ∧ (z49.toInt = z18.toInt ∨ (z49.toInt = 0 ∧ pl z1.toInt = 0) ∨ (z49.toInt = 1 ∧ pl z3.toInt = 0) ∨ (z49.toInt = 2 ∧ pl z5.toInt = 0) ∨ (z49.toInt = 3 ∧ pl z7.toInt = 0)) := hz49
          have rz49 := rng32 z49
          refine ow_iload X49 hx (hb hby at_146) rfl (pc' := 148) rfl ?_
          refine ow_icmp_ne X49 hx (z49.toInt) ((0 : Int)) (hb hby at_148) rfl rfl (by decide) (pt := 155) (by decide) (pf := 151) rfl (fun c148 => absurd c148 (by exact fun q => q (fin_0 az49 s0))) (fun c148 => ?_)
          refine ow_iconst X49 hx (z := (1 : Int32)) (hb hby at_151) rfl (pc' := 152) rfl ?_
          refine ow_goto X49 hx (hb hby at_152) (by decide) (pc' := 156) (by decide) ?_
          exact ow_retB X49 hx hret hlk (hb hby at_156) (by decide) (by decide) (z' := (1 : Int32)) rfl ⟨rfl, N12⟩
theorem tb_size {s : State} {args : Array Value} {t : Term} {a : Addr} {cl : Cell} {z : Int32} (ht : t.eval args s none [] s = some (.ref a)) (ha : s.arrayAt? a = some cl) (h : (Jvm.Cond.eq (Jvm.Term.length t) (Jvm.Term.int z)).value args s none s [] = some true) : cl.slots.size < 2 ^ 31 ∧ cl.slots.size.toInt32 = z := by
  obtain ⟨v, y, e1, -⟩ := cmp_v (Or.inl h)
  have q : cl.slots.size < 2147483648 := by
    by_cases q : cl.slots.size < 2147483648
    · exact q
    · exfalso
      simp [Term.eval, ht, ha, q] at e1
  exact ⟨q, gotT (Cond.eq_ints (len_f ht ha q) (Term.int_eval z)) h⟩
theorem tb_val {s : State} {args : Array Value} {t : Term} {a : Addr} {cl : Cell} (et : ∀ idx, t.eval args s none idx s = some (.ref a)) (ha : s.arrayAt? a = some cl) (j : Int32) (nn : ¬ j < 0) (hs : cl.slots[j.toNatClampNeg]? = some (.int (atv cl j))) (v : Int32) :
    (Jvm.Cond.eq (.elem t (.index 0)) (.int v)).value args s none s [j.toNatClampNeg] = some (decide (atv cl j = v)) := Cond.eq_ints ((elem_f (et _) (idx_at nn) ha nn).trans hs) (Term.int_eval v)
theorem TAB_at (k : Nat) (hk : k < 256) (d : Value) : TAB.getD k d = .int (tabF k) := by
  unfold TAB
  rw [List.getD_eq_getElem?_getD, List.getElem?_map, List.getElem?_range hk]
  rfl
theorem tab_start {s : State} {args : Array Value} (hf : Fit s) (hw : ∀ d ∈ tables_1, d.before args s = true) (hn : narrow_1.value args s none s [] = some true) :
    ∃ (ot : Addr) (kt : ClassId), Sta s s.heap "xlogtap/JsonBuilder" "PLAIN" "[Z" (.ref ot) ∧ Arv s s.heap ot kt .boolean (256 : Int32) TAB (.int (0 : Int32)) := by
  obtain ⟨n0, r0⟩ := and_e hn
  obtain ⟨n1, r1⟩ := and_e r0
  obtain ⟨n2, r2⟩ := and_e r1
  obtain ⟨n3, r3⟩ := and_e r2
  obtain ⟨n4, r4⟩ := and_e r3
  obtain ⟨n5, r5⟩ := and_e r4
  obtain ⟨n6, r6⟩ := and_e r5
  obtain ⟨n7, r7⟩ := and_e r6
  obtain ⟨n8, n9⟩ := and_e r7
  obtain ⟨ot, ev⟩ := arr_v n0
  have et : ∀ idx, ((Jvm.Term.static "xlogtap/JsonBuilder" "PLAIN" "[Z") : Term).eval args s none idx s = some (.ref ot) := fun idx => ev
  obtain ⟨cl, A⟩ := Arr.start ev n0
  have ha := A.fin (Vm.Alike.refl _)
  obtain ⟨hsz, hz⟩ := tb_size ev ha n1
  have Tb := Tab.start hf A (Or.inr (Or.inl rfl)) hsz hz (by decide)
  have hs256 : cl.slots.size = 256 := Tb.2.1.trans (by decide)
  refine ⟨ot, cl.cls, Sta.start ev (Or.inr ⟨(hw _ (List.mem_of_getElem? (i := 8) rfl)), (hw _ (List.mem_of_getElem? (i := 14) rfl))⟩), cl, A, rfl, Tb.2.1, by decide, fun k hk => ?_, fun k hk => ?_⟩
  · have hk' : k < 256 := by omega
    obtain ⟨j, hj⟩ : ∃ j : Int32, j = Int32.ofNat k := ⟨_, rfl⟩
    have hji : j.toInt = (k : Int) := by rw [hj]; exact len_toInt (by omega)
    have hjk : j.toNatClampNeg = k := by show j.toInt.toNat = k; omega
    have nn : ¬ j < 0 := ow_nlt (y := (0 : Int32)) (show ¬ j.toInt < 0 from by omega)
    have hin : ¬ (j < 0 ∨ cl.slots.size ≤ j.toNatClampNeg) := by rw [hjk]; exact fun q => q.elim nn (by omega)
    have hs := Tb.2.2.2 j hin
    have hlt : j.toNatClampNeg < cl.slots.size := by rw [hjk]; exact hk
    have f2 : 32 ≤ (k : Int) ∨ (atv cl j).toInt = 0 := by
      rcases or_e2 (Cond.le_ints (Term.int_eval (32 : Int32)) (idx_at nn)) (tb_val et ha j nn hs (0 : Int32)) (Cond.all_elim (et []) ha n2 j.toNatClampNeg hlt) with q | q
      · exact Or.inl (by have q := Int32.le_iff_toInt_le.mp q; rw [hji] at q; exact q)
      · exact Or.inr (by rw [q]; rfl)
    have f3 : ¬ (k : Int) = 32 ∨ (atv cl j).toInt = 1 := by
      have e := gotT (Cond.eq_ints ((elem_f (et []) (Term.int_eval (32 : Int32)) ha (by decide)).trans (Tb.2.2.2 (32 : Int32) (by rw [hs256]; decide))) (Term.int_eval (1 : Int32))) n3
      rcases one_at e j with q | q
      · exact Or.inl (fun w => q (ow_eq (by rw [hji, w]; rfl)))
      · exact Or.inr (by rw [q]; rfl)
    have f4 : ¬ (k : Int) = 33 ∨ (atv cl j).toInt = 1 := by
      have e := gotT (Cond.eq_ints ((elem_f (et []) (Term.int_eval (33 : Int32)) ha (by decide)).trans (Tb.2.2.2 (33 : Int32) (by rw [hs256]; decide))) (Term.int_eval (1 : Int32))) n4
      rcases one_at e j with q | q
      · exact Or.inl (fun w => q (ow_eq (by rw [hji, w]; rfl)))
      · exact Or.inr (by rw [q]; rfl)
    have f5 : ¬ (k : Int) = 34 ∨ (atv cl j).toInt = 0 := by
      have e := gotT (Cond.eq_ints ((elem_f (et []) (Term.int_eval (34 : Int32)) ha (by decide)).trans (Tb.2.2.2 (34 : Int32) (by rw [hs256]; decide))) (Term.int_eval (0 : Int32))) n5
      rcases one_at e j with q | q
      · exact Or.inl (fun w => q (ow_eq (by rw [hji, w]; rfl)))
      · exact Or.inr (by rw [q]; rfl)
    have f6 : (k : Int) < 35 ∨ 92 ≤ (k : Int) ∨ (atv cl j).toInt = 1 := by
      rcases or3 (Cond.all_elim (et []) ha n6 j.toNatClampNeg hlt) (Cond.lt_ints (idx_at nn) (Term.int_eval (35 : Int32))) (Cond.le_ints (Term.int_eval (92 : Int32)) (idx_at nn)) (tb_val et ha j nn hs (1 : Int32)) with q | q | q
      · exact Or.inl (by have q := Int32.lt_iff_toInt_lt.mp q; rw [hji] at q; exact q)
      · exact Or.inr (Or.inl (by have q := fun w => q (Int32.lt_iff_toInt_lt.mpr w); rw [hji] at q; exact Int.not_lt.mp q))
      · exact Or.inr (Or.inr (by rw [q]; rfl))
    have f7 : ¬ (k : Int) = 92 ∨ (atv cl j).toInt = 0 := by
      have e := gotT (Cond.eq_ints ((elem_f (et []) (Term.int_eval (92 : Int32)) ha (by decide)).trans (Tb.2.2.2 (92 : Int32) (by rw [hs256]; decide))) (Term.int_eval (0 : Int32))) n7
      rcases one_at e j with q | q
      · exact Or.inl (fun w => q (ow_eq (by rw [hji, w]; rfl)))
      · exact Or.inr (by rw [q]; rfl)
    have f8 : (k : Int) < 93 ∨ 127 ≤ (k : Int) ∨ (atv cl j).toInt = 1 := by
      rcases or3 (Cond.all_elim (et []) ha n8 j.toNatClampNeg hlt) (Cond.lt_ints (idx_at nn) (Term.int_eval (93 : Int32))) (Cond.le_ints (Term.int_eval (127 : Int32)) (idx_at nn)) (tb_val et ha j nn hs (1 : Int32)) with q | q | q
      · exact Or.inl (by have q := Int32.lt_iff_toInt_lt.mp q; rw [hji] at q; exact q)
      · exact Or.inr (Or.inl (by have q := fun w => q (Int32.lt_iff_toInt_lt.mpr w); rw [hji] at q; exact Int.not_lt.mp q))
      · exact Or.inr (Or.inr (by rw [q]; rfl))
    have f9 : (k : Int) < 127 ∨ (atv cl j).toInt = 0 := by
      rcases or_e2 (Cond.lt_ints (idx_at nn) (Term.int_eval (127 : Int32))) (tb_val et ha j nn hs (0 : Int32)) (Cond.all_elim (et []) ha n9 j.toNatClampNeg hlt) with q | q
      · exact Or.inl (by have q := Int32.lt_iff_toInt_lt.mp q; rw [hji] at q; exact q)
      · exact Or.inr (by rw [q]; rfl)
    rw [TAB_at k hk', ← hjk, hs, hjk]
    have fin : atv cl j = tabF k := by
      apply ow_eq
      unfold tabF
      split
      · show _ = (1 : Int); omega
      · show _ = (0 : Int); omega
    rw [fin]
  · rw [TAB_at k (by omega)]
    unfold tabF
    split <;> rfl
set_option maxRecDepth 65536 in
set_option maxHeartbeats 40000000 in
theorem comes_1 {Post : Tables → Env → Array Value → State → Outcome → State → Prop} (hpost : ∀ tb e args s v u, (limb_1_1.after args s (.returned v) u = true ∧ limb_1_2.after args s (.returned v) u = true ∧ True) → FrameEnd s (.returned v) u (Jvm.fieldLocs frame_1_writes args s ++ Jvm.arrayLocs frame_1_arrays args s ++ Jvm.staticLocs frame_1_statics s) 16 128 → Post tb e args s (.returned v) u) :
    ArmFor flags0 classFile x code maxLocals ret World_1 tables_1 room_1 Calls_1 rest_1 Pre_1 Post := by
  intro l hfl _ _ p e ha hc hk s m args below hf hA hF happ hP
  obtain ⟨hcalls, hrest, hpre⟩ := hP
  obtain ⟨-, -, -, hnamed, -, -, -, hat⟩ := (Spec.applies_iff hf).mp happ
  obtain ⟨hg, hn⟩ := and_e (Cond.before_iff.mp (show (Jvm.Cond.and given_1 narrow_1).before args s = true from hpre))
  obtain ⟨gc, gr0⟩ := and_e hg
  obtain ⟨ga0, gr1⟩ := and_e gr0
  obtain ⟨ga1, ga2⟩ := and_e gr1
  obtain ⟨w0, w1, w2, rfl⟩ : ∃ w0 w1 w2 : Value, args = #[w0, w1, w2] := by
    have hs : args.size = 3 := by simpa [Cond.value, given_1] using gc
    obtain ⟨L⟩ := args
    match L, hs with
    | [w0, w1, w2], _ => exact ⟨w0, w1, w2, rfl⟩
  have hw := fun d (hd : d ∈ tables_1) => atoms_spec (ws := Jvm.Cond.code x code maxLocals ret :: tables_1) hat d (List.mem_cons_of_mem _ hd)
  have hfit : Fit s := fun {y c} hc i hi => by
    obtain ⟨ha, rfl⟩ := Array.getElem?_eq_some_iff.mp hc
    have q := List.all_eq_true.mp ((Array.all_eq_true_iff_forall_mem.mp hF) _ (Array.getElem_mem ha)) i (List.mem_range.mpr hi)
    simpa [Array.getElem?_eq_getElem hi] using q
  obtain ⟨i0, ei0⟩ := is_v ga0
  obtain rfl : w0 = (.int i0) := Option.some.inj ei0
  obtain ⟨i1, ei1⟩ := is_v ga1
  obtain rfl : w1 = (.int i1) := Option.some.inj ei1
  obtain ⟨i2, ei2⟩ := is_v ga2
  obtain rfl : w2 = (.int i2) := Option.some.inj ei2
  obtain ⟨ot, kt, St0, Vt0⟩ := tab_start hfit hw hn
  obtain ⟨n, o, h1, h2, h3, _, L, rfl, ⟨rfl, N⟩, hq⟩ := rm_law l s _ hw tables_1 i0 i1 i2 ot kt s.heap s.heap.size (Nat.le_refl _) St0 Vt0 p e ha hc hk s m _ below hf ((Spec.applies_iff_loose hf).mp happ).1 ⟨rfl, State.Warmed39.refl s, rfl⟩ trivial
  refine ⟨n, _, h1, h2, h3, hpost _ _ _ _ _ _ ⟨Cond.after_iff.mpr rfl, Cond.after_iff.mpr (eq_i res_at (Term.int_eval (1)) rfl), trivial⟩ ⟨hq.1, hq.2.1, (hq.2.2.sift fun y hy => Or.inr (N y hy)).mono (by decide) (by decide)⟩⟩
theorem main_1_1 : Claimed_1_1 := comes_1 fun _ _ _ _ _ _ h hF => ⟨h.1, hF⟩
theorem main_1_2 : Claimed_1_2 := comes_1 fun _ _ _ _ _ _ h hF => ⟨h.2.1, hF⟩
end Jvm.Pilot.@@N@@
namespace Jvm.Pilot.@@N@@
open Jvm Jvm.ClassFile Sem Op Lib Jvm.Free Jvm.Stand Jvm.Pilot.@@N@@.Jvm.D
/-! MADE BY PROGRAM (witnessworld.py) out of the Statement's table words and the real class files: 11 classes; the members and pool entries that the words name. The judged class is class 1, her method 3. -/
namespace start1
open Jvm.ClassFile
def u (s : String) : CpInfo := .utf8 (stringToUtf16 s)
/-- a pool by its gaps: so many unusable entries, then the entry; so many at the end -/
def gap : Nat → List CpInfo → List CpInfo
  | 0, r => r
  | n + 1, r => .unusable :: gap n r
def poolList (es : List (Nat × CpInfo)) (last : Nat) : List CpInfo := es.foldr (fun e r => gap e.1 (e.2 :: r)) (gap last [])
def pool (es : List (Nat × CpInfo)) (last : Nat) : Array CpInfo := ⟨poolList es last⟩
def fileOf (pool : Array CpInfo) (this : Nat) (attrs : Array Attribute := #[]) (ms : Array MethodInfo := #[]) (fl : Nat := 33) (sup : Nat := 0) (ifs : Array Nat := #[]) (fds : Array FieldInfo := #[]) : ClassFile where
  minorVersion := 0
  majorVersion := 65
  constantPool := pool
  accessFlags := fl
  thisClass := this
  superClass := sup
  interfaces := ifs
  fields := fds
  methods := ms
  attributes := attrs
def plain (name : String) (sup : Option ClassId) : Class where
  name := name
  kind := .ordinary
  loader := none
  accessFlags := 33
  super := sup
  interfaces := #[]
  cf := none
  fields := #[]
  methods := #[]
  instanceTypes := #[]
  staticTypes := #[]
  resolved := #[]
  callSites := []
  init := .initialized
  statics := none
  mirror := none

def pool0 : Array CpInfo := pool [(5, u "<init>"), (0, u "()V"), (1, .class_ 10), (1, u "java/lang/Object")] 113

def k0m0 : Method := { name := "<init>", desc := "()V", sig := { parameters := [], returnType := none }, accessFlags := 1, code := none }
/-- java/lang/Object -/
def k0 : Class := { plain "java/lang/Object" none with
  accessFlags := 33
  interfaces := #[]
  cf := some (fileOf pool0 8 #[] #[{ accessFlags := 1, nameIndex := 5, descriptorIndex := 6, attributes := #[] }] 33 0 #[] #[])
  fields := #[]
  methods := #[k0m0]
  instanceTypes := #[]
  staticTypes := #[]
  resolved := Array.replicate 124 none
  statics := none }

def pool1 : Array CpInfo := pool [(2, .class_ 4), (1, u "java/lang/Object"), (0, u "<init>"), (0, u "()V"), (0, .methodref 8 9), (0, .class_ 10), (0, .nameAndType 11 12), (0, u "xlogtap/JsonBuilderFirstNotPlainPinLaw"), (0, u "plain"), (0, u "(B)Z"), (0, .integer 2147483647), (0, .methodref 8 15), (0, .nameAndType 16 17), (0, u "stops"), (0, u "(IIIB)Z"), (0, .methodref 19 20), (0, .class_ 21), (0, .nameAndType 22 23), (0, u "xlogtap/JsonBuilder"), (0, u "firstNotPlain"), (0, u "([BII)I"), (3, u "law"), (0, u "(III)Z")] 4

def k1m0 : Method := { name := "<init>", desc := "()V", sig := { parameters := [], returnType := none }, accessFlags := 1, code := none }
def k1c1 : Code := { maxStack := 2, maxLocals := 2, code := method_2_code, exceptionTable := #[], attributes := #[] }
def k1m1 : Method := { name := "plain", desc := "(B)Z", sig := { parameters := [.byte], returnType := some .boolean }, accessFlags := 10, code := some k1c1 }
def k1c2 : Code := { maxStack := 2, maxLocals := 4, code := method_3_code, exceptionTable := #[], attributes := #[] }
def k1m2 : Method := { name := "stops", desc := "(IIIB)Z", sig := { parameters := [.int, .int, .int, .byte], returnType := some .boolean }, accessFlags := 10, code := some k1c2 }
def k1c3 : Code := { maxStack := 4, maxLocals := 11, code := code, exceptionTable := #[], attributes := #[] }
def k1m3 : Method := { name := "law", desc := "(III)Z", sig := { parameters := [.int, .int, .int], returnType := some .boolean }, accessFlags := 9, code := some k1c3 }
/-- xlogtap/JsonBuilderFirstNotPlainPinLaw -/
def k1 : Class := { plain "xlogtap/JsonBuilderFirstNotPlainPinLaw" (some 0) with
  accessFlags := 49
  interfaces := #[]
  cf := some (fileOf pool1 8 #[] #[{ accessFlags := 1, nameIndex := 5, descriptorIndex := 6, attributes := #[] }, { accessFlags := 10, nameIndex := 11, descriptorIndex := 12, attributes := #[] }, { accessFlags := 10, nameIndex := 16, descriptorIndex := 17, attributes := #[] }, { accessFlags := 9, nameIndex := 27, descriptorIndex := 28, attributes := #[] }] 49 2 #[] #[])
  fields := #[]
  methods := #[k1m0, k1m1, k1m2, k1m3]
  instanceTypes := #[]
  staticTypes := #[]
  resolved := Array.replicate 33 none
  statics := none }

def pool2 : Array CpInfo := pool [(2, .class_ 4), (1, u "java/lang/Object"), (0, u "<init>"), (0, u "()V"), (4, .class_ 13), (1, u "xlogtap/JsonBuilder"), (0, u "held"), (0, u "Ljava/util/List;"), (6, u "own"), (0, u "Lxlogtap/JsonBuilder$Pieces;"), (2, u "text"), (0, u "[B"), (5, u "length"), (0, u "I"), (7, u "heldLength"), (0, u "J"), (10, u "afterValue"), (0, u "Z"), (8, .class_ 66), (1, u "xlogtap/JsonBuilder$Name"), (37, .class_ 105), (0, u "xlogtap/JsonBuilder$Held"), (17, u "NULL"), (6, u "FALSE"), (2, u "TRUE"), (58, .class_ 194), (1, u "xlogtap/JsonBuilder$Pieces"), (19, u "longestSinceReview"), (6, u "recordsSinceReview"), (4, u "([BII)I"), (2, u "ESCAPES"), (0, u "[[B"), (29, u "ESCAPED"), (0, u "[Z"), (0, .fieldref 11 263), (0, .nameAndType 264 261), (0, u "PLAIN"), (25, u "LONG_DIGITS"), (2, u "START_BYTES"), (1, u "KEPT_BYTES"), (0, u "REVIEWED_RECORDS"), (1, u "HELD_BYTES"), (1, u "BASE64_BYTES"), (1, u "STRING_BODY"), (0, u "Ljava/lang/String;"), (30, u "firstNotPlain")] 34

def k2m0 : Method := { name := "<init>", desc := "()V", sig := { parameters := [], returnType := none }, accessFlags := 0, code := none }
def k2c1 : Code := { maxStack := 3, maxLocals := 4, code := prog_41_method_33_code, exceptionTable := #[], attributes := #[] }
def k2m1 : Method := { name := "firstNotPlain", desc := "([BII)I", sig := { parameters := [(.array .byte), .int, .int], returnType := some .int }, accessFlags := 8, code := some k2c1 }
/-- xlogtap/JsonBuilder -/
def k2 : Class := { plain "xlogtap/JsonBuilder" (some 0) with
  accessFlags := 48
  interfaces := #[]
  cf := some (fileOf pool2 11 #[.nestMembers #[64, 104, 192]] #[{ accessFlags := 0, nameIndex := 5, descriptorIndex := 6, attributes := #[] }, { accessFlags := 8, nameIndex := 334, descriptorIndex := 226, attributes := #[] }] 48 2 #[] #[{ accessFlags := 26, nameIndex := 229, descriptorIndex := 230, attributes := #[] }, { accessFlags := 26, nameIndex := 260, descriptorIndex := 261, attributes := #[] }, { accessFlags := 26, nameIndex := 264, descriptorIndex := 261, attributes := #[] }, { accessFlags := 26, nameIndex := 123, descriptorIndex := 27, attributes := #[] }, { accessFlags := 26, nameIndex := 133, descriptorIndex := 27, attributes := #[] }, { accessFlags := 26, nameIndex := 130, descriptorIndex := 27, attributes := #[] }, { accessFlags := 26, nameIndex := 290, descriptorIndex := 34, attributes := #[] }, { accessFlags := 26, nameIndex := 293, descriptorIndex := 34, attributes := #[] }, { accessFlags := 26, nameIndex := 295, descriptorIndex := 34, attributes := #[] }, { accessFlags := 26, nameIndex := 296, descriptorIndex := 34, attributes := #[] }, { accessFlags := 26, nameIndex := 298, descriptorIndex := 34, attributes := #[] }, { accessFlags := 26, nameIndex := 300, descriptorIndex := 34, attributes := #[] }, { accessFlags := 24, nameIndex := 302, descriptorIndex := 303, attributes := #[] }, { accessFlags := 2, nameIndex := 26, descriptorIndex := 27, attributes := #[] }, { accessFlags := 2, nameIndex := 33, descriptorIndex := 34, attributes := #[] }, { accessFlags := 2, nameIndex := 54, descriptorIndex := 55, attributes := #[] }, { accessFlags := 18, nameIndex := 14, descriptorIndex := 15, attributes := #[] }, { accessFlags := 2, nameIndex := 42, descriptorIndex := 43, attributes := #[] }, { accessFlags := 18, nameIndex := 22, descriptorIndex := 23, attributes := #[] }, { accessFlags := 2, nameIndex := 221, descriptorIndex := 34, attributes := #[] }, { accessFlags := 2, nameIndex := 214, descriptorIndex := 34, attributes := #[] }])
  fields := #[{ name := "ESCAPES", type := (.array (.array .byte)), accessFlags := 26, slot := 0, constantValue := 0 }, { name := "ESCAPED", type := (.array .boolean), accessFlags := 26, slot := 1, constantValue := 0 }, { name := "PLAIN", type := (.array .boolean), accessFlags := 26, slot := 2, constantValue := 0 }, { name := "NULL", type := (.array .byte), accessFlags := 26, slot := 3, constantValue := 0 }, { name := "TRUE", type := (.array .byte), accessFlags := 26, slot := 4, constantValue := 0 }, { name := "FALSE", type := (.array .byte), accessFlags := 26, slot := 5, constantValue := 0 }, { name := "LONG_DIGITS", type := .int, accessFlags := 26, slot := 6, constantValue := 0 }, { name := "START_BYTES", type := .int, accessFlags := 26, slot := 7, constantValue := 0 }, { name := "KEPT_BYTES", type := .int, accessFlags := 26, slot := 8, constantValue := 0 }, { name := "REVIEWED_RECORDS", type := .int, accessFlags := 26, slot := 9, constantValue := 0 }, { name := "HELD_BYTES", type := .int, accessFlags := 26, slot := 10, constantValue := 0 }, { name := "BASE64_BYTES", type := .int, accessFlags := 26, slot := 11, constantValue := 0 }, { name := "STRING_BODY", type := (.object "java/lang/String"), accessFlags := 24, slot := 12, constantValue := 0 }, { name := "text", type := (.array .byte), accessFlags := 2, slot := 0, constantValue := 0 }, { name := "length", type := .int, accessFlags := 2, slot := 1, constantValue := 0 }, { name := "afterValue", type := .boolean, accessFlags := 2, slot := 2, constantValue := 0 }, { name := "held", type := (.object "java/util/List"), accessFlags := 18, slot := 3, constantValue := 0 }, { name := "heldLength", type := .long, accessFlags := 2, slot := 4, constantValue := 0 }, { name := "own", type := (.object "xlogtap/JsonBuilder$Pieces"), accessFlags := 18, slot := 5, constantValue := 0 }, { name := "recordsSinceReview", type := .int, accessFlags := 2, slot := 6, constantValue := 0 }, { name := "longestSinceReview", type := .int, accessFlags := 2, slot := 7, constantValue := 0 }]
  methods := #[k2m0, k2m1]
  instanceTypes := #[(.array .byte), .int, .boolean, (.object "java/util/List"), .long, (.object "xlogtap/JsonBuilder$Pieces"), .int, .int]
  staticTypes := #[(.array (.array .byte)), (.array .boolean), (.array .boolean), (.array .byte), (.array .byte), (.array .byte), .int, .int, .int, .int, .int, .int, (.object "java/lang/String")]
  resolved := Array.replicate 369 none
  statics := some 0 }

def pool3 : Array CpInfo := pool [(1, u "java/lang/Cloneable"), (0, .class_ 1), (0, u "java/lang/Object"), (0, .class_ 3)] 3

/-- java/lang/Cloneable -/
def k3 : Class := { plain "java/lang/Cloneable" (some 0) with
  accessFlags := 1537
  interfaces := #[]
  cf := some (fileOf pool3 2 #[] #[] 1537 4 #[] #[])
  fields := #[]
  methods := #[]
  instanceTypes := #[]
  staticTypes := #[]
  resolved := Array.replicate 8 none
  statics := none }

def pool4 : Array CpInfo := pool [(1, u "java/io/Serializable"), (0, .class_ 1), (0, u "java/lang/Object"), (0, .class_ 3)] 3

/-- java/io/Serializable -/
def k4 : Class := { plain "java/io/Serializable" (some 0) with
  accessFlags := 1537
  interfaces := #[]
  cf := some (fileOf pool4 2 #[] #[] 1537 4 #[] #[])
  fields := #[]
  methods := #[]
  instanceTypes := #[]
  staticTypes := #[]
  resolved := Array.replicate 8 none
  statics := none }

/-- the primitive boolean -/
def k5 : Class := { plain "boolean" none with kind := .primitive 'Z', accessFlags := 0x411 }
/-- [Z -/
def k6 : Class := { plain "[Z" (some 0) with kind := .array 5 .boolean, interfaces := #[3, 4], accessFlags := 1041 }

/-- the primitive byte -/
def k7 : Class := { plain "byte" none with kind := .primitive 'B', accessFlags := 0x411 }
/-- [B -/
def k8 : Class := { plain "[B" (some 0) with kind := .array 7 .byte, interfaces := #[3, 4], accessFlags := 1041 }

/-- the primitive int -/
def k9 : Class := { plain "int" none with kind := .primitive 'I', accessFlags := 0x411 }
/-- [I -/
def k10 : Class := { plain "[I" (some 0) with kind := .array 9 .int, interfaces := #[3, 4], accessFlags := 1041 }

def heap : Heap := #[{ cls := 2, slots := #[.null, .null, .ref 1, .null, .null, .null, .int 0, .int 0, .int 0, .int 0, .int 0, .int 0, .null], vm := .statics 2 },
  { cls := 6, slots := #[.int 0, .int 0, .int 0, .int 0, .int 0, .int 0, .int 0, .int 0, .int 0, .int 0, .int 0, .int 0, .int 0, .int 0, .int 0, .int 0, .int 0, .int 0, .int 0, .int 0, .int 0, .int 0, .int 0, .int 0, .int 0, .int 0, .int 0, .int 0, .int 0, .int 0, .int 0, .int 0, .int 1, .int 1, .int 0, .int 1, .int 1, .int 1, .int 1, .int 1, .int 1, .int 1, .int 1, .int 1, .int 1, .int 1, .int 1, .int 1, .int 1, .int 1, .int 1, .int 1, .int 1, .int 1, .int 1, .int 1, .int 1, .int 1, .int 1, .int 1, .int 1, .int 1, .int 1, .int 1, .int 1, .int 1, .int 1, .int 1, .int 1, .int 1, .int 1, .int 1, .int 1, .int 1, .int 1, .int 1, .int 1, .int 1, .int 1, .int 1, .int 1, .int 1, .int 1, .int 1, .int 1, .int 1, .int 1, .int 1, .int 1, .int 1, .int 1, .int 1, .int 0, .int 1, .int 1, .int 1, .int 1, .int 1, .int 1, .int 1, .int 1, .int 1, .int 1, .int 1, .int 1, .int 1, .int 1, .int 1, .int 1, .int 1, .int 1, .int 1, .int 1, .int 1, .int 1, .int 1, .int 1, .int 1, .int 1, .int 1, .int 1, .int 1, .int 1, .int 1, .int 1, .int 1, .int 1, .int 0, .int 0, .int 0, .int 0, .int 0, .int 0, .int 0, .int 0, .int 0, .int 0, .int 0, .int 0, .int 0, .int 0, .int 0, .int 0, .int 0, .int 0, .int 0, .int 0, .int 0, .int 0, .int 0, .int 0, .int 0, .int 0, .int 0, .int 0, .int 0, .int 0, .int 0, .int 0, .int 0, .int 0, .int 0, .int 0, .int 0, .int 0, .int 0, .int 0, .int 0, .int 0, .int 0, .int 0, .int 0, .int 0, .int 0, .int 0, .int 0, .int 0, .int 0, .int 0, .int 0, .int 0, .int 0, .int 0, .int 0, .int 0, .int 0, .int 0, .int 0, .int 0, .int 0, .int 0, .int 0, .int 0, .int 0, .int 0, .int 0, .int 0, .int 0, .int 0, .int 0, .int 0, .int 0, .int 0, .int 0, .int 0, .int 0, .int 0, .int 0, .int 0, .int 0, .int 0, .int 0, .int 0, .int 0, .int 0, .int 0, .int 0, .int 0, .int 0, .int 0, .int 0, .int 0, .int 0, .int 0, .int 0, .int 0, .int 0, .int 0, .int 0, .int 0, .int 0, .int 0, .int 0, .int 0, .int 0, .int 0, .int 0, .int 0, .int 0, .int 0, .int 0, .int 0, .int 0, .int 0, .int 0, .int 0, .int 0, .int 0, .int 0, .int 0, .int 0, .int 0, .int 0, .int 0, .int 0, .int 0], vm := .none }]
def classes : Array Class := #[k0, k1, k2, k3, k4, k5, k6, k7, k8, k9, k10]
def interned : List (Array UInt16 × Addr) := []
def slotsUsed : Nat := 269
def theMethod : MethodId := ⟨1, 3⟩
def args0 : Array Value := #[.int 5, .int 7, .int 3]
def aboutOver (below : List Frame) : State where
  vm := { classes := classes, interned := interned.toArray }
  heap := heap
  slotsUsed := slotsUsed
  threads := #[{ frames := .invoking theMethod args0 :: below }]
def below0 : List Frame := [.native { method := ⟨0, 0⟩, args := #[] }]
def about1 : State := aboutOver below0
def p0 : Program := .bare "" "" ""
def e0 : Env := launch0.env 0 0 0
theorem w_frames : about1.frames = Frame.invoking theMethod args0 :: below0 := rfl
set_option maxRecDepth 65536 in
theorem w_args : argsFit about1.vm theMethod args0 = true := by decide +kernel
set_option maxRecDepth 65536 in
theorem w_heap : heapFits about1 = true := by decide +kernel
set_option maxRecDepth 65536 in
theorem w_runnable : about1.curStatus? = some .runnable := by decide +kernel
set_option maxRecDepth 65536 in
theorem w_alone : about1.alone = true := by decide +kernel
set_option maxRecDepth 65536 in
theorem w_named : about1.methodNamed? x = some theMethod := by decide +kernel
set_option maxRecDepth 65536 in
theorem w_hears : about1.hears theMethod below0 = true := by decide +kernel
set_option maxRecDepth 65536 in
theorem w_ripe : about1.ripe theMethod args0 below0 = true := by decide +kernel
theorem w_running : about1.status = .running := rfl
set_option maxRecDepth 65536 in
theorem w_room : about1.hasRoom e0.platform room_1 = true :=
  launch0.hasRoom_least _ room_1 (by decide +kernel) (by decide +kernel) (by decide +kernel) (by decide +kernel) (by decide +kernel) (by decide +kernel)
theorem allAtoms_all (ts : List Jvm.Cond) (a : Array Jvm.Value) (st : Jvm.State) : (allAtoms ts).before a st = ts.all (fun c => c.before a st) := by
  induction ts with
  | nil => rfl
  | cons c t ih =>
    show (Jvm.Cond.and c (allAtoms t)).before a st = _
    rw [Jvm.Cond.before_and, ih, List.all_cons]
def words1 : List Jvm.Cond := Jvm.Cond.code x code maxLocals ret :: tables_1
/-- a 'code' word, met by the world's own term for the bytes: nothing is compared byte by byte -/
theorem code_word {y : MethodName} {bytes : ByteArray} {mx : Nat} {rt : Option FieldType} {a : Array Value} {s : State} {m : MethodId} {meth : Method} {c : Code} (h1 : s.methodNamed? y = some m) (h2 : s.vm.method? m = some meth) (h3 : meth.code = some c) (h4 : c.code = bytes)
    (h5 : (c.maxLocals == mx && c.exceptionTable.isEmpty && decide (c.maxStack ≤ mostOperands) && decide (meth.sig.returnType = rt) && !meth.locks && decide (parseMethodDescriptor y.desc = some meth.sig)) = true) : (Jvm.Cond.code y bytes mx rt).before a s = true := by
  simp only [Bool.and_eq_true, beq_iff_eq, Bool.not_eq_true', decide_eq_true_eq] at h5
  obtain ⟨⟨⟨⟨⟨g1, g2⟩, g3⟩, g4⟩, g5⟩, g6⟩ := h5
  simp [Cond.before, Cond.holds, Cond.value, h1, h2, h3, h4, g1, g2, g3, g4, g5, g6]
def isCode : Jvm.Cond → Bool
  | .code _ _ _ _ => true
  | _ => false
theorem all_split {L : List Jvm.Cond} {P : Jvm.Cond → Bool} (h1 : L.all (fun c => isCode c || P c) = true) (h2 : ∀ c ∈ L.filter isCode, P c = true) : L.all P = true := by
  refine List.all_eq_true.mpr fun c hc => ?_
  have h := List.all_eq_true.mp h1 c hc
  rcases Bool.eq_false_or_eq_true (isCode c) with hi | hi
  · exact h2 c (List.mem_filter.mpr ⟨hc, hi⟩)
  · simpa [hi] using h
set_option maxRecDepth 65536 in
theorem w_c0 : (Jvm.Cond.code x code maxLocals ret).before args0 about1 = true := code_word (m := ⟨1, 3⟩) (meth := k1m3) (c := k1c3) (by decide +kernel) rfl rfl rfl (by decide +kernel)
set_option maxRecDepth 65536 in
theorem w_c1 : (Jvm.Cond.code ({ cls := "xlogtap/JsonBuilderFirstNotPlainPinLaw", name := "stops", desc := "(IIIB)Z" } : Jvm.MethodName) method_3_code (4 : Nat) (Option.some Jvm.ClassFile.FieldType.boolean)).before args0 about1 = true := code_word (m := ⟨1, 2⟩) (meth := k1m2) (c := k1c2) (by decide +kernel) rfl rfl rfl (by decide +kernel)
set_option maxRecDepth 65536 in
theorem w_c2 : (Jvm.Cond.code ({ cls := "xlogtap/JsonBuilder", name := "firstNotPlain", desc := "([BII)I" } : Jvm.MethodName) prog_41_method_33_code (4 : Nat) (Option.some Jvm.ClassFile.FieldType.int)).before args0 about1 = true := code_word (m := ⟨2, 1⟩) (meth := k2m1) (c := k2c1) (by decide +kernel) rfl rfl rfl (by decide +kernel)
set_option maxRecDepth 65536 in
theorem w_c3 : (Jvm.Cond.code ({ cls := "xlogtap/JsonBuilderFirstNotPlainPinLaw", name := "plain", desc := "(B)Z" } : Jvm.MethodName) method_2_code (2 : Nat) (Option.some Jvm.ClassFile.FieldType.boolean)).before args0 about1 = true := code_word (m := ⟨1, 1⟩) (meth := k1m1) (c := k1c1) (by decide +kernel) rfl rfl rfl (by decide +kernel)
def codes1 : List Jvm.Cond := [Jvm.Cond.code x code maxLocals ret, Jvm.Cond.code ({ cls := "xlogtap/JsonBuilderFirstNotPlainPinLaw", name := "stops", desc := "(IIIB)Z" } : Jvm.MethodName) method_3_code (4 : Nat) (Option.some Jvm.ClassFile.FieldType.boolean), Jvm.Cond.code ({ cls := "xlogtap/JsonBuilder", name := "firstNotPlain", desc := "([BII)I" } : Jvm.MethodName) prog_41_method_33_code (4 : Nat) (Option.some Jvm.ClassFile.FieldType.int), Jvm.Cond.code ({ cls := "xlogtap/JsonBuilderFirstNotPlainPinLaw", name := "plain", desc := "(B)Z" } : Jvm.MethodName) method_2_code (2 : Nat) (Option.some Jvm.ClassFile.FieldType.boolean)]
set_option maxRecDepth 65536 in
theorem codes_eq : words1.filter isCode = codes1 := rfl
theorem w_codes : ∀ c ∈ words1.filter isCode, c.before args0 about1 = true := by
  rw [codes_eq]
  intro c hc
  simp only [codes1, List.mem_cons, List.not_mem_nil, or_false] at hc
  rcases hc with rfl | rfl | rfl | rfl
  · exact w_c0
  · exact w_c1
  · exact w_c2
  · exact w_c3
set_option maxRecDepth 65536 in
theorem w_t1 : words1.all (fun c => isCode c || c.before args0 about1) = true := by decide +kernel
theorem w_tables : (allAtoms (Jvm.Cond.code x code maxLocals ret :: tables_1)).before args0 about1 = true := by
  rw [allAtoms_all]
  show words1.all (fun c => c.before args0 about1) = true
  refine all_split ?_ w_codes
  rw [w_t1]
set_option maxRecDepth 65536 in
theorem w_case : (Jvm.Cond.and given_1 narrow_1).before args0 about1 = true := by decide +kernel
theorem w_applies : (headSpec (Jvm.Cond.code x code maxLocals ret :: tables_1) room_1).applies x e0.platform about1 = true :=
  (Spec.applies_iff w_frames).mpr ⟨w_running, w_runnable, w_alone, w_named, w_hears, w_ripe, w_room, w_tables⟩
theorem atStart : AtStart classFile x code maxLocals ret World_1 tables_1 room_1 Calls_1 rest_1 Pre_1 launch0 p0 e0 about1 theMethod args0 below0 :=
  ⟨lists_1, trivial, launch0.admits_env _ _ _, launch0.least_env, fairChoices_fair.cas, fairChoices_fair.clock, w_frames, w_args, w_heap, w_applies, trivial, trivial, w_case⟩
end start1
theorem witness_1 : WitnessClaimed_1 := ⟨start1.p0, start1.e0, start1.about1, start1.theMethod, start1.args0, start1.below0, start1.atStart⟩
end Jvm.Pilot.@@N@@
