import JvmDerived
import JvmDerived.Pilot.@@N@@Statement
import JvmDerived.Pilot.@@N@@Code
set_option linter.unusedVariables false
set_option linter.unusedSimpArgs false
namespace Jvm.Pilot.@@N@@
open Jvm Jvm.ClassFile Sem Op Lib Jvm.Free Jvm.Stand Jvm.LawKit Jvm.RoadKit Bundle Jvm.Pilot.@@N@@.Jvm.D
section Own
variable {p : Program} {l : Launch} {e : Env} {R : Room} {s : State} {m : MethodId} {args : Array Value} {below : List Frame} {meth : Method} {c : Code} {T : State} {locs : List Loc} {cells slots : Nat} {Q : Outcome → State → Prop} {Z : State} {a0 : Array Value} {h : Heap}
/-- from T, with g on top, the run ends as Q says -/
def Ends (p : Program) (e : Env) (below : List Frame) (Q : Outcome → State → Prop) (T : State) (g : JFrame) : Prop :=
  ∃ s₂ o, Steps p.tables e below (T.setTop g) s₂ ∧ s₂.status = .running ∧ Ended s₂ below o ∧ Q o s₂
theorem Ends.go {T' : State} {g g' : JFrame} (st : ∀ t, Steps p.tables e below (T'.setTop g') t → Steps p.tables e below (T.setTop g) t) (k : Ends p e below Q T' g') : Ends p e below Q T g := by
  obtain ⟨s₂, o, h1, r⟩ := k
  exact ⟨s₂, o, st _ h1, r⟩
theorem Ends.thru {T' : State} {g g' : JFrame} (st : Steps p.tables e below (T.setTop g) (T'.setTop g')) (k : Ends p e below Q T' g') : Ends p e below Q T g := by
  obtain ⟨s₂, o, h1, r⟩ := k
  exact ⟨s₂, o, st.trans h1, r⟩
theorem Ends.cast {g g' : JFrame} (q : g = g') (k : Ends p e below Q T g') : Ends p e below Q T g := q ▸ k
/-- what a body that returns leaves -/
def Out (s : State) (ce sl : Nat) (Qv : Option Value → Heap → List Loc → Prop) (o : Outcome) (U : State) : Prop := ∃ v L, o = .returned v ∧ Qv v U.heap L ∧ FrameEnd s o U L ce sl
theorem ow_body {y : MethodName} {bytes : ByteArray} {ml : Nat} {ret : Option FieldType} {ws : List Jvm.Cond} {rm : Room} {as : Array Value} {ce sl : Nat} {Qv : Option Value → Heap → List Loc → Prop} (hp : plainFor y = true)
    (body : ∀ (p : Program) (e : Env) (s : State) (m : MethodId) (below : List Frame) (meth : Method) (c : Code) (T : State), Stand p l e rm s m as below meth c T [] 0 0 → p.tables.exec = Jvm.exec → Z.Warmed39 s.vm → c.code = bytes → c.maxLocals = ml → s.vm.findClass y.cls = some m.cls → meth.name = y.name → meth.sig.returnType = ret → meth.locks = false → T.heap = h → Ends p e below (Out s ce sl Qv) T (entryFrame m as ml)) :
    MetFree l y (head1 (Jvm.Cond.code y bytes ml ret :: ws) rm) (fun a U => a = as ∧ Z.Warmed39 U.vm ∧ U.heap = h) (fun _ _ _ _ _ => True) (fun _ U o U' => ∃ v L, o = .returned v ∧ Qv v U'.heap L ∧ FrameEnd U o U' L ce sl) := by
  refine MetFree.of_bodySF hp hisR ?_
  intro p e s m args below meth c s₁ Bd hml0 hP hK
  obtain ⟨rfl, hZ, hh⟩ := hP
  exact body p e s m below meth c s₁ (Stand.of_body Bd) Bd.exec hZ Bd.bytes hml0 (findClass_of_methodNamed Bd.named) (name_of_methodNamed Bd.named Bd.method).1 Bd.returns Bd.notSynchronized (by rw [← hh, Bd.state]; rfl)
theorem ow_iload (X : Stand p l e R s m args below meth c T locs cells slots) (hx : p.tables.exec = Jvm.exec) {pc pc' : Nat} {Ls : Array Slot} {St : List Value} {k : Nat} {v : Int32} (hd : decode c.code pc = .ok (.iload k, 2)) (hl : Ls[k]? = some (.val (.int v))) (hp : pc + 2 = pc') (kk : Ends p e below Q T (mkF m pc' Ls (.int v :: St))) : Ends p e below Q T (mkF m pc Ls St) := by subst hp; exact Ends.go (fun _ q => XS.iload X.here hx rfl hd hl q) kk
theorem ow_iloadN (X : Stand p l e R s m args below meth c T locs cells slots) (hx : p.tables.exec = Jvm.exec) {pc pc' : Nat} {Ls : Array Slot} {St : List Value} {k : Fin 4} {v : Int32} (hd : decode c.code pc = .ok (.iload_n k, 1)) (hl : Ls[k.val]? = some (.val (.int v))) (hp : pc + 1 = pc') (kk : Ends p e below Q T (mkF m pc' Ls (.int v :: St))) : Ends p e below Q T (mkF m pc Ls St) := by subst hp; exact Ends.go (fun _ q => XS.iloadN X.here hx rfl hd hl q) kk
theorem ow_aload (X : Stand p l e R s m args below meth c T locs cells slots) (hx : p.tables.exec = Jvm.exec) {pc pc' : Nat} {Ls : Array Slot} {St : List Value} {k : Nat} {v : Value} (hd : decode c.code pc = .ok (.aload k, 2)) (hl : Ls[k]? = some (.val v)) (hv : v.isRef = true) (hp : pc + 2 = pc') (kk : Ends p e below Q T (mkF m pc' Ls (v :: St))) : Ends p e below Q T (mkF m pc Ls St) := by subst hp; exact Ends.go (fun _ q => XS.aload X.here hx rfl hd hl hv q) kk
theorem ow_aloadN (X : Stand p l e R s m args below meth c T locs cells slots) (hx : p.tables.exec = Jvm.exec) {pc pc' : Nat} {Ls : Array Slot} {St : List Value} {k : Fin 4} {v : Value} (hd : decode c.code pc = .ok (.aload_n k, 1)) (hl : Ls[k.val]? = some (.val v)) (hv : v.isRef = true) (hp : pc + 1 = pc') (kk : Ends p e below Q T (mkF m pc' Ls (v :: St))) : Ends p e below Q T (mkF m pc Ls St) := by subst hp; exact Ends.go (fun _ q => XS.aloadN X.here hx rfl hd hl hv q) kk
theorem ow_istore (X : Stand p l e R s m args below meth c T locs cells slots) (hx : p.tables.exec = Jvm.exec) {pc pc' : Nat} {Ls : Array Slot} {Ls' : Array Slot} {St : List Value} {k : Nat} {v : Int32} (hd : decode c.code pc = .ok (.istore k, 2)) (hl : storeLocals Ls k (.int v) = some Ls') (hp : pc + 2 = pc') (kk : Ends p e below Q T (mkF m pc' Ls' St)) : Ends p e below Q T (mkF m pc Ls (.int v :: St)) := by subst hp; exact Ends.go (fun _ q => XS.istore X.here hx rfl hd rfl hl q) kk
theorem ow_istoreN (X : Stand p l e R s m args below meth c T locs cells slots) (hx : p.tables.exec = Jvm.exec) {pc pc' : Nat} {Ls : Array Slot} {Ls' : Array Slot} {St : List Value} {k : Fin 4} {v : Int32} (hd : decode c.code pc = .ok (.istore_n k, 1)) (hl : storeLocals Ls k.val (.int v) = some Ls') (hp : pc + 1 = pc') (kk : Ends p e below Q T (mkF m pc' Ls' St)) : Ends p e below Q T (mkF m pc Ls (.int v :: St)) := by subst hp; exact Ends.go (fun _ q => XS.istoreN X.here hx rfl hd rfl hl q) kk
theorem ow_astore (X : Stand p l e R s m args below meth c T locs cells slots) (hx : p.tables.exec = Jvm.exec) {pc pc' : Nat} {Ls : Array Slot} {Ls' : Array Slot} {St : List Value} {k : Nat} {v : Value} (hd : decode c.code pc = .ok (.astore k, 2)) (hv : v.isRef = true) (hl : storeLocals Ls k v = some Ls') (hp : pc + 2 = pc') (kk : Ends p e below Q T (mkF m pc' Ls' St)) : Ends p e below Q T (mkF m pc Ls (v :: St)) := by subst hp; exact Ends.go (fun _ q => XS.astore X.here hx rfl hd rfl hv hl q) kk
theorem ow_iconst (X : Stand p l e R s m args below meth c T locs cells slots) (hx : p.tables.exec = Jvm.exec) {pc pc' : Nat} {Ls : Array Slot} {St : List Value} {i : Int} {z : Int32} (hd : decode c.code pc = .ok (.iconst i, 1)) (hz : Int32.ofInt i = z) (hp : pc + 1 = pc') (kk : Ends p e below Q T (mkF m pc' Ls (.int z :: St))) : Ends p e below Q T (mkF m pc Ls St) := by subst hp hz; exact Ends.go (fun _ q => XS.iconst X.here hx rfl hd q) kk
theorem ow_bipush (X : Stand p l e R s m args below meth c T locs cells slots) (hx : p.tables.exec = Jvm.exec) {pc pc' : Nat} {Ls : Array Slot} {St : List Value} {i : Int} {z : Int32} (hd : decode c.code pc = .ok (.bipush i, 2)) (hz : (Int8.ofInt i).toInt32 = z) (hp : pc + 2 = pc') (kk : Ends p e below Q T (mkF m pc' Ls (.int z :: St))) : Ends p e below Q T (mkF m pc Ls St) := by subst hp hz; exact Ends.go (fun _ q => XS.bipush X.here hx rfl hd q) kk
theorem ow_ldcInt (X : Stand p l e R s m args below meth c T locs cells slots) (hx : p.tables.exec = Jvm.exec) (hZ : Z.Warmed39 s.vm) {own : String} {i : Nat} {z : Int32} (hown : s.vm.findClass own = some m.cls) (w : (Jvm.Cond.constant own i z).before a0 Z = true) {pc pc' : Nat} {Ls : Array Slot} {St : List Value} (hd : decode c.code pc = .ok (.ldc i, 2)) (hp : pc + 2 = pc') (kk : Ends p e below Q T (mkF m pc' Ls (.int z :: St))) : Ends p e below Q T (mkF m pc Ls St) := by subst hp; exact Ends.go (X.ldcInt hx hown (mvT hZ w) (g := mkF m pc Ls St) rfl hd) kk
theorem ow_iadd (X : Stand p l e R s m args below meth c T locs cells slots) (hx : p.tables.exec = Jvm.exec) {pc pc' : Nat} {Ls : Array Slot} {St : List Value} {x : Int32} {y : Int32} (hd : decode c.code pc = .ok (.iadd, 1)) (hp : pc + 1 = pc') (kk : ∀ z : Int32, z = x + y → Ends p e below Q T (mkF m pc' Ls (.int z :: St))) : Ends p e below Q T (mkF m pc Ls (.int y :: .int x :: St)) := by subst hp; exact Ends.go (fun _ q => XS.iadd X.here hx rfl hd rfl q) (kk _ rfl)
theorem ow_isub (X : Stand p l e R s m args below meth c T locs cells slots) (hx : p.tables.exec = Jvm.exec) {pc pc' : Nat} {Ls : Array Slot} {St : List Value} {x : Int32} {y : Int32} (hd : decode c.code pc = .ok (.isub, 1)) (hp : pc + 1 = pc') (kk : ∀ z : Int32, z = x - y → Ends p e below Q T (mkF m pc' Ls (.int z :: St))) : Ends p e below Q T (mkF m pc Ls (.int y :: .int x :: St)) := by subst hp; exact Ends.go (fun _ q => XS.isub X.here hx rfl hd rfl q) (kk _ rfl)
theorem ow_imul (X : Stand p l e R s m args below meth c T locs cells slots) (hx : p.tables.exec = Jvm.exec) {pc pc' : Nat} {Ls : Array Slot} {St : List Value} {x : Int32} {y : Int32} (hd : decode c.code pc = .ok (.imul, 1)) (hp : pc + 1 = pc') (kk : ∀ z : Int32, z = x * y → Ends p e below Q T (mkF m pc' Ls (.int z :: St))) : Ends p e below Q T (mkF m pc Ls (.int y :: .int x :: St)) := by subst hp; exact Ends.go (fun _ q => XS.imul X.here hx rfl hd rfl q) (kk _ rfl)
theorem ow_iand (X : Stand p l e R s m args below meth c T locs cells slots) (hx : p.tables.exec = Jvm.exec) {pc pc' : Nat} {Ls : Array Slot} {St : List Value} {x : Int32} {y : Int32} (hd : decode c.code pc = .ok (.iand, 1)) (hp : pc + 1 = pc') (kk : ∀ z : Int32, z = x &&& y → Ends p e below Q T (mkF m pc' Ls (.int z :: St))) : Ends p e below Q T (mkF m pc Ls (.int y :: .int x :: St)) := by subst hp; exact Ends.go (fun _ q => XS.iand X.here hx rfl hd rfl q) (kk _ rfl)
theorem ow_idiv (X : Stand p l e R s m args below meth c T locs cells slots) (hx : p.tables.exec = Jvm.exec) {pc pc' : Nat} {Ls : Array Slot} {St : List Value} {x : Int32} {y : Int32} (hd : decode c.code pc = .ok (.idiv, 1)) (hy : y ≠ 0) (hp : pc + 1 = pc') (kk : ∀ z : Int32, z = x / y → Ends p e below Q T (mkF m pc' Ls (.int z :: St))) : Ends p e below Q T (mkF m pc Ls (.int y :: .int x :: St)) := by subst hp; exact Ends.go (fun _ q => XS.idiv X.here hx rfl hd rfl hy q) (kk _ rfl)
theorem ow_irem (X : Stand p l e R s m args below meth c T locs cells slots) (hx : p.tables.exec = Jvm.exec) {pc pc' : Nat} {Ls : Array Slot} {St : List Value} {x : Int32} {y : Int32} (hd : decode c.code pc = .ok (.irem, 1)) (hy : y ≠ 0) (hp : pc + 1 = pc') (kk : ∀ z : Int32, z = x % y → Ends p e below Q T (mkF m pc' Ls (.int z :: St))) : Ends p e below Q T (mkF m pc Ls (.int y :: .int x :: St)) := by subst hp; exact Ends.go (fun _ q => iremM (g := mkF m pc Ls (.int y :: .int x :: St)) X hx rfl hd rfl hy q) (kk _ rfl)
theorem ow_iushr (X : Stand p l e R s m args below meth c T locs cells slots) (hx : p.tables.exec = Jvm.exec) {pc pc' : Nat} {Ls : Array Slot} {St : List Value} {x : Int32} {y : Int32} (hd : decode c.code pc = .ok (.iushr, 1)) (hp : pc + 1 = pc') (kk : ∀ z : Int32, z = (x.toUInt32 >>> (y &&& 31).toUInt32).toInt32 → Ends p e below Q T (mkF m pc' Ls (.int z :: St))) : Ends p e below Q T (mkF m pc Ls (.int y :: .int x :: St)) := by subst hp; exact Ends.go (fun _ q => XS.iushr X.here hx rfl hd rfl q) (kk _ rfl)
theorem ow_dup (X : Stand p l e R s m args below meth c T locs cells slots) (hx : p.tables.exec = Jvm.exec) {pc pc' : Nat} {Ls : Array Slot} {St : List Value} {v : Value} (hd : decode c.code pc = .ok (.dup, 1)) (hc : v.category = 1) (hp : pc + 1 = pc') (kk : Ends p e below Q T (mkF m pc' Ls (v :: v :: St))) : Ends p e below Q T (mkF m pc Ls (v :: St)) := by subst hp; exact Ends.go (fun _ q => XS.dup X.here hx rfl hd rfl hc q) kk
theorem ow_goto (X : Stand p l e R s m args below meth c T locs cells slots) (hx : p.tables.exec = Jvm.exec) {pc pc' : Nat} {Ls : Array Slot} {St : List Value} {o : Int} (hd : decode c.code pc = .ok (.goto o, 3)) (ho : 0 ≤ (pc : Int) + o) (hp : ((pc : Int) + o).toNat = pc') (kk : Ends p e below Q T (mkF m pc' Ls St)) : Ends p e below Q T (mkF m pc Ls St) := Ends.go (fun _ q => XS.goto X.here hx rfl (pc0 := pc) (pc' := pc') rfl hd ho hp q) kk
theorem ow_icmpY (X : Stand p l e R s m args below meth c T locs cells slots) (hx : p.tables.exec = Jvm.exec) {pc pc' : Nat} {Ls : Array Slot} {St : List Value} {cd : ClassFile.Cond} {x y : Int32} {o : Int} (hd : decode c.code pc = .ok (.if_icmp cd o, 3)) (hc : if_icmp.holds cd x y = true) (ho : 0 ≤ (pc : Int) + o) (hp : ((pc : Int) + o).toNat = pc') (kk : Ends p e below Q T (mkF m pc' Ls St)) : Ends p e below Q T (mkF m pc Ls (.int y :: .int x :: St)) := Ends.go (fun _ q => XS.icmpYes X.here hx rfl (pc0 := pc) (pc' := pc') rfl hd rfl hc ho hp q) kk
theorem ow_icmpN (X : Stand p l e R s m args below meth c T locs cells slots) (hx : p.tables.exec = Jvm.exec) {pc pc' : Nat} {Ls : Array Slot} {St : List Value} {cd : ClassFile.Cond} {x y : Int32} {o : Int} (hd : decode c.code pc = .ok (.if_icmp cd o, 3)) (hc : if_icmp.holds cd x y = false) (hp : pc + 3 = pc') (kk : Ends p e below Q T (mkF m pc' Ls St)) : Ends p e below Q T (mkF m pc Ls (.int y :: .int x :: St)) := by subst hp; exact Ends.go (fun _ q => XS.icmpNo X.here hx rfl hd rfl hc q) kk
theorem ow_ifY (X : Stand p l e R s m args below meth c T locs cells slots) (hx : p.tables.exec = Jvm.exec) {pc pc' : Nat} {Ls : Array Slot} {St : List Value} {cd : ClassFile.Cond} {x : Int32} {o : Int} (hd : decode c.code pc = .ok (.ifCond cd o, 3)) (hc : if_icmp.holds cd x 0 = true) (ho : 0 ≤ (pc : Int) + o) (hp : ((pc : Int) + o).toNat = pc') (kk : Ends p e below Q T (mkF m pc' Ls St)) : Ends p e below Q T (mkF m pc Ls (.int x :: St)) := Ends.go (fun _ q => XS.ifYes X.here hx rfl (pc0 := pc) (pc' := pc') rfl hd rfl ((if0 _ _).trans hc) ho hp q) kk
theorem ow_ifN (X : Stand p l e R s m args below meth c T locs cells slots) (hx : p.tables.exec = Jvm.exec) {pc pc' : Nat} {Ls : Array Slot} {St : List Value} {cd : ClassFile.Cond} {x : Int32} {o : Int} (hd : decode c.code pc = .ok (.ifCond cd o, 3)) (hc : if_icmp.holds cd x 0 = false) (hp : pc + 3 = pc') (kk : Ends p e below Q T (mkF m pc' Ls St)) : Ends p e below Q T (mkF m pc Ls (.int x :: St)) := by subst hp; exact Ends.go (fun _ q => XS.ifNo X.here hx rfl hd rfl ((if0 _ _).trans hc) q) kk
/-- the six comparisons, said of the signed worth -/
def cmpI : ClassFile.Cond → Int → Int → Prop
  | .eq, a, b => a = b
  | .ne, a, b => ¬ a = b
  | .lt, a, b => a < b
  | .ge, a, b => ¬ a < b
  | .gt, a, b => b < a
  | .le, a, b => ¬ b < a
theorem cmpI_y {cd : ClassFile.Cond} {x y : Int32} (q : cmpI cd x.toInt y.toInt) : if_icmp.holds cd x y = true := by
  cases cd <;> simp only [cmpI] at q <;> simp [if_icmp.holds, ← Int32.toInt_inj, Int32.lt_iff_toInt_lt, Int32.le_iff_toInt_le] <;> omega
theorem cmpI_n {cd : ClassFile.Cond} {x y : Int32} (q : ¬ cmpI cd x.toInt y.toInt) : if_icmp.holds cd x y = false := by
  cases cd <;> simp only [cmpI] at q <;> simp [if_icmp.holds, ← Int32.toInt_inj, Int32.lt_iff_toInt_lt, Int32.le_iff_toInt_le] <;> omega
theorem ow_if_eq (X : Stand p l e R s m args below meth c T locs cells slots) (hx : p.tables.exec = Jvm.exec) {pc pt pf : Nat} {Ls : Array Slot} {St : List Value} {x : Int32} {o : Int} (xi : Int) (hd : decode c.code pc = .ok (.ifCond .eq o, 3)) (hxi : x.toInt = xi) (ho : 0 ≤ (pc : Int) + o) (hp : ((pc : Int) + o).toNat = pt) (hq : pc + 3 = pf) (kt : xi = 0 → Ends p e below Q T (mkF m pt Ls St)) (kf : ¬ xi = 0 → Ends p e below Q T (mkF m pf Ls St)) : Ends p e below Q T (mkF m pc Ls (.int x :: St)) := by
  subst hxi
  have z0 : (0 : Int32).toInt = 0 := rfl
  rcases Classical.em (cmpI .eq x.toInt (0 : Int32).toInt) with w | w
  · exact ow_ifY X hx hd (cmpI_y w) ho hp (kt (by simp only [cmpI, z0] at w; omega))
  · exact ow_ifN X hx hd (cmpI_n w) hq (kf (by simp only [cmpI, z0] at w; omega))
theorem ow_icmp_ne (X : Stand p l e R s m args below meth c T locs cells slots) (hx : p.tables.exec = Jvm.exec) {pc pt pf : Nat} {Ls : Array Slot} {St : List Value} {x y : Int32} {o : Int} (xi yi : Int) (hd : decode c.code pc = .ok (.if_icmp .ne o, 3)) (hxi : x.toInt = xi) (hyi : y.toInt = yi) (ho : 0 ≤ (pc : Int) + o) (hp : ((pc : Int) + o).toNat = pt) (hq : pc + 3 = pf) (kt : ¬ xi = yi → Ends p e below Q T (mkF m pt Ls St)) (kf : xi = yi → Ends p e below Q T (mkF m pf Ls St)) : Ends p e below Q T (mkF m pc Ls (.int y :: .int x :: St)) := by
  subst hxi hyi
  rcases Classical.em (cmpI .ne x.toInt y.toInt) with w | w
  · exact ow_icmpY X hx hd (cmpI_y w) ho hp (kt w)
  · exact ow_icmpN X hx hd (cmpI_n w) hq (kf (by simp only [cmpI] at w; omega))
theorem ow_if_ne (X : Stand p l e R s m args below meth c T locs cells slots) (hx : p.tables.exec = Jvm.exec) {pc pt pf : Nat} {Ls : Array Slot} {St : List Value} {x : Int32} {o : Int} (xi : Int) (hd : decode c.code pc = .ok (.ifCond .ne o, 3)) (hxi : x.toInt = xi) (ho : 0 ≤ (pc : Int) + o) (hp : ((pc : Int) + o).toNat = pt) (hq : pc + 3 = pf) (kt : ¬ xi = 0 → Ends p e below Q T (mkF m pt Ls St)) (kf : xi = 0 → Ends p e below Q T (mkF m pf Ls St)) : Ends p e below Q T (mkF m pc Ls (.int x :: St)) := by
  subst hxi
  have z0 : (0 : Int32).toInt = 0 := rfl
  rcases Classical.em (cmpI .ne x.toInt (0 : Int32).toInt) with w | w
  · exact ow_ifY X hx hd (cmpI_y w) ho hp (kt (by simp only [cmpI, z0] at w; omega))
  · exact ow_ifN X hx hd (cmpI_n w) hq (kf (by simp only [cmpI, z0] at w; omega))
theorem ow_icmp_ge (X : Stand p l e R s m args below meth c T locs cells slots) (hx : p.tables.exec = Jvm.exec) {pc pt pf : Nat} {Ls : Array Slot} {St : List Value} {x y : Int32} {o : Int} (xi yi : Int) (hd : decode c.code pc = .ok (.if_icmp .ge o, 3)) (hxi : x.toInt = xi) (hyi : y.toInt = yi) (ho : 0 ≤ (pc : Int) + o) (hp : ((pc : Int) + o).toNat = pt) (hq : pc + 3 = pf) (kt : ¬ xi < yi → Ends p e below Q T (mkF m pt Ls St)) (kf : xi < yi → Ends p e below Q T (mkF m pf Ls St)) : Ends p e below Q T (mkF m pc Ls (.int y :: .int x :: St)) := by
  subst hxi hyi
  rcases Classical.em (cmpI .ge x.toInt y.toInt) with w | w
  · exact ow_icmpY X hx hd (cmpI_y w) ho hp (kt w)
  · exact ow_icmpN X hx hd (cmpI_n w) hq (kf (by simp only [cmpI] at w; omega))
theorem ow_icmp_gt (X : Stand p l e R s m args below meth c T locs cells slots) (hx : p.tables.exec = Jvm.exec) {pc pt pf : Nat} {Ls : Array Slot} {St : List Value} {x y : Int32} {o : Int} (xi yi : Int) (hd : decode c.code pc = .ok (.if_icmp .gt o, 3)) (hxi : x.toInt = xi) (hyi : y.toInt = yi) (ho : 0 ≤ (pc : Int) + o) (hp : ((pc : Int) + o).toNat = pt) (hq : pc + 3 = pf) (kt : yi < xi → Ends p e below Q T (mkF m pt Ls St)) (kf : ¬ yi < xi → Ends p e below Q T (mkF m pf Ls St)) : Ends p e below Q T (mkF m pc Ls (.int y :: .int x :: St)) := by
  subst hxi hyi
  rcases Classical.em (cmpI .gt x.toInt y.toInt) with w | w
  · exact ow_icmpY X hx hd (cmpI_y w) ho hp (kt w)
  · exact ow_icmpN X hx hd (cmpI_n w) hq (kf (by simp only [cmpI] at w; omega))
theorem ow_icmp_le (X : Stand p l e R s m args below meth c T locs cells slots) (hx : p.tables.exec = Jvm.exec) {pc pt pf : Nat} {Ls : Array Slot} {St : List Value} {x y : Int32} {o : Int} (xi yi : Int) (hd : decode c.code pc = .ok (.if_icmp .le o, 3)) (hxi : x.toInt = xi) (hyi : y.toInt = yi) (ho : 0 ≤ (pc : Int) + o) (hp : ((pc : Int) + o).toNat = pt) (hq : pc + 3 = pf) (kt : ¬ yi < xi → Ends p e below Q T (mkF m pt Ls St)) (kf : yi < xi → Ends p e below Q T (mkF m pf Ls St)) : Ends p e below Q T (mkF m pc Ls (.int y :: .int x :: St)) := by
  subst hxi hyi
  rcases Classical.em (cmpI .le x.toInt y.toInt) with w | w
  · exact ow_icmpY X hx hd (cmpI_y w) ho hp (kt w)
  · exact ow_icmpN X hx hd (cmpI_n w) hq (kf (by simp only [cmpI] at w; omega))
theorem ow_retB (X : Stand p l e R s m args below meth c T locs cells slots) (hx : p.tables.exec = Jvm.exec) {pc : Nat} {Ls : Array Slot} {rest : List Value} {z z' : Int32} (hret : meth.sig.returnType = some .boolean) (hlk : meth.locks = false) (hd : decode c.code pc = .ok (.ireturn, 1)) {ce sl : Nat} (hc : cells ≤ ce) (hs : slots ≤ sl) {Qv : Option Value → Heap → List Loc → Prop} (hz : nar .boolean z = z') (q : Qv (some (.int z')) T.heap locs) : Ends p e below (Out s ce sl Qv) T (mkF m pc Ls (.int z :: rest)) := by
  subst hz
  obtain ⟨fs, hr, hrun, hended, hW, hsame⟩ := X.leave (v := some (.int (nar .boolean z))) (fun h => by rw [hret] at h; cases h) hlk
  exact ⟨_, _, retN X hx (t := .boolean) hret (by simp) hd hr, hrun, hended, _, _, rfl, q, ⟨_, rfl⟩, hW, hsame.mono hc hs⟩
theorem ow_retA (X : Stand p l e R s m args below meth c T locs cells slots) (hx : p.tables.exec = Jvm.exec) {pc : Nat} {Ls : Array Slot} {w : Value} {t : FieldType} (hret : meth.sig.returnType = some t) (hlk : meth.locks = false) (hw : w.isRef = true) (ht : t.isReference = true) (hd : decode c.code pc = .ok (.areturn, 1)) {ce sl : Nat} (hc : cells ≤ ce) (hs : slots ≤ sl) {Qv : Option Value → Heap → List Loc → Prop} (q : Qv (some w) T.heap locs) : Ends p e below (Out s ce sl Qv) T (mkF m pc Ls [w]) := by
  obtain ⟨fs, hr, hrun, hended, hW, hsame⟩ := X.leave (v := some w) (fun h => by rw [hret] at h; cases h) hlk
  exact ⟨_, _, X.areturnOut hx hw hret ht hd hr, hrun, hended, _, _, rfl, q, ⟨_, rfl⟩, hW, hsame.mono hc hs⟩
theorem ow_retV (X : Stand p l e R s m args below meth c T locs cells slots) (hx : p.tables.exec = Jvm.exec) {pc : Nat} {Ls : Array Slot} (hret : meth.sig.returnType = none) (hlk : meth.locks = false) (hd : decode c.code pc = .ok (.return_, 1)) {ce sl : Nat} (hc : cells ≤ ce) (hs : slots ≤ sl) {Qv : Option Value → Heap → List Loc → Prop} (q : Qv none T.heap locs) : Ends p e below (Out s ce sl Qv) T (mkF m pc Ls []) := by
  obtain ⟨fs, hr, hrun, hended, hW, hsame⟩ := X.leave (v := none) (fun _ => rfl) hlk
  exact ⟨_, _, X.returnOut hx hret hd hr, hrun, hended, _, _, rfl, q, ⟨_, rfl⟩, hW, hsame.mono hc hs⟩
theorem ow_callS (X : Stand p l e R s m args below meth c T locs cells slots) (hx : p.tables.exec = Jvm.exec) (hZ : Z.Warmed39 s.vm) {own : String} {index : Nat} {y : MethodName} {bytes : ByteArray} {maxL : Nat} {ret : Option FieldType} (hown : s.vm.findClass own = some m.cls)
    (wl : (Jvm.Cond.methodLink own index y).before a0 Z = true) (wst : (Jvm.Cond.static y).before a0 Z = true) (wi : (Jvm.Cond.initialized y.cls).before a0 Z = true) (wc : (Jvm.Cond.code y bytes maxL ret).before a0 Z = true) (hy : y.cls ≠ "java/lang/invoke/MethodHandle" ∧ y.cls ≠ "java/lang/invoke/VarHandle")
    {rm : Room} {as' : Array Value} {Qc : Option Value → Heap → List Loc → Prop} (hM : MetFree l y (head1 [Jvm.Cond.code y bytes maxL ret] rm) (fun a U => a = as' ∧ Z.Warmed39 U.vm ∧ U.heap = h) (fun _ _ _ _ _ => True) (fun _ U o U' => ∃ v L, o = .returned v ∧ Qc v U'.heap L ∧ FrameEnd U o U' L rm.cells rm.slots))
    (eT : T.heap = h) (W : Nat) (hf : rm.frames + 1 ≤ R.frames) (hl : W + (maxL + 11) + rm.locals ≤ R.locals) (hce : cells + rm.cells ≤ R.cells) (hsl : slots + rm.slots ≤ R.slots) {pc pc' : Nat} {Ls : Array Slot} {St rest : List Value} (argsL : List Value) {ps : List FieldType} {rt : Option FieldType} (hsize : Ls.size = c.maxLocals) (hdesc : parseMethodDescriptor y.desc = some ⟨ps, rt⟩) (hlen : argsL.length = ps.length) (hst : St = argsL.reverse ++ rest) (has : argsL.toArray = as') (hW : (rest.map fun v => v.category).sum ≤ W)
    (hd : decode c.code pc = .ok (.invokestatic index, 3)) (hp : pc + 3 = pc')
    (kk : ∀ (v : Option Value) (T' : State) (L' : List Loc), Qc v T'.heap L' → Stand p l e R s m args below meth c T' (locs ++ L') (cells + rm.cells) (slots + rm.slots) → Ends p e below Q T' (mkF m pc' Ls (v.toList ++ rest))) : Ends p e below Q T (mkF m pc Ls St) := by
  subst hst has hp
  obtain ⟨v, vm₁, ⟨T', L, k2, n2⟩, -, X', ⟨Lc, hQ, l1, y1, z1⟩, st⟩ := Jvm.LawKit.callS X hx hown (mvT hZ wl) (mvT hZ wst) (mvT hZ wi) (mvT hZ wc) hy (backOf (W := W) hM hZ wc wi hf hl) (g := mkF m pc Ls (argsL.reverse ++ rest)) rfl hsize (argsL := argsL) (rest := rest) (lenOf hdesc hlen) rfl (by show 2 * 0 + _ ≤ _; omega) hd (fun _ _ => ⟨rfl, eT, hce, hsl⟩)
  dsimp only [Pt.U, Pt.locs, Pt.cells, Pt.slots] at X' l1 y1 z1 st hQ
  subst l1 y1 z1
  exact Ends.go st (kk v T' Lc hQ X')
theorem ow_callI (X : Stand p l e R s m args below meth c T locs cells slots) (hx : p.tables.exec = Jvm.exec) (hZ : Z.Warmed39 s.vm) {own : String} {index : Nat} {y : MethodName} {bytes : ByteArray} {maxL : Nat} {ret : Option FieldType} (hret0 : ret = none) (hy1 : y.name = "<init>") (hown : s.vm.findClass own = some m.cls)
    (wl : (Jvm.Cond.methodLink own index y).before a0 Z = true) (wst : (Jvm.Cond.instanceMethod y).before a0 Z = true) (wi : (Jvm.Cond.initialized y.cls).before a0 Z = true) (wc : (Jvm.Cond.code y bytes maxL ret).before a0 Z = true) (hy : y.cls ≠ "java/lang/invoke/MethodHandle" ∧ y.cls ≠ "java/lang/invoke/VarHandle")
    {rm : Room} {as' : Array Value} {Qc : Option Value → Heap → List Loc → Prop} (hM : MetFree l y (head1 [Jvm.Cond.code y bytes maxL ret] rm) (fun a U => a = as' ∧ Z.Warmed39 U.vm ∧ U.heap = h) (fun _ _ _ _ _ => True) (fun _ U o U' => ∃ v L, o = .returned v ∧ Qc v U'.heap L ∧ FrameEnd U o U' L rm.cells rm.slots))
    (eT : T.heap = h) (W : Nat) (hf : rm.frames + 1 ≤ R.frames) (hl : W + (maxL + 11) + rm.locals ≤ R.locals) (hce : cells + rm.cells ≤ R.cells) (hsl : slots + rm.slots ≤ R.slots) {pc pc' : Nat} {Ls : Array Slot} {St rest : List Value} (argsL : List Value) {ps : List FieldType} {rt : Option FieldType} (hsize : Ls.size = c.maxLocals) (hdesc : parseMethodDescriptor y.desc = some ⟨ps, rt⟩) (hlen : argsL.length = ps.length) {a : Addr} (hst : St = argsL.reverse ++ .ref a :: rest) (has : (Value.ref a :: argsL).toArray = as') (hW : (rest.map fun v => v.category).sum ≤ W)
    (hd : decode c.code pc = .ok (.invokespecial index, 3)) (hp : pc + 3 = pc')
    (kk : ∀ (v : Option Value) (T' : State) (L' : List Loc), Qc v T'.heap L' → Stand p l e R s m args below meth c T' (locs ++ L') (cells + rm.cells) (slots + rm.slots) → Ends p e below Q T' (mkF m pc' Ls (v.toList ++ rest))) : Ends p e below Q T (mkF m pc Ls St) := by
  subst hst has hp hret0
  obtain ⟨v, vm₁, ⟨T', L, k2, n2⟩, -, X', ⟨Lc, hQ, l1, y1, z1⟩, st⟩ := X.specialBack hx hy1 hown (mvT hZ wl) (mvT hZ wst) (mvT hZ wc) hy (backOf (W := W) hM hZ wc wi hf hl) (g := mkF m pc Ls (argsL.reverse ++ .ref a :: rest)) rfl hsize (Steps.refl _) (a := a) (argsL := argsL) (rest := rest) (lenOf hdesc hlen) rfl (by show 2 * 0 + _ ≤ _; omega) hd (fun _ _ => ⟨rfl, eT, hce, hsl⟩)
  dsimp only [Pt.U, Pt.locs, Pt.cells, Pt.slots] at X' l1 y1 z1 st hQ
  subst l1 y1 z1
  exact Ends.thru st (kk v T' Lc hQ X')
theorem ow_callV (X : Stand p l e R s m args below meth c T locs cells slots) (hx : p.tables.exec = Jvm.exec) (hZ : Z.Warmed39 s.vm) {own C : String} {index : Nat} {y y' : MethodName} (hyy : y = y') {bytes : ByteArray} {maxL : Nat} {ret : Option FieldType} (hown : s.vm.findClass own = some m.cls)
    (wl : (Jvm.Cond.methodLink own index y).before a0 Z = true) (wd : (Jvm.Cond.declares y).before a0 Z = true) (wsel : (Jvm.Cond.selects C y y').before a0 Z = true) (wst : (Jvm.Cond.instanceMethod y').before a0 Z = true) (wi : (Jvm.Cond.initialized y'.cls).before a0 Z = true) (wc : (Jvm.Cond.code y' bytes maxL ret).before a0 Z = true) (hy : y.cls ≠ "java/lang/invoke/MethodHandle" ∧ y.cls ≠ "java/lang/invoke/VarHandle")
    {rm : Room} {as' : Array Value} {Qc : Option Value → Heap → List Loc → Prop} (hM : MetFree l y' (head1 [Jvm.Cond.code y' bytes maxL ret] rm) (fun a U => a = as' ∧ Z.Warmed39 U.vm ∧ U.heap = h) (fun _ _ _ _ _ => True) (fun _ U o U' => ∃ v L, o = .returned v ∧ Qc v U'.heap L ∧ FrameEnd U o U' L rm.cells rm.slots))
    (eT : T.heap = h) (W : Nat) (hf : rm.frames + 1 ≤ R.frames) (hl : W + (maxL + 11) + rm.locals ≤ R.locals) (hce : cells + rm.cells ≤ R.cells) (hsl : slots + rm.slots ≤ R.slots) {pc pc' : Nat} {Ls : Array Slot} {St rest : List Value} (argsL : List Value) {ps : List FieldType} {rt : Option FieldType} (hsize : Ls.size = c.maxLocals) (hdesc : parseMethodDescriptor y.desc = some ⟨ps, rt⟩) (hlen : argsL.length = ps.length) {a : Addr} (E : Exa Z h a C) (hst : St = argsL.reverse ++ .ref a :: rest) (has : (Value.ref a :: argsL).toArray = as') (hW : (rest.map fun v => v.category).sum ≤ W)
    (hd : decode c.code pc = .ok (.invokevirtual index, 3)) (hp : pc + 3 = pc')
    (kk : ∀ (v : Option Value) (T' : State) (L' : List Loc), Qc v T'.heap L' → Stand p l e R s m args below meth c T' (locs ++ L') (cells + rm.cells) (slots + rm.slots) → Ends p e below Q T' (mkF m pc' Ls (v.toList ++ rest))) : Ends p e below Q T (mkF m pc Ls St) := by
  subst hst has hp hyy
  obtain ⟨cq, kq, qa, qb, qc⟩ := isOf hZ eT E
  obtain ⟨v, vm₁, ⟨T', L, k2, n2⟩, -, X', ⟨Lc, hQ, l1, y1, z1⟩, st⟩ := X.virtualBack hx hown (mvT hZ wl) (mvT hZ wd) (notFace_of_selects (args := #[]) (mvT hZ wsel)) (mvT hZ wsel) (mvT hZ wst) hy (backOf (W := W) hM hZ wc wi hf hl) qa qc (g := mkF m pc Ls (argsL.reverse ++ .ref a :: rest)) rfl hsize (Steps.refl _) (argsL := argsL) (rest := rest) (lenOf hdesc hlen) rfl (by show 2 * 0 + _ ≤ _; omega) hd (fun _ _ => ⟨rfl, eT, hce, hsl⟩)
  dsimp only [Pt.U, Pt.locs, Pt.cells, Pt.slots] at X' l1 y1 z1 st hQ
  subst l1 y1 z1
  exact Ends.thru st (kk v T' Lc hQ X')
/-- Object's constructor -/
theorem ow_init0 (X : Stand p l e R s m args below meth c T locs cells slots) (hx : p.tables.exec = Jvm.exec) (hZ : Z.Warmed39 s.vm) {own : String} {index : Nat} (hown : s.vm.findClass own = some m.cls) (wl : (Jvm.Cond.methodLink own index Lib.objectInit).before a0 Z = true) (wst : (Jvm.Cond.instanceMethod Lib.objectInit).before a0 Z = true) (wc : (Jvm.Cond.code Lib.objectInit ⟨#[0xb1]⟩ 1 none).before a0 Z = true)
    (eT : T.heap = h) (W : Nat) (hf : 1 ≤ R.frames) (hl : W + 12 ≤ R.locals) {pc pc' : Nat} {Ls : Array Slot} {a : Addr} {St : List Value} (hsize : Ls.size = c.maxLocals) (hW : (St.map fun v => v.category).sum ≤ W) (hd : decode c.code pc = .ok (.invokespecial index, 3)) (hp : pc + 3 = pc')
    (kk : ∀ T' : State, Stand p l e R s m args below meth c T' locs cells slots → T'.heap = h → Ends p e below Q T' (mkF m pc' Ls St)) : Ends p e below Q T (mkF m pc Ls (.ref a :: St)) := by
  subst hp
  obtain ⟨T', X', e', st⟩ := initO X hx hZ hown wl wst wc eT (g := mkF m pc Ls (.ref a :: St)) rfl hsize rfl hd hf (W := W) (by show 2 * 0 + _ ≤ _; omega) hl
  exact Ends.go st (kk T' X' e')
theorem ow_getF (X : Stand p l e R s m args below meth c T locs cells slots) (hx : p.tables.exec = Jvm.exec) (hZ : Z.Warmed39 s.vm) {own R0 O n d host : String} {index : Nat} (hown : s.vm.findClass own = some m.cls) (w : (Jvm.Cond.fieldLink own index R0 n d).before a0 Z = true ∨ (Jvm.Cond.fieldLinkNest own index R0 n d host).before a0 Z = true) (via : Via Z R0 O n d) (eT : T.heap = h) {a : Addr} {v : Value} (F : Fld Z h a O n d v) {pc pc' : Nat} {Ls : Array Slot} {St : List Value} (hd : decode c.code pc = .ok (.getfield index, 3)) (hp : pc + 3 = pc')
    (kk : ∀ T' : State, Stand p l e R s m args below meth c T' locs cells slots → T'.heap = h → Ends p e below Q T' (mkF m pc' Ls (v :: St))) : Ends p e below Q T (mkF m pc Ls (.ref a :: St)) := by
  subst hp
  obtain ⟨T', X', e', st⟩ := getF X hx hZ hown w via eT F (g := mkF m pc Ls (.ref a :: St)) rfl rfl hd
  exact Ends.go st (kk T' X' e')
theorem ow_putF (X : Stand p l e R s m args below meth c T locs cells slots) (hx : p.tables.exec = Jvm.exec) (hZ : Z.Warmed39 s.vm) {own R0 O n d host C : String} {index kn : Nat} {ty : FieldType} (hown : s.vm.findClass own = some m.cls) (w : (Jvm.Cond.fieldLink own index R0 n d).before a0 Z = true ∨ (Jvm.Cond.fieldLinkNest own index R0 n d host).before a0 Z = true) (via : Via Z R0 O n d) (eT : T.heap = h) {a : Addr} {v old : Value} (F : Fld Z h a O n d old) (E : Exa Z h a C)
    (L : (Jvm.Cond.lays C O n d).before a0 Z = true ∨ ((Jvm.Cond.laysFinal C O n d).before a0 Z = true ∧ own = O ∧ meth.name = "<init>")) (wi : (Jvm.Cond.instantiable C kn).before a0 Z = true) (hty : parseFieldDescriptor d = some ty) (hn : narrow ty v = v) (hft : fits ty v = true) {pc pc' : Nat} {Ls : Array Slot} {St : List Value} (hd : decode c.code pc = .ok (.putfield index, 3)) (hp : pc + 3 = pc')
    (kk : ∀ (T' : State) (h' : Heap), Stand p l e R s m args below meth c T' (locs ++ [⟨a, Jvm.RoadKit.slotOf Z O n d⟩]) cells slots → T'.heap = h' → Wr h h' a (Jvm.RoadKit.slotOf Z O n d) v → Ends p e below Q T' (mkF m pc' Ls St)) : Ends p e below Q T (mkF m pc Ls (v :: .ref a :: St)) := by
  subst hp
  obtain ⟨T', h', X', e', W', st⟩ := putF X hx hZ hown w via eT F E L wi hty hn hft (g := mkF m pc Ls (v :: .ref a :: St)) rfl rfl hd
  exact Ends.go st (kk T' h' X' e' W')
theorem ow_new (X : Stand p l e R s m args below meth c T locs cells slots) (hx : p.tables.exec = Jvm.exec) (hZ : Z.Warmed39 s.vm) {own C : String} {index n : Nat} (hown : s.vm.findClass own = some m.cls) (w : (Jvm.Cond.classLink own index C).before a0 Z = true) (wi : (Jvm.Cond.instantiable C n).before a0 Z = true) (wz : (Jvm.Cond.initialized C).before a0 Z = true) (eT : T.heap = h) {pc pc' : Nat} {Ls : Array Slot} {St : List Value} (hd : decode c.code pc = .ok (.new index, 3)) (hc : cells + 1 ≤ R.cells) (hl : slots + n ≤ R.slots) (hp : pc + 3 = pc')
    (kk : ∀ (T' : State) (h' : Heap) (b : Addr), b = h.size → Stand p l e R s m args below meth c T' locs (cells + 1) (slots + n) → T'.heap = h' → Ext h h' → Exa Z h' b C → (∀ {O nm d : String} {ty : FieldType}, Laid Z a0 C O nm d → parseFieldDescriptor d = some ty → Fld Z h' b O nm d (defaultValue ty)) → Ends p e below Q T' (mkF m pc' Ls (.ref b :: St))) : Ends p e below Q T (mkF m pc Ls St) := by
  subst hp
  obtain ⟨T', h', X', e', E', A', D', -, st⟩ := newO X hx hZ hown w wi wz eT (g := mkF m pc Ls St) rfl hd hc hl
  exact Ends.go st (kk T' h' _ rfl X' e' E' A' D')
theorem ow_newP (X : Stand p l e R s m args below meth c T locs cells slots) (hx : p.tables.exec = Jvm.exec) (hZ : Z.Warmed39 s.vm) {aty : ArrayType} (w : (Jvm.Cond.arrayClass (newarray.typeOf aty)).before a0 Z = true) (eT : T.heap = h) {pc pc' : Nat} {Ls : Array Slot} {St : List Value} {n : Int32} (hd : decode c.code pc = .ok (.newarray aty, 2)) (hn : ¬ n < 0) (cap : Nat) (hcap : n.toNatClampNeg ≤ cap) (hb : cap * 8 ≤ 536870912) (hc : cells + 1 ≤ R.cells) (hl : slots + cap ≤ R.slots) (hp : pc + 2 = pc')
    (kk : ∀ (T' : State) (h' : Heap) (b : Addr) (k : ClassId), b = h.size → Stand p l e R s m args below meth c T' locs (cells + 1) (slots + cap) → T'.heap = h' → Ext h h' → Arv Z h' b k (newarray.typeOf aty) n [] (defaultValue (newarray.typeOf aty)) → Ends p e below Q T' (mkF m pc' Ls (.ref b :: St))) : Ends p e below Q T (mkF m pc Ls (.int n :: St)) := by
  subst hp
  obtain ⟨T', h', k, X', e', E', A', st⟩ := newP X hx hZ w eT (g := mkF m pc Ls (.int n :: St)) rfl hd rfl hn (cap := cap) hcap hb hc hl
  exact Ends.go st (kk T' h' _ k rfl X' e' E' (Arv.new A' hn))
theorem ow_stI (X : Stand p l e R s m args below meth c T locs cells slots) (hx : p.tables.exec = Jvm.exec) (hZ : Z.Warmed39 s.vm) (eT : T.heap = h) {a : Addr} {k : ClassId} {z : Int32} {vs : List Value} {dv : Value} (V : Arv Z h a k .int z vs dv) {pc pc' : Nat} {Ls : Array Slot} {St : List Value} {j x : Int32} (i : Nat) (hj : j.toNatClampNeg = i) (hj0 : ¬ j < 0) (hjz : j < z) (hi : i < vs.length) (hd : decode c.code pc = .ok (.iastore, 1)) (hp : pc + 1 = pc')
    (kk : ∀ (T' : State) (h' : Heap), Stand p l e R s m args below meth c T' (locs ++ [⟨a, j.toNatClampNeg⟩]) cells slots → T'.heap = h' → Wr h h' a j.toNatClampNeg (.int x) → Arv Z h' a k .int z (vs.set i (.int x)) dv → Ends p e below Q T' (mkF m pc' Ls St)) : Ends p e below Q T (mkF m pc Ls (.int x :: .int j :: .ref a :: St)) := by
  subst hp
  obtain ⟨cl, A, q1, S, N, H, G⟩ := V
  obtain ⟨T', h', X', e', W', st⟩ := stI X hx hZ eT A (inb_of S ⟨hj0, hjz⟩) (g := mkF m pc Ls (.int x :: .int j :: .ref a :: St)) rfl rfl hd
  exact Ends.go st (kk T' h' X' e' W' (Arv.set A q1 S N H G rfl W' i hj hi))
theorem ow_ldI (X : Stand p l e R s m args below meth c T locs cells slots) (hx : p.tables.exec = Jvm.exec) (hZ : Z.Warmed39 s.vm) (eT : T.heap = h) {a : Addr} {k : ClassId} {z : Int32} {vs : List Value} {dv : Value} (V : Arv Z h a k .int z vs dv) {pc pc' : Nat} {Ls : Array Slot} {St : List Value} {j : Int32} {v : Value} (hj0 : ¬ j < 0) (hjz : j < z) (hv : vs.getD j.toNatClampNeg dv = v) (hd : decode c.code pc = .ok (.iaload, 1)) (hp : pc + 1 = pc')
    (kk : Ends p e below Q T (mkF m pc' Ls (v :: St))) : Ends p e below Q T (mkF m pc Ls (.int j :: .ref a :: St)) := by
  subst hp
  obtain ⟨cl, A, q1, S, N, H, G⟩ := V
  have hin := inb_of S ⟨hj0, hjz⟩
  exact Ends.go (X.iaload hx (by rw [eT]; exact A.1) (State.isArrayOf_alike hZ.alike A.2.1) A.2.2 hin (H.at hin hv) (g := mkF m pc Ls (.int j :: .ref a :: St)) rfl rfl hd) kk
theorem ow_len (X : Stand p l e R s m args below meth c T locs cells slots) (hx : p.tables.exec = Jvm.exec) (hZ : Z.Warmed39 s.vm) (eT : T.heap = h) {a : Addr} {k : ClassId} {ty : FieldType} {z : Int32} {vs : List Value} {dv : Value} (V : Arv Z h a k ty z vs dv) {pc pc' : Nat} {Ls : Array Slot} {St : List Value} (hd : decode c.code pc = .ok (.arraylength, 1)) (hp : pc + 1 = pc')
    (kk : Ends p e below Q T (mkF m pc' Ls (.int z :: St))) : Ends p e below Q T (mkF m pc Ls (.ref a :: St)) := by
  subst hp
  obtain ⟨cl, A, q1, S, N, H, G⟩ := V
  refine Ends.go (X.arraylength hx (by rw [eT]; exact A.1) (State.isArrayOf_alike hZ.alike A.2.1) (g := mkF m pc Ls (.ref a :: St)) rfl rfl hd) ?_
  rw [len_of S N]
  exact kk
/-- a body that returns a number and leaves the heap as it is -/
def QI (P : Int32 → Prop) (h0 : Heap) (v : Option Value) (h : Heap) (L : List Loc) : Prop := ∃ z, v = some (.int z) ∧ P z ∧ L = [] ∧ h = h0
theorem ow_callVPI (X : Stand p l e R s m args below meth c T locs cells slots) (hx : p.tables.exec = Jvm.exec) (hZ : Z.Warmed39 s.vm) {own C : String} {index : Nat} {y y' : MethodName} (hyy : y = y') {bytes : ByteArray} {maxL : Nat} {ret : Option FieldType} (hown : s.vm.findClass own = some m.cls)
    (wl : (Jvm.Cond.methodLink own index y).before a0 Z = true) (wd : (Jvm.Cond.declares y).before a0 Z = true) (wsel : (Jvm.Cond.selects C y y').before a0 Z = true) (wst : (Jvm.Cond.instanceMethod y').before a0 Z = true) (wi : (Jvm.Cond.initialized y'.cls).before a0 Z = true) (wc : (Jvm.Cond.code y' bytes maxL ret).before a0 Z = true) (hy : y.cls ≠ "java/lang/invoke/MethodHandle" ∧ y.cls ≠ "java/lang/invoke/VarHandle")
    {fr lo : Nat} {as' : Array Value} {P : Int32 → Prop} (hM : MetFree l y' (head1 [Jvm.Cond.code y' bytes maxL ret] ({ frames := fr, cells := 0, slots := 0, locals := lo } : Room)) (fun a U => a = as' ∧ Z.Warmed39 U.vm ∧ U.heap = h) (fun _ _ _ _ _ => True) (fun _ U o U' => ∃ v L, o = .returned v ∧ QI P h v U'.heap L ∧ FrameEnd U o U' L 0 0))
    (eT : T.heap = h) (W : Nat) (hf : fr + 1 ≤ R.frames) (hl : W + (maxL + 11) + lo ≤ R.locals) (hce : cells ≤ R.cells) (hsl : slots ≤ R.slots) {pc pc' : Nat} {Ls : Array Slot} {St rest : List Value} (argsL : List Value) {ps : List FieldType} {rt : Option FieldType} (hsize : Ls.size = c.maxLocals) (hdesc : parseMethodDescriptor y.desc = some ⟨ps, rt⟩) (hlen : argsL.length = ps.length) {a : Addr} (E : Exa Z h a C) (hst : St = argsL.reverse ++ .ref a :: rest) (has : (Value.ref a :: argsL).toArray = as') (hW : (rest.map fun v => v.category).sum ≤ W)
    (hd : decode c.code pc = .ok (.invokevirtual index, 3)) (hp : pc + 3 = pc')
    (kk : ∀ (z : Int32) (T' : State), P z → Stand p l e R s m args below meth c T' locs cells slots → T'.heap = h → Ends p e below Q T' (mkF m pc' Ls (.int z :: rest))) : Ends p e below Q T (mkF m pc Ls St) := by
  refine ow_callV X hx hZ hyy hown wl wd wsel wst wi wc hy hM eT W hf hl hce hsl argsL hsize hdesc hlen E hst has hW hd hp ?_
  rintro v T' L' ⟨z, rfl, hP, rfl, hh⟩ X'
  rw [List.append_nil] at X'
  exact kk z T' hP X' hh
end Own

theorem d_cpInit_0 : decode prog_9_method_1_code 0 = .ok (.aload_n 0, 1) := by decide +kernel
theorem d_cpInit_1 : decode prog_9_method_1_code 1 = .ok (.invokespecial 1, 3) := by decide +kernel
theorem d_cpInit_4 : decode prog_9_method_1_code 4 = .ok (.aload_n 0, 1) := by decide +kernel
theorem d_cpInit_5 : decode prog_9_method_1_code 5 = .ok (.aload_n 1, 1) := by decide +kernel
theorem d_cpInit_6 : decode prog_9_method_1_code 6 = .ok (.putfield 7, 3) := by decide +kernel
theorem d_cpInit_9 : decode prog_9_method_1_code 9 = .ok (.return_, 1) := by decide +kernel
theorem ef_cpInit (m : MethodId) (x0 : Addr) (x1 : Addr) : entryFrame m #[(.ref x0), (.ref x1)] 2 = mkF m 0 #[.val (.ref x0), .val (.ref x1)] [] := by first | (simp [entryFrame, mkF, argsToLocals, Value.category]; done) | rfl
def Q_cpInit (Z : State) (o : Addr) (oa : Addr) (h0 : Heap) (n0 : Nat) (v : Option Value) (h : Heap) (L : List Loc) : Prop := (v = none) ∧ (Fr n0 L) ∧ (Keep h0 h [o]) ∧ (Exa Z h o "com/example/tenon/tenon/regex/CodePoints") ∧ (Fld Z h o "com/example/tenon/tenon/regex/CodePoints" "bounds" "[I" (.ref oa))
theorem pn_0 : plainName "com/example/tenon/tenon/regex/CodePoints" = true := by first | (simp [plainName, overriddenIn]; done) | decide +kernel
set_option maxRecDepth 65536 in
set_option maxHeartbeats 40000000 in
theorem rm_cpInit (l : Launch) (Z : State) (a0 : Array Value) (hw : ∀ d ∈ tables_1, d.before a0 Z = true) (ws : List Jvm.Cond) (o : Addr) (oa : Addr) (h0 : Heap) (n0 : Nat) (Z0 : n0 ≤ h0.size) (E_o : Exa Z h0 o "com/example/tenon/tenon/regex/CodePoints") (F_b : Fld Z h0 o "com/example/tenon/tenon/regex/CodePoints" "bounds" "[I" .null) (g_o : n0 ≤ o) :
    MetFree l (⟨"com/example/tenon/tenon/regex/CodePoints", "<init>", "([I)V"⟩ : MethodName) (head1 (Jvm.Cond.code (⟨"com/example/tenon/tenon/regex/CodePoints", "<init>", "([I)V"⟩ : MethodName) prog_9_method_1_code 2 none :: ws) ({ frames := 1, cells := 0, slots := 0, locals := 12 } : Room)) (fun a_ U_ => a_ = #[(.ref o), (.ref oa)] ∧ Z.Warmed39 U_.vm ∧ U_.heap = h0) (fun _ _ _ _ _ => True) (fun _ U_ o_ U_' => ∃ v_ L_, o_ = .returned v_ ∧ (Q_cpInit Z o oa h0 n0) v_ U_'.heap L_ ∧ FrameEnd U_ o_ U_' L_ 0 0) := by
  refine ow_body (plainFor_of_name pn_0) ?_
  intro p e s m below meth c T0 X0 hx hZ hby hml hown hnm hret hlk e0
  have N0 := Fr.nil n0
  refine Ends.cast (ef_cpInit m o oa) ?_
  refine ow_aloadN X0 hx (hb hby d_cpInit_0) rfl rfl (pc' := 1) rfl ?_
  refine ow_init0 X0 hx hZ hown (hw _ (List.mem_of_getElem? (i := 12) rfl)) (hw _ (List.mem_of_getElem? (i := 13) rfl)) (hw _ (List.mem_of_getElem? (i := 14) rfl)) e0 0 (by decide) (by decide) (by rw [hml]; rfl) (Nat.le_of_eq rfl) (hb hby d_cpInit_1) (pc' := 4) rfl (fun T1 X1 e1 => ?_)
  refine ow_aloadN X1 hx (hb hby d_cpInit_4) rfl rfl (pc' := 5) rfl ?_
  refine ow_aloadN X1 hx (hb hby d_cpInit_5) rfl rfl (pc' := 6) rfl ?_
  refine ow_putF X1 hx hZ hown (host := "") (Or.inl (hw _ (List.mem_of_getElem? (i := 15) rfl))) Via.refl e1 F_b E_o (Or.inr ⟨(hw _ (List.mem_of_getElem? (i := 16) rfl)), rfl, hnm⟩) (hw _ (List.mem_of_getElem? (i := 7) rfl)) (ty := (.array .int)) (by decide) rfl rfl (hb hby d_cpInit_6) (pc' := 9) rfl (fun T2 h2 X2 e2 W2 => ?_)
  have F_o_bounds_2 := F_b.same W2
  have E_o_2 := E_o.wr W2
  have Zs2 : n0 ≤ h2.size := Nat.le_trans Z0 (Keep.of_wr W2).1
  have K2 := (Keep.refl h0 [o]).wr W2 (Or.inl (List.mem_of_getElem? (i := 0) rfl))
  have N2 := Fr.snoc X2 N0 g_o
  exact ow_retV X2 hx hret hlk (hb hby d_cpInit_9) (by decide) (by decide) (show Q_cpInit Z o oa h0 n0 _ T2.heap _ from by rw [e2]; exact ⟨rfl, N2, K2, E_o_2, F_o_bounds_2⟩)
theorem pd_0 : parseMethodDescriptor "([I)V" = some ⟨[(.array .int)], none⟩ := by decide +kernel
theorem d_range_0 : decode prog_9_method_3_code 0 = .ok (.new 8, 3) := by decide +kernel
theorem d_range_3 : decode prog_9_method_3_code 3 = .ok (.dup, 1) := by decide +kernel
theorem d_range_4 : decode prog_9_method_3_code 4 = .ok (.iconst 2, 1) := by decide +kernel
theorem d_range_5 : decode prog_9_method_3_code 5 = .ok (.newarray .int, 2) := by decide +kernel
theorem d_range_7 : decode prog_9_method_3_code 7 = .ok (.dup, 1) := by decide +kernel
theorem d_range_8 : decode prog_9_method_3_code 8 = .ok (.iconst 0, 1) := by decide +kernel
theorem d_range_9 : decode prog_9_method_3_code 9 = .ok (.iload_n 0, 1) := by decide +kernel
theorem d_range_10 : decode prog_9_method_3_code 10 = .ok (.iastore, 1) := by decide +kernel
theorem d_range_11 : decode prog_9_method_3_code 11 = .ok (.dup, 1) := by decide +kernel
theorem d_range_12 : decode prog_9_method_3_code 12 = .ok (.iconst 1, 1) := by decide +kernel
theorem d_range_13 : decode prog_9_method_3_code 13 = .ok (.iload_n 1, 1) := by decide +kernel
theorem d_range_14 : decode prog_9_method_3_code 14 = .ok (.iastore, 1) := by decide +kernel
theorem d_range_15 : decode prog_9_method_3_code 15 = .ok (.invokespecial 17, 3) := by decide +kernel
theorem d_range_18 : decode prog_9_method_3_code 18 = .ok (.areturn, 1) := by decide +kernel
theorem ef_range (m : MethodId) (x0 : Int32) (x1 : Int32) : entryFrame m #[(.int x0), (.int x1)] 2 = mkF m 0 #[.val (.int x0), .val (.int x1)] [] := by first | (simp [entryFrame, mkF, argsToLocals, Value.category]; done) | rfl
def Q_range (Z : State) (pf : Int32) (pl : Int32) (h0 : Heap) (n0 : Nat) (v : Option Value) (h : Heap) (L : List Loc) : Prop := ∃ (ob : Addr), ∃ (oar : Addr), ∃ (kk : ClassId), (v = some (.ref ob)) ∧ (Fr n0 L) ∧ (Keep h0 h []) ∧ (Exa Z h ob "com/example/tenon/tenon/regex/CodePoints") ∧ (Fld Z h ob "com/example/tenon/tenon/regex/CodePoints" "bounds" "[I" (.ref oar)) ∧ (Arv Z h oar kk (.int) (2 : Int32) [(.int pf), (.int pl)] (.int (0 : Int32))) ∧ (h0.size ≤ ob) ∧ (n0 ≤ ob)
set_option maxRecDepth 65536 in
set_option maxHeartbeats 40000000 in
theorem rm_range (l : Launch) (Z : State) (a0 : Array Value) (hw : ∀ d ∈ tables_1, d.before a0 Z = true) (ws : List Jvm.Cond) (pf : Int32) (pl : Int32) (h0 : Heap) (n0 : Nat) (Z0 : n0 ≤ h0.size) :
    MetFree l (⟨"com/example/tenon/tenon/regex/CodePoints", "range", "(II)Lcom/example/tenon/tenon/regex/CodePoints;"⟩ : MethodName) (head1 (Jvm.Cond.code (⟨"com/example/tenon/tenon/regex/CodePoints", "range", "(II)Lcom/example/tenon/tenon/regex/CodePoints;"⟩ : MethodName) prog_9_method_3_code 2 (some (.object "com/example/tenon/tenon/regex/CodePoints")) :: ws) ({ frames := 2, cells := 2, slots := 3, locals := 26 } : Room)) (fun a_ U_ => a_ = #[(.int pf), (.int pl)] ∧ Z.Warmed39 U_.vm ∧ U_.heap = h0) (fun _ _ _ _ _ => True) (fun _ U_ o_ U_' => ∃ v_ L_, o_ = .returned v_ ∧ (Q_range Z pf pl h0 n0) v_ U_'.heap L_ ∧ FrameEnd U_ o_ U_' L_ 2 3) := by
  refine ow_body (plainFor_of_name pn_0) ?_
  intro p e s m below meth c T0 X0 hx hZ hby hml hown hnm hret hlk e0
  have N0 := Fr.nil n0
  refine Ends.cast (ef_range m pf pl) ?_
  have r_pf := rng32 pf
  have r_pl := rng32 pl
  refine ow_new X0 hx hZ hown (hw _ (List.mem_of_getElem? (i := 6) rfl)) (hw _ (List.mem_of_getElem? (i := 7) rfl)) (hw _ (List.mem_of_getElem? (i := 4) rfl)) e0 (hb hby d_range_0) (by decide) (by decide) (pc' := 3) rfl (fun T1 h1 b1 g1 X1 e1 E1 A1 D1 => ?_)
  have g_b1 : n0 ≤ b1 := Nat.le_trans Z0 (Nat.le_of_eq g1.symm)
  have sz_b1 : h0.size ≤ b1 := Nat.le_trans (Keep.refl h0 []).1 (Nat.le_of_eq g1.symm)
  have Zs1 : n0 ≤ h1.size := Nat.le_trans Z0 E1.1
  have K1 := (Keep.refl h0 []).ext E1
  have F_b1_bounds : Fld Z h1 b1 "com/example/tenon/tenon/regex/CodePoints" "bounds" "[I" .null := D1 (Or.inr (hw _ (List.mem_of_getElem? (i := 16) rfl))) (ty := (.array .int)) (by decide)
  refine ow_dup X1 hx (hb hby d_range_3) rfl (pc' := 4) rfl ?_
  refine ow_iconst X1 hx (z := (2 : Int32)) (hb hby d_range_4) rfl (pc' := 5) rfl ?_
  refine ow_newP X1 hx hZ (hw _ (List.mem_of_getElem? (i := 8) rfl)) e1 (hb hby d_range_5) (by decide) 2 (by decide) (by decide) (by decide) (by decide) (pc' := 7) rfl (fun T2 h2 b2 k2 g2 X2 e2 E2 V2 => ?_)
  have ne_b1_b2 : b1 ≠ b2 := Nat.ne_of_lt (Nat.lt_of_lt_of_le A1.lt (Nat.le_of_eq g2.symm))
  have g_b2 : n0 ≤ b2 := Nat.le_trans Zs1 (Nat.le_of_eq g2.symm)
  have sz_b2 : h0.size ≤ b2 := Nat.le_trans K1.1 (Nat.le_of_eq g2.symm)
  have E_b1_2 := A1.ext E2
  have F_b1_bounds_2 := F_b1_bounds.ext E2
  have Zs2 : n0 ≤ h2.size := Nat.le_trans Zs1 E2.1
  have K2 := K1.ext E2
  have V_b2 : Arv Z h2 b2 k2 .int (2 : Int32) [(.int (0 : Int32)), (.int (0 : Int32))] (.int (0 : Int32)) := V2.pad (pad_rep [] (.int (0 : Int32)) 2)
  refine ow_dup X2 hx (hb hby d_range_7) rfl (pc' := 8) rfl ?_
  refine ow_iconst X2 hx (z := (0 : Int32)) (hb hby d_range_8) rfl (pc' := 9) rfl ?_
  refine ow_iloadN X2 hx (hb hby d_range_9) rfl (pc' := 10) rfl ?_
  refine ow_stI X2 hx hZ e2 V_b2 0 rfl (by decide) (by decide) (Nat.le_of_ble_eq_true rfl) (hb hby d_range_10) (pc' := 11) rfl (fun T3 h3 X3 e3 W3 V3 => ?_)
  have V_b2_3 : Arv Z h3 b2 k2 .int (2 : Int32) [(.int pf), (.int (0 : Int32))] (.int (0 : Int32)) := V3
  have E_b1_3 := E_b1_2.wr W3
  have F_b1_bounds_3 := F_b1_bounds_2.other W3 (Or.inl ne_b1_b2)
  have Zs3 : n0 ≤ h3.size := Nat.le_trans Zs2 (Keep.of_wr W3).1
  have K3 := K2.wr W3 (Or.inr sz_b2)
  have N3 := Fr.snoc X3 N0 g_b2
  refine ow_dup X3 hx (hb hby d_range_11) rfl (pc' := 12) rfl ?_
  refine ow_iconst X3 hx (z := (1 : Int32)) (hb hby d_range_12) rfl (pc' := 13) rfl ?_
  refine ow_iloadN X3 hx (hb hby d_range_13) rfl (pc' := 14) rfl ?_
  refine ow_stI X3 hx hZ e3 V_b2_3 1 rfl (by decide) (by decide) (Nat.le_of_ble_eq_true rfl) (hb hby d_range_14) (pc' := 15) rfl (fun T4 h4 X4 e4 W4 V4 => ?_)
  have V_b2_4 : Arv Z h4 b2 k2 .int (2 : Int32) [(.int pf), (.int pl)] (.int (0 : Int32)) := V4
  have E_b1_4 := E_b1_3.wr W4
  have F_b1_bounds_4 := F_b1_bounds_3.other W4 (Or.inl ne_b1_b2)
  have Zs4 : n0 ≤ h4.size := Nat.le_trans Zs3 (Keep.of_wr W4).1
  have K4 := K3.wr W4 (Or.inr sz_b2)
  have N4 := Fr.snoc X4 N3 g_b2
  refine ow_callI X4 hx hZ rfl rfl hown (hw _ (List.mem_of_getElem? (i := 9) rfl)) (hw _ (List.mem_of_getElem? (i := 10) rfl)) (hw _ (List.mem_of_getElem? (i := 4) rfl)) (hw _ (List.mem_of_getElem? (i := 11) rfl)) (by decide) (rm_cpInit l Z a0 hw [] b1 b2 h4 n0 Zs4 E_b1_4 F_b1_bounds_4 g_b1) e4 1 (by decide) (by decide) (by decide) (by decide) [(.ref b2)] (by rw [hml]; rfl) pd_0 rfl rfl rfl (Nat.le_of_eq rfl) (hb hby d_range_15) (pc' := 18) rfl (fun v5 T5 L5 hQ5 X5 => ?_)
  obtain ⟨rfl, Nc5, Kc5, P5_0, P5_1⟩ := hQ5
  have V_b2_5 := V_b2_4.keep Kc5 (ninS (Ne.symm ne_b1_b2) nin0)
  have Zs5 : n0 ≤ T5.heap.size := Nat.le_trans Zs4 Kc5.1
  have K5 := K4.trans Kc5 (allS (Or.inr sz_b1) all0)
  have N5 := Fr.app N4 Nc5
  show Ends _ _ _ _ T5 (mkF m 18 #[.val (.int pf), .val (.int pl)] [(.ref b1)])
  exact ow_retA X5 hx hret hlk rfl rfl (hb hby d_range_18) (by decide) (by decide) (show Q_range Z pf pl h0 n0 _ T5.heap _ from ⟨b1, b2, k2, rfl, N5, K5, P5_0, P5_1, V_b2_5, sz_b1, g_b1⟩)
theorem d_isEmpty_0 : decode prog_9_method_8_code 0 = .ok (.aload_n 0, 1) := by decide +kernel
theorem d_isEmpty_1 : decode prog_9_method_8_code 1 = .ok (.getfield 7, 3) := by decide +kernel
theorem d_isEmpty_4 : decode prog_9_method_8_code 4 = .ok (.arraylength, 1) := by decide +kernel
theorem d_isEmpty_5 : decode prog_9_method_8_code 5 = .ok (.ifCond .ne 7, 3) := by decide +kernel
theorem d_isEmpty_12 : decode prog_9_method_8_code 12 = .ok (.iconst 0, 1) := by decide +kernel
theorem d_isEmpty_13 : decode prog_9_method_8_code 13 = .ok (.ireturn, 1) := by decide +kernel
theorem ef_isEmpty (m : MethodId) (x0 : Addr) : entryFrame m #[(.ref x0)] 1 = mkF m 0 #[.val (.ref x0)] [] := by first | (simp [entryFrame, mkF, argsToLocals, Value.category]; done) | rfl
set_option maxRecDepth 65536 in
set_option maxHeartbeats 40000000 in
theorem rm_isEmpty (l : Launch) (Z : State) (a0 : Array Value) (hw : ∀ d ∈ tables_1, d.before a0 Z = true) (ws : List Jvm.Cond) (o : Addr) (oar : Addr) (kk : ClassId) (pf : Int32) (pl : Int32) (h0 : Heap) (F_b : Fld Z h0 o "com/example/tenon/tenon/regex/CodePoints" "bounds" "[I" (.ref oar)) (V_a : Arv Z h0 oar kk (.int) (2 : Int32) [(.int pf), (.int pl)] (.int (0 : Int32))) :
    MetFree l (⟨"com/example/tenon/tenon/regex/CodePoints", "isEmpty", "()Z"⟩ : MethodName) (head1 (Jvm.Cond.code (⟨"com/example/tenon/tenon/regex/CodePoints", "isEmpty", "()Z"⟩ : MethodName) prog_9_method_8_code 1 (some .boolean) :: ws) ({ frames := 0, cells := 0, slots := 0, locals := 0 } : Room)) (fun a_ U_ => a_ = #[(.ref o)] ∧ Z.Warmed39 U_.vm ∧ U_.heap = h0) (fun _ _ _ _ _ => True) (fun _ U_ o_ U_' => ∃ v_ L_, o_ = .returned v_ ∧ (QI (fun z => z.toInt = 0) h0) v_ U_'.heap L_ ∧ FrameEnd U_ o_ U_' L_ 0 0) := by
  refine ow_body (plainFor_of_name pn_0) ?_
  intro p e s m below meth c T0 X0 hx hZ hby hml hown hnm hret hlk e0
  refine Ends.cast (ef_isEmpty m o) ?_
  refine ow_aloadN X0 hx (hb hby d_isEmpty_0) rfl rfl (pc' := 1) rfl ?_
  refine ow_getF X0 hx hZ hown (host := "") (Or.inl (hw _ (List.mem_of_getElem? (i := 15) rfl))) Via.refl e0 F_b (hb hby d_isEmpty_1) (pc' := 4) rfl (fun T1 X1 e1 => ?_)
  refine ow_len X1 hx hZ e1 V_a (hb hby d_isEmpty_4) (pc' := 5) rfl ?_
  refine ow_ifY X1 hx (hb hby d_isEmpty_5) (by decide) (by decide) (pc' := 12) (by decide) ?_
  refine ow_iconst X1 hx (z := (0 : Int32)) (hb hby d_isEmpty_12) rfl (pc' := 13) rfl ?_
  exact ow_retB X1 hx hret hlk (hb hby d_isEmpty_13) (by decide) (by decide) (z' := (0 : Int32)) rfl ⟨(0 : Int32), rfl, (show (0 : Int) = 0 from by omega), rfl, e1⟩
theorem d_contains_0 : decode prog_9_method_7_code 0 = .ok (.iconst 0, 1) := by decide +kernel
theorem d_contains_1 : decode prog_9_method_7_code 1 = .ok (.istore_n 2, 1) := by decide +kernel
theorem d_contains_2 : decode prog_9_method_7_code 2 = .ok (.aload_n 0, 1) := by decide +kernel
theorem d_contains_3 : decode prog_9_method_7_code 3 = .ok (.getfield 7, 3) := by decide +kernel
theorem d_contains_6 : decode prog_9_method_7_code 6 = .ok (.arraylength, 1) := by decide +kernel
theorem d_contains_7 : decode prog_9_method_7_code 7 = .ok (.iconst 2, 1) := by decide +kernel
theorem d_contains_8 : decode prog_9_method_7_code 8 = .ok (.idiv, 1) := by decide +kernel
theorem d_contains_9 : decode prog_9_method_7_code 9 = .ok (.iconst 1, 1) := by decide +kernel
theorem d_contains_10 : decode prog_9_method_7_code 10 = .ok (.isub, 1) := by decide +kernel
theorem d_contains_11 : decode prog_9_method_7_code 11 = .ok (.istore_n 3, 1) := by decide +kernel
theorem d_contains_12 : decode prog_9_method_7_code 12 = .ok (.iload_n 2, 1) := by decide +kernel
theorem d_contains_13 : decode prog_9_method_7_code 13 = .ok (.iload_n 3, 1) := by decide +kernel
theorem d_contains_14 : decode prog_9_method_7_code 14 = .ok (.if_icmp .gt 59, 3) := by decide +kernel
theorem d_contains_17 : decode prog_9_method_7_code 17 = .ok (.iload_n 2, 1) := by decide +kernel
theorem d_contains_18 : decode prog_9_method_7_code 18 = .ok (.iload_n 3, 1) := by decide +kernel
theorem d_contains_19 : decode prog_9_method_7_code 19 = .ok (.iadd, 1) := by decide +kernel
theorem d_contains_20 : decode prog_9_method_7_code 20 = .ok (.iconst 1, 1) := by decide +kernel
theorem d_contains_21 : decode prog_9_method_7_code 21 = .ok (.iushr, 1) := by decide +kernel
theorem d_contains_22 : decode prog_9_method_7_code 22 = .ok (.istore 4, 2) := by decide +kernel
theorem d_contains_24 : decode prog_9_method_7_code 24 = .ok (.iload_n 1, 1) := by decide +kernel
theorem d_contains_25 : decode prog_9_method_7_code 25 = .ok (.aload_n 0, 1) := by decide +kernel
theorem d_contains_26 : decode prog_9_method_7_code 26 = .ok (.getfield 7, 3) := by decide +kernel
theorem d_contains_29 : decode prog_9_method_7_code 29 = .ok (.iconst 2, 1) := by decide +kernel
theorem d_contains_30 : decode prog_9_method_7_code 30 = .ok (.iload 4, 2) := by decide +kernel
theorem d_contains_32 : decode prog_9_method_7_code 32 = .ok (.imul, 1) := by decide +kernel
theorem d_contains_33 : decode prog_9_method_7_code 33 = .ok (.iaload, 1) := by decide +kernel
theorem d_contains_34 : decode prog_9_method_7_code 34 = .ok (.if_icmp .ge 11, 3) := by decide +kernel
theorem d_contains_37 : decode prog_9_method_7_code 37 = .ok (.iload 4, 2) := by decide +kernel
theorem d_contains_39 : decode prog_9_method_7_code 39 = .ok (.iconst 1, 1) := by decide +kernel
theorem d_contains_40 : decode prog_9_method_7_code 40 = .ok (.isub, 1) := by decide +kernel
theorem d_contains_41 : decode prog_9_method_7_code 41 = .ok (.istore_n 3, 1) := by decide +kernel
theorem d_contains_42 : decode prog_9_method_7_code 42 = .ok (.goto 28, 3) := by decide +kernel
theorem d_contains_45 : decode prog_9_method_7_code 45 = .ok (.iload_n 1, 1) := by decide +kernel
theorem d_contains_46 : decode prog_9_method_7_code 46 = .ok (.aload_n 0, 1) := by decide +kernel
theorem d_contains_47 : decode prog_9_method_7_code 47 = .ok (.getfield 7, 3) := by decide +kernel
theorem d_contains_50 : decode prog_9_method_7_code 50 = .ok (.iconst 2, 1) := by decide +kernel
theorem d_contains_51 : decode prog_9_method_7_code 51 = .ok (.iload 4, 2) := by decide +kernel
theorem d_contains_53 : decode prog_9_method_7_code 53 = .ok (.imul, 1) := by decide +kernel
theorem d_contains_54 : decode prog_9_method_7_code 54 = .ok (.iconst 1, 1) := by decide +kernel
theorem d_contains_55 : decode prog_9_method_7_code 55 = .ok (.iadd, 1) := by decide +kernel
theorem d_contains_56 : decode prog_9_method_7_code 56 = .ok (.iaload, 1) := by decide +kernel
theorem d_contains_57 : decode prog_9_method_7_code 57 = .ok (.if_icmp .le 11, 3) := by decide +kernel
theorem d_contains_60 : decode prog_9_method_7_code 60 = .ok (.iload 4, 2) := by decide +kernel
theorem d_contains_62 : decode prog_9_method_7_code 62 = .ok (.iconst 1, 1) := by decide +kernel
theorem d_contains_63 : decode prog_9_method_7_code 63 = .ok (.iadd, 1) := by decide +kernel
theorem d_contains_64 : decode prog_9_method_7_code 64 = .ok (.istore_n 2, 1) := by decide +kernel
theorem d_contains_65 : decode prog_9_method_7_code 65 = .ok (.goto 5, 3) := by decide +kernel
theorem d_contains_68 : decode prog_9_method_7_code 68 = .ok (.iconst 1, 1) := by decide +kernel
theorem d_contains_69 : decode prog_9_method_7_code 69 = .ok (.ireturn, 1) := by decide +kernel
theorem d_contains_70 : decode prog_9_method_7_code 70 = .ok (.goto (-58), 3) := by decide +kernel
theorem d_contains_73 : decode prog_9_method_7_code 73 = .ok (.iconst 0, 1) := by decide +kernel
theorem d_contains_74 : decode prog_9_method_7_code 74 = .ok (.ireturn, 1) := by decide +kernel
theorem ef_contains (m : MethodId) (x0 : Addr) (x1 : Int32) : entryFrame m #[(.ref x0), (.int x1)] 5 = mkF m 0 #[.val (.ref x0), .val (.int x1), .unset, .unset, .unset] [] := by first | (simp [entryFrame, mkF, argsToLocals, Value.category]; done) | rfl
set_option maxRecDepth 65536 in
set_option maxHeartbeats 40000000 in
theorem rm_contains (l : Launch) (Z : State) (a0 : Array Value) (hw : ∀ d ∈ tables_1, d.before a0 Z = true) (ws : List Jvm.Cond) (o : Addr) (pc0 : Int32) (oar : Addr) (kk : ClassId) (pf : Int32) (pl : Int32) (h0 : Heap) (F_b : Fld Z h0 o "com/example/tenon/tenon/regex/CodePoints" "bounds" "[I" (.ref oar)) (V_a : Arv Z h0 oar kk (.int) (2 : Int32) [(.int pf), (.int pl)] (.int (0 : Int32))) :
    MetFree l (⟨"com/example/tenon/tenon/regex/CodePoints", "contains", "(I)Z"⟩ : MethodName) (head1 (Jvm.Cond.code (⟨"com/example/tenon/tenon/regex/CodePoints", "contains", "(I)Z"⟩ : MethodName) prog_9_method_7_code 5 (some .boolean) :: ws) ({ frames := 0, cells := 0, slots := 0, locals := 0 } : Room)) (fun a_ U_ => a_ = #[(.ref o), (.int pc0)] ∧ Z.Warmed39 U_.vm ∧ U_.heap = h0) (fun _ _ _ _ _ => True) (fun _ U_ o_ U_' => ∃ v_ L_, o_ = .returned v_ ∧ (QI (fun z => ((pf.toInt ≤ pc0.toInt ∧ pc0.toInt ≤ pl.toInt) ∧ z.toInt = 1) ∨ (¬ (pf.toInt ≤ pc0.toInt ∧ pc0.toInt ≤ pl.toInt) ∧ z.toInt = 0)) h0) v_ U_'.heap L_ ∧ FrameEnd U_ o_ U_' L_ 0 0) := by
  refine ow_body (plainFor_of_name pn_0) ?_
  intro p e s m below meth c T0 X0 hx hZ hby hml hown hnm hret hlk e0
  refine Ends.cast (ef_contains m o pc0) ?_
  have r_pc0 := rng32 pc0
  refine ow_iconst X0 hx (z := (0 : Int32)) (hb hby d_contains_0) rfl (pc' := 1) rfl ?_
  refine ow_istoreN X0 hx (Ls' := #[.val (.ref o), .val (.int pc0), .val (.int (0 : Int32)), .unset, .unset]) (hb hby d_contains_1) rfl (pc' := 2) rfl ?_
  refine ow_aloadN X0 hx (hb hby d_contains_2) rfl rfl (pc' := 3) rfl ?_
  refine ow_getF X0 hx hZ hown (host := "") (Or.inl (hw _ (List.mem_of_getElem? (i := 15) rfl))) Via.refl e0 F_b (hb hby d_contains_3) (pc' := 6) rfl (fun T1 X1 e1 => ?_)
  refine ow_len X1 hx hZ e1 V_a (hb hby d_contains_6) (pc' := 7) rfl ?_
  refine ow_iconst X1 hx (z := (2 : Int32)) (hb hby d_contains_7) rfl (pc' := 8) rfl ?_
  refine ow_idiv X1 hx (hb hby d_contains_8) (by decide) (pc' := 9) rfl (fun z2 hz2 => ?_)
  obtain rfl : z2 = (1 : Int32) := hz2.trans (by decide)
  refine ow_iconst X1 hx (z := (1 : Int32)) (hb hby d_contains_9) rfl (pc' := 10) rfl ?_
  refine ow_isub X1 hx (hb hby d_contains_10) (pc' := 11) rfl (fun z3 hz3 => ?_)
  obtain rfl : z3 = (0 : Int32) := hz3.trans (by decide)
  refine ow_istoreN X1 hx (Ls' := #[.val (.ref o), .val (.int pc0), .val (.int (0 : Int32)), .val (.int (0 : Int32)), .unset]) (hb hby d_contains_11) rfl (pc' := 12) rfl ?_
  refine ow_iloadN X1 hx (hb hby d_contains_12) rfl (pc' := 13) rfl ?_
  refine ow_iloadN X1 hx (hb hby d_contains_13) rfl (pc' := 14) rfl ?_
  refine ow_icmpN X1 hx (hb hby d_contains_14) (by decide) (pc' := 17) rfl ?_
  refine ow_iloadN X1 hx (hb hby d_contains_17) rfl (pc' := 18) rfl ?_
  refine ow_iloadN X1 hx (hb hby d_contains_18) rfl (pc' := 19) rfl ?_
  refine ow_iadd X1 hx (hb hby d_contains_19) (pc' := 20) rfl (fun z4 hz4 => ?_)
  obtain rfl : z4 = (0 : Int32) := hz4.trans (by decide)
  refine ow_iconst X1 hx (z := (1 : Int32)) (hb hby d_contains_20) rfl (pc' := 21) rfl ?_
  refine ow_iushr X1 hx (hb hby d_contains_21) (pc' := 22) rfl (fun z5 hz5 => ?_)
  obtain rfl : z5 = (0 : Int32) := hz5.trans (by decide)
  refine ow_istore X1 hx (Ls' := #[.val (.ref o), .val (.int pc0), .val (.int (0 : Int32)), .val (.int (0 : Int32)), .val (.int (0 : Int32))]) (hb hby d_contains_22) rfl (pc' := 24) rfl ?_
  refine ow_iloadN X1 hx (hb hby d_contains_24) rfl (pc' := 25) rfl ?_
  refine ow_aloadN X1 hx (hb hby d_contains_25) rfl rfl (pc' := 26) rfl ?_
  refine ow_getF X1 hx hZ hown (host := "") (Or.inl (hw _ (List.mem_of_getElem? (i := 15) rfl))) Via.refl e1 F_b (hb hby d_contains_26) (pc' := 29) rfl (fun T6 X6 e6 => ?_)
  refine ow_iconst X6 hx (z := (2 : Int32)) (hb hby d_contains_29) rfl (pc' := 30) rfl ?_
  refine ow_iload X6 hx (hb hby d_contains_30) rfl (pc' := 32) rfl ?_
  refine ow_imul X6 hx (hb hby d_contains_32) (pc' := 33) rfl (fun z7 hz7 => ?_)
  obtain rfl : z7 = (0 : Int32) := hz7.trans (by decide)
  refine ow_ldI X6 hx hZ e6 V_a (by decide) (by decide) rfl (hb hby d_contains_33) (pc' := 34) rfl ?_
  refine ow_icmp_ge X6 hx (pc0.toInt) (pf.toInt) (hb hby d_contains_34) rfl rfl (by decide) (pt := 45) (by decide) (pf := 37) rfl (fun c34 => ?_) (fun c34 => ?_)
  · refine ow_iloadN X6 hx (hb hby d_contains_45) rfl (pc' := 46) rfl ?_
    refine ow_aloadN X6 hx (hb hby d_contains_46) rfl rfl (pc' := 47) rfl ?_
    refine ow_getF X6 hx hZ hown (host := "") (Or.inl (hw _ (List.mem_of_getElem? (i := 15) rfl))) Via.refl e6 F_b (hb hby d_contains_47) (pc' := 50) rfl (fun T8 X8 e8 => ?_)
    refine ow_iconst X8 hx (z := (2 : Int32)) (hb hby d_contains_50) rfl (pc' := 51) rfl ?_
    refine ow_iload X8 hx (hb hby d_contains_51) rfl (pc' := 53) rfl ?_
    refine ow_imul X8 hx (hb hby d_contains_53) (pc' := 54) rfl (fun z9 hz9 => ?_)
    obtain rfl : z9 = (0 : Int32) := hz9.trans (by decide)
    refine ow_iconst X8 hx (z := (1 : Int32)) (hb hby d_contains_54) rfl (pc' := 55) rfl ?_
    refine ow_iadd X8 hx (hb hby d_contains_55) (pc' := 56) rfl (fun z10 hz10 => ?_)
    obtain rfl : z10 = (1 : Int32) := hz10.trans (by decide)
    refine ow_ldI X8 hx hZ e8 V_a (by decide) (by decide) rfl (hb hby d_contains_56) (pc' := 57) rfl ?_
    refine ow_icmp_le X8 hx (pc0.toInt) (pl.toInt) (hb hby d_contains_57) rfl rfl (by decide) (pt := 68) (by decide) (pf := 60) rfl (fun c57 => ?_) (fun c57 => ?_)
    · refine ow_iconst X8 hx (z := (1 : Int32)) (hb hby d_contains_68) rfl (pc' := 69) rfl ?_
      exact ow_retB X8 hx hret hlk (hb hby d_contains_69) (by decide) (by decide) (z' := (1 : Int32)) rfl ⟨(1 : Int32), rfl, (show ((pf.toInt ≤ pc0.toInt ∧ pc0.toInt ≤ pl.toInt) ∧ (1 : Int) = 1) ∨ (¬ (pf.toInt ≤ pc0.toInt ∧ pc0.toInt ≤ pl.toInt) ∧ (1 : Int) = 0) from by omega), rfl, e8⟩
    · refine ow_iload X8 hx (hb hby d_contains_60) rfl (pc' := 62) rfl ?_
      refine ow_iconst X8 hx (z := (1 : Int32)) (hb hby d_contains_62) rfl (pc' := 63) rfl ?_
      refine ow_iadd X8 hx (hb hby d_contains_63) (pc' := 64) rfl (fun z11 hz11 => ?_)
      obtain rfl : z11 = (1 : Int32) := hz11.trans (by decide)
      refine ow_istoreN X8 hx (Ls' := #[.val (.ref o), .val (.int pc0), .val (.int (1 : Int32)), .val (.int (0 : Int32)), .val (.int (0 : Int32))]) (hb hby d_contains_64) rfl (pc' := 65) rfl ?_
      refine ow_goto X8 hx (hb hby d_contains_65) (by decide) (pc' := 70) (by decide) ?_
      refine ow_goto X8 hx (hb hby d_contains_70) (by decide) (pc' := 12) (by decide) ?_
      refine ow_iloadN X8 hx (hb hby d_contains_12) rfl (pc' := 13) rfl ?_
      refine ow_iloadN X8 hx (hb hby d_contains_13) rfl (pc' := 14) rfl ?_
      refine ow_icmpY X8 hx (hb hby d_contains_14) (by decide) (by decide) (pc' := 73) (by decide) ?_
      refine ow_iconst X8 hx (z := (0 : Int32)) (hb hby d_contains_73) rfl (pc' := 74) rfl ?_
      exact ow_retB X8 hx hret hlk (hb hby d_contains_74) (by decide) (by decide) (z' := (0 : Int32)) rfl ⟨(0 : Int32), rfl, (show ((pf.toInt ≤ pc0.toInt ∧ pc0.toInt ≤ pl.toInt) ∧ (0 : Int) = 1) ∨ (¬ (pf.toInt ≤ pc0.toInt ∧ pc0.toInt ≤ pl.toInt) ∧ (0 : Int) = 0) from by omega), rfl, e8⟩
  · refine ow_iload X6 hx (hb hby d_contains_37) rfl (pc' := 39) rfl ?_
    refine ow_iconst X6 hx (z := (1 : Int32)) (hb hby d_contains_39) rfl (pc' := 40) rfl ?_
    refine ow_isub X6 hx (hb hby d_contains_40) (pc' := 41) rfl (fun z12 hz12 => ?_)
    obtain rfl : z12 = (-1 : Int32) := hz12.trans (by decide)
    refine ow_istoreN X6 hx (Ls' := #[.val (.ref o), .val (.int pc0), .val (.int (0 : Int32)), .val (.int (-1 : Int32)), .val (.int (0 : Int32))]) (hb hby d_contains_41) rfl (pc' := 42) rfl ?_
    refine ow_goto X6 hx (hb hby d_contains_42) (by decide) (pc' := 70) (by decide) ?_
    refine ow_goto X6 hx (hb hby d_contains_70) (by decide) (pc' := 12) (by decide) ?_
    refine ow_iloadN X6 hx (hb hby d_contains_12) rfl (pc' := 13) rfl ?_
    refine ow_iloadN X6 hx (hb hby d_contains_13) rfl (pc' := 14) rfl ?_
    refine ow_icmpY X6 hx (hb hby d_contains_14) (by decide) (by decide) (pc' := 73) (by decide) ?_
    refine ow_iconst X6 hx (z := (0 : Int32)) (hb hby d_contains_73) rfl (pc' := 74) rfl ?_
    exact ow_retB X6 hx hret hlk (hb hby d_contains_74) (by decide) (by decide) (z' := (0 : Int32)) rfl ⟨(0 : Int32), rfl, (show ((pf.toInt ≤ pc0.toInt ∧ pc0.toInt ≤ pl.toInt) ∧ (0 : Int) = 1) ∨ (¬ (pf.toInt ≤ pc0.toInt ∧ pc0.toInt ≤ pl.toInt) ∧ (0 : Int) = 0) from by omega), rfl, e6⟩
theorem pd_1 : parseMethodDescriptor "(II)Lcom/example/tenon/tenon/regex/CodePoints;" = some ⟨[.int, .int], some (.object "com/example/tenon/tenon/regex/CodePoints")⟩ := by decide +kernel
theorem pd_2 : parseMethodDescriptor "()Z" = some ⟨[], some .boolean⟩ := by decide +kernel
theorem pd_3 : parseMethodDescriptor "(I)Z" = some ⟨[.int], some .boolean⟩ := by decide +kernel
theorem ef_law (m : MethodId) (x0 : Int32) (x1 : Int32) (x2 : Int32) (x3 : Int32) : entryFrame m #[(.int x0), (.int x1), (.int x2), (.int x3)] maxLocals = mkF m 0 #[.val (.int x0), .val (.int x1), .val (.int x2), .val (.int x3), .unset, .unset, .unset, .unset, .unset, .unset, .unset, .unset] [] := by first | (simp [entryFrame, mkF, argsToLocals, Value.category, maxLocals]; done) | rfl
def Q_law (pa : Int32) (pb : Int32) (ps : Int32) (pc0 : Int32) (h0 : Heap) (n0 : Nat) (v : Option Value) (h : Heap) (L : List Loc) : Prop := v = some (.int 1) ∧ Fr n0 L
theorem pn_1 : plainName "com/example/tenon/tenon/regex/CodePointsRangePinLaw" = true := by first | (simp [plainName, overriddenIn]; done) | decide +kernel
set_option maxRecDepth 65536 in
set_option maxHeartbeats 40000000 in
theorem rm_law (l : Launch) (Z : State) (a0 : Array Value) (hw : ∀ d ∈ tables_1, d.before a0 Z = true) (ws : List Jvm.Cond) (pa : Int32) (pb : Int32) (ps : Int32) (pc0 : Int32) (h0 : Heap) (n0 : Nat) (Z0 : n0 ≤ h0.size) :
    MetFree l x (head1 (Jvm.Cond.code x code maxLocals ret :: ws) room_1) (fun a_ U_ => a_ = #[(.int pa), (.int pb), (.int ps), (.int pc0)] ∧ Z.Warmed39 U_.vm ∧ U_.heap = h0) (fun _ _ _ _ _ => True) (fun _ U_ o_ U_' => ∃ v_ L_, o_ = .returned v_ ∧ (Q_law pa pb ps pc0 h0 n0) v_ U_'.heap L_ ∧ FrameEnd U_ o_ U_' L_ 16 128) := by
  refine ow_body (plainFor_of_name pn_1) ?_
  intro p e s m below meth c T0 X0 hx hZ hby hml hown hnm hret hlk e0
  have N0 := Fr.nil n0
  have hret : meth.sig.returnType = (some .boolean) := hret
  refine Ends.cast (ef_law m pa pb ps pc0) ?_
  have r_pa := rng32 pa
  have r_pb := rng32 pb
  have r_ps := rng32 ps
  have r_pc0 := rng32 pc0
  refine ow_ldcInt X0 hx hZ hown (hw _ (List.mem_of_getElem? (i := 0) rfl)) (hb hby at_0) (pc' := 2) rfl ?_
  refine ow_istore X0 hx (Ls' := #[.val (.int pa), .val (.int pb), .val (.int ps), .val (.int pc0), .val (.int (1114111 : Int32)), .unset, .unset, .unset, .unset, .unset, .unset, .unset]) (hb hby at_2) rfl (pc' := 4) rfl ?_
  refine ow_iloadN X0 hx (hb hby at_4) rfl (pc' := 5) rfl ?_
  refine ow_ldcInt X0 hx hZ hown (hw _ (List.mem_of_getElem? (i := 1) rfl)) (hb hby at_5) (pc' := 7) rfl ?_
  refine ow_iand X0 hx (hb hby at_7) (pc' := 8) rfl (fun z1 hz1 => ?_)
  have az1 : z1.toInt = pa.toInt % 2147483648 := by rw [hz1]; exact c_mask pa (2147483647 : Int32) 31 (by decide) (by decide)
  have rz1 := rng32 z1
  refine ow_iload X0 hx (hb hby at_8) rfl (pc' := 10) rfl ?_
  refine ow_iconst X0 hx (z := (1 : Int32)) (hb hby at_10) rfl (pc' := 11) rfl ?_
  refine ow_iadd X0 hx (hb hby at_11) (pc' := 12) rfl (fun z2 hz2 => ?_)
  obtain rfl : z2 = (1114112 : Int32) := hz2.trans (by decide)
  refine ow_irem X0 hx (hb hby at_12) (by decide) (pc' := 13) rfl (fun z3 hz3 => ?_)
  have az3 : (0 ≤ z1.toInt → z3.toInt = z1.toInt % 1114112) ∧ (z1.toInt < 0 → z3.toInt = -((-z1.toInt) % 1114112)) := by rw [hz3]; exact c_irem z1 (1114112 : Int32) 1114112 rfl
  have rz3 := rng32 z3
  refine ow_istore X0 hx (Ls' := #[.val (.int pa), .val (.int pb), .val (.int ps), .val (.int pc0), .val (.int (1114111 : Int32)), .val (.int z3), .unset, .unset, .unset, .unset, .unset, .unset]) (hb hby at_13) rfl (pc' := 15) rfl ?_
  refine ow_iload X0 hx (hb hby at_15) rfl (pc' := 17) rfl ?_
  refine ow_iloadN X0 hx (hb hby at_17) rfl (pc' := 18) rfl ?_
  refine ow_ldcInt X0 hx hZ hown (hw _ (List.mem_of_getElem? (i := 1) rfl)) (hb hby at_18) (pc' := 20) rfl ?_
  refine ow_iand X0 hx (hb hby at_20) (pc' := 21) rfl (fun z4 hz4 => ?_)
  have az4 : z4.toInt = pb.toInt % 2147483648 := by rw [hz4]; exact c_mask pb (2147483647 : Int32) 31 (by decide) (by decide)
  have rz4 := rng32 z4
  refine ow_iload X0 hx (hb hby at_21) rfl (pc' := 23) rfl ?_
  refine ow_iconst X0 hx (z := (1 : Int32)) (hb hby at_23) rfl (pc' := 24) rfl ?_
  refine ow_iadd X0 hx (hb hby at_24) (pc' := 25) rfl (fun z5 hz5 => ?_)
  obtain rfl : z5 = (1114112 : Int32) := hz5.trans (by decide)
  refine ow_iload X0 hx (hb hby at_25) rfl (pc' := 27) rfl ?_
  refine ow_isub X0 hx (hb hby at_27) (pc' := 28) rfl (fun z6 hz6 => ?_)
  have az6 : (z6.toInt - ((1114112 : Int) - z3.toInt)) % 4294967296 = 0 := by rw [hz6]; exact c_isub (1114112 : Int32) z3
  have rz6 := rng32 z6
  refine ow_irem X0 hx (hb hby at_28) (fun q => absurd (show z6.toInt = 0 from congrArg Int32.toInt q) (by omega)) (pc' := 29) rfl (fun z7 hz7 => ?_)
  have az7 : 0 ≤ z4.toInt → 0 < z6.toInt → 0 ≤ z7.toInt ∧ z7.toInt < z6.toInt ∧ z7.toInt ≤ z4.toInt ∧ (z4.toInt < z6.toInt → z7.toInt = z4.toInt) ∧ (z6.toInt ≤ z4.toInt → z4.toInt < 2 * z6.toInt → z7.toInt = z4.toInt - z6.toInt) := by rw [hz7]; exact (c_iremV z4 z6).1
  have rz7 := rng32 z7
  refine ow_iadd X0 hx (hb hby at_29) (pc' := 30) rfl (fun z8 hz8 => ?_)
  have az8 : (z8.toInt - (z3.toInt + z7.toInt)) % 4294967296 = 0 := by rw [hz8]; exact c_iadd z3 z7
  have rz8 := rng32 z8
  refine ow_istore X0 hx (Ls' := #[.val (.int pa), .val (.int pb), .val (.int ps), .val (.int pc0), .val (.int (1114111 : Int32)), .val (.int z3), .val (.int z8), .unset, .unset, .unset, .unset, .unset]) (hb hby at_30) rfl (pc' := 32) rfl ?_
  refine ow_iloadN X0 hx (hb hby at_32) rfl (pc' := 33) rfl ?_
  refine ow_bipush X0 hx (z := (7 : Int32)) (hb hby at_33) rfl (pc' := 35) rfl ?_
  refine ow_iand X0 hx (hb hby at_35) (pc' := 36) rfl (fun z9 hz9 => ?_)
  have az9 : z9.toInt = ps.toInt % 8 := by rw [hz9]; exact c_mask ps (7 : Int32) 3 (by decide) (by decide)
  have rz9 := rng32 z9
  refine ow_istore X0 hx (Ls' := #[.val (.int pa), .val (.int pb), .val (.int ps), .val (.int pc0), .val (.int (1114111 : Int32)), .val (.int z3), .val (.int z8), .val (.int z9), .unset, .unset, .unset, .unset]) (hb hby at_36) rfl (pc' := 38) rfl ?_
  have J96 : ∀ (ip : Int32), Ends p e below (Out s 16 128 (Q_law pa pb ps pc0 h0 n0)) T0 (mkF m 96 #[.val (.int pa), .val (.int pb), .val (.int ps), .val (.int pc0), .val (.int (1114111 : Int32)), .val (.int z3), .val (.int z8), .val (.int z9), .val (.int ip), .unset, .unset, .unset] []) := by
    intro ip 
    have r_ip := rng32 ip
    refine ow_iload X0 hx (hb hby at_96) rfl (pc' := 98) rfl ?_
    refine ow_iload X0 hx (hb hby at_98) rfl (pc' := 100) rfl ?_
    refine ow_callS X0 hx hZ hown (hw _ (List.mem_of_getElem? (i := 2) rfl)) (hw _ (List.mem_of_getElem? (i := 3) rfl)) (hw _ (List.mem_of_getElem? (i := 4) rfl)) (hw _ (List.mem_of_getElem? (i := 5) rfl)) (by decide) (rm_range l Z a0 hw [] z3 z8 h0 n0 Z0) e0 0 (by decide) (by decide) (by decide) (by decide) [(.int z3), (.int z8)] (by rw [hml]; rfl) pd_1 rfl rfl rfl (Nat.le_of_eq rfl) (hb hby at_100) (pc' := 103) rfl (fun v10 T10 L10 hQ10 X10 => ?_)
    obtain ⟨b10, b10a, kk_10, rfl, Nc10, Kc10, P10_0, P10_1, P10_2, P10_3, P10_4⟩ := hQ10
    have sz_b10 : h0.size ≤ b10 := Nat.le_trans (Keep.refl h0 []).1 P10_3
    have Zs10 : n0 ≤ T10.heap.size := Nat.le_trans Z0 Kc10.1
    have K10 := (Keep.refl h0 []).trans Kc10 all0
    have N10 := Fr.app N0 Nc10
    show Ends _ _ _ _ T10 (mkF m 103 #[.val (.int pa), .val (.int pb), .val (.int ps), .val (.int pc0), .val (.int (1114111 : Int32)), .val (.int z3), .val (.int z8), .val (.int z9), .val (.int ip), .unset, .unset, .unset] [(.ref b10)])
    refine ow_astore X10 hx (Ls' := #[.val (.int pa), .val (.int pb), .val (.int ps), .val (.int pc0), .val (.int (1114111 : Int32)), .val (.int z3), .val (.int z8), .val (.int z9), .val (.int ip), .val (.ref b10), .unset, .unset]) (hb hby at_103) rfl rfl (pc' := 105) rfl ?_
    refine ow_aload X10 hx (hb hby at_105) rfl rfl (pc' := 107) rfl ?_
    refine ow_callVPI X10 hx hZ rfl hown (hw _ (List.mem_of_getElem? (i := 17) rfl)) (hw _ (List.mem_of_getElem? (i := 18) rfl)) (hw _ (List.mem_of_getElem? (i := 20) rfl)) (hw _ (List.mem_of_getElem? (i := 19) rfl)) (hw _ (List.mem_of_getElem? (i := 4) rfl)) (hw _ (List.mem_of_getElem? (i := 21) rfl)) (by decide) (rm_isEmpty l Z a0 hw [] b10 b10a kk_10 z3 z8 T10.heap P10_1 P10_2) rfl 0 (by decide) (by decide) (by decide) (by decide) [] (by rw [hml]; rfl) pd_2 rfl P10_0 rfl rfl (Nat.le_of_eq rfl) (hb hby at_107) (pc' := 110) rfl (fun z11 T11 hz11 X11 e11 => ?_)
    have az11 : z11.toInt = 0 := hz11
    have rz11 := rng32 z11
    refine ow_if_eq X11 hx (z11.toInt) (hb hby at_110) rfl (by decide) (pt := 115) (by decide) (pf := 113) rfl (fun c110 => ?_) (fun c110 => absurd c110 (by omega))
    have J134 : ∀ (i10 : Int32), (((z3.toInt ≤ ip.toInt ∧ ip.toInt ≤ z8.toInt) ∧ i10.toInt = 1) ∨ (¬ (z3.toInt ≤ ip.toInt ∧ ip.toInt ≤ z8.toInt) ∧ i10.toInt = 0)) → Ends p e below (Out s 16 128 (Q_law pa pb ps pc0 h0 n0)) T11 (mkF m 134 #[.val (.int pa), .val (.int pb), .val (.int ps), .val (.int pc0), .val (.int (1114111 : Int32)), .val (.int z3), .val (.int z8), .val (.int z9), .val (.int ip), .val (.ref b10), .unset, .unset] [(.int i10)]) := by
      intro i10 hi134
      have r_i10 := rng32 i10
      refine ow_istore X11 hx (Ls' := #[.val (.int pa), .val (.int pb), .val (.int ps), .val (.int pc0), .val (.int (1114111 : Int32)), .val (.int z3), .val (.int z8), .val (.int z9), .val (.int ip), .val (.ref b10), .val (.int i10), .unset]) (hb hby at_134) rfl (pc' := 136) rfl ?_
      have J153 : ∀ (i11 : Int32), (((z3.toInt ≤ pc0.toInt ∧ pc0.toInt ≤ z8.toInt) ∧ i11.toInt = 1) ∨ (¬ (z3.toInt ≤ pc0.toInt ∧ pc0.toInt ≤ z8.toInt) ∧ i11.toInt = 0)) → Ends p e below (Out s 16 128 (Q_law pa pb ps pc0 h0 n0)) T11 (mkF m 153 #[.val (.int pa), .val (.int pb), .val (.int ps), .val (.int pc0), .val (.int (1114111 : Int32)), .val (.int z3), .val (.int z8), .val (.int z9), .val (.int ip), .val (.ref b10), .val (.int i10), .unset] [(.int i11)]) := by
        intro i11 hi153
        have r_i11 := rng32 i11
        refine ow_istore X11 hx (Ls' := #[.val (.int pa), .val (.int pb), .val (.int ps), .val (.int pc0), .val (.int (1114111 : Int32)), .val (.int z3), .val (.int z8), .val (.int z9), .val (.int ip), .val (.ref b10), .val (.int i10), .val (.int i11)]) (hb hby at_153) rfl (pc' := 155) rfl ?_
        refine ow_aload X11 hx (hb hby at_155) rfl rfl (pc' := 157) rfl ?_
        refine ow_iload X11 hx (hb hby at_157) rfl (pc' := 159) rfl ?_
        refine ow_callVPI X11 hx hZ rfl hown (hw _ (List.mem_of_getElem? (i := 22) rfl)) (hw _ (List.mem_of_getElem? (i := 23) rfl)) (hw _ (List.mem_of_getElem? (i := 25) rfl)) (hw _ (List.mem_of_getElem? (i := 24) rfl)) (hw _ (List.mem_of_getElem? (i := 4) rfl)) (hw _ (List.mem_of_getElem? (i := 26) rfl)) (by decide) (rm_contains l Z a0 hw [] b10 ip b10a kk_10 z3 z8 T10.heap P10_1 P10_2) e11 0 (by decide) (by decide) (by decide) (by decide) [(.int ip)] (by rw [hml]; rfl) pd_3 rfl P10_0 rfl rfl (Nat.le_of_eq rfl) (hb hby at_159) (pc' := 162) rfl (fun z12 T12 hz12 X12 e12 => ?_)
        have az12 : ((z3.toInt ≤ ip.toInt ∧ ip.toInt ≤ z8.toInt) ∧ z12.toInt = 1) ∨ (¬ (z3.toInt ≤ ip.toInt ∧ ip.toInt ≤ z8.toInt) ∧ z12.toInt = 0) := hz12
        have rz12 := rng32 z12
        refine ow_iload X12 hx (hb hby at_162) rfl (pc' := 164) rfl ?_
        refine ow_icmp_ne X12 hx (z12.toInt) (i10.toInt) (hb hby at_164) rfl rfl (by decide) (pt := 182) (by decide) (pf := 167) rfl (fun c164 => ?_) (fun c164 => ?_)
        · refine ow_iconst X12 hx (z := (0 : Int32)) (hb hby at_182) rfl (pc' := 183) rfl ?_
          exact absurd (show False from by omega) id
        · refine ow_aload X12 hx (hb hby at_167) rfl rfl (pc' := 169) rfl ?_
          refine ow_iloadN X12 hx (hb hby at_169) rfl (pc' := 170) rfl ?_
          refine ow_callVPI X12 hx hZ rfl hown (hw _ (List.mem_of_getElem? (i := 22) rfl)) (hw _ (List.mem_of_getElem? (i := 23) rfl)) (hw _ (List.mem_of_getElem? (i := 25) rfl)) (hw _ (List.mem_of_getElem? (i := 24) rfl)) (hw _ (List.mem_of_getElem? (i := 4) rfl)) (hw _ (List.mem_of_getElem? (i := 26) rfl)) (by decide) (rm_contains l Z a0 hw [] b10 pc0 b10a kk_10 z3 z8 T10.heap P10_1 P10_2) e12 0 (by decide) (by decide) (by decide) (by decide) [(.int pc0)] (by rw [hml]; rfl) pd_3 rfl P10_0 rfl rfl (Nat.le_of_eq rfl) (hb hby at_170) (pc' := 173) rfl (fun z13 T13 hz13 X13 e13 => ?_)
          have az13 : ((z3.toInt ≤ pc0.toInt ∧ pc0.toInt ≤ z8.toInt) ∧ z13.toInt = 1) ∨ (¬ (z3.toInt ≤ pc0.toInt ∧ pc0.toInt ≤ z8.toInt) ∧ z13.toInt = 0) := hz13
          have rz13 := rng32 z13
          refine ow_iload X13 hx (hb hby at_173) rfl (pc' := 175) rfl ?_
          refine ow_icmp_ne X13 hx (z13.toInt) (i11.toInt) (hb hby at_175) rfl rfl (by decide) (pt := 182) (by decide) (pf := 178) rfl (fun c175 => ?_) (fun c175 => ?_)
          · refine ow_iconst X13 hx (z := (0 : Int32)) (hb hby at_182) rfl (pc' := 183) rfl ?_
            exact absurd (show False from by omega) id
          · refine ow_iconst X13 hx (z := (1 : Int32)) (hb hby at_178) rfl (pc' := 179) rfl ?_
            refine ow_goto X13 hx (hb hby at_179) (by decide) (pc' := 183) (by decide) ?_
            exact ow_retB X13 hx hret hlk (hb hby at_183) (by decide) (by decide) (z' := (1 : Int32)) rfl ⟨rfl, N10⟩
      refine ow_iload X11 hx (hb hby at_136) rfl (pc' := 138) rfl ?_
      refine ow_iloadN X11 hx (hb hby at_138) rfl (pc' := 139) rfl ?_
      refine ow_icmp_gt X11 hx (z3.toInt) (pc0.toInt) (hb hby at_139) rfl rfl (by decide) (pt := 152) (by decide) (pf := 142) rfl (fun c139 => ?_) (fun c139 => ?_)
      · refine ow_iconst X11 hx (z := (0 : Int32)) (hb hby at_152) rfl (pc' := 153) rfl ?_
        exact J153 (0 : Int32) (show ((z3.toInt ≤ pc0.toInt ∧ pc0.toInt ≤ z8.toInt) ∧ (0 : Int) = 1) ∨ (¬ (z3.toInt ≤ pc0.toInt ∧ pc0.toInt ≤ z8.toInt) ∧ (0 : Int) = 0) from by omega)
      · refine ow_iloadN X11 hx (hb hby at_142) rfl (pc' := 143) rfl ?_
        refine ow_iload X11 hx (hb hby at_143) rfl (pc' := 145) rfl ?_
        refine ow_icmp_gt X11 hx (pc0.toInt) (z8.toInt) (hb hby at_145) rfl rfl (by decide) (pt := 152) (by decide) (pf := 148) rfl (fun c145 => ?_) (fun c145 => ?_)
        · refine ow_iconst X11 hx (z := (0 : Int32)) (hb hby at_152) rfl (pc' := 153) rfl ?_
          exact J153 (0 : Int32) (show ((z3.toInt ≤ pc0.toInt ∧ pc0.toInt ≤ z8.toInt) ∧ (0 : Int) = 1) ∨ (¬ (z3.toInt ≤ pc0.toInt ∧ pc0.toInt ≤ z8.toInt) ∧ (0 : Int) = 0) from by omega)
        · refine ow_iconst X11 hx (z := (1 : Int32)) (hb hby at_148) rfl (pc' := 149) rfl ?_
          refine ow_goto X11 hx (hb hby at_149) (by decide) (pc' := 153) (by decide) ?_
          exact J153 (1 : Int32) (show ((z3.toInt ≤ pc0.toInt ∧ pc0.toInt ≤ z8.toInt) ∧ (1 : Int) = 1) ∨ (¬ (z3.toInt ≤ pc0.toInt ∧ pc0.toInt ≤ z8.toInt) ∧ (1 : Int) = 0) from by omega)
    refine ow_iload X11 hx (hb hby at_115) rfl (pc' := 117) rfl ?_
    refine ow_iload X11 hx (hb hby at_117) rfl (pc' := 119) rfl ?_
    refine ow_icmp_gt X11 hx (z3.toInt) (ip.toInt) (hb hby at_119) rfl rfl (by decide) (pt := 133) (by decide) (pf := 122) rfl (fun c119 => ?_) (fun c119 => ?_)
    · refine ow_iconst X11 hx (z := (0 : Int32)) (hb hby at_133) rfl (pc' := 134) rfl ?_
      exact J134 (0 : Int32) (show ((z3.toInt ≤ ip.toInt ∧ ip.toInt ≤ z8.toInt) ∧ (0 : Int) = 1) ∨ (¬ (z3.toInt ≤ ip.toInt ∧ ip.toInt ≤ z8.toInt) ∧ (0 : Int) = 0) from by omega)
    · refine ow_iload X11 hx (hb hby at_122) rfl (pc' := 124) rfl ?_
      refine ow_iload X11 hx (hb hby at_124) rfl (pc' := 126) rfl ?_
      refine ow_icmp_gt X11 hx (ip.toInt) (z8.toInt) (hb hby at_126) rfl rfl (by decide) (pt := 133) (by decide) (pf := 129) rfl (fun c126 => ?_) (fun c126 => ?_)
      · refine ow_iconst X11 hx (z := (0 : Int32)) (hb hby at_133) rfl (pc' := 134) rfl ?_
        exact J134 (0 : Int32) (show ((z3.toInt ≤ ip.toInt ∧ ip.toInt ≤ z8.toInt) ∧ (0 : Int) = 1) ∨ (¬ (z3.toInt ≤ ip.toInt ∧ ip.toInt ≤ z8.toInt) ∧ (0 : Int) = 0) from by omega)
      · refine ow_iconst X11 hx (z := (1 : Int32)) (hb hby at_129) rfl (pc' := 130) rfl ?_
        refine ow_goto X11 hx (hb hby at_130) (by decide) (pc' := 134) (by decide) ?_
        exact J134 (1 : Int32) (show ((z3.toInt ≤ ip.toInt ∧ ip.toInt ≤ z8.toInt) ∧ (1 : Int) = 1) ∨ (¬ (z3.toInt ≤ ip.toInt ∧ ip.toInt ≤ z8.toInt) ∧ (1 : Int) = 0) from by omega)
  refine ow_iload X0 hx (hb hby at_38) rfl (pc' := 40) rfl ?_
  refine ow_if_ne X0 hx (z9.toInt) (hb hby at_40) rfl (by decide) (pt := 52) (by decide) (pf := 43) rfl (fun c40 => ?_) (fun c40 => ?_)
  · refine ow_iload X0 hx (hb hby at_52) rfl (pc' := 54) rfl ?_
    refine ow_iconst X0 hx (z := (1 : Int32)) (hb hby at_54) rfl (pc' := 55) rfl ?_
    refine ow_icmp_ne X0 hx (z9.toInt) ((1 : Int)) (hb hby at_55) rfl rfl (by decide) (pt := 65) (by decide) (pf := 58) rfl (fun c55 => ?_) (fun c55 => ?_)
    · refine ow_iload X0 hx (hb hby at_65) rfl (pc' := 67) rfl ?_
      refine ow_iconst X0 hx (z := (2 : Int32)) (hb hby at_67) rfl (pc' := 68) rfl ?_
      refine ow_icmp_ne X0 hx (z9.toInt) ((2 : Int)) (hb hby at_68) rfl rfl (by decide) (pt := 78) (by decide) (pf := 71) rfl (fun c68 => ?_) (fun c68 => ?_)
      · refine ow_iload X0 hx (hb hby at_78) rfl (pc' := 80) rfl ?_
        refine ow_iconst X0 hx (z := (3 : Int32)) (hb hby at_80) rfl (pc' := 81) rfl ?_
        refine ow_icmp_ne X0 hx (z9.toInt) ((3 : Int)) (hb hby at_81) rfl rfl (by decide) (pt := 93) (by decide) (pf := 84) rfl (fun c81 => ?_) (fun c81 => ?_)
        · refine ow_iloadN X0 hx (hb hby at_93) rfl (pc' := 94) rfl ?_
          refine ow_istore X0 hx (Ls' := #[.val (.int pa), .val (.int pb), .val (.int ps), .val (.int pc0), .val (.int (1114111 : Int32)), .val (.int z3), .val (.int z8), .val (.int z9), .val (.int pc0), .unset, .unset, .unset]) (hb hby at_94) rfl (pc' := 96) rfl ?_
          exact J96 pc0
        · refine ow_iload X0 hx (hb hby at_84) rfl (pc' := 86) rfl ?_
          refine ow_iconst X0 hx (z := (1 : Int32)) (hb hby at_86) rfl (pc' := 87) rfl ?_
          refine ow_iadd X0 hx (hb hby at_87) (pc' := 88) rfl (fun z14 hz14 => ?_)
          have az14 : (z14.toInt - (z8.toInt + (1 : Int))) % 4294967296 = 0 := by rw [hz14]; exact c_iadd z8 (1 : Int32)
          have rz14 := rng32 z14
          refine ow_istore X0 hx (Ls' := #[.val (.int pa), .val (.int pb), .val (.int ps), .val (.int pc0), .val (.int (1114111 : Int32)), .val (.int z3), .val (.int z8), .val (.int z9), .val (.int z14), .unset, .unset, .unset]) (hb hby at_88) rfl (pc' := 90) rfl ?_
          refine ow_goto X0 hx (hb hby at_90) (by decide) (pc' := 96) (by decide) ?_
          exact J96 z14
      · refine ow_iload X0 hx (hb hby at_71) rfl (pc' := 73) rfl ?_
        refine ow_istore X0 hx (Ls' := #[.val (.int pa), .val (.int pb), .val (.int ps), .val (.int pc0), .val (.int (1114111 : Int32)), .val (.int z3), .val (.int z8), .val (.int z9), .val (.int z8), .unset, .unset, .unset]) (hb hby at_73) rfl (pc' := 75) rfl ?_
        refine ow_goto X0 hx (hb hby at_75) (by decide) (pc' := 96) (by decide) ?_
        exact J96 z8
    · refine ow_iload X0 hx (hb hby at_58) rfl (pc' := 60) rfl ?_
      refine ow_istore X0 hx (Ls' := #[.val (.int pa), .val (.int pb), .val (.int ps), .val (.int pc0), .val (.int (1114111 : Int32)), .val (.int z3), .val (.int z8), .val (.int z9), .val (.int z3), .unset, .unset, .unset]) (hb hby at_60) rfl (pc' := 62) rfl ?_
      refine ow_goto X0 hx (hb hby at_62) (by decide) (pc' := 96) (by decide) ?_
      exact J96 z3
  · refine ow_iload X0 hx (hb hby at_43) rfl (pc' := 45) rfl ?_
    refine ow_iconst X0 hx (z := (1 : Int32)) (hb hby at_45) rfl (pc' := 46) rfl ?_
    refine ow_isub X0 hx (hb hby at_46) (pc' := 47) rfl (fun z15 hz15 => ?_)
    have az15 : (z15.toInt - (z3.toInt - (1 : Int))) % 4294967296 = 0 := by rw [hz15]; exact c_isub z3 (1 : Int32)
    have rz15 := rng32 z15
    refine ow_istore X0 hx (Ls' := #[.val (.int pa), .val (.int pb), .val (.int ps), .val (.int pc0), .val (.int (1114111 : Int32)), .val (.int z3), .val (.int z8), .val (.int z9), .val (.int z15), .unset, .unset, .unset]) (hb hby at_47) rfl (pc' := 49) rfl ?_
    refine ow_goto X0 hx (hb hby at_49) (by decide) (pc' := 96) (by decide) ?_
    exact J96 z15
set_option maxRecDepth 65536 in
set_option maxHeartbeats 40000000 in
theorem comes_1 {Post : Tables → Env → Array Value → State → Outcome → State → Prop} (hpost : ∀ tb e args s v u, (limb_1_1.after args s (.returned v) u = true ∧ limb_1_2.after args s (.returned v) u = true ∧ True) → FrameEnd s (.returned v) u (Jvm.fieldLocs frame_1_writes args s ++ Jvm.arrayLocs frame_1_arrays args s ++ Jvm.staticLocs frame_1_statics s) 16 128 → Post tb e args s (.returned v) u) :
    ArmFor flags0 classFile x code maxLocals ret World_1 tables_1 room_1 Calls_1 rest_1 Pre_1 Post := by
  intro l hfl _ _ p e ha hc hk s m args below hf hA hF happ hP
  obtain ⟨hcalls, hrest, hpre⟩ := hP
  obtain ⟨-, -, -, hnamed, -, -, -, hat⟩ := (Spec.applies_iff hf).mp happ
  obtain ⟨hg, hn⟩ := and_e (Cond.before_iff.mp (show (Jvm.Cond.and given_1 narrow_1).before args s = true from hpre))
  obtain ⟨gc, gr0⟩ := and_e hg
  obtain ⟨ga0, gr1⟩ := and_e gr0
  obtain ⟨ga1, gr2⟩ := and_e gr1
  obtain ⟨ga2, ga3⟩ := and_e gr2
  obtain ⟨w0, w1, w2, w3, rfl⟩ : ∃ w0 w1 w2 w3 : Value, args = #[w0, w1, w2, w3] := by
    have hs : args.size = 4 := by simpa [Cond.value, given_1] using gc
    obtain ⟨L⟩ := args
    match L, hs with
    | [w0, w1, w2, w3], _ => exact ⟨w0, w1, w2, w3, rfl⟩
  have hw := fun d (hd : d ∈ tables_1) => atoms_spec (ws := Jvm.Cond.code x code maxLocals ret :: tables_1) hat d (List.mem_cons_of_mem _ hd)
  have hfit : Fit s := fun {y c} hc i hi => by
    obtain ⟨ha, rfl⟩ := Array.getElem?_eq_some_iff.mp hc
    have q := List.all_eq_true.mp ((Array.all_eq_true_iff_forall_mem.mp hF) _ (Array.getElem_mem ha)) i (List.mem_range.mpr hi)
    simpa [Array.getElem?_eq_getElem hi] using q
  obtain ⟨i0, ei0⟩ := is_v ga0
  obtain rfl : w0 = (.int i0) := Option.some.inj ei0
  obtain ⟨i1, ei1⟩ := is_v ga1
  obtain rfl : w1 = (.int i1) := Option.some.inj ei1
  obtain ⟨i2, ei2⟩ := is_v ga2
  obtain rfl : w2 = (.int i2) := Option.some.inj ei2
  obtain ⟨i3, ei3⟩ := is_v ga3
  obtain rfl : w3 = (.int i3) := Option.some.inj ei3
  obtain ⟨n, o, h1, h2, h3, _, L, rfl, ⟨rfl, N⟩, hq⟩ := rm_law l s _ hw tables_1 i0 i1 i2 i3  s.heap s.heap.size (Nat.le_refl _)  p e ha hc hk s m _ below hf ((Spec.applies_iff_loose hf).mp happ).1 ⟨rfl, State.Warmed39.refl s, rfl⟩ trivial
  refine ⟨n, _, h1, h2, h3, hpost _ _ _ _ _ _ ⟨Cond.after_iff.mpr rfl, Cond.after_iff.mpr (eq_i res_at (Term.int_eval (1)) rfl), trivial⟩ ⟨hq.1, hq.2.1, (hq.2.2.sift fun y hy => Or.inr (N y hy)).mono (by decide) (by decide)⟩⟩
theorem main_1_1 : Claimed_1_1 := comes_1 fun _ _ _ _ _ _ h hF => ⟨h.1, hF⟩
theorem main_1_2 : Claimed_1_2 := comes_1 fun _ _ _ _ _ _ h hF => ⟨h.2.1, hF⟩
end Jvm.Pilot.@@N@@
namespace Jvm.Pilot.@@N@@
open Jvm Jvm.ClassFile Sem Op Lib Jvm.Free Jvm.Stand Jvm.Pilot.@@N@@.Jvm.D
/-! MADE BY PROGRAM (witnessworld.py) out of the Statement's table words and the real class files: 9 classes; the members and pool entries that the words name. The judged class is class 1, her method 1. -/
namespace start1
open Jvm.ClassFile
def u (s : String) : CpInfo := .utf8 (stringToUtf16 s)
/-- a pool by its gaps: so many unusable entries, then the entry; so many at the end -/
def gap : Nat → List CpInfo → List CpInfo
  | 0, r => r
  | n + 1, r => .unusable :: gap n r
def poolList (es : List (Nat × CpInfo)) (last : Nat) : List CpInfo := es.foldr (fun e r => gap e.1 (e.2 :: r)) (gap last [])
def pool (es : List (Nat × CpInfo)) (last : Nat) : Array CpInfo := ⟨poolList es last⟩
def fileOf (pool : Array CpInfo) (this : Nat) (attrs : Array Attribute := #[]) (ms : Array MethodInfo := #[]) (fl : Nat := 33) (sup : Nat := 0) (ifs : Array Nat := #[]) (fds : Array FieldInfo := #[]) : ClassFile where
  minorVersion := 0
  majorVersion := 65
  constantPool := pool
  accessFlags := fl
  thisClass := this
  superClass := sup
  interfaces := ifs
  fields := fds
  methods := ms
  attributes := attrs
def plain (name : String) (sup : Option ClassId) : Class where
  name := name
  kind := .ordinary
  loader := none
  accessFlags := 33
  super := sup
  interfaces := #[]
  cf := none
  fields := #[]
  methods := #[]
  instanceTypes := #[]
  staticTypes := #[]
  resolved := #[]
  callSites := []
  init := .initialized
  statics := none
  mirror := none

def pool0 : Array CpInfo := pool [(5, u "<init>"), (0, u "()V"), (1, .class_ 10), (1, u "java/lang/Object")] 113

def k0c0 : Code := { maxStack := 0, maxLocals := 1, code := object_method_1_code, exceptionTable := #[], attributes := #[] }
def k0m0 : Method := { name := "<init>", desc := "()V", sig := { parameters := [], returnType := none }, accessFlags := 1, code := some k0c0 }
/-- java/lang/Object -/
def k0 : Class := { plain "java/lang/Object" none with
  accessFlags := 33
  interfaces := #[]
  cf := some (fileOf pool0 8 #[] #[{ accessFlags := 1, nameIndex := 5, descriptorIndex := 6, attributes := #[] }] 33 0 #[] #[])
  fields := #[]
  methods := #[k0m0]
  instanceTypes := #[]
  staticTypes := #[]
  resolved := Array.replicate 124 none
  statics := none }

def pool1 : Array CpInfo := pool [(2, .class_ 4), (1, u "java/lang/Object"), (0, u "<init>"), (0, u "()V"), (0, .integer 1114111), (0, .integer 2147483647), (0, .methodref 10 11), (0, .class_ 12), (0, .nameAndType 13 14), (0, u "com/example/tenon/tenon/regex/CodePoints"), (0, u "range"), (0, u "(II)Lcom/example/tenon/tenon/regex/CodePoints;"), (0, .methodref 10 16), (0, .nameAndType 17 18), (0, u "isEmpty"), (0, u "()Z"), (0, .methodref 10 20), (0, .nameAndType 21 22), (0, u "contains"), (0, u "(I)Z"), (0, .class_ 24), (0, u "com/example/tenon/tenon/regex/CodePointsRangePinLaw"), (2, u "law"), (0, u "(IIII)Z")] 3

def k1m0 : Method := { name := "<init>", desc := "()V", sig := { parameters := [], returnType := none }, accessFlags := 1, code := none }
def k1c1 : Code := { maxStack := 4, maxLocals := 12, code := code, exceptionTable := #[], attributes := #[] }
def k1m1 : Method := { name := "law", desc := "(IIII)Z", sig := { parameters := [.int, .int, .int, .int], returnType := some .boolean }, accessFlags := 9, code := some k1c1 }
/-- com/example/tenon/tenon/regex/CodePointsRangePinLaw -/
def k1 : Class := { plain "com/example/tenon/tenon/regex/CodePointsRangePinLaw" (some 0) with
  accessFlags := 49
  interfaces := #[]
  cf := some (fileOf pool1 23 #[] #[{ accessFlags := 1, nameIndex := 5, descriptorIndex := 6, attributes := #[] }, { accessFlags := 9, nameIndex := 27, descriptorIndex := 28, attributes := #[] }] 49 2 #[] #[])
  fields := #[]
  methods := #[k1m0, k1m1]
  instanceTypes := #[]
  staticTypes := #[]
  resolved := Array.replicate 32 none
  statics := none }

def pool2 : Array CpInfo := pool [(1, .methodref 2 3), (0, .class_ 4), (0, .nameAndType 5 6), (0, u "java/lang/Object"), (0, u "<init>"), (0, u "()V"), (0, .fieldref 8 9), (0, .class_ 10), (0, .nameAndType 11 12), (0, u "com/example/tenon/tenon/regex/CodePoints"), (0, u "bounds"), (0, u "[I"), (2, u "range"), (0, u "(II)Lcom/example/tenon/tenon/regex/CodePoints;"), (0, .methodref 8 18), (0, .nameAndType 5 19), (0, u "([I)V"), (24, u "()Z"), (42, u "isEmpty"), (36, u "NONE"), (0, u "Lcom/example/tenon/tenon/regex/CodePoints;"), (2, u "ALL"), (13, u "contains"), (0, u "(I)Z")] 35

def k2c0 : Code := { maxStack := 2, maxLocals := 2, code := prog_9_method_1_code, exceptionTable := #[], attributes := #[] }
def k2m0 : Method := { name := "<init>", desc := "([I)V", sig := { parameters := [(.array .int)], returnType := none }, accessFlags := 2, code := some k2c0 }
def k2c1 : Code := { maxStack := 6, maxLocals := 2, code := prog_9_method_3_code, exceptionTable := #[], attributes := #[] }
def k2m1 : Method := { name := "range", desc := "(II)Lcom/example/tenon/tenon/regex/CodePoints;", sig := { parameters := [.int, .int], returnType := some (.object "com/example/tenon/tenon/regex/CodePoints") }, accessFlags := 8, code := some k2c1 }
def k2c2 : Code := { maxStack := 4, maxLocals := 5, code := prog_9_method_7_code, exceptionTable := #[], attributes := #[] }
def k2m2 : Method := { name := "contains", desc := "(I)Z", sig := { parameters := [.int], returnType := some .boolean }, accessFlags := 0, code := some k2c2 }
def k2c3 : Code := { maxStack := 1, maxLocals := 1, code := prog_9_method_8_code, exceptionTable := #[], attributes := #[] }
def k2m3 : Method := { name := "isEmpty", desc := "()Z", sig := { parameters := [], returnType := some .boolean }, accessFlags := 0, code := some k2c3 }
/-- com/example/tenon/tenon/regex/CodePoints -/
def k2 : Class := { plain "com/example/tenon/tenon/regex/CodePoints" (some 0) with
  accessFlags := 48
  interfaces := #[]
  cf := some (fileOf pool2 8 #[] #[{ accessFlags := 2, nameIndex := 5, descriptorIndex := 19, attributes := #[] }, { accessFlags := 8, nameIndex := 15, descriptorIndex := 16, attributes := #[] }, { accessFlags := 0, nameIndex := 142, descriptorIndex := 143, attributes := #[] }, { accessFlags := 0, nameIndex := 87, descriptorIndex := 44, attributes := #[] }] 48 2 #[] #[{ accessFlags := 24, nameIndex := 124, descriptorIndex := 125, attributes := #[] }, { accessFlags := 24, nameIndex := 128, descriptorIndex := 125, attributes := #[] }, { accessFlags := 18, nameIndex := 11, descriptorIndex := 12, attributes := #[] }])
  fields := #[{ name := "NONE", type := (.object "com/example/tenon/tenon/regex/CodePoints"), accessFlags := 24, slot := 0, constantValue := 0 }, { name := "ALL", type := (.object "com/example/tenon/tenon/regex/CodePoints"), accessFlags := 24, slot := 1, constantValue := 0 }, { name := "bounds", type := (.array .int), accessFlags := 18, slot := 0, constantValue := 0 }]
  methods := #[k2m0, k2m1, k2m2, k2m3]
  instanceTypes := #[(.array .int)]
  staticTypes := #[(.object "com/example/tenon/tenon/regex/CodePoints"), (.object "com/example/tenon/tenon/regex/CodePoints")]
  resolved := Array.replicate 179 none
  statics := none }

def pool3 : Array CpInfo := pool [(1, u "java/lang/Cloneable"), (0, .class_ 1), (0, u "java/lang/Object"), (0, .class_ 3)] 3

/-- java/lang/Cloneable -/
def k3 : Class := { plain "java/lang/Cloneable" (some 0) with
  accessFlags := 1537
  interfaces := #[]
  cf := some (fileOf pool3 2 #[] #[] 1537 4 #[] #[])
  fields := #[]
  methods := #[]
  instanceTypes := #[]
  staticTypes := #[]
  resolved := Array.replicate 8 none
  statics := none }

def pool4 : Array CpInfo := pool [(1, u "java/io/Serializable"), (0, .class_ 1), (0, u "java/lang/Object"), (0, .class_ 3)] 3

/-- java/io/Serializable -/
def k4 : Class := { plain "java/io/Serializable" (some 0) with
  accessFlags := 1537
  interfaces := #[]
  cf := some (fileOf pool4 2 #[] #[] 1537 4 #[] #[])
  fields := #[]
  methods := #[]
  instanceTypes := #[]
  staticTypes := #[]
  resolved := Array.replicate 8 none
  statics := none }

/-- the primitive byte -/
def k5 : Class := { plain "byte" none with kind := .primitive 'B', accessFlags := 0x411 }
/-- [B -/
def k6 : Class := { plain "[B" (some 0) with kind := .array 5 .byte, interfaces := #[3, 4], accessFlags := 1041 }

/-- the primitive int -/
def k7 : Class := { plain "int" none with kind := .primitive 'I', accessFlags := 0x411 }
/-- [I -/
def k8 : Class := { plain "[I" (some 0) with kind := .array 7 .int, interfaces := #[3, 4], accessFlags := 1041 }

def heap : Heap := #[]
def classes : Array Class := #[k0, k1, k2, k3, k4, k5, k6, k7, k8]
def interned : List (Array UInt16 × Addr) := []
def slotsUsed : Nat := 0
def theMethod : MethodId := ⟨1, 1⟩
def args0 : Array Value := #[.int 5, .int 7, .int 3, .int 2]
def aboutOver (below : List Frame) : State where
  vm := { classes := classes, interned := interned.toArray }
  heap := heap
  slotsUsed := slotsUsed
  threads := #[{ frames := .invoking theMethod args0 :: below }]
def below0 : List Frame := [.native { method := ⟨0, 0⟩, args := #[] }]
def about1 : State := aboutOver below0
def p0 : Program := .bare "" "" ""
def e0 : Env := launch0.env 0 0 0
theorem w_frames : about1.frames = Frame.invoking theMethod args0 :: below0 := rfl
set_option maxRecDepth 65536 in
theorem w_args : argsFit about1.vm theMethod args0 = true := by decide +kernel
set_option maxRecDepth 65536 in
theorem w_heap : heapFits about1 = true := by decide +kernel
set_option maxRecDepth 65536 in
theorem w_runnable : about1.curStatus? = some .runnable := by decide +kernel
set_option maxRecDepth 65536 in
theorem w_alone : about1.alone = true := by decide +kernel
set_option maxRecDepth 65536 in
theorem w_named : about1.methodNamed? x = some theMethod := by decide +kernel
set_option maxRecDepth 65536 in
theorem w_hears : about1.hears theMethod below0 = true := by decide +kernel
set_option maxRecDepth 65536 in
theorem w_ripe : about1.ripe theMethod args0 below0 = true := by decide +kernel
theorem w_running : about1.status = .running := rfl
set_option maxRecDepth 65536 in
theorem w_room : about1.hasRoom e0.platform room_1 = true :=
  launch0.hasRoom_least _ room_1 (by decide +kernel) (by decide +kernel) (by decide +kernel) (by decide +kernel) (by decide +kernel) (by decide +kernel)
theorem allAtoms_all (ts : List Jvm.Cond) (a : Array Jvm.Value) (st : Jvm.State) : (allAtoms ts).before a st = ts.all (fun c => c.before a st) := by
  induction ts with
  | nil => rfl
  | cons c t ih =>
    show (Jvm.Cond.and c (allAtoms t)).before a st = _
    rw [Jvm.Cond.before_and, ih, List.all_cons]
def words1 : List Jvm.Cond := Jvm.Cond.code x code maxLocals ret :: tables_1
/-- a 'code' word, met by the world's own term for the bytes: nothing is compared byte by byte -/
theorem code_word {y : MethodName} {bytes : ByteArray} {mx : Nat} {rt : Option FieldType} {a : Array Value} {s : State} {m : MethodId} {meth : Method} {c : Code} (h1 : s.methodNamed? y = some m) (h2 : s.vm.method? m = some meth) (h3 : meth.code = some c) (h4 : c.code = bytes)
    (h5 : (c.maxLocals == mx && c.exceptionTable.isEmpty && decide (c.maxStack ≤ mostOperands) && decide (meth.sig.returnType = rt) && !meth.locks && decide (parseMethodDescriptor y.desc = some meth.sig)) = true) : (Jvm.Cond.code y bytes mx rt).before a s = true := by
  simp only [Bool.and_eq_true, beq_iff_eq, Bool.not_eq_true', decide_eq_true_eq] at h5
  obtain ⟨⟨⟨⟨⟨g1, g2⟩, g3⟩, g4⟩, g5⟩, g6⟩ := h5
  simp [Cond.before, Cond.holds, Cond.value, h1, h2, h3, h4, g1, g2, g3, g4, g5, g6]
def isCode : Jvm.Cond → Bool
  | .code _ _ _ _ => true
  | _ => false
theorem all_split {L : List Jvm.Cond} {P : Jvm.Cond → Bool} (h1 : L.all (fun c => isCode c || P c) = true) (h2 : ∀ c ∈ L.filter isCode, P c = true) : L.all P = true := by
  refine List.all_eq_true.mpr fun c hc => ?_
  have h := List.all_eq_true.mp h1 c hc
  rcases Bool.eq_false_or_eq_true (isCode c) with hi | hi
  · exact h2 c (List.mem_filter.mpr ⟨hc, hi⟩)
  · simpa [hi] using h
set_option maxRecDepth 65536 in
theorem w_c0 : (Jvm.Cond.code x code maxLocals ret).before args0 about1 = true := code_word (m := ⟨1, 1⟩) (meth := k1m1) (c := k1c1) (by decide +kernel) rfl rfl rfl (by decide +kernel)
set_option maxRecDepth 65536 in
theorem w_c1 : (Jvm.Cond.code ({ cls := "com/example/tenon/tenon/regex/CodePoints", name := "range", desc := "(II)Lcom/example/tenon/tenon/regex/CodePoints;" } : Jvm.MethodName) prog_9_method_3_code (2 : Nat) (Option.some (Jvm.ClassFile.FieldType.object "com/example/tenon/tenon/regex/CodePoints"))).before args0 about1 = true := code_word (m := ⟨2, 1⟩) (meth := k2m1) (c := k2c1) (by decide +kernel) rfl rfl rfl (by decide +kernel)
set_option maxRecDepth 65536 in
theorem w_c2 : (Jvm.Cond.code ({ cls := "com/example/tenon/tenon/regex/CodePoints", name := "<init>", desc := "([I)V" } : Jvm.MethodName) prog_9_method_1_code (2 : Nat) (Option.none : Option Jvm.ClassFile.FieldType)).before args0 about1 = true := code_word (m := ⟨2, 0⟩) (meth := k2m0) (c := k2c0) (by decide +kernel) rfl rfl rfl (by decide +kernel)
set_option maxRecDepth 65536 in
theorem w_c3 : (Jvm.Cond.code ({ cls := "java/lang/Object", name := "<init>", desc := "()V" } : Jvm.MethodName) object_method_1_code (1 : Nat) (Option.none : Option Jvm.ClassFile.FieldType)).before args0 about1 = true := code_word (m := ⟨0, 0⟩) (meth := k0m0) (c := k0c0) (by decide +kernel) rfl rfl rfl (by decide +kernel)
set_option maxRecDepth 65536 in
theorem w_c4 : (Jvm.Cond.code ({ cls := "com/example/tenon/tenon/regex/CodePoints", name := "isEmpty", desc := "()Z" } : Jvm.MethodName) prog_9_method_8_code (1 : Nat) (Option.some Jvm.ClassFile.FieldType.boolean)).before args0 about1 = true := code_word (m := ⟨2, 3⟩) (meth := k2m3) (c := k2c3) (by decide +kernel) rfl rfl rfl (by decide +kernel)
set_option maxRecDepth 65536 in
theorem w_c5 : (Jvm.Cond.code ({ cls := "com/example/tenon/tenon/regex/CodePoints", name := "contains", desc := "(I)Z" } : Jvm.MethodName) prog_9_method_7_code (5 : Nat) (Option.some Jvm.ClassFile.FieldType.boolean)).before args0 about1 = true := code_word (m := ⟨2, 2⟩) (meth := k2m2) (c := k2c2) (by decide +kernel) rfl rfl rfl (by decide +kernel)
def codes1 : List Jvm.Cond := [Jvm.Cond.code x code maxLocals ret, Jvm.Cond.code ({ cls := "com/example/tenon/tenon/regex/CodePoints", name := "range", desc := "(II)Lcom/example/tenon/tenon/regex/CodePoints;" } : Jvm.MethodName) prog_9_method_3_code (2 : Nat) (Option.some (Jvm.ClassFile.FieldType.object "com/example/tenon/tenon/regex/CodePoints")), Jvm.Cond.code ({ cls := "com/example/tenon/tenon/regex/CodePoints", name := "<init>", desc := "([I)V" } : Jvm.MethodName) prog_9_method_1_code (2 : Nat) (Option.none : Option Jvm.ClassFile.FieldType), Jvm.Cond.code ({ cls := "java/lang/Object", name := "<init>", desc := "()V" } : Jvm.MethodName) object_method_1_code (1 : Nat) (Option.none : Option Jvm.ClassFile.FieldType), Jvm.Cond.code ({ cls := "com/example/tenon/tenon/regex/CodePoints", name := "isEmpty", desc := "()Z" } : Jvm.MethodName) prog_9_method_8_code (1 : Nat) (Option.some Jvm.ClassFile.FieldType.boolean), Jvm.Cond.code ({ cls := "com/example/tenon/tenon/regex/CodePoints", name := "contains", desc := "(I)Z" } : Jvm.MethodName) prog_9_method_7_code (5 : Nat) (Option.some Jvm.ClassFile.FieldType.boolean)]
set_option maxRecDepth 65536 in
theorem codes_eq : words1.filter isCode = codes1 := rfl
theorem w_codes : ∀ c ∈ words1.filter isCode, c.before args0 about1 = true := by
  rw [codes_eq]
  intro c hc
  simp only [codes1, List.mem_cons, List.not_mem_nil, or_false] at hc
  rcases hc with rfl | rfl | rfl | rfl | rfl | rfl
  · exact w_c0
  · exact w_c1
  · exact w_c2
  · exact w_c3
  · exact w_c4
  · exact w_c5
set_option maxRecDepth 65536 in
theorem w_t1 : (words1.take 24).all (fun c => isCode c || c.before args0 about1) = true := by decide +kernel
set_option maxRecDepth 65536 in
theorem w_t2 : (words1.drop 24).all (fun c => isCode c || c.before args0 about1) = true := by decide +kernel
theorem w_tables : (allAtoms (Jvm.Cond.code x code maxLocals ret :: tables_1)).before args0 about1 = true := by
  rw [allAtoms_all]
  show words1.all (fun c => c.before args0 about1) = true
  refine all_split ?_ w_codes
  rw [← List.take_append_drop 24 words1, List.all_append, w_t1, w_t2]
  rfl
set_option maxRecDepth 65536 in
theorem w_case : (Jvm.Cond.and given_1 narrow_1).before args0 about1 = true := by decide +kernel
theorem w_applies : (headSpec (Jvm.Cond.code x code maxLocals ret :: tables_1) room_1).applies x e0.platform about1 = true :=
  (Spec.applies_iff w_frames).mpr ⟨w_running, w_runnable, w_alone, w_named, w_hears, w_ripe, w_room, w_tables⟩
theorem atStart : AtStart classFile x code maxLocals ret World_1 tables_1 room_1 Calls_1 rest_1 Pre_1 launch0 p0 e0 about1 theMethod args0 below0 :=
  ⟨lists_1, trivial, launch0.admits_env _ _ _, launch0.least_env, fairChoices_fair.cas, fairChoices_fair.clock, w_frames, w_args, w_heap, w_applies, trivial, trivial, w_case⟩
end start1
theorem witness_1 : WitnessClaimed_1 := ⟨start1.p0, start1.e0, start1.about1, start1.theMethod, start1.args0, start1.below0, start1.atStart⟩
end Jvm.Pilot.@@N@@
