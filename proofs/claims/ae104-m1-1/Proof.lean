import JvmDerived
import JvmDerived.Pilot.@@N@@Statement
import JvmDerived.Pilot.@@N@@Code
set_option linter.unusedVariables false
set_option linter.unusedSimpArgs false
namespace Jvm.Pilot.@@N@@
open Jvm Jvm.ClassFile Sem Op Lib Jvm.Free Jvm.Stand Jvm.LawKit Jvm.RoadKit Bundle Jvm.Pilot.@@N@@.Jvm.D
section Own
variable {p : Program} {l : Launch} {e : Env} {R : Room} {s : State} {m : MethodId} {args : Array Value} {below : List Frame} {meth : Method} {c : Code} {T : State} {locs : List Loc} {cells slots : Nat} {Q : Outcome → State → Prop} {Z : State} {a0 : Array Value} {h : Heap}
/-- from T, with g on top, the run ends as Q says -/
def Ends (p : Program) (e : Env) (below : List Frame) (Q : Outcome → State → Prop) (T : State) (g : JFrame) : Prop :=
  ∃ s₂ o, Steps p.tables e below (T.setTop g) s₂ ∧ s₂.status = .running ∧ Ended s₂ below o ∧ Q o s₂
theorem Ends.go {T' : State} {g g' : JFrame} (st : ∀ t, Steps p.tables e below (T'.setTop g') t → Steps p.tables e below (T.setTop g) t) (k : Ends p e below Q T' g') : Ends p e below Q T g := by
  obtain ⟨s₂, o, h1, r⟩ := k
  exact ⟨s₂, o, st _ h1, r⟩
theorem Ends.cast {g g' : JFrame} (q : g = g') (k : Ends p e below Q T g') : Ends p e below Q T g := q ▸ k
/-- what a body that returns leaves -/
def Out (s : State) (ce sl : Nat) (Qv : Option Value → Heap → List Loc → Prop) (o : Outcome) (U : State) : Prop := ∃ v L, o = .returned v ∧ Qv v U.heap L ∧ FrameEnd s o U L ce sl
theorem ow_body {y : MethodName} {bytes : ByteArray} {ml : Nat} {ret : Option FieldType} {ws : List Jvm.Cond} {rm : Room} {as : Array Value} {ce sl : Nat} {Qv : Option Value → Heap → List Loc → Prop} (hp : plainFor y = true)
    (body : ∀ (p : Program) (e : Env) (s : State) (m : MethodId) (below : List Frame) (meth : Method) (c : Code) (T : State), Stand p l e rm s m as below meth c T [] 0 0 → p.tables.exec = Jvm.exec → Z.Warmed39 s.vm → c.code = bytes → c.maxLocals = ml → s.vm.findClass y.cls = some m.cls → meth.name = y.name → meth.sig.returnType = ret → meth.locks = false → T.heap = h → Ends p e below (Out s ce sl Qv) T (entryFrame m as ml)) :
    MetFree l y (head1 (Jvm.Cond.code y bytes ml ret :: ws) rm) (fun a U => a = as ∧ Z.Warmed39 U.vm ∧ U.heap = h) (fun _ _ _ _ _ => True) (fun _ U o U' => ∃ v L, o = .returned v ∧ Qv v U'.heap L ∧ FrameEnd U o U' L ce sl) := by
  refine MetFree.of_bodySF hp hisR ?_
  intro p e s m args below meth c s₁ Bd hml0 hP hK
  obtain ⟨rfl, hZ, hh⟩ := hP
  exact body p e s m below meth c s₁ (Stand.of_body Bd) Bd.exec hZ Bd.bytes hml0 (findClass_of_methodNamed Bd.named) (name_of_methodNamed Bd.named Bd.method).1 Bd.returns Bd.notSynchronized (by rw [← hh, Bd.state]; rfl)
theorem ow_iload (X : Stand p l e R s m args below meth c T locs cells slots) (hx : p.tables.exec = Jvm.exec) {pc pc' : Nat} {Ls : Array Slot} {St : List Value} {k : Nat} {v : Int32} (hd : decode c.code pc = .ok (.iload k, 2)) (hl : Ls[k]? = some (.val (.int v))) (hp : pc + 2 = pc') (kk : Ends p e below Q T (mkF m pc' Ls (.int v :: St))) : Ends p e below Q T (mkF m pc Ls St) := by subst hp; exact Ends.go (fun _ q => XS.iload X.here hx rfl hd hl q) kk
theorem ow_iloadN (X : Stand p l e R s m args below meth c T locs cells slots) (hx : p.tables.exec = Jvm.exec) {pc pc' : Nat} {Ls : Array Slot} {St : List Value} {k : Fin 4} {v : Int32} (hd : decode c.code pc = .ok (.iload_n k, 1)) (hl : Ls[k.val]? = some (.val (.int v))) (hp : pc + 1 = pc') (kk : Ends p e below Q T (mkF m pc' Ls (.int v :: St))) : Ends p e below Q T (mkF m pc Ls St) := by subst hp; exact Ends.go (fun _ q => XS.iloadN X.here hx rfl hd hl q) kk
theorem ow_aloadN (X : Stand p l e R s m args below meth c T locs cells slots) (hx : p.tables.exec = Jvm.exec) {pc pc' : Nat} {Ls : Array Slot} {St : List Value} {k : Fin 4} {v : Value} (hd : decode c.code pc = .ok (.aload_n k, 1)) (hl : Ls[k.val]? = some (.val v)) (hv : v.isRef = true) (hp : pc + 1 = pc') (kk : Ends p e below Q T (mkF m pc' Ls (v :: St))) : Ends p e below Q T (mkF m pc Ls St) := by subst hp; exact Ends.go (fun _ q => XS.aloadN X.here hx rfl hd hl hv q) kk
theorem ow_istore (X : Stand p l e R s m args below meth c T locs cells slots) (hx : p.tables.exec = Jvm.exec) {pc pc' : Nat} {Ls : Array Slot} {Ls' : Array Slot} {St : List Value} {k : Nat} {v : Int32} (hd : decode c.code pc = .ok (.istore k, 2)) (hl : storeLocals Ls k (.int v) = some Ls') (hp : pc + 2 = pc') (kk : Ends p e below Q T (mkF m pc' Ls' St)) : Ends p e below Q T (mkF m pc Ls (.int v :: St)) := by subst hp; exact Ends.go (fun _ q => XS.istore X.here hx rfl hd rfl hl q) kk
theorem ow_istoreN (X : Stand p l e R s m args below meth c T locs cells slots) (hx : p.tables.exec = Jvm.exec) {pc pc' : Nat} {Ls : Array Slot} {Ls' : Array Slot} {St : List Value} {k : Fin 4} {v : Int32} (hd : decode c.code pc = .ok (.istore_n k, 1)) (hl : storeLocals Ls k.val (.int v) = some Ls') (hp : pc + 1 = pc') (kk : Ends p e below Q T (mkF m pc' Ls' St)) : Ends p e below Q T (mkF m pc Ls (.int v :: St)) := by subst hp; exact Ends.go (fun _ q => XS.istoreN X.here hx rfl hd rfl hl q) kk
theorem ow_astoreN (X : Stand p l e R s m args below meth c T locs cells slots) (hx : p.tables.exec = Jvm.exec) {pc pc' : Nat} {Ls : Array Slot} {Ls' : Array Slot} {St : List Value} {k : Fin 4} {v : Value} (hd : decode c.code pc = .ok (.astore_n k, 1)) (hv : v.isRef = true) (hl : storeLocals Ls k.val v = some Ls') (hp : pc + 1 = pc') (kk : Ends p e below Q T (mkF m pc' Ls' St)) : Ends p e below Q T (mkF m pc Ls (v :: St)) := by subst hp; exact Ends.go (fun _ q => XS.astoreN X.here hx rfl hd rfl hv hl q) kk
theorem ow_iconst (X : Stand p l e R s m args below meth c T locs cells slots) (hx : p.tables.exec = Jvm.exec) {pc pc' : Nat} {Ls : Array Slot} {St : List Value} {i : Int} {z : Int32} (hd : decode c.code pc = .ok (.iconst i, 1)) (hz : Int32.ofInt i = z) (hp : pc + 1 = pc') (kk : Ends p e below Q T (mkF m pc' Ls (.int z :: St))) : Ends p e below Q T (mkF m pc Ls St) := by subst hp hz; exact Ends.go (fun _ q => XS.iconst X.here hx rfl hd q) kk
theorem ow_bipush (X : Stand p l e R s m args below meth c T locs cells slots) (hx : p.tables.exec = Jvm.exec) {pc pc' : Nat} {Ls : Array Slot} {St : List Value} {i : Int} {z : Int32} (hd : decode c.code pc = .ok (.bipush i, 2)) (hz : (Int8.ofInt i).toInt32 = z) (hp : pc + 2 = pc') (kk : Ends p e below Q T (mkF m pc' Ls (.int z :: St))) : Ends p e below Q T (mkF m pc Ls St) := by subst hp hz; exact Ends.go (fun _ q => XS.bipush X.here hx rfl hd q) kk
theorem ow_sipush (X : Stand p l e R s m args below meth c T locs cells slots) (hx : p.tables.exec = Jvm.exec) {pc pc' : Nat} {Ls : Array Slot} {St : List Value} {i : Int} {z : Int32} (hd : decode c.code pc = .ok (.sipush i, 3)) (hz : (Int16.ofInt i).toInt32 = z) (hp : pc + 3 = pc') (kk : Ends p e below Q T (mkF m pc' Ls (.int z :: St))) : Ends p e below Q T (mkF m pc Ls St) := by subst hp hz; exact Ends.go (fun _ q => XS.sipush X.here hx rfl hd q) kk
theorem ow_ldcInt (X : Stand p l e R s m args below meth c T locs cells slots) (hx : p.tables.exec = Jvm.exec) (hZ : Z.Warmed39 s.vm) {own : String} {i : Nat} {z : Int32} (hown : s.vm.findClass own = some m.cls) (w : (Jvm.Cond.constant own i z).before a0 Z = true) {pc pc' : Nat} {Ls : Array Slot} {St : List Value} (hd : decode c.code pc = .ok (.ldc i, 2)) (hp : pc + 2 = pc') (kk : Ends p e below Q T (mkF m pc' Ls (.int z :: St))) : Ends p e below Q T (mkF m pc Ls St) := by subst hp; exact Ends.go (X.ldcInt hx hown (mvT hZ w) (g := mkF m pc Ls St) rfl hd) kk
theorem ow_isub (X : Stand p l e R s m args below meth c T locs cells slots) (hx : p.tables.exec = Jvm.exec) {pc pc' : Nat} {Ls : Array Slot} {St : List Value} {x : Int32} {y : Int32} (hd : decode c.code pc = .ok (.isub, 1)) (hp : pc + 1 = pc') (kk : ∀ z : Int32, z = x - y → Ends p e below Q T (mkF m pc' Ls (.int z :: St))) : Ends p e below Q T (mkF m pc Ls (.int y :: .int x :: St)) := by subst hp; exact Ends.go (fun _ q => XS.isub X.here hx rfl hd rfl q) (kk _ rfl)
theorem ow_iand (X : Stand p l e R s m args below meth c T locs cells slots) (hx : p.tables.exec = Jvm.exec) {pc pc' : Nat} {Ls : Array Slot} {St : List Value} {x : Int32} {y : Int32} (hd : decode c.code pc = .ok (.iand, 1)) (hp : pc + 1 = pc') (kk : ∀ z : Int32, z = x &&& y → Ends p e below Q T (mkF m pc' Ls (.int z :: St))) : Ends p e below Q T (mkF m pc Ls (.int y :: .int x :: St)) := by subst hp; exact Ends.go (fun _ q => XS.iand X.here hx rfl hd rfl q) (kk _ rfl)
theorem ow_irem (X : Stand p l e R s m args below meth c T locs cells slots) (hx : p.tables.exec = Jvm.exec) {pc pc' : Nat} {Ls : Array Slot} {St : List Value} {x : Int32} {y : Int32} (hd : decode c.code pc = .ok (.irem, 1)) (hy : y ≠ 0) (hp : pc + 1 = pc') (kk : ∀ z : Int32, z = x % y → Ends p e below Q T (mkF m pc' Ls (.int z :: St))) : Ends p e below Q T (mkF m pc Ls (.int y :: .int x :: St)) := by subst hp; exact Ends.go (fun _ q => iremM (g := mkF m pc Ls (.int y :: .int x :: St)) X hx rfl hd rfl hy q) (kk _ rfl)
theorem ow_dup (X : Stand p l e R s m args below meth c T locs cells slots) (hx : p.tables.exec = Jvm.exec) {pc pc' : Nat} {Ls : Array Slot} {St : List Value} {v : Value} (hd : decode c.code pc = .ok (.dup, 1)) (hc : v.category = 1) (hp : pc + 1 = pc') (kk : Ends p e below Q T (mkF m pc' Ls (v :: v :: St))) : Ends p e below Q T (mkF m pc Ls (v :: St)) := by subst hp; exact Ends.go (fun _ q => XS.dup X.here hx rfl hd rfl hc q) kk
theorem ow_goto (X : Stand p l e R s m args below meth c T locs cells slots) (hx : p.tables.exec = Jvm.exec) {pc pc' : Nat} {Ls : Array Slot} {St : List Value} {o : Int} (hd : decode c.code pc = .ok (.goto o, 3)) (ho : 0 ≤ (pc : Int) + o) (hp : ((pc : Int) + o).toNat = pc') (kk : Ends p e below Q T (mkF m pc' Ls St)) : Ends p e below Q T (mkF m pc Ls St) := Ends.go (fun _ q => XS.goto X.here hx rfl (pc0 := pc) (pc' := pc') rfl hd ho hp q) kk
theorem ow_icmpY (X : Stand p l e R s m args below meth c T locs cells slots) (hx : p.tables.exec = Jvm.exec) {pc pc' : Nat} {Ls : Array Slot} {St : List Value} {cd : ClassFile.Cond} {x y : Int32} {o : Int} (hd : decode c.code pc = .ok (.if_icmp cd o, 3)) (hc : if_icmp.holds cd x y = true) (ho : 0 ≤ (pc : Int) + o) (hp : ((pc : Int) + o).toNat = pc') (kk : Ends p e below Q T (mkF m pc' Ls St)) : Ends p e below Q T (mkF m pc Ls (.int y :: .int x :: St)) := Ends.go (fun _ q => XS.icmpYes X.here hx rfl (pc0 := pc) (pc' := pc') rfl hd rfl hc ho hp q) kk
theorem ow_icmpN (X : Stand p l e R s m args below meth c T locs cells slots) (hx : p.tables.exec = Jvm.exec) {pc pc' : Nat} {Ls : Array Slot} {St : List Value} {cd : ClassFile.Cond} {x y : Int32} {o : Int} (hd : decode c.code pc = .ok (.if_icmp cd o, 3)) (hc : if_icmp.holds cd x y = false) (hp : pc + 3 = pc') (kk : Ends p e below Q T (mkF m pc' Ls St)) : Ends p e below Q T (mkF m pc Ls (.int y :: .int x :: St)) := by subst hp; exact Ends.go (fun _ q => XS.icmpNo X.here hx rfl hd rfl hc q) kk
theorem ow_ifY (X : Stand p l e R s m args below meth c T locs cells slots) (hx : p.tables.exec = Jvm.exec) {pc pc' : Nat} {Ls : Array Slot} {St : List Value} {cd : ClassFile.Cond} {x : Int32} {o : Int} (hd : decode c.code pc = .ok (.ifCond cd o, 3)) (hc : if_icmp.holds cd x 0 = true) (ho : 0 ≤ (pc : Int) + o) (hp : ((pc : Int) + o).toNat = pc') (kk : Ends p e below Q T (mkF m pc' Ls St)) : Ends p e below Q T (mkF m pc Ls (.int x :: St)) := Ends.go (fun _ q => XS.ifYes X.here hx rfl (pc0 := pc) (pc' := pc') rfl hd rfl ((if0 _ _).trans hc) ho hp q) kk
theorem ow_ifN (X : Stand p l e R s m args below meth c T locs cells slots) (hx : p.tables.exec = Jvm.exec) {pc pc' : Nat} {Ls : Array Slot} {St : List Value} {cd : ClassFile.Cond} {x : Int32} {o : Int} (hd : decode c.code pc = .ok (.ifCond cd o, 3)) (hc : if_icmp.holds cd x 0 = false) (hp : pc + 3 = pc') (kk : Ends p e below Q T (mkF m pc' Ls St)) : Ends p e below Q T (mkF m pc Ls (.int x :: St)) := by subst hp; exact Ends.go (fun _ q => XS.ifNo X.here hx rfl hd rfl ((if0 _ _).trans hc) q) kk
/-- the six comparisons, said of the signed worth -/
def cmpI : ClassFile.Cond → Int → Int → Prop
  | .eq, a, b => a = b
  | .ne, a, b => ¬ a = b
  | .lt, a, b => a < b
  | .ge, a, b => ¬ a < b
  | .gt, a, b => b < a
  | .le, a, b => ¬ b < a
theorem cmpI_y {cd : ClassFile.Cond} {x y : Int32} (q : cmpI cd x.toInt y.toInt) : if_icmp.holds cd x y = true := by
  cases cd <;> simp only [cmpI] at q <;> simp [if_icmp.holds, ← Int32.toInt_inj, Int32.lt_iff_toInt_lt, Int32.le_iff_toInt_le] <;> omega
theorem cmpI_n {cd : ClassFile.Cond} {x y : Int32} (q : ¬ cmpI cd x.toInt y.toInt) : if_icmp.holds cd x y = false := by
  cases cd <;> simp only [cmpI] at q <;> simp [if_icmp.holds, ← Int32.toInt_inj, Int32.lt_iff_toInt_lt, Int32.le_iff_toInt_le] <;> omega
theorem ow_if_eq (X : Stand p l e R s m args below meth c T locs cells slots) (hx : p.tables.exec = Jvm.exec) {pc pt pf : Nat} {Ls : Array Slot} {St : List Value} {x : Int32} {o : Int} (xi : Int) (hd : decode c.code pc = .ok (.ifCond .eq o, 3)) (hxi : x.toInt = xi) (ho : 0 ≤ (pc : Int) + o) (hp : ((pc : Int) + o).toNat = pt) (hq : pc + 3 = pf) (kt : xi = 0 → Ends p e below Q T (mkF m pt Ls St)) (kf : ¬ xi = 0 → Ends p e below Q T (mkF m pf Ls St)) : Ends p e below Q T (mkF m pc Ls (.int x :: St)) := by
  subst hxi
  have z0 : (0 : Int32).toInt = 0 := rfl
  rcases Classical.em (cmpI .eq x.toInt (0 : Int32).toInt) with w | w
  · exact ow_ifY X hx hd (cmpI_y w) ho hp (kt (by simp only [cmpI, z0] at w; omega))
  · exact ow_ifN X hx hd (cmpI_n w) hq (kf (by simp only [cmpI, z0] at w; omega))
theorem ow_icmp_ne (X : Stand p l e R s m args below meth c T locs cells slots) (hx : p.tables.exec = Jvm.exec) {pc pt pf : Nat} {Ls : Array Slot} {St : List Value} {x y : Int32} {o : Int} (xi yi : Int) (hd : decode c.code pc = .ok (.if_icmp .ne o, 3)) (hxi : x.toInt = xi) (hyi : y.toInt = yi) (ho : 0 ≤ (pc : Int) + o) (hp : ((pc : Int) + o).toNat = pt) (hq : pc + 3 = pf) (kt : ¬ xi = yi → Ends p e below Q T (mkF m pt Ls St)) (kf : xi = yi → Ends p e below Q T (mkF m pf Ls St)) : Ends p e below Q T (mkF m pc Ls (.int y :: .int x :: St)) := by
  subst hxi hyi
  rcases Classical.em (cmpI .ne x.toInt y.toInt) with w | w
  · exact ow_icmpY X hx hd (cmpI_y w) ho hp (kt w)
  · exact ow_icmpN X hx hd (cmpI_n w) hq (kf (by simp only [cmpI] at w; omega))
theorem ow_if_ne (X : Stand p l e R s m args below meth c T locs cells slots) (hx : p.tables.exec = Jvm.exec) {pc pt pf : Nat} {Ls : Array Slot} {St : List Value} {x : Int32} {o : Int} (xi : Int) (hd : decode c.code pc = .ok (.ifCond .ne o, 3)) (hxi : x.toInt = xi) (ho : 0 ≤ (pc : Int) + o) (hp : ((pc : Int) + o).toNat = pt) (hq : pc + 3 = pf) (kt : ¬ xi = 0 → Ends p e below Q T (mkF m pt Ls St)) (kf : xi = 0 → Ends p e below Q T (mkF m pf Ls St)) : Ends p e below Q T (mkF m pc Ls (.int x :: St)) := by
  subst hxi
  have z0 : (0 : Int32).toInt = 0 := rfl
  rcases Classical.em (cmpI .ne x.toInt (0 : Int32).toInt) with w | w
  · exact ow_ifY X hx hd (cmpI_y w) ho hp (kt (by simp only [cmpI, z0] at w; omega))
  · exact ow_ifN X hx hd (cmpI_n w) hq (kf (by simp only [cmpI, z0] at w; omega))
theorem ow_icmp_lt (X : Stand p l e R s m args below meth c T locs cells slots) (hx : p.tables.exec = Jvm.exec) {pc pt pf : Nat} {Ls : Array Slot} {St : List Value} {x y : Int32} {o : Int} (xi yi : Int) (hd : decode c.code pc = .ok (.if_icmp .lt o, 3)) (hxi : x.toInt = xi) (hyi : y.toInt = yi) (ho : 0 ≤ (pc : Int) + o) (hp : ((pc : Int) + o).toNat = pt) (hq : pc + 3 = pf) (kt : xi < yi → Ends p e below Q T (mkF m pt Ls St)) (kf : ¬ xi < yi → Ends p e below Q T (mkF m pf Ls St)) : Ends p e below Q T (mkF m pc Ls (.int y :: .int x :: St)) := by
  subst hxi hyi
  rcases Classical.em (cmpI .lt x.toInt y.toInt) with w | w
  · exact ow_icmpY X hx hd (cmpI_y w) ho hp (kt w)
  · exact ow_icmpN X hx hd (cmpI_n w) hq (kf (by simp only [cmpI] at w; omega))
theorem ow_if_lt (X : Stand p l e R s m args below meth c T locs cells slots) (hx : p.tables.exec = Jvm.exec) {pc pt pf : Nat} {Ls : Array Slot} {St : List Value} {x : Int32} {o : Int} (xi : Int) (hd : decode c.code pc = .ok (.ifCond .lt o, 3)) (hxi : x.toInt = xi) (ho : 0 ≤ (pc : Int) + o) (hp : ((pc : Int) + o).toNat = pt) (hq : pc + 3 = pf) (kt : xi < 0 → Ends p e below Q T (mkF m pt Ls St)) (kf : ¬ xi < 0 → Ends p e below Q T (mkF m pf Ls St)) : Ends p e below Q T (mkF m pc Ls (.int x :: St)) := by
  subst hxi
  have z0 : (0 : Int32).toInt = 0 := rfl
  rcases Classical.em (cmpI .lt x.toInt (0 : Int32).toInt) with w | w
  · exact ow_ifY X hx hd (cmpI_y w) ho hp (kt (by simp only [cmpI, z0] at w; omega))
  · exact ow_ifN X hx hd (cmpI_n w) hq (kf (by simp only [cmpI, z0] at w; omega))
theorem ow_icmp_ge (X : Stand p l e R s m args below meth c T locs cells slots) (hx : p.tables.exec = Jvm.exec) {pc pt pf : Nat} {Ls : Array Slot} {St : List Value} {x y : Int32} {o : Int} (xi yi : Int) (hd : decode c.code pc = .ok (.if_icmp .ge o, 3)) (hxi : x.toInt = xi) (hyi : y.toInt = yi) (ho : 0 ≤ (pc : Int) + o) (hp : ((pc : Int) + o).toNat = pt) (hq : pc + 3 = pf) (kt : ¬ xi < yi → Ends p e below Q T (mkF m pt Ls St)) (kf : xi < yi → Ends p e below Q T (mkF m pf Ls St)) : Ends p e below Q T (mkF m pc Ls (.int y :: .int x :: St)) := by
  subst hxi hyi
  rcases Classical.em (cmpI .ge x.toInt y.toInt) with w | w
  · exact ow_icmpY X hx hd (cmpI_y w) ho hp (kt w)
  · exact ow_icmpN X hx hd (cmpI_n w) hq (kf (by simp only [cmpI] at w; omega))
theorem ow_icmp_gt (X : Stand p l e R s m args below meth c T locs cells slots) (hx : p.tables.exec = Jvm.exec) {pc pt pf : Nat} {Ls : Array Slot} {St : List Value} {x y : Int32} {o : Int} (xi yi : Int) (hd : decode c.code pc = .ok (.if_icmp .gt o, 3)) (hxi : x.toInt = xi) (hyi : y.toInt = yi) (ho : 0 ≤ (pc : Int) + o) (hp : ((pc : Int) + o).toNat = pt) (hq : pc + 3 = pf) (kt : yi < xi → Ends p e below Q T (mkF m pt Ls St)) (kf : ¬ yi < xi → Ends p e below Q T (mkF m pf Ls St)) : Ends p e below Q T (mkF m pc Ls (.int y :: .int x :: St)) := by
  subst hxi hyi
  rcases Classical.em (cmpI .gt x.toInt y.toInt) with w | w
  · exact ow_icmpY X hx hd (cmpI_y w) ho hp (kt w)
  · exact ow_icmpN X hx hd (cmpI_n w) hq (kf (by simp only [cmpI] at w; omega))
theorem ow_icmp_le (X : Stand p l e R s m args below meth c T locs cells slots) (hx : p.tables.exec = Jvm.exec) {pc pt pf : Nat} {Ls : Array Slot} {St : List Value} {x y : Int32} {o : Int} (xi yi : Int) (hd : decode c.code pc = .ok (.if_icmp .le o, 3)) (hxi : x.toInt = xi) (hyi : y.toInt = yi) (ho : 0 ≤ (pc : Int) + o) (hp : ((pc : Int) + o).toNat = pt) (hq : pc + 3 = pf) (kt : ¬ yi < xi → Ends p e below Q T (mkF m pt Ls St)) (kf : yi < xi → Ends p e below Q T (mkF m pf Ls St)) : Ends p e below Q T (mkF m pc Ls (.int y :: .int x :: St)) := by
  subst hxi hyi
  rcases Classical.em (cmpI .le x.toInt y.toInt) with w | w
  · exact ow_icmpY X hx hd (cmpI_y w) ho hp (kt w)
  · exact ow_icmpN X hx hd (cmpI_n w) hq (kf (by simp only [cmpI] at w; omega))
theorem ow_retB (X : Stand p l e R s m args below meth c T locs cells slots) (hx : p.tables.exec = Jvm.exec) {pc : Nat} {Ls : Array Slot} {rest : List Value} {z z' : Int32} (hret : meth.sig.returnType = some .boolean) (hlk : meth.locks = false) (hd : decode c.code pc = .ok (.ireturn, 1)) {ce sl : Nat} (hc : cells ≤ ce) (hs : slots ≤ sl) {Qv : Option Value → Heap → List Loc → Prop} (hz : nar .boolean z = z') (q : Qv (some (.int z')) T.heap locs) : Ends p e below (Out s ce sl Qv) T (mkF m pc Ls (.int z :: rest)) := by
  subst hz
  obtain ⟨fs, hr, hrun, hended, hW, hsame⟩ := X.leave (v := some (.int (nar .boolean z))) (fun h => by rw [hret] at h; cases h) hlk
  exact ⟨_, _, retN X hx (t := .boolean) hret (by simp) hd hr, hrun, hended, _, _, rfl, q, ⟨_, rfl⟩, hW, hsame.mono hc hs⟩
theorem ow_callS (X : Stand p l e R s m args below meth c T locs cells slots) (hx : p.tables.exec = Jvm.exec) (hZ : Z.Warmed39 s.vm) {own : String} {index : Nat} {y : MethodName} {bytes : ByteArray} {maxL : Nat} {ret : Option FieldType} (hown : s.vm.findClass own = some m.cls)
    (wl : (Jvm.Cond.methodLink own index y).before a0 Z = true) (wst : (Jvm.Cond.static y).before a0 Z = true) (wi : (Jvm.Cond.initialized y.cls).before a0 Z = true) (wc : (Jvm.Cond.code y bytes maxL ret).before a0 Z = true) (hy : y.cls ≠ "java/lang/invoke/MethodHandle" ∧ y.cls ≠ "java/lang/invoke/VarHandle")
    {rm : Room} {as' : Array Value} {Qc : Option Value → Heap → List Loc → Prop} (hM : MetFree l y (head1 [Jvm.Cond.code y bytes maxL ret] rm) (fun a U => a = as' ∧ Z.Warmed39 U.vm ∧ U.heap = h) (fun _ _ _ _ _ => True) (fun _ U o U' => ∃ v L, o = .returned v ∧ Qc v U'.heap L ∧ FrameEnd U o U' L rm.cells rm.slots))
    (eT : T.heap = h) (W : Nat) (hf : rm.frames + 1 ≤ R.frames) (hl : W + (maxL + 11) + rm.locals ≤ R.locals) (hce : cells + rm.cells ≤ R.cells) (hsl : slots + rm.slots ≤ R.slots) {pc pc' : Nat} {Ls : Array Slot} {St rest : List Value} (argsL : List Value) {ps : List FieldType} {rt : Option FieldType} (hsize : Ls.size = c.maxLocals) (hdesc : parseMethodDescriptor y.desc = some ⟨ps, rt⟩) (hlen : argsL.length = ps.length) (hst : St = argsL.reverse ++ rest) (has : argsL.toArray = as') (hW : (rest.map fun v => v.category).sum ≤ W)
    (hd : decode c.code pc = .ok (.invokestatic index, 3)) (hp : pc + 3 = pc')
    (kk : ∀ (v : Option Value) (T' : State) (L' : List Loc), Qc v T'.heap L' → Stand p l e R s m args below meth c T' (locs ++ L') (cells + rm.cells) (slots + rm.slots) → Ends p e below Q T' (mkF m pc' Ls (v.toList ++ rest))) : Ends p e below Q T (mkF m pc Ls St) := by
  subst hst has hp
  obtain ⟨v, vm₁, ⟨T', L, k2, n2⟩, -, X', ⟨Lc, hQ, l1, y1, z1⟩, st⟩ := Jvm.LawKit.callS X hx hown (mvT hZ wl) (mvT hZ wst) (mvT hZ wi) (mvT hZ wc) hy (backOf (W := W) hM hZ wc wi hf hl) (g := mkF m pc Ls (argsL.reverse ++ rest)) rfl hsize (argsL := argsL) (rest := rest) (lenOf hdesc hlen) rfl (by show 2 * 0 + _ ≤ _; omega) hd (fun _ _ => ⟨rfl, eT, hce, hsl⟩)
  dsimp only [Pt.U, Pt.locs, Pt.cells, Pt.slots] at X' l1 y1 z1 st hQ
  subst l1 y1 z1
  exact Ends.go st (kk v T' Lc hQ X')
theorem ow_newP (X : Stand p l e R s m args below meth c T locs cells slots) (hx : p.tables.exec = Jvm.exec) (hZ : Z.Warmed39 s.vm) {aty : ArrayType} (w : (Jvm.Cond.arrayClass (newarray.typeOf aty)).before a0 Z = true) (eT : T.heap = h) {pc pc' : Nat} {Ls : Array Slot} {St : List Value} {n : Int32} (hd : decode c.code pc = .ok (.newarray aty, 2)) (hn : ¬ n < 0) (cap : Nat) (hcap : n.toNatClampNeg ≤ cap) (hb : cap * 8 ≤ 536870912) (hc : cells + 1 ≤ R.cells) (hl : slots + cap ≤ R.slots) (hp : pc + 2 = pc')
    (kk : ∀ (T' : State) (h' : Heap) (b : Addr) (k : ClassId), b = h.size → Stand p l e R s m args below meth c T' locs (cells + 1) (slots + cap) → T'.heap = h' → Ext h h' → Arv Z h' b k (newarray.typeOf aty) n [] (defaultValue (newarray.typeOf aty)) → Ends p e below Q T' (mkF m pc' Ls (.ref b :: St))) : Ends p e below Q T (mkF m pc Ls (.int n :: St)) := by
  subst hp
  obtain ⟨T', h', k, X', e', E', A', st⟩ := newP X hx hZ w eT (g := mkF m pc Ls (.int n :: St)) rfl hd rfl hn (cap := cap) hcap hb hc hl
  exact Ends.go st (kk T' h' _ k rfl X' e' E' (Arv.new A' hn))
theorem ow_stI (X : Stand p l e R s m args below meth c T locs cells slots) (hx : p.tables.exec = Jvm.exec) (hZ : Z.Warmed39 s.vm) (eT : T.heap = h) {a : Addr} {k : ClassId} {z : Int32} {vs : List Value} {dv : Value} (V : Arv Z h a k .int z vs dv) {pc pc' : Nat} {Ls : Array Slot} {St : List Value} {j x : Int32} (i : Nat) (hj : j.toNatClampNeg = i) (hj0 : ¬ j < 0) (hjz : j < z) (hi : i < vs.length) (hd : decode c.code pc = .ok (.iastore, 1)) (hp : pc + 1 = pc')
    (kk : ∀ (T' : State) (h' : Heap), Stand p l e R s m args below meth c T' (locs ++ [⟨a, j.toNatClampNeg⟩]) cells slots → T'.heap = h' → Wr h h' a j.toNatClampNeg (.int x) → Arv Z h' a k .int z (vs.set i (.int x)) dv → Ends p e below Q T' (mkF m pc' Ls St)) : Ends p e below Q T (mkF m pc Ls (.int x :: .int j :: .ref a :: St)) := by
  subst hp
  obtain ⟨cl, A, q1, S, N, H, G⟩ := V
  obtain ⟨T', h', X', e', W', st⟩ := stI X hx hZ eT A (inb_of S ⟨hj0, hjz⟩) (g := mkF m pc Ls (.int x :: .int j :: .ref a :: St)) rfl rfl hd
  exact Ends.go st (kk T' h' X' e' W' (Arv.set A q1 S N H G rfl W' i hj hi))
theorem ow_ldI (X : Stand p l e R s m args below meth c T locs cells slots) (hx : p.tables.exec = Jvm.exec) (hZ : Z.Warmed39 s.vm) (eT : T.heap = h) {a : Addr} {k : ClassId} {z : Int32} {vs : List Value} {dv : Value} (V : Arv Z h a k .int z vs dv) {pc pc' : Nat} {Ls : Array Slot} {St : List Value} {j : Int32} {v : Value} (hj0 : ¬ j < 0) (hjz : j < z) (hv : vs.getD j.toNatClampNeg dv = v) (hd : decode c.code pc = .ok (.iaload, 1)) (hp : pc + 1 = pc')
    (kk : Ends p e below Q T (mkF m pc' Ls (v :: St))) : Ends p e below Q T (mkF m pc Ls (.int j :: .ref a :: St)) := by
  subst hp
  obtain ⟨cl, A, q1, S, N, H, G⟩ := V
  have hin := inb_of S ⟨hj0, hjz⟩
  exact Ends.go (X.iaload hx (by rw [eT]; exact A.1) (State.isArrayOf_alike hZ.alike A.2.1) A.2.2 hin (H.at hin hv) (g := mkF m pc Ls (.int j :: .ref a :: St)) rfl rfl hd) kk
/-- a body that returns a number and leaves the heap as it is -/
def QI (P : Int32 → Prop) (h0 : Heap) (v : Option Value) (h : Heap) (L : List Loc) : Prop := ∃ z, v = some (.int z) ∧ P z ∧ L = [] ∧ h = h0
theorem ow_callPI (X : Stand p l e R s m args below meth c T locs cells slots) (hx : p.tables.exec = Jvm.exec) (hZ : Z.Warmed39 s.vm) {own : String} {index : Nat} {y : MethodName} {bytes : ByteArray} {maxL : Nat} {ret : Option FieldType} (hown : s.vm.findClass own = some m.cls)
    (wl : (Jvm.Cond.methodLink own index y).before a0 Z = true) (wst : (Jvm.Cond.static y).before a0 Z = true) (wi : (Jvm.Cond.initialized y.cls).before a0 Z = true) (wc : (Jvm.Cond.code y bytes maxL ret).before a0 Z = true) (hy : y.cls ≠ "java/lang/invoke/MethodHandle" ∧ y.cls ≠ "java/lang/invoke/VarHandle")
    {fr lo : Nat} {as' : Array Value} {P : Int32 → Prop} (hM : MetFree l y (head1 [Jvm.Cond.code y bytes maxL ret] ({ frames := fr, cells := 0, slots := 0, locals := lo } : Room)) (fun a U => a = as' ∧ Z.Warmed39 U.vm ∧ U.heap = h) (fun _ _ _ _ _ => True) (fun _ U o U' => ∃ v L, o = .returned v ∧ QI P h v U'.heap L ∧ FrameEnd U o U' L 0 0))
    (eT : T.heap = h) (W : Nat) (hf : fr + 1 ≤ R.frames) (hl : W + (maxL + 11) + lo ≤ R.locals) (hce : cells ≤ R.cells) (hsl : slots ≤ R.slots) {pc pc' : Nat} {Ls : Array Slot} {St rest : List Value} (argsL : List Value) {ps : List FieldType} {rt : Option FieldType} (hsize : Ls.size = c.maxLocals) (hdesc : parseMethodDescriptor y.desc = some ⟨ps, rt⟩) (hlen : argsL.length = ps.length) (hst : St = argsL.reverse ++ rest) (has : argsL.toArray = as') (hW : (rest.map fun v => v.category).sum ≤ W)
    (hd : decode c.code pc = .ok (.invokestatic index, 3)) (hp : pc + 3 = pc')
    (kk : ∀ (z : Int32) (T' : State), P z → Stand p l e R s m args below meth c T' locs cells slots → T'.heap = h → Ends p e below Q T' (mkF m pc' Ls (.int z :: rest))) : Ends p e below Q T (mkF m pc Ls St) := by
  refine ow_callS X hx hZ hown wl wst wi wc hy hM eT W hf hl hce hsl argsL hsize hdesc hlen hst has hW hd hp ?_
  rintro v T' L' ⟨z, rfl, hP, rfl, hh⟩ X'
  rw [List.append_nil] at X'
  exact kk z T' hP X' hh
theorem ow_lt {x y : Int32} (q : x.toInt < y.toInt) : x < y := Int32.lt_iff_toInt_lt.mpr q
theorem ow_nlt {x y : Int32} (q : ¬ x.toInt < y.toInt) : ¬ x < y := fun w => q (Int32.lt_iff_toInt_lt.mp w)
end Own

theorem d_ctl_0 : decode prog_5_method_6_code 0 = .ok (.iload_n 0, 1) := by decide +kernel
theorem d_ctl_1 : decode prog_5_method_6_code 1 = .ok (.bipush 31, 2) := by decide +kernel
theorem d_ctl_3 : decode prog_5_method_6_code 3 = .ok (.if_icmp .le 44, 3) := by decide +kernel
theorem d_ctl_6 : decode prog_5_method_6_code 6 = .ok (.iload_n 0, 1) := by decide +kernel
theorem d_ctl_7 : decode prog_5_method_6_code 7 = .ok (.bipush 127, 2) := by decide +kernel
theorem d_ctl_9 : decode prog_5_method_6_code 9 = .ok (.if_icmp .lt 10, 3) := by decide +kernel
theorem d_ctl_12 : decode prog_5_method_6_code 12 = .ok (.iload_n 0, 1) := by decide +kernel
theorem d_ctl_13 : decode prog_5_method_6_code 13 = .ok (.sipush 159, 3) := by decide +kernel
theorem d_ctl_16 : decode prog_5_method_6_code 16 = .ok (.if_icmp .le 31, 3) := by decide +kernel
theorem d_ctl_19 : decode prog_5_method_6_code 19 = .ok (.iload_n 0, 1) := by decide +kernel
theorem d_ctl_20 : decode prog_5_method_6_code 20 = .ok (.sipush 8232, 3) := by decide +kernel
theorem d_ctl_23 : decode prog_5_method_6_code 23 = .ok (.if_icmp .lt 10, 3) := by decide +kernel
theorem d_ctl_26 : decode prog_5_method_6_code 26 = .ok (.iload_n 0, 1) := by decide +kernel
theorem d_ctl_27 : decode prog_5_method_6_code 27 = .ok (.sipush 8238, 3) := by decide +kernel
theorem d_ctl_30 : decode prog_5_method_6_code 30 = .ok (.if_icmp .le 17, 3) := by decide +kernel
theorem d_ctl_33 : decode prog_5_method_6_code 33 = .ok (.iload_n 0, 1) := by decide +kernel
theorem d_ctl_34 : decode prog_5_method_6_code 34 = .ok (.sipush 8294, 3) := by decide +kernel
theorem d_ctl_37 : decode prog_5_method_6_code 37 = .ok (.if_icmp .lt 14, 3) := by decide +kernel
theorem d_ctl_40 : decode prog_5_method_6_code 40 = .ok (.iload_n 0, 1) := by decide +kernel
theorem d_ctl_41 : decode prog_5_method_6_code 41 = .ok (.sipush 8297, 3) := by decide +kernel
theorem d_ctl_44 : decode prog_5_method_6_code 44 = .ok (.if_icmp .gt 7, 3) := by decide +kernel
theorem d_ctl_47 : decode prog_5_method_6_code 47 = .ok (.iconst 1, 1) := by decide +kernel
theorem d_ctl_48 : decode prog_5_method_6_code 48 = .ok (.goto 4, 3) := by decide +kernel
theorem d_ctl_51 : decode prog_5_method_6_code 51 = .ok (.iconst 0, 1) := by decide +kernel
theorem d_ctl_52 : decode prog_5_method_6_code 52 = .ok (.ireturn, 1) := by decide +kernel
theorem ef_ctl (m : MethodId) (x0 : Int32) : entryFrame m #[(.int x0)] 1 = mkF m 0 #[.val (.int x0)] [] := by first | (simp [entryFrame, mkF, argsToLocals, Value.category]; done) | rfl
theorem pn_0 : plainName "com/example/strict_audit/strictaudit/format/ValueEncoding" = true := by first | (simp [plainName, overriddenIn]; done) | decide +kernel
set_option maxRecDepth 65536 in
set_option maxHeartbeats 40000000 in
theorem rm_ctl (l : Launch) (Z : State) (a0 : Array Value) (hw : ∀ d ∈ tables_1, d.before a0 Z = true) (ws : List Jvm.Cond) (pc0 : Int32) (h0 : Heap) (h0c : 0 ≤ pc0.toInt) :
    MetFree l (⟨"com/example/strict_audit/strictaudit/format/ValueEncoding", "controlsLayout", "(I)Z"⟩ : MethodName) (head1 (Jvm.Cond.code (⟨"com/example/strict_audit/strictaudit/format/ValueEncoding", "controlsLayout", "(I)Z"⟩ : MethodName) prog_5_method_6_code 1 (some .boolean) :: ws) ({ frames := 0, cells := 0, slots := 0, locals := 0 } : Room)) (fun a_ U_ => a_ = #[(.int pc0)] ∧ Z.Warmed39 U_.vm ∧ U_.heap = h0) (fun _ _ _ _ _ => True) (fun _ U_ o_ U_' => ∃ v_ L_, o_ = .returned v_ ∧ (QI (fun z => (((0 ≤ pc0.toInt ∧ pc0.toInt < 32) ∨ (127 ≤ pc0.toInt ∧ pc0.toInt < 160) ∨ (8232 ≤ pc0.toInt ∧ pc0.toInt < 8239) ∨ (8294 ≤ pc0.toInt ∧ pc0.toInt < 8298)) ∧ z.toInt = 1) ∨ (¬ ((0 ≤ pc0.toInt ∧ pc0.toInt < 32) ∨ (127 ≤ pc0.toInt ∧ pc0.toInt < 160) ∨ (8232 ≤ pc0.toInt ∧ pc0.toInt < 8239) ∨ (8294 ≤ pc0.toInt ∧ pc0.toInt < 8298)) ∧ z.toInt = 0)) h0) v_ U_'.heap L_ ∧ FrameEnd U_ o_ U_' L_ 0 0) := by
  refine ow_body (plainFor_of_name pn_0) ?_
  intro p e s m below meth c T0 X0 hx hZ hby hml hown hnm hret hlk e0
  refine Ends.cast (ef_ctl m pc0) ?_
  have r_pc0 := rng32 pc0
  refine ow_iloadN X0 hx (hb hby d_ctl_0) rfl (pc' := 1) rfl ?_
  refine ow_bipush X0 hx (z := (31 : Int32)) (hb hby d_ctl_1) rfl (pc' := 3) rfl ?_
  refine ow_icmp_le X0 hx (pc0.toInt) ((31 : Int)) (hb hby d_ctl_3) rfl rfl (by decide) (pt := 47) (by decide) (pf := 6) rfl (fun c3 => ?_) (fun c3 => ?_)
  · refine ow_iconst X0 hx (z := (1 : Int32)) (hb hby d_ctl_47) rfl (pc' := 48) rfl ?_
    refine ow_goto X0 hx (hb hby d_ctl_48) (by decide) (pc' := 52) (by decide) ?_
    exact ow_retB X0 hx hret hlk (hb hby d_ctl_52) (by decide) (by decide) (z' := (1 : Int32)) rfl ⟨(1 : Int32), rfl, (show (((0 ≤ pc0.toInt ∧ pc0.toInt < 32) ∨ (127 ≤ pc0.toInt ∧ pc0.toInt < 160) ∨ (8232 ≤ pc0.toInt ∧ pc0.toInt < 8239) ∨ (8294 ≤ pc0.toInt ∧ pc0.toInt < 8298)) ∧ (1 : Int) = 1) ∨ (¬ ((0 ≤ pc0.toInt ∧ pc0.toInt < 32) ∨ (127 ≤ pc0.toInt ∧ pc0.toInt < 160) ∨ (8232 ≤ pc0.toInt ∧ pc0.toInt < 8239) ∨ (8294 ≤ pc0.toInt ∧ pc0.toInt < 8298)) ∧ (1 : Int) = 0) from by omega), rfl, e0⟩
  · refine ow_iloadN X0 hx (hb hby d_ctl_6) rfl (pc' := 7) rfl ?_
    refine ow_bipush X0 hx (z := (127 : Int32)) (hb hby d_ctl_7) rfl (pc' := 9) rfl ?_
    refine ow_icmp_lt X0 hx (pc0.toInt) ((127 : Int)) (hb hby d_ctl_9) rfl rfl (by decide) (pt := 19) (by decide) (pf := 12) rfl (fun c9 => ?_) (fun c9 => ?_)
    · refine ow_iloadN X0 hx (hb hby d_ctl_19) rfl (pc' := 20) rfl ?_
      refine ow_sipush X0 hx (z := (8232 : Int32)) (hb hby d_ctl_20) rfl (pc' := 23) rfl ?_
      refine ow_icmp_lt X0 hx (pc0.toInt) ((8232 : Int)) (hb hby d_ctl_23) rfl rfl (by decide) (pt := 33) (by decide) (pf := 26) rfl (fun c23 => ?_) (fun c23 => ?_)
      · refine ow_iloadN X0 hx (hb hby d_ctl_33) rfl (pc' := 34) rfl ?_
        refine ow_sipush X0 hx (z := (8294 : Int32)) (hb hby d_ctl_34) rfl (pc' := 37) rfl ?_
        refine ow_icmp_lt X0 hx (pc0.toInt) ((8294 : Int)) (hb hby d_ctl_37) rfl rfl (by decide) (pt := 51) (by decide) (pf := 40) rfl (fun c37 => ?_) (fun c37 => ?_)
        · refine ow_iconst X0 hx (z := (0 : Int32)) (hb hby d_ctl_51) rfl (pc' := 52) rfl ?_
          exact ow_retB X0 hx hret hlk (hb hby d_ctl_52) (by decide) (by decide) (z' := (0 : Int32)) rfl ⟨(0 : Int32), rfl, (show (((0 ≤ pc0.toInt ∧ pc0.toInt < 32) ∨ (127 ≤ pc0.toInt ∧ pc0.toInt < 160) ∨ (8232 ≤ pc0.toInt ∧ pc0.toInt < 8239) ∨ (8294 ≤ pc0.toInt ∧ pc0.toInt < 8298)) ∧ (0 : Int) = 1) ∨ (¬ ((0 ≤ pc0.toInt ∧ pc0.toInt < 32) ∨ (127 ≤ pc0.toInt ∧ pc0.toInt < 160) ∨ (8232 ≤ pc0.toInt ∧ pc0.toInt < 8239) ∨ (8294 ≤ pc0.toInt ∧ pc0.toInt < 8298)) ∧ (0 : Int) = 0) from by omega), rfl, e0⟩
        · refine ow_iloadN X0 hx (hb hby d_ctl_40) rfl (pc' := 41) rfl ?_
          refine ow_sipush X0 hx (z := (8297 : Int32)) (hb hby d_ctl_41) rfl (pc' := 44) rfl ?_
          refine ow_icmp_gt X0 hx (pc0.toInt) ((8297 : Int)) (hb hby d_ctl_44) rfl rfl (by decide) (pt := 51) (by decide) (pf := 47) rfl (fun c44 => ?_) (fun c44 => ?_)
          · refine ow_iconst X0 hx (z := (0 : Int32)) (hb hby d_ctl_51) rfl (pc' := 52) rfl ?_
            exact ow_retB X0 hx hret hlk (hb hby d_ctl_52) (by decide) (by decide) (z' := (0 : Int32)) rfl ⟨(0 : Int32), rfl, (show (((0 ≤ pc0.toInt ∧ pc0.toInt < 32) ∨ (127 ≤ pc0.toInt ∧ pc0.toInt < 160) ∨ (8232 ≤ pc0.toInt ∧ pc0.toInt < 8239) ∨ (8294 ≤ pc0.toInt ∧ pc0.toInt < 8298)) ∧ (0 : Int) = 1) ∨ (¬ ((0 ≤ pc0.toInt ∧ pc0.toInt < 32) ∨ (127 ≤ pc0.toInt ∧ pc0.toInt < 160) ∨ (8232 ≤ pc0.toInt ∧ pc0.toInt < 8239) ∨ (8294 ≤ pc0.toInt ∧ pc0.toInt < 8298)) ∧ (0 : Int) = 0) from by omega), rfl, e0⟩
          · refine ow_iconst X0 hx (z := (1 : Int32)) (hb hby d_ctl_47) rfl (pc' := 48) rfl ?_
            refine ow_goto X0 hx (hb hby d_ctl_48) (by decide) (pc' := 52) (by decide) ?_
            exact ow_retB X0 hx hret hlk (hb hby d_ctl_52) (by decide) (by decide) (z' := (1 : Int32)) rfl ⟨(1 : Int32), rfl, (show (((0 ≤ pc0.toInt ∧ pc0.toInt < 32) ∨ (127 ≤ pc0.toInt ∧ pc0.toInt < 160) ∨ (8232 ≤ pc0.toInt ∧ pc0.toInt < 8239) ∨ (8294 ≤ pc0.toInt ∧ pc0.toInt < 8298)) ∧ (1 : Int) = 1) ∨ (¬ ((0 ≤ pc0.toInt ∧ pc0.toInt < 32) ∨ (127 ≤ pc0.toInt ∧ pc0.toInt < 160) ∨ (8232 ≤ pc0.toInt ∧ pc0.toInt < 8239) ∨ (8294 ≤ pc0.toInt ∧ pc0.toInt < 8298)) ∧ (1 : Int) = 0) from by omega), rfl, e0⟩
      · refine ow_iloadN X0 hx (hb hby d_ctl_26) rfl (pc' := 27) rfl ?_
        refine ow_sipush X0 hx (z := (8238 : Int32)) (hb hby d_ctl_27) rfl (pc' := 30) rfl ?_
        refine ow_icmp_le X0 hx (pc0.toInt) ((8238 : Int)) (hb hby d_ctl_30) rfl rfl (by decide) (pt := 47) (by decide) (pf := 33) rfl (fun c30 => ?_) (fun c30 => ?_)
        · refine ow_iconst X0 hx (z := (1 : Int32)) (hb hby d_ctl_47) rfl (pc' := 48) rfl ?_
          refine ow_goto X0 hx (hb hby d_ctl_48) (by decide) (pc' := 52) (by decide) ?_
          exact ow_retB X0 hx hret hlk (hb hby d_ctl_52) (by decide) (by decide) (z' := (1 : Int32)) rfl ⟨(1 : Int32), rfl, (show (((0 ≤ pc0.toInt ∧ pc0.toInt < 32) ∨ (127 ≤ pc0.toInt ∧ pc0.toInt < 160) ∨ (8232 ≤ pc0.toInt ∧ pc0.toInt < 8239) ∨ (8294 ≤ pc0.toInt ∧ pc0.toInt < 8298)) ∧ (1 : Int) = 1) ∨ (¬ ((0 ≤ pc0.toInt ∧ pc0.toInt < 32) ∨ (127 ≤ pc0.toInt ∧ pc0.toInt < 160) ∨ (8232 ≤ pc0.toInt ∧ pc0.toInt < 8239) ∨ (8294 ≤ pc0.toInt ∧ pc0.toInt < 8298)) ∧ (1 : Int) = 0) from by omega), rfl, e0⟩
        · refine ow_iloadN X0 hx (hb hby d_ctl_33) rfl (pc' := 34) rfl ?_
          refine ow_sipush X0 hx (z := (8294 : Int32)) (hb hby d_ctl_34) rfl (pc' := 37) rfl ?_
          refine ow_icmp_lt X0 hx (pc0.toInt) ((8294 : Int)) (hb hby d_ctl_37) rfl rfl (by decide) (pt := 51) (by decide) (pf := 40) rfl (fun c37 => ?_) (fun c37 => ?_)
          · refine ow_iconst X0 hx (z := (0 : Int32)) (hb hby d_ctl_51) rfl (pc' := 52) rfl ?_
            exact ow_retB X0 hx hret hlk (hb hby d_ctl_52) (by decide) (by decide) (z' := (0 : Int32)) rfl ⟨(0 : Int32), rfl, (show (((0 ≤ pc0.toInt ∧ pc0.toInt < 32) ∨ (127 ≤ pc0.toInt ∧ pc0.toInt < 160) ∨ (8232 ≤ pc0.toInt ∧ pc0.toInt < 8239) ∨ (8294 ≤ pc0.toInt ∧ pc0.toInt < 8298)) ∧ (0 : Int) = 1) ∨ (¬ ((0 ≤ pc0.toInt ∧ pc0.toInt < 32) ∨ (127 ≤ pc0.toInt ∧ pc0.toInt < 160) ∨ (8232 ≤ pc0.toInt ∧ pc0.toInt < 8239) ∨ (8294 ≤ pc0.toInt ∧ pc0.toInt < 8298)) ∧ (0 : Int) = 0) from by omega), rfl, e0⟩
          · refine ow_iloadN X0 hx (hb hby d_ctl_40) rfl (pc' := 41) rfl ?_
            refine ow_sipush X0 hx (z := (8297 : Int32)) (hb hby d_ctl_41) rfl (pc' := 44) rfl ?_
            refine ow_icmp_gt X0 hx (pc0.toInt) ((8297 : Int)) (hb hby d_ctl_44) rfl rfl (by decide) (pt := 51) (by decide) (pf := 47) rfl (fun c44 => ?_) (fun c44 => ?_)
            · refine ow_iconst X0 hx (z := (0 : Int32)) (hb hby d_ctl_51) rfl (pc' := 52) rfl ?_
              exact ow_retB X0 hx hret hlk (hb hby d_ctl_52) (by decide) (by decide) (z' := (0 : Int32)) rfl ⟨(0 : Int32), rfl, (show (((0 ≤ pc0.toInt ∧ pc0.toInt < 32) ∨ (127 ≤ pc0.toInt ∧ pc0.toInt < 160) ∨ (8232 ≤ pc0.toInt ∧ pc0.toInt < 8239) ∨ (8294 ≤ pc0.toInt ∧ pc0.toInt < 8298)) ∧ (0 : Int) = 1) ∨ (¬ ((0 ≤ pc0.toInt ∧ pc0.toInt < 32) ∨ (127 ≤ pc0.toInt ∧ pc0.toInt < 160) ∨ (8232 ≤ pc0.toInt ∧ pc0.toInt < 8239) ∨ (8294 ≤ pc0.toInt ∧ pc0.toInt < 8298)) ∧ (0 : Int) = 0) from by omega), rfl, e0⟩
            · refine ow_iconst X0 hx (z := (1 : Int32)) (hb hby d_ctl_47) rfl (pc' := 48) rfl ?_
              refine ow_goto X0 hx (hb hby d_ctl_48) (by decide) (pc' := 52) (by decide) ?_
              exact ow_retB X0 hx hret hlk (hb hby d_ctl_52) (by decide) (by decide) (z' := (1 : Int32)) rfl ⟨(1 : Int32), rfl, (show (((0 ≤ pc0.toInt ∧ pc0.toInt < 32) ∨ (127 ≤ pc0.toInt ∧ pc0.toInt < 160) ∨ (8232 ≤ pc0.toInt ∧ pc0.toInt < 8239) ∨ (8294 ≤ pc0.toInt ∧ pc0.toInt < 8298)) ∧ (1 : Int) = 1) ∨ (¬ ((0 ≤ pc0.toInt ∧ pc0.toInt < 32) ∨ (127 ≤ pc0.toInt ∧ pc0.toInt < 160) ∨ (8232 ≤ pc0.toInt ∧ pc0.toInt < 8239) ∨ (8294 ≤ pc0.toInt ∧ pc0.toInt < 8298)) ∧ (1 : Int) = 0) from by omega), rfl, e0⟩
    · refine ow_iloadN X0 hx (hb hby d_ctl_12) rfl (pc' := 13) rfl ?_
      refine ow_sipush X0 hx (z := (159 : Int32)) (hb hby d_ctl_13) rfl (pc' := 16) rfl ?_
      refine ow_icmp_le X0 hx (pc0.toInt) ((159 : Int)) (hb hby d_ctl_16) rfl rfl (by decide) (pt := 47) (by decide) (pf := 19) rfl (fun c16 => ?_) (fun c16 => ?_)
      · refine ow_iconst X0 hx (z := (1 : Int32)) (hb hby d_ctl_47) rfl (pc' := 48) rfl ?_
        refine ow_goto X0 hx (hb hby d_ctl_48) (by decide) (pc' := 52) (by decide) ?_
        exact ow_retB X0 hx hret hlk (hb hby d_ctl_52) (by decide) (by decide) (z' := (1 : Int32)) rfl ⟨(1 : Int32), rfl, (show (((0 ≤ pc0.toInt ∧ pc0.toInt < 32) ∨ (127 ≤ pc0.toInt ∧ pc0.toInt < 160) ∨ (8232 ≤ pc0.toInt ∧ pc0.toInt < 8239) ∨ (8294 ≤ pc0.toInt ∧ pc0.toInt < 8298)) ∧ (1 : Int) = 1) ∨ (¬ ((0 ≤ pc0.toInt ∧ pc0.toInt < 32) ∨ (127 ≤ pc0.toInt ∧ pc0.toInt < 160) ∨ (8232 ≤ pc0.toInt ∧ pc0.toInt < 8239) ∨ (8294 ≤ pc0.toInt ∧ pc0.toInt < 8298)) ∧ (1 : Int) = 0) from by omega), rfl, e0⟩
      · refine ow_iloadN X0 hx (hb hby d_ctl_19) rfl (pc' := 20) rfl ?_
        refine ow_sipush X0 hx (z := (8232 : Int32)) (hb hby d_ctl_20) rfl (pc' := 23) rfl ?_
        refine ow_icmp_lt X0 hx (pc0.toInt) ((8232 : Int)) (hb hby d_ctl_23) rfl rfl (by decide) (pt := 33) (by decide) (pf := 26) rfl (fun c23 => ?_) (fun c23 => ?_)
        · refine ow_iloadN X0 hx (hb hby d_ctl_33) rfl (pc' := 34) rfl ?_
          refine ow_sipush X0 hx (z := (8294 : Int32)) (hb hby d_ctl_34) rfl (pc' := 37) rfl ?_
          refine ow_icmp_lt X0 hx (pc0.toInt) ((8294 : Int)) (hb hby d_ctl_37) rfl rfl (by decide) (pt := 51) (by decide) (pf := 40) rfl (fun c37 => ?_) (fun c37 => ?_)
          · refine ow_iconst X0 hx (z := (0 : Int32)) (hb hby d_ctl_51) rfl (pc' := 52) rfl ?_
            exact ow_retB X0 hx hret hlk (hb hby d_ctl_52) (by decide) (by decide) (z' := (0 : Int32)) rfl ⟨(0 : Int32), rfl, (show (((0 ≤ pc0.toInt ∧ pc0.toInt < 32) ∨ (127 ≤ pc0.toInt ∧ pc0.toInt < 160) ∨ (8232 ≤ pc0.toInt ∧ pc0.toInt < 8239) ∨ (8294 ≤ pc0.toInt ∧ pc0.toInt < 8298)) ∧ (0 : Int) = 1) ∨ (¬ ((0 ≤ pc0.toInt ∧ pc0.toInt < 32) ∨ (127 ≤ pc0.toInt ∧ pc0.toInt < 160) ∨ (8232 ≤ pc0.toInt ∧ pc0.toInt < 8239) ∨ (8294 ≤ pc0.toInt ∧ pc0.toInt < 8298)) ∧ (0 : Int) = 0) from by omega), rfl, e0⟩
          · refine ow_iloadN X0 hx (hb hby d_ctl_40) rfl (pc' := 41) rfl ?_
            refine ow_sipush X0 hx (z := (8297 : Int32)) (hb hby d_ctl_41) rfl (pc' := 44) rfl ?_
            refine ow_icmp_gt X0 hx (pc0.toInt) ((8297 : Int)) (hb hby d_ctl_44) rfl rfl (by decide) (pt := 51) (by decide) (pf := 47) rfl (fun c44 => ?_) (fun c44 => ?_)
            · refine ow_iconst X0 hx (z := (0 : Int32)) (hb hby d_ctl_51) rfl (pc' := 52) rfl ?_
              exact ow_retB X0 hx hret hlk (hb hby d_ctl_52) (by decide) (by decide) (z' := (0 : Int32)) rfl ⟨(0 : Int32), rfl, (show (((0 ≤ pc0.toInt ∧ pc0.toInt < 32) ∨ (127 ≤ pc0.toInt ∧ pc0.toInt < 160) ∨ (8232 ≤ pc0.toInt ∧ pc0.toInt < 8239) ∨ (8294 ≤ pc0.toInt ∧ pc0.toInt < 8298)) ∧ (0 : Int) = 1) ∨ (¬ ((0 ≤ pc0.toInt ∧ pc0.toInt < 32) ∨ (127 ≤ pc0.toInt ∧ pc0.toInt < 160) ∨ (8232 ≤ pc0.toInt ∧ pc0.toInt < 8239) ∨ (8294 ≤ pc0.toInt ∧ pc0.toInt < 8298)) ∧ (0 : Int) = 0) from by omega), rfl, e0⟩
            · refine ow_iconst X0 hx (z := (1 : Int32)) (hb hby d_ctl_47) rfl (pc' := 48) rfl ?_
              refine ow_goto X0 hx (hb hby d_ctl_48) (by decide) (pc' := 52) (by decide) ?_
              exact ow_retB X0 hx hret hlk (hb hby d_ctl_52) (by decide) (by decide) (z' := (1 : Int32)) rfl ⟨(1 : Int32), rfl, (show (((0 ≤ pc0.toInt ∧ pc0.toInt < 32) ∨ (127 ≤ pc0.toInt ∧ pc0.toInt < 160) ∨ (8232 ≤ pc0.toInt ∧ pc0.toInt < 8239) ∨ (8294 ≤ pc0.toInt ∧ pc0.toInt < 8298)) ∧ (1 : Int) = 1) ∨ (¬ ((0 ≤ pc0.toInt ∧ pc0.toInt < 32) ∨ (127 ≤ pc0.toInt ∧ pc0.toInt < 160) ∨ (8232 ≤ pc0.toInt ∧ pc0.toInt < 8239) ∨ (8294 ≤ pc0.toInt ∧ pc0.toInt < 8298)) ∧ (1 : Int) = 0) from by omega), rfl, e0⟩
        · refine ow_iloadN X0 hx (hb hby d_ctl_26) rfl (pc' := 27) rfl ?_
          refine ow_sipush X0 hx (z := (8238 : Int32)) (hb hby d_ctl_27) rfl (pc' := 30) rfl ?_
          refine ow_icmp_le X0 hx (pc0.toInt) ((8238 : Int)) (hb hby d_ctl_30) rfl rfl (by decide) (pt := 47) (by decide) (pf := 33) rfl (fun c30 => ?_) (fun c30 => ?_)
          · refine ow_iconst X0 hx (z := (1 : Int32)) (hb hby d_ctl_47) rfl (pc' := 48) rfl ?_
            refine ow_goto X0 hx (hb hby d_ctl_48) (by decide) (pc' := 52) (by decide) ?_
            exact ow_retB X0 hx hret hlk (hb hby d_ctl_52) (by decide) (by decide) (z' := (1 : Int32)) rfl ⟨(1 : Int32), rfl, (show (((0 ≤ pc0.toInt ∧ pc0.toInt < 32) ∨ (127 ≤ pc0.toInt ∧ pc0.toInt < 160) ∨ (8232 ≤ pc0.toInt ∧ pc0.toInt < 8239) ∨ (8294 ≤ pc0.toInt ∧ pc0.toInt < 8298)) ∧ (1 : Int) = 1) ∨ (¬ ((0 ≤ pc0.toInt ∧ pc0.toInt < 32) ∨ (127 ≤ pc0.toInt ∧ pc0.toInt < 160) ∨ (8232 ≤ pc0.toInt ∧ pc0.toInt < 8239) ∨ (8294 ≤ pc0.toInt ∧ pc0.toInt < 8298)) ∧ (1 : Int) = 0) from by omega), rfl, e0⟩
          · refine ow_iloadN X0 hx (hb hby d_ctl_33) rfl (pc' := 34) rfl ?_
            refine ow_sipush X0 hx (z := (8294 : Int32)) (hb hby d_ctl_34) rfl (pc' := 37) rfl ?_
            refine ow_icmp_lt X0 hx (pc0.toInt) ((8294 : Int)) (hb hby d_ctl_37) rfl rfl (by decide) (pt := 51) (by decide) (pf := 40) rfl (fun c37 => ?_) (fun c37 => ?_)
            · refine ow_iconst X0 hx (z := (0 : Int32)) (hb hby d_ctl_51) rfl (pc' := 52) rfl ?_
              exact ow_retB X0 hx hret hlk (hb hby d_ctl_52) (by decide) (by decide) (z' := (0 : Int32)) rfl ⟨(0 : Int32), rfl, (show (((0 ≤ pc0.toInt ∧ pc0.toInt < 32) ∨ (127 ≤ pc0.toInt ∧ pc0.toInt < 160) ∨ (8232 ≤ pc0.toInt ∧ pc0.toInt < 8239) ∨ (8294 ≤ pc0.toInt ∧ pc0.toInt < 8298)) ∧ (0 : Int) = 1) ∨ (¬ ((0 ≤ pc0.toInt ∧ pc0.toInt < 32) ∨ (127 ≤ pc0.toInt ∧ pc0.toInt < 160) ∨ (8232 ≤ pc0.toInt ∧ pc0.toInt < 8239) ∨ (8294 ≤ pc0.toInt ∧ pc0.toInt < 8298)) ∧ (0 : Int) = 0) from by omega), rfl, e0⟩
            · refine ow_iloadN X0 hx (hb hby d_ctl_40) rfl (pc' := 41) rfl ?_
              refine ow_sipush X0 hx (z := (8297 : Int32)) (hb hby d_ctl_41) rfl (pc' := 44) rfl ?_
              refine ow_icmp_gt X0 hx (pc0.toInt) ((8297 : Int)) (hb hby d_ctl_44) rfl rfl (by decide) (pt := 51) (by decide) (pf := 47) rfl (fun c44 => ?_) (fun c44 => ?_)
              · refine ow_iconst X0 hx (z := (0 : Int32)) (hb hby d_ctl_51) rfl (pc' := 52) rfl ?_
                exact ow_retB X0 hx hret hlk (hb hby d_ctl_52) (by decide) (by decide) (z' := (0 : Int32)) rfl ⟨(0 : Int32), rfl, (show (((0 ≤ pc0.toInt ∧ pc0.toInt < 32) ∨ (127 ≤ pc0.toInt ∧ pc0.toInt < 160) ∨ (8232 ≤ pc0.toInt ∧ pc0.toInt < 8239) ∨ (8294 ≤ pc0.toInt ∧ pc0.toInt < 8298)) ∧ (0 : Int) = 1) ∨ (¬ ((0 ≤ pc0.toInt ∧ pc0.toInt < 32) ∨ (127 ≤ pc0.toInt ∧ pc0.toInt < 160) ∨ (8232 ≤ pc0.toInt ∧ pc0.toInt < 8239) ∨ (8294 ≤ pc0.toInt ∧ pc0.toInt < 8298)) ∧ (0 : Int) = 0) from by omega), rfl, e0⟩
              · refine ow_iconst X0 hx (z := (1 : Int32)) (hb hby d_ctl_47) rfl (pc' := 48) rfl ?_
                refine ow_goto X0 hx (hb hby d_ctl_48) (by decide) (pc' := 52) (by decide) ?_
                exact ow_retB X0 hx hret hlk (hb hby d_ctl_52) (by decide) (by decide) (z' := (1 : Int32)) rfl ⟨(1 : Int32), rfl, (show (((0 ≤ pc0.toInt ∧ pc0.toInt < 32) ∨ (127 ≤ pc0.toInt ∧ pc0.toInt < 160) ∨ (8232 ≤ pc0.toInt ∧ pc0.toInt < 8239) ∨ (8294 ≤ pc0.toInt ∧ pc0.toInt < 8298)) ∧ (1 : Int) = 1) ∨ (¬ ((0 ≤ pc0.toInt ∧ pc0.toInt < 32) ∨ (127 ≤ pc0.toInt ∧ pc0.toInt < 160) ∨ (8232 ≤ pc0.toInt ∧ pc0.toInt < 8239) ∨ (8294 ≤ pc0.toInt ∧ pc0.toInt < 8298)) ∧ (1 : Int) = 0) from by omega), rfl, e0⟩
theorem d_inRun_0 : decode method_2_code 0 = .ok (.iload_n 0, 1) := by decide +kernel
theorem d_inRun_1 : decode method_2_code 1 = .ok (.iload_n 1, 1) := by decide +kernel
theorem d_inRun_2 : decode method_2_code 2 = .ok (.isub, 1) := by decide +kernel
theorem d_inRun_3 : decode method_2_code 3 = .ok (.istore_n 3, 1) := by decide +kernel
theorem d_inRun_4 : decode method_2_code 4 = .ok (.iload_n 3, 1) := by decide +kernel
theorem d_inRun_5 : decode method_2_code 5 = .ok (.ifCond .lt 12, 3) := by decide +kernel
theorem d_inRun_8 : decode method_2_code 8 = .ok (.iload_n 3, 1) := by decide +kernel
theorem d_inRun_9 : decode method_2_code 9 = .ok (.iload_n 2, 1) := by decide +kernel
theorem d_inRun_10 : decode method_2_code 10 = .ok (.if_icmp .ge 7, 3) := by decide +kernel
theorem d_inRun_13 : decode method_2_code 13 = .ok (.iconst 1, 1) := by decide +kernel
theorem d_inRun_14 : decode method_2_code 14 = .ok (.goto 4, 3) := by decide +kernel
theorem d_inRun_17 : decode method_2_code 17 = .ok (.iconst 0, 1) := by decide +kernel
theorem d_inRun_18 : decode method_2_code 18 = .ok (.ireturn, 1) := by decide +kernel
theorem ef_inRun (m : MethodId) (x0 : Int32) (x1 : Int32) (x2 : Int32) : entryFrame m #[(.int x0), (.int x1), (.int x2)] 4 = mkF m 0 #[.val (.int x0), .val (.int x1), .val (.int x2), .unset] [] := by first | (simp [entryFrame, mkF, argsToLocals, Value.category]; done) | rfl
theorem pn_1 : plainName "com/example/strict_audit/strictaudit/format/ValueEncodingControlsLayoutPinLaw" = true := by first | (simp [plainName, overriddenIn]; done) | decide +kernel
set_option maxRecDepth 65536 in
set_option maxHeartbeats 40000000 in
theorem rm_inRun (l : Launch) (Z : State) (a0 : Array Value) (hw : ∀ d ∈ tables_1, d.before a0 Z = true) (ws : List Jvm.Cond) (pc0 : Int32) (ps : Int32) (pn : Int32) (h0 : Heap) (h0c : 0 ≤ pc0.toInt) (h0s : 0 ≤ ps.toInt) :
    MetFree l (⟨"com/example/strict_audit/strictaudit/format/ValueEncodingControlsLayoutPinLaw", "inRun", "(III)Z"⟩ : MethodName) (head1 (Jvm.Cond.code (⟨"com/example/strict_audit/strictaudit/format/ValueEncodingControlsLayoutPinLaw", "inRun", "(III)Z"⟩ : MethodName) method_2_code 4 (some .boolean) :: ws) ({ frames := 0, cells := 0, slots := 0, locals := 0 } : Room)) (fun a_ U_ => a_ = #[(.int pc0), (.int ps), (.int pn)] ∧ Z.Warmed39 U_.vm ∧ U_.heap = h0) (fun _ _ _ _ _ => True) (fun _ U_ o_ U_' => ∃ v_ L_, o_ = .returned v_ ∧ (QI (fun z => ((ps.toInt ≤ pc0.toInt ∧ pc0.toInt - ps.toInt < pn.toInt) ∧ z.toInt = 1) ∨ (¬ (ps.toInt ≤ pc0.toInt ∧ pc0.toInt - ps.toInt < pn.toInt) ∧ z.toInt = 0)) h0) v_ U_'.heap L_ ∧ FrameEnd U_ o_ U_' L_ 0 0) := by
  refine ow_body (plainFor_of_name pn_1) ?_
  intro p e s m below meth c T0 X0 hx hZ hby hml hown hnm hret hlk e0
  refine Ends.cast (ef_inRun m pc0 ps pn) ?_
  have r_pc0 := rng32 pc0
  have r_ps := rng32 ps
  have r_pn := rng32 pn
  refine ow_iloadN X0 hx (hb hby d_inRun_0) rfl (pc' := 1) rfl ?_
  refine ow_iloadN X0 hx (hb hby d_inRun_1) rfl (pc' := 2) rfl ?_
  refine ow_isub X0 hx (hb hby d_inRun_2) (pc' := 3) rfl (fun z1 hz1 => ?_)
  have az1 : (z1.toInt - (pc0.toInt - ps.toInt)) % 4294967296 = 0 := by rw [hz1]; exact c_isub pc0 ps
  have rz1 := rng32 z1
  refine ow_istoreN X0 hx (Ls' := #[.val (.int pc0), .val (.int ps), .val (.int pn), .val (.int z1)]) (hb hby d_inRun_3) rfl (pc' := 4) rfl ?_
  refine ow_iloadN X0 hx (hb hby d_inRun_4) rfl (pc' := 5) rfl ?_
  refine ow_if_lt X0 hx (z1.toInt) (hb hby d_inRun_5) rfl (by decide) (pt := 17) (by decide) (pf := 8) rfl (fun c5 => ?_) (fun c5 => ?_)
  · refine ow_iconst X0 hx (z := (0 : Int32)) (hb hby d_inRun_17) rfl (pc' := 18) rfl ?_
    exact ow_retB X0 hx hret hlk (hb hby d_inRun_18) (by decide) (by decide) (z' := (0 : Int32)) rfl ⟨(0 : Int32), rfl, (show ((ps.toInt ≤ pc0.toInt ∧ pc0.toInt - ps.toInt < pn.toInt) ∧ (0 : Int) = 1) ∨ (¬ (ps.toInt ≤ pc0.toInt ∧ pc0.toInt - ps.toInt < pn.toInt) ∧ (0 : Int) = 0) from by omega), rfl, e0⟩
  · refine ow_iloadN X0 hx (hb hby d_inRun_8) rfl (pc' := 9) rfl ?_
    refine ow_iloadN X0 hx (hb hby d_inRun_9) rfl (pc' := 10) rfl ?_
    refine ow_icmp_ge X0 hx (z1.toInt) (pn.toInt) (hb hby d_inRun_10) rfl rfl (by decide) (pt := 17) (by decide) (pf := 13) rfl (fun c10 => ?_) (fun c10 => ?_)
    · refine ow_iconst X0 hx (z := (0 : Int32)) (hb hby d_inRun_17) rfl (pc' := 18) rfl ?_
      exact ow_retB X0 hx hret hlk (hb hby d_inRun_18) (by decide) (by decide) (z' := (0 : Int32)) rfl ⟨(0 : Int32), rfl, (show ((ps.toInt ≤ pc0.toInt ∧ pc0.toInt - ps.toInt < pn.toInt) ∧ (0 : Int) = 1) ∨ (¬ (ps.toInt ≤ pc0.toInt ∧ pc0.toInt - ps.toInt < pn.toInt) ∧ (0 : Int) = 0) from by omega), rfl, e0⟩
    · refine ow_iconst X0 hx (z := (1 : Int32)) (hb hby d_inRun_13) rfl (pc' := 14) rfl ?_
      refine ow_goto X0 hx (hb hby d_inRun_14) (by decide) (pc' := 18) (by decide) ?_
      exact ow_retB X0 hx hret hlk (hb hby d_inRun_18) (by decide) (by decide) (z' := (1 : Int32)) rfl ⟨(1 : Int32), rfl, (show ((ps.toInt ≤ pc0.toInt ∧ pc0.toInt - ps.toInt < pn.toInt) ∧ (1 : Int) = 1) ∨ (¬ (ps.toInt ≤ pc0.toInt ∧ pc0.toInt - ps.toInt < pn.toInt) ∧ (1 : Int) = 0) from by omega), rfl, e0⟩
theorem pd_0 : parseMethodDescriptor "(III)Z" = some ⟨[.int, .int, .int], some .boolean⟩ := by decide +kernel
theorem d_expected_0 : decode method_3_code 0 = .ok (.iload_n 0, 1) := by decide +kernel
theorem d_expected_1 : decode method_3_code 1 = .ok (.iconst 0, 1) := by decide +kernel
theorem d_expected_2 : decode method_3_code 2 = .ok (.bipush 32, 2) := by decide +kernel
theorem d_expected_4 : decode method_3_code 4 = .ok (.invokestatic 7, 3) := by decide +kernel
theorem d_expected_7 : decode method_3_code 7 = .ok (.ifCond .ne 37, 3) := by decide +kernel
theorem d_expected_10 : decode method_3_code 10 = .ok (.iload_n 0, 1) := by decide +kernel
theorem d_expected_11 : decode method_3_code 11 = .ok (.bipush 127, 2) := by decide +kernel
theorem d_expected_13 : decode method_3_code 13 = .ok (.bipush 33, 2) := by decide +kernel
theorem d_expected_15 : decode method_3_code 15 = .ok (.invokestatic 7, 3) := by decide +kernel
theorem d_expected_18 : decode method_3_code 18 = .ok (.ifCond .ne 26, 3) := by decide +kernel
theorem d_expected_21 : decode method_3_code 21 = .ok (.iload_n 0, 1) := by decide +kernel
theorem d_expected_22 : decode method_3_code 22 = .ok (.sipush 8232, 3) := by decide +kernel
theorem d_expected_25 : decode method_3_code 25 = .ok (.bipush 7, 2) := by decide +kernel
theorem d_expected_27 : decode method_3_code 27 = .ok (.invokestatic 7, 3) := by decide +kernel
theorem d_expected_30 : decode method_3_code 30 = .ok (.ifCond .ne 14, 3) := by decide +kernel
theorem d_expected_33 : decode method_3_code 33 = .ok (.iload_n 0, 1) := by decide +kernel
theorem d_expected_34 : decode method_3_code 34 = .ok (.sipush 8294, 3) := by decide +kernel
theorem d_expected_37 : decode method_3_code 37 = .ok (.iconst 4, 1) := by decide +kernel
theorem d_expected_38 : decode method_3_code 38 = .ok (.invokestatic 7, 3) := by decide +kernel
theorem d_expected_41 : decode method_3_code 41 = .ok (.ifCond .eq 7, 3) := by decide +kernel
theorem d_expected_44 : decode method_3_code 44 = .ok (.iconst 1, 1) := by decide +kernel
theorem d_expected_45 : decode method_3_code 45 = .ok (.goto 4, 3) := by decide +kernel
theorem d_expected_48 : decode method_3_code 48 = .ok (.iconst 0, 1) := by decide +kernel
theorem d_expected_49 : decode method_3_code 49 = .ok (.ireturn, 1) := by decide +kernel
theorem ef_expected (m : MethodId) (x0 : Int32) : entryFrame m #[(.int x0)] 1 = mkF m 0 #[.val (.int x0)] [] := by first | (simp [entryFrame, mkF, argsToLocals, Value.category]; done) | rfl
set_option maxRecDepth 65536 in
set_option maxHeartbeats 40000000 in
theorem rm_expected (l : Launch) (Z : State) (a0 : Array Value) (hw : ∀ d ∈ tables_1, d.before a0 Z = true) (ws : List Jvm.Cond) (pc0 : Int32) (h0 : Heap) (h0c : 0 ≤ pc0.toInt) :
    MetFree l (⟨"com/example/strict_audit/strictaudit/format/ValueEncodingControlsLayoutPinLaw", "expected", "(I)Z"⟩ : MethodName) (head1 (Jvm.Cond.code (⟨"com/example/strict_audit/strictaudit/format/ValueEncodingControlsLayoutPinLaw", "expected", "(I)Z"⟩ : MethodName) method_3_code 1 (some .boolean) :: ws) ({ frames := 1, cells := 0, slots := 0, locals := 15 } : Room)) (fun a_ U_ => a_ = #[(.int pc0)] ∧ Z.Warmed39 U_.vm ∧ U_.heap = h0) (fun _ _ _ _ _ => True) (fun _ U_ o_ U_' => ∃ v_ L_, o_ = .returned v_ ∧ (QI (fun z => (((0 ≤ pc0.toInt ∧ pc0.toInt < 32) ∨ (127 ≤ pc0.toInt ∧ pc0.toInt < 160) ∨ (8232 ≤ pc0.toInt ∧ pc0.toInt < 8239) ∨ (8294 ≤ pc0.toInt ∧ pc0.toInt < 8298)) ∧ z.toInt = 1) ∨ (¬ ((0 ≤ pc0.toInt ∧ pc0.toInt < 32) ∨ (127 ≤ pc0.toInt ∧ pc0.toInt < 160) ∨ (8232 ≤ pc0.toInt ∧ pc0.toInt < 8239) ∨ (8294 ≤ pc0.toInt ∧ pc0.toInt < 8298)) ∧ z.toInt = 0)) h0) v_ U_'.heap L_ ∧ FrameEnd U_ o_ U_' L_ 0 0) := by
  refine ow_body (plainFor_of_name pn_1) ?_
  intro p e s m below meth c T0 X0 hx hZ hby hml hown hnm hret hlk e0
  refine Ends.cast (ef_expected m pc0) ?_
  have r_pc0 := rng32 pc0
  refine ow_iloadN X0 hx (hb hby d_expected_0) rfl (pc' := 1) rfl ?_
  refine ow_iconst X0 hx (z := (0 : Int32)) (hb hby d_expected_1) rfl (pc' := 2) rfl ?_
  refine ow_bipush X0 hx (z := (32 : Int32)) (hb hby d_expected_2) rfl (pc' := 4) rfl ?_
  refine ow_callPI X0 hx hZ hown (hw _ (List.mem_of_getElem? (i := 12) rfl)) (hw _ (List.mem_of_getElem? (i := 13) rfl)) (hw _ (List.mem_of_getElem? (i := 10) rfl)) (hw _ (List.mem_of_getElem? (i := 14) rfl)) (by decide) (rm_inRun l Z a0 hw [] pc0 (0 : Int32) (32 : Int32) h0 (by first | omega | decide) (by first | omega | decide)) e0 0 (by decide) (by decide) (by decide) (by decide) [(.int pc0), (.int (0 : Int32)), (.int (32 : Int32))] (by rw [hml]; rfl) pd_0 rfl rfl rfl (Nat.le_of_eq rfl) (hb hby d_expected_4) (pc' := 7) rfl (fun z1 T1 hz1 X1 e1 => ?_)
  have az1 : (((0 : Int) ≤ pc0.toInt ∧ pc0.toInt - (0 : Int) < (32 : Int)) ∧ z1.toInt = 1) ∨ (¬ ((0 : Int) ≤ pc0.toInt ∧ pc0.toInt - (0 : Int) < (32 : Int)) ∧ z1.toInt = 0) := hz1
  have rz1 := rng32 z1
  refine ow_if_ne X1 hx (z1.toInt) (hb hby d_expected_7) rfl (by decide) (pt := 44) (by decide) (pf := 10) rfl (fun c7 => ?_) (fun c7 => ?_)
  · refine ow_iconst X1 hx (z := (1 : Int32)) (hb hby d_expected_44) rfl (pc' := 45) rfl ?_
    refine ow_goto X1 hx (hb hby d_expected_45) (by decide) (pc' := 49) (by decide) ?_
    exact ow_retB X1 hx hret hlk (hb hby d_expected_49) (by decide) (by decide) (z' := (1 : Int32)) rfl ⟨(1 : Int32), rfl, (show (((0 ≤ pc0.toInt ∧ pc0.toInt < 32) ∨ (127 ≤ pc0.toInt ∧ pc0.toInt < 160) ∨ (8232 ≤ pc0.toInt ∧ pc0.toInt < 8239) ∨ (8294 ≤ pc0.toInt ∧ pc0.toInt < 8298)) ∧ (1 : Int) = 1) ∨ (¬ ((0 ≤ pc0.toInt ∧ pc0.toInt < 32) ∨ (127 ≤ pc0.toInt ∧ pc0.toInt < 160) ∨ (8232 ≤ pc0.toInt ∧ pc0.toInt < 8239) ∨ (8294 ≤ pc0.toInt ∧ pc0.toInt < 8298)) ∧ (1 : Int) = 0) from by omega), rfl, e1⟩
  · refine ow_iloadN X1 hx (hb hby d_expected_10) rfl (pc' := 11) rfl ?_
    refine ow_bipush X1 hx (z := (127 : Int32)) (hb hby d_expected_11) rfl (pc' := 13) rfl ?_
    refine ow_bipush X1 hx (z := (33 : Int32)) (hb hby d_expected_13) rfl (pc' := 15) rfl ?_
    refine ow_callPI X1 hx hZ hown (hw _ (List.mem_of_getElem? (i := 12) rfl)) (hw _ (List.mem_of_getElem? (i := 13) rfl)) (hw _ (List.mem_of_getElem? (i := 10) rfl)) (hw _ (List.mem_of_getElem? (i := 14) rfl)) (by decide) (rm_inRun l Z a0 hw [] pc0 (127 : Int32) (33 : Int32) h0 (by first | omega | decide) (by first | omega | decide)) e1 0 (by decide) (by decide) (by decide) (by decide) [(.int pc0), (.int (127 : Int32)), (.int (33 : Int32))] (by rw [hml]; rfl) pd_0 rfl rfl rfl (Nat.le_of_eq rfl) (hb hby d_expected_15) (pc' := 18) rfl (fun z2 T2 hz2 X2 e2 => ?_)
    have az2 : (((127 : Int) ≤ pc0.toInt ∧ pc0.toInt - (127 : Int) < (33 : Int)) ∧ z2.toInt = 1) ∨ (¬ ((127 : Int) ≤ pc0.toInt ∧ pc0.toInt - (127 : Int) < (33 : Int)) ∧ z2.toInt = 0) := hz2
    have rz2 := rng32 z2
    refine ow_if_ne X2 hx (z2.toInt) (hb hby d_expected_18) rfl (by decide) (pt := 44) (by decide) (pf := 21) rfl (fun c18 => ?_) (fun c18 => ?_)
    · refine ow_iconst X2 hx (z := (1 : Int32)) (hb hby d_expected_44) rfl (pc' := 45) rfl ?_
      refine ow_goto X2 hx (hb hby d_expected_45) (by decide) (pc' := 49) (by decide) ?_
      exact ow_retB X2 hx hret hlk (hb hby d_expected_49) (by decide) (by decide) (z' := (1 : Int32)) rfl ⟨(1 : Int32), rfl, (show (((0 ≤ pc0.toInt ∧ pc0.toInt < 32) ∨ (127 ≤ pc0.toInt ∧ pc0.toInt < 160) ∨ (8232 ≤ pc0.toInt ∧ pc0.toInt < 8239) ∨ (8294 ≤ pc0.toInt ∧ pc0.toInt < 8298)) ∧ (1 : Int) = 1) ∨ (¬ ((0 ≤ pc0.toInt ∧ pc0.toInt < 32) ∨ (127 ≤ pc0.toInt ∧ pc0.toInt < 160) ∨ (8232 ≤ pc0.toInt ∧ pc0.toInt < 8239) ∨ (8294 ≤ pc0.toInt ∧ pc0.toInt < 8298)) ∧ (1 : Int) = 0) from by omega), rfl, e2⟩
    · refine ow_iloadN X2 hx (hb hby d_expected_21) rfl (pc' := 22) rfl ?_
      refine ow_sipush X2 hx (z := (8232 : Int32)) (hb hby d_expected_22) rfl (pc' := 25) rfl ?_
      refine ow_bipush X2 hx (z := (7 : Int32)) (hb hby d_expected_25) rfl (pc' := 27) rfl ?_
      refine ow_callPI X2 hx hZ hown (hw _ (List.mem_of_getElem? (i := 12) rfl)) (hw _ (List.mem_of_getElem? (i := 13) rfl)) (hw _ (List.mem_of_getElem? (i := 10) rfl)) (hw _ (List.mem_of_getElem? (i := 14) rfl)) (by decide) (rm_inRun l Z a0 hw [] pc0 (8232 : Int32) (7 : Int32) h0 (by first | omega | decide) (by first | omega | decide)) e2 0 (by decide) (by decide) (by decide) (by decide) [(.int pc0), (.int (8232 : Int32)), (.int (7 : Int32))] (by rw [hml]; rfl) pd_0 rfl rfl rfl (Nat.le_of_eq rfl) (hb hby d_expected_27) (pc' := 30) rfl (fun z3 T3 hz3 X3 e3 => ?_)
      have az3 : (((8232 : Int) ≤ pc0.toInt ∧ pc0.toInt - (8232 : Int) < (7 : Int)) ∧ z3.toInt = 1) ∨ (¬ ((8232 : Int) ≤ pc0.toInt ∧ pc0.toInt - (8232 : Int) < (7 : Int)) ∧ z3.toInt = 0) := hz3
      have rz3 := rng32 z3
      refine ow_if_ne X3 hx (z3.toInt) (hb hby d_expected_30) rfl (by decide) (pt := 44) (by decide) (pf := 33) rfl (fun c30 => ?_) (fun c30 => ?_)
      · refine ow_iconst X3 hx (z := (1 : Int32)) (hb hby d_expected_44) rfl (pc' := 45) rfl ?_
        refine ow_goto X3 hx (hb hby d_expected_45) (by decide) (pc' := 49) (by decide) ?_
        exact ow_retB X3 hx hret hlk (hb hby d_expected_49) (by decide) (by decide) (z' := (1 : Int32)) rfl ⟨(1 : Int32), rfl, (show (((0 ≤ pc0.toInt ∧ pc0.toInt < 32) ∨ (127 ≤ pc0.toInt ∧ pc0.toInt < 160) ∨ (8232 ≤ pc0.toInt ∧ pc0.toInt < 8239) ∨ (8294 ≤ pc0.toInt ∧ pc0.toInt < 8298)) ∧ (1 : Int) = 1) ∨ (¬ ((0 ≤ pc0.toInt ∧ pc0.toInt < 32) ∨ (127 ≤ pc0.toInt ∧ pc0.toInt < 160) ∨ (8232 ≤ pc0.toInt ∧ pc0.toInt < 8239) ∨ (8294 ≤ pc0.toInt ∧ pc0.toInt < 8298)) ∧ (1 : Int) = 0) from by omega), rfl, e3⟩
      · refine ow_iloadN X3 hx (hb hby d_expected_33) rfl (pc' := 34) rfl ?_
        refine ow_sipush X3 hx (z := (8294 : Int32)) (hb hby d_expected_34) rfl (pc' := 37) rfl ?_
        refine ow_iconst X3 hx (z := (4 : Int32)) (hb hby d_expected_37) rfl (pc' := 38) rfl ?_
        refine ow_callPI X3 hx hZ hown (hw _ (List.mem_of_getElem? (i := 12) rfl)) (hw _ (List.mem_of_getElem? (i := 13) rfl)) (hw _ (List.mem_of_getElem? (i := 10) rfl)) (hw _ (List.mem_of_getElem? (i := 14) rfl)) (by decide) (rm_inRun l Z a0 hw [] pc0 (8294 : Int32) (4 : Int32) h0 (by first | omega | decide) (by first | omega | decide)) e3 0 (by decide) (by decide) (by decide) (by decide) [(.int pc0), (.int (8294 : Int32)), (.int (4 : Int32))] (by rw [hml]; rfl) pd_0 rfl rfl rfl (Nat.le_of_eq rfl) (hb hby d_expected_38) (pc' := 41) rfl (fun z4 T4 hz4 X4 e4 => ?_)
        have az4 : (((8294 : Int) ≤ pc0.toInt ∧ pc0.toInt - (8294 : Int) < (4 : Int)) ∧ z4.toInt = 1) ∨ (¬ ((8294 : Int) ≤ pc0.toInt ∧ pc0.toInt - (8294 : Int) < (4 : Int)) ∧ z4.toInt = 0) := hz4
        have rz4 := rng32 z4
        refine ow_if_eq X4 hx (z4.toInt) (hb hby d_expected_41) rfl (by decide) (pt := 48) (by decide) (pf := 44) rfl (fun c41 => ?_) (fun c41 => ?_)
        · refine ow_iconst X4 hx (z := (0 : Int32)) (hb hby d_expected_48) rfl (pc' := 49) rfl ?_
          exact ow_retB X4 hx hret hlk (hb hby d_expected_49) (by decide) (by decide) (z' := (0 : Int32)) rfl ⟨(0 : Int32), rfl, (show (((0 ≤ pc0.toInt ∧ pc0.toInt < 32) ∨ (127 ≤ pc0.toInt ∧ pc0.toInt < 160) ∨ (8232 ≤ pc0.toInt ∧ pc0.toInt < 8239) ∨ (8294 ≤ pc0.toInt ∧ pc0.toInt < 8298)) ∧ (0 : Int) = 1) ∨ (¬ ((0 ≤ pc0.toInt ∧ pc0.toInt < 32) ∨ (127 ≤ pc0.toInt ∧ pc0.toInt < 160) ∨ (8232 ≤ pc0.toInt ∧ pc0.toInt < 8239) ∨ (8294 ≤ pc0.toInt ∧ pc0.toInt < 8298)) ∧ (0 : Int) = 0) from by omega), rfl, e4⟩
        · refine ow_iconst X4 hx (z := (1 : Int32)) (hb hby d_expected_44) rfl (pc' := 45) rfl ?_
          refine ow_goto X4 hx (hb hby d_expected_45) (by decide) (pc' := 49) (by decide) ?_
          exact ow_retB X4 hx hret hlk (hb hby d_expected_49) (by decide) (by decide) (z' := (1 : Int32)) rfl ⟨(1 : Int32), rfl, (show (((0 ≤ pc0.toInt ∧ pc0.toInt < 32) ∨ (127 ≤ pc0.toInt ∧ pc0.toInt < 160) ∨ (8232 ≤ pc0.toInt ∧ pc0.toInt < 8239) ∨ (8294 ≤ pc0.toInt ∧ pc0.toInt < 8298)) ∧ (1 : Int) = 1) ∨ (¬ ((0 ≤ pc0.toInt ∧ pc0.toInt < 32) ∨ (127 ≤ pc0.toInt ∧ pc0.toInt < 160) ∨ (8232 ≤ pc0.toInt ∧ pc0.toInt < 8239) ∨ (8294 ≤ pc0.toInt ∧ pc0.toInt < 8298)) ∧ (1 : Int) = 0) from by omega), rfl, e4⟩
theorem pd_1 : parseMethodDescriptor "(I)Z" = some ⟨[.int], some .boolean⟩ := by decide +kernel
theorem ef_law (m : MethodId) (x0 : Int32) (x1 : Int32) : entryFrame m #[(.int x0), (.int x1)] maxLocals = mkF m 0 #[.val (.int x0), .val (.int x1), .unset, .unset, .unset, .unset, .unset] [] := by first | (simp [entryFrame, mkF, argsToLocals, Value.category, maxLocals]; done) | rfl
def Q_law (px : Int32) (pk : Int32) (h0 : Heap) (n0 : Nat) (v : Option Value) (h : Heap) (L : List Loc) : Prop := v = some (.int 1) ∧ Fr n0 L
set_option maxRecDepth 65536 in
set_option maxHeartbeats 40000000 in
theorem rm_law (l : Launch) (Z : State) (a0 : Array Value) (hw : ∀ d ∈ tables_1, d.before a0 Z = true) (ws : List Jvm.Cond) (px : Int32) (pk : Int32) (h0 : Heap) (n0 : Nat) (Z0 : n0 ≤ h0.size) :
    MetFree l x (head1 (Jvm.Cond.code x code maxLocals ret :: ws) room_1) (fun a_ U_ => a_ = #[(.int px), (.int pk)] ∧ Z.Warmed39 U_.vm ∧ U_.heap = h0) (fun _ _ _ _ _ => True) (fun _ U_ o_ U_' => ∃ v_ L_, o_ = .returned v_ ∧ (Q_law px pk h0 n0) v_ U_'.heap L_ ∧ FrameEnd U_ o_ U_' L_ 16 128) := by
  refine ow_body (plainFor_of_name pn_1) ?_
  intro p e s m below meth c T0 X0 hx hZ hby hml hown hnm hret hlk e0
  have N0 := Fr.nil n0
  have hret : meth.sig.returnType = (some .boolean) := hret
  refine Ends.cast (ef_law m px pk) ?_
  have r_px := rng32 px
  have r_pk := rng32 pk
  refine ow_iloadN X0 hx (hb hby at_0) rfl (pc' := 1) rfl ?_
  refine ow_ldcInt X0 hx hZ hown (hw _ (List.mem_of_getElem? (i := 0) rfl)) (hb hby at_1) (pc' := 3) rfl ?_
  refine ow_iand X0 hx (hb hby at_3) (pc' := 4) rfl (fun z1 hz1 => ?_)
  have az1 : z1.toInt = px.toInt % 2147483648 := by rw [hz1]; exact c_mask px (2147483647 : Int32) 31 (by decide) (by decide)
  have rz1 := rng32 z1
  refine ow_ldcInt X0 hx hZ hown (hw _ (List.mem_of_getElem? (i := 1) rfl)) (hb hby at_4) (pc' := 6) rfl ?_
  refine ow_irem X0 hx (hb hby at_6) (by decide) (pc' := 7) rfl (fun z2 hz2 => ?_)
  have az2 : (0 ≤ z1.toInt → z2.toInt = z1.toInt % 1114112) ∧ (z1.toInt < 0 → z2.toInt = -((-z1.toInt) % 1114112)) := by rw [hz2]; exact c_irem z1 (1114112 : Int32) 1114112 rfl
  have rz2 := rng32 z2
  refine ow_istoreN X0 hx (Ls' := #[.val (.int px), .val (.int pk), .val (.int z2), .unset, .unset, .unset, .unset]) (hb hby at_7) rfl (pc' := 8) rfl ?_
  refine ow_bipush X0 hx (z := (16 : Int32)) (hb hby at_8) rfl (pc' := 10) rfl ?_
  refine ow_newP X0 hx hZ (hw _ (List.mem_of_getElem? (i := 2) rfl)) e0 (hb hby at_10) (by decide) 16 (by decide) (by decide) (by decide) (by decide) (pc' := 12) rfl (fun T3 h3 b3 k3 g3 X3 e3 E3 V3 => ?_)
  have g_b3 : n0 ≤ b3 := Nat.le_trans Z0 (Nat.le_of_eq g3.symm)
  have sz_b3 : h0.size ≤ b3 := Nat.le_trans (Keep.refl h0 []).1 (Nat.le_of_eq g3.symm)
  have Zs3 : n0 ≤ h3.size := Nat.le_trans Z0 E3.1
  have K3 := (Keep.refl h0 []).ext E3
  have V_b3 : Arv Z h3 b3 k3 .int (16 : Int32) [(.int (0 : Int32)), (.int (0 : Int32)), (.int (0 : Int32)), (.int (0 : Int32)), (.int (0 : Int32)), (.int (0 : Int32)), (.int (0 : Int32)), (.int (0 : Int32)), (.int (0 : Int32)), (.int (0 : Int32)), (.int (0 : Int32)), (.int (0 : Int32)), (.int (0 : Int32)), (.int (0 : Int32)), (.int (0 : Int32)), (.int (0 : Int32))] (.int (0 : Int32)) := V3.pad (pad_rep [] (.int (0 : Int32)) 16)
  refine ow_dup X3 hx (hb hby at_12) rfl (pc' := 13) rfl ?_
  refine ow_iconst X3 hx (z := (0 : Int32)) (hb hby at_13) rfl (pc' := 14) rfl ?_
  refine ow_iconst X3 hx (z := (0 : Int32)) (hb hby at_14) rfl (pc' := 15) rfl ?_
  refine ow_stI X3 hx hZ e3 V_b3 0 rfl (by decide) (by decide) (Nat.le_of_ble_eq_true rfl) (hb hby at_15) (pc' := 16) rfl (fun T4 h4 X4 e4 W4 V4 => ?_)
  have V_b3_4 : Arv Z h4 b3 k3 .int (16 : Int32) [(.int (0 : Int32)), (.int (0 : Int32)), (.int (0 : Int32)), (.int (0 : Int32)), (.int (0 : Int32)), (.int (0 : Int32)), (.int (0 : Int32)), (.int (0 : Int32)), (.int (0 : Int32)), (.int (0 : Int32)), (.int (0 : Int32)), (.int (0 : Int32)), (.int (0 : Int32)), (.int (0 : Int32)), (.int (0 : Int32)), (.int (0 : Int32))] (.int (0 : Int32)) := V4
  have Zs4 : n0 ≤ h4.size := Nat.le_trans Zs3 (Keep.of_wr W4).1
  have K4 := K3.wr W4 (Or.inr sz_b3)
  have N4 := Fr.snoc X4 N0 g_b3
  refine ow_dup X4 hx (hb hby at_16) rfl (pc' := 17) rfl ?_
  refine ow_iconst X4 hx (z := (1 : Int32)) (hb hby at_17) rfl (pc' := 18) rfl ?_
  refine ow_bipush X4 hx (z := (31 : Int32)) (hb hby at_18) rfl (pc' := 20) rfl ?_
  refine ow_stI X4 hx hZ e4 V_b3_4 1 rfl (by decide) (by decide) (Nat.le_of_ble_eq_true rfl) (hb hby at_20) (pc' := 21) rfl (fun T5 h5 X5 e5 W5 V5 => ?_)
  have V_b3_5 : Arv Z h5 b3 k3 .int (16 : Int32) [(.int (0 : Int32)), (.int (31 : Int32)), (.int (0 : Int32)), (.int (0 : Int32)), (.int (0 : Int32)), (.int (0 : Int32)), (.int (0 : Int32)), (.int (0 : Int32)), (.int (0 : Int32)), (.int (0 : Int32)), (.int (0 : Int32)), (.int (0 : Int32)), (.int (0 : Int32)), (.int (0 : Int32)), (.int (0 : Int32)), (.int (0 : Int32))] (.int (0 : Int32)) := V5
  have Zs5 : n0 ≤ h5.size := Nat.le_trans Zs4 (Keep.of_wr W5).1
  have K5 := K4.wr W5 (Or.inr sz_b3)
  have N5 := Fr.snoc X5 N4 g_b3
  refine ow_dup X5 hx (hb hby at_21) rfl (pc' := 22) rfl ?_
  refine ow_iconst X5 hx (z := (2 : Int32)) (hb hby at_22) rfl (pc' := 23) rfl ?_
  refine ow_bipush X5 hx (z := (32 : Int32)) (hb hby at_23) rfl (pc' := 25) rfl ?_
  refine ow_stI X5 hx hZ e5 V_b3_5 2 rfl (by decide) (by decide) (Nat.le_of_ble_eq_true rfl) (hb hby at_25) (pc' := 26) rfl (fun T6 h6 X6 e6 W6 V6 => ?_)
  have V_b3_6 : Arv Z h6 b3 k3 .int (16 : Int32) [(.int (0 : Int32)), (.int (31 : Int32)), (.int (32 : Int32)), (.int (0 : Int32)), (.int (0 : Int32)), (.int (0 : Int32)), (.int (0 : Int32)), (.int (0 : Int32)), (.int (0 : Int32)), (.int (0 : Int32)), (.int (0 : Int32)), (.int (0 : Int32)), (.int (0 : Int32)), (.int (0 : Int32)), (.int (0 : Int32)), (.int (0 : Int32))] (.int (0 : Int32)) := V6
  have Zs6 : n0 ≤ h6.size := Nat.le_trans Zs5 (Keep.of_wr W6).1
  have K6 := K5.wr W6 (Or.inr sz_b3)
  have N6 := Fr.snoc X6 N5 g_b3
  refine ow_dup X6 hx (hb hby at_26) rfl (pc' := 27) rfl ?_
  refine ow_iconst X6 hx (z := (3 : Int32)) (hb hby at_27) rfl (pc' := 28) rfl ?_
  refine ow_bipush X6 hx (z := (126 : Int32)) (hb hby at_28) rfl (pc' := 30) rfl ?_
  refine ow_stI X6 hx hZ e6 V_b3_6 3 rfl (by decide) (by decide) (Nat.le_of_ble_eq_true rfl) (hb hby at_30) (pc' := 31) rfl (fun T7 h7 X7 e7 W7 V7 => ?_)
  have V_b3_7 : Arv Z h7 b3 k3 .int (16 : Int32) [(.int (0 : Int32)), (.int (31 : Int32)), (.int (32 : Int32)), (.int (126 : Int32)), (.int (0 : Int32)), (.int (0 : Int32)), (.int (0 : Int32)), (.int (0 : Int32)), (.int (0 : Int32)), (.int (0 : Int32)), (.int (0 : Int32)), (.int (0 : Int32)), (.int (0 : Int32)), (.int (0 : Int32)), (.int (0 : Int32)), (.int (0 : Int32))] (.int (0 : Int32)) := V7
  have Zs7 : n0 ≤ h7.size := Nat.le_trans Zs6 (Keep.of_wr W7).1
  have K7 := K6.wr W7 (Or.inr sz_b3)
  have N7 := Fr.snoc X7 N6 g_b3
  refine ow_dup X7 hx (hb hby at_31) rfl (pc' := 32) rfl ?_
  refine ow_iconst X7 hx (z := (4 : Int32)) (hb hby at_32) rfl (pc' := 33) rfl ?_
  refine ow_bipush X7 hx (z := (127 : Int32)) (hb hby at_33) rfl (pc' := 35) rfl ?_
  refine ow_stI X7 hx hZ e7 V_b3_7 4 rfl (by decide) (by decide) (Nat.le_of_ble_eq_true rfl) (hb hby at_35) (pc' := 36) rfl (fun T8 h8 X8 e8 W8 V8 => ?_)
  have V_b3_8 : Arv Z h8 b3 k3 .int (16 : Int32) [(.int (0 : Int32)), (.int (31 : Int32)), (.int (32 : Int32)), (.int (126 : Int32)), (.int (127 : Int32)), (.int (0 : Int32)), (.int (0 : Int32)), (.int (0 : Int32)), (.int (0 : Int32)), (.int (0 : Int32)), (.int (0 : Int32)), (.int (0 : Int32)), (.int (0 : Int32)), (.int (0 : Int32)), (.int (0 : Int32)), (.int (0 : Int32))] (.int (0 : Int32)) := V8
  have Zs8 : n0 ≤ h8.size := Nat.le_trans Zs7 (Keep.of_wr W8).1
  have K8 := K7.wr W8 (Or.inr sz_b3)
  have N8 := Fr.snoc X8 N7 g_b3
  refine ow_dup X8 hx (hb hby at_36) rfl (pc' := 37) rfl ?_
  refine ow_iconst X8 hx (z := (5 : Int32)) (hb hby at_37) rfl (pc' := 38) rfl ?_
  refine ow_sipush X8 hx (z := (159 : Int32)) (hb hby at_38) rfl (pc' := 41) rfl ?_
  refine ow_stI X8 hx hZ e8 V_b3_8 5 rfl (by decide) (by decide) (Nat.le_of_ble_eq_true rfl) (hb hby at_41) (pc' := 42) rfl (fun T9 h9 X9 e9 W9 V9 => ?_)
  have V_b3_9 : Arv Z h9 b3 k3 .int (16 : Int32) [(.int (0 : Int32)), (.int (31 : Int32)), (.int (32 : Int32)), (.int (126 : Int32)), (.int (127 : Int32)), (.int (159 : Int32)), (.int (0 : Int32)), (.int (0 : Int32)), (.int (0 : Int32)), (.int (0 : Int32)), (.int (0 : Int32)), (.int (0 : Int32)), (.int (0 : Int32)), (.int (0 : Int32)), (.int (0 : Int32)), (.int (0 : Int32))] (.int (0 : Int32)) := V9
  have Zs9 : n0 ≤ h9.size := Nat.le_trans Zs8 (Keep.of_wr W9).1
  have K9 := K8.wr W9 (Or.inr sz_b3)
  have N9 := Fr.snoc X9 N8 g_b3
  refine ow_dup X9 hx (hb hby at_42) rfl (pc' := 43) rfl ?_
  refine ow_bipush X9 hx (z := (6 : Int32)) (hb hby at_43) rfl (pc' := 45) rfl ?_
  refine ow_sipush X9 hx (z := (160 : Int32)) (hb hby at_45) rfl (pc' := 48) rfl ?_
  refine ow_stI X9 hx hZ e9 V_b3_9 6 rfl (by decide) (by decide) (Nat.le_of_ble_eq_true rfl) (hb hby at_48) (pc' := 49) rfl (fun T10 h10 X10 e10 W10 V10 => ?_)
  have V_b3_10 : Arv Z h10 b3 k3 .int (16 : Int32) [(.int (0 : Int32)), (.int (31 : Int32)), (.int (32 : Int32)), (.int (126 : Int32)), (.int (127 : Int32)), (.int (159 : Int32)), (.int (160 : Int32)), (.int (0 : Int32)), (.int (0 : Int32)), (.int (0 : Int32)), (.int (0 : Int32)), (.int (0 : Int32)), (.int (0 : Int32)), (.int (0 : Int32)), (.int (0 : Int32)), (.int (0 : Int32))] (.int (0 : Int32)) := V10
  have Zs10 : n0 ≤ h10.size := Nat.le_trans Zs9 (Keep.of_wr W10).1
  have K10 := K9.wr W10 (Or.inr sz_b3)
  have N10 := Fr.snoc X10 N9 g_b3
  refine ow_dup X10 hx (hb hby at_49) rfl (pc' := 50) rfl ?_
  refine ow_bipush X10 hx (z := (7 : Int32)) (hb hby at_50) rfl (pc' := 52) rfl ?_
  refine ow_sipush X10 hx (z := (8231 : Int32)) (hb hby at_52) rfl (pc' := 55) rfl ?_
  refine ow_stI X10 hx hZ e10 V_b3_10 7 rfl (by decide) (by decide) (Nat.le_of_ble_eq_true rfl) (hb hby at_55) (pc' := 56) rfl (fun T11 h11 X11 e11 W11 V11 => ?_)
  have V_b3_11 : Arv Z h11 b3 k3 .int (16 : Int32) [(.int (0 : Int32)), (.int (31 : Int32)), (.int (32 : Int32)), (.int (126 : Int32)), (.int (127 : Int32)), (.int (159 : Int32)), (.int (160 : Int32)), (.int (8231 : Int32)), (.int (0 : Int32)), (.int (0 : Int32)), (.int (0 : Int32)), (.int (0 : Int32)), (.int (0 : Int32)), (.int (0 : Int32)), (.int (0 : Int32)), (.int (0 : Int32))] (.int (0 : Int32)) := V11
  have Zs11 : n0 ≤ h11.size := Nat.le_trans Zs10 (Keep.of_wr W11).1
  have K11 := K10.wr W11 (Or.inr sz_b3)
  have N11 := Fr.snoc X11 N10 g_b3
  refine ow_dup X11 hx (hb hby at_56) rfl (pc' := 57) rfl ?_
  refine ow_bipush X11 hx (z := (8 : Int32)) (hb hby at_57) rfl (pc' := 59) rfl ?_
  refine ow_sipush X11 hx (z := (8232 : Int32)) (hb hby at_59) rfl (pc' := 62) rfl ?_
  refine ow_stI X11 hx hZ e11 V_b3_11 8 rfl (by decide) (by decide) (Nat.le_of_ble_eq_true rfl) (hb hby at_62) (pc' := 63) rfl (fun T12 h12 X12 e12 W12 V12 => ?_)
  have V_b3_12 : Arv Z h12 b3 k3 .int (16 : Int32) [(.int (0 : Int32)), (.int (31 : Int32)), (.int (32 : Int32)), (.int (126 : Int32)), (.int (127 : Int32)), (.int (159 : Int32)), (.int (160 : Int32)), (.int (8231 : Int32)), (.int (8232 : Int32)), (.int (0 : Int32)), (.int (0 : Int32)), (.int (0 : Int32)), (.int (0 : Int32)), (.int (0 : Int32)), (.int (0 : Int32)), (.int (0 : Int32))] (.int (0 : Int32)) := V12
  have Zs12 : n0 ≤ h12.size := Nat.le_trans Zs11 (Keep.of_wr W12).1
  have K12 := K11.wr W12 (Or.inr sz_b3)
  have N12 := Fr.snoc X12 N11 g_b3
  refine ow_dup X12 hx (hb hby at_63) rfl (pc' := 64) rfl ?_
  refine ow_bipush X12 hx (z := (9 : Int32)) (hb hby at_64) rfl (pc' := 66) rfl ?_
  refine ow_sipush X12 hx (z := (8238 : Int32)) (hb hby at_66) rfl (pc' := 69) rfl ?_
  refine ow_stI X12 hx hZ e12 V_b3_12 9 rfl (by decide) (by decide) (Nat.le_of_ble_eq_true rfl) (hb hby at_69) (pc' := 70) rfl (fun T13 h13 X13 e13 W13 V13 => ?_)
  have V_b3_13 : Arv Z h13 b3 k3 .int (16 : Int32) [(.int (0 : Int32)), (.int (31 : Int32)), (.int (32 : Int32)), (.int (126 : Int32)), (.int (127 : Int32)), (.int (159 : Int32)), (.int (160 : Int32)), (.int (8231 : Int32)), (.int (8232 : Int32)), (.int (8238 : Int32)), (.int (0 : Int32)), (.int (0 : Int32)), (.int (0 : Int32)), (.int (0 : Int32)), (.int (0 : Int32)), (.int (0 : Int32))] (.int (0 : Int32)) := V13
  have Zs13 : n0 ≤ h13.size := Nat.le_trans Zs12 (Keep.of_wr W13).1
  have K13 := K12.wr W13 (Or.inr sz_b3)
  have N13 := Fr.snoc X13 N12 g_b3
  refine ow_dup X13 hx (hb hby at_70) rfl (pc' := 71) rfl ?_
  refine ow_bipush X13 hx (z := (10 : Int32)) (hb hby at_71) rfl (pc' := 73) rfl ?_
  refine ow_sipush X13 hx (z := (8239 : Int32)) (hb hby at_73) rfl (pc' := 76) rfl ?_
  refine ow_stI X13 hx hZ e13 V_b3_13 10 rfl (by decide) (by decide) (Nat.le_of_ble_eq_true rfl) (hb hby at_76) (pc' := 77) rfl (fun T14 h14 X14 e14 W14 V14 => ?_)
  have V_b3_14 : Arv Z h14 b3 k3 .int (16 : Int32) [(.int (0 : Int32)), (.int (31 : Int32)), (.int (32 : Int32)), (.int (126 : Int32)), (.int (127 : Int32)), (.int (159 : Int32)), (.int (160 : Int32)), (.int (8231 : Int32)), (.int (8232 : Int32)), (.int (8238 : Int32)), (.int (8239 : Int32)), (.int (0 : Int32)), (.int (0 : Int32)), (.int (0 : Int32)), (.int (0 : Int32)), (.int (0 : Int32))] (.int (0 : Int32)) := V14
  have Zs14 : n0 ≤ h14.size := Nat.le_trans Zs13 (Keep.of_wr W14).1
  have K14 := K13.wr W14 (Or.inr sz_b3)
  have N14 := Fr.snoc X14 N13 g_b3
  refine ow_dup X14 hx (hb hby at_77) rfl (pc' := 78) rfl ?_
  refine ow_bipush X14 hx (z := (11 : Int32)) (hb hby at_78) rfl (pc' := 80) rfl ?_
  refine ow_sipush X14 hx (z := (8293 : Int32)) (hb hby at_80) rfl (pc' := 83) rfl ?_
  refine ow_stI X14 hx hZ e14 V_b3_14 11 rfl (by decide) (by decide) (Nat.le_of_ble_eq_true rfl) (hb hby at_83) (pc' := 84) rfl (fun T15 h15 X15 e15 W15 V15 => ?_)
  have V_b3_15 : Arv Z h15 b3 k3 .int (16 : Int32) [(.int (0 : Int32)), (.int (31 : Int32)), (.int (32 : Int32)), (.int (126 : Int32)), (.int (127 : Int32)), (.int (159 : Int32)), (.int (160 : Int32)), (.int (8231 : Int32)), (.int (8232 : Int32)), (.int (8238 : Int32)), (.int (8239 : Int32)), (.int (8293 : Int32)), (.int (0 : Int32)), (.int (0 : Int32)), (.int (0 : Int32)), (.int (0 : Int32))] (.int (0 : Int32)) := V15
  have Zs15 : n0 ≤ h15.size := Nat.le_trans Zs14 (Keep.of_wr W15).1
  have K15 := K14.wr W15 (Or.inr sz_b3)
  have N15 := Fr.snoc X15 N14 g_b3
  refine ow_dup X15 hx (hb hby at_84) rfl (pc' := 85) rfl ?_
  refine ow_bipush X15 hx (z := (12 : Int32)) (hb hby at_85) rfl (pc' := 87) rfl ?_
  refine ow_sipush X15 hx (z := (8294 : Int32)) (hb hby at_87) rfl (pc' := 90) rfl ?_
  refine ow_stI X15 hx hZ e15 V_b3_15 12 rfl (by decide) (by decide) (Nat.le_of_ble_eq_true rfl) (hb hby at_90) (pc' := 91) rfl (fun T16 h16 X16 e16 W16 V16 => ?_)
  have V_b3_16 : Arv Z h16 b3 k3 .int (16 : Int32) [(.int (0 : Int32)), (.int (31 : Int32)), (.int (32 : Int32)), (.int (126 : Int32)), (.int (127 : Int32)), (.int (159 : Int32)), (.int (160 : Int32)), (.int (8231 : Int32)), (.int (8232 : Int32)), (.int (8238 : Int32)), (.int (8239 : Int32)), (.int (8293 : Int32)), (.int (8294 : Int32)), (.int (0 : Int32)), (.int (0 : Int32)), (.int (0 : Int32))] (.int (0 : Int32)) := V16
  have Zs16 : n0 ≤ h16.size := Nat.le_trans Zs15 (Keep.of_wr W16).1
  have K16 := K15.wr W16 (Or.inr sz_b3)
  have N16 := Fr.snoc X16 N15 g_b3
  refine ow_dup X16 hx (hb hby at_91) rfl (pc' := 92) rfl ?_
  refine ow_bipush X16 hx (z := (13 : Int32)) (hb hby at_92) rfl (pc' := 94) rfl ?_
  refine ow_sipush X16 hx (z := (8297 : Int32)) (hb hby at_94) rfl (pc' := 97) rfl ?_
  refine ow_stI X16 hx hZ e16 V_b3_16 13 rfl (by decide) (by decide) (Nat.le_of_ble_eq_true rfl) (hb hby at_97) (pc' := 98) rfl (fun T17 h17 X17 e17 W17 V17 => ?_)
  have V_b3_17 : Arv Z h17 b3 k3 .int (16 : Int32) [(.int (0 : Int32)), (.int (31 : Int32)), (.int (32 : Int32)), (.int (126 : Int32)), (.int (127 : Int32)), (.int (159 : Int32)), (.int (160 : Int32)), (.int (8231 : Int32)), (.int (8232 : Int32)), (.int (8238 : Int32)), (.int (8239 : Int32)), (.int (8293 : Int32)), (.int (8294 : Int32)), (.int (8297 : Int32)), (.int (0 : Int32)), (.int (0 : Int32))] (.int (0 : Int32)) := V17
  have Zs17 : n0 ≤ h17.size := Nat.le_trans Zs16 (Keep.of_wr W17).1
  have K17 := K16.wr W17 (Or.inr sz_b3)
  have N17 := Fr.snoc X17 N16 g_b3
  refine ow_dup X17 hx (hb hby at_98) rfl (pc' := 99) rfl ?_
  refine ow_bipush X17 hx (z := (14 : Int32)) (hb hby at_99) rfl (pc' := 101) rfl ?_
  refine ow_sipush X17 hx (z := (8298 : Int32)) (hb hby at_101) rfl (pc' := 104) rfl ?_
  refine ow_stI X17 hx hZ e17 V_b3_17 14 rfl (by decide) (by decide) (Nat.le_of_ble_eq_true rfl) (hb hby at_104) (pc' := 105) rfl (fun T18 h18 X18 e18 W18 V18 => ?_)
  have V_b3_18 : Arv Z h18 b3 k3 .int (16 : Int32) [(.int (0 : Int32)), (.int (31 : Int32)), (.int (32 : Int32)), (.int (126 : Int32)), (.int (127 : Int32)), (.int (159 : Int32)), (.int (160 : Int32)), (.int (8231 : Int32)), (.int (8232 : Int32)), (.int (8238 : Int32)), (.int (8239 : Int32)), (.int (8293 : Int32)), (.int (8294 : Int32)), (.int (8297 : Int32)), (.int (8298 : Int32)), (.int (0 : Int32))] (.int (0 : Int32)) := V18
  have Zs18 : n0 ≤ h18.size := Nat.le_trans Zs17 (Keep.of_wr W18).1
  have K18 := K17.wr W18 (Or.inr sz_b3)
  have N18 := Fr.snoc X18 N17 g_b3
  refine ow_dup X18 hx (hb hby at_105) rfl (pc' := 106) rfl ?_
  refine ow_bipush X18 hx (z := (15 : Int32)) (hb hby at_106) rfl (pc' := 108) rfl ?_
  refine ow_ldcInt X18 hx hZ hown (hw _ (List.mem_of_getElem? (i := 3) rfl)) (hb hby at_108) (pc' := 110) rfl ?_
  refine ow_stI X18 hx hZ e18 V_b3_18 15 rfl (by decide) (by decide) (Nat.le_of_ble_eq_true rfl) (hb hby at_110) (pc' := 111) rfl (fun T19 h19 X19 e19 W19 V19 => ?_)
  have V_b3_19 : Arv Z h19 b3 k3 .int (16 : Int32) [(.int (0 : Int32)), (.int (31 : Int32)), (.int (32 : Int32)), (.int (126 : Int32)), (.int (127 : Int32)), (.int (159 : Int32)), (.int (160 : Int32)), (.int (8231 : Int32)), (.int (8232 : Int32)), (.int (8238 : Int32)), (.int (8239 : Int32)), (.int (8293 : Int32)), (.int (8294 : Int32)), (.int (8297 : Int32)), (.int (8298 : Int32)), (.int (1114111 : Int32))] (.int (0 : Int32)) := V19
  have Zs19 : n0 ≤ h19.size := Nat.le_trans Zs18 (Keep.of_wr W19).1
  have K19 := K18.wr W19 (Or.inr sz_b3)
  have N19 := Fr.snoc X19 N18 g_b3
  refine ow_astoreN X19 hx (Ls' := #[.val (.int px), .val (.int pk), .val (.int z2), .val (.ref b3), .unset, .unset, .unset]) (hb hby at_111) rfl rfl (pc' := 112) rfl ?_
  refine ow_aloadN X19 hx (hb hby at_112) rfl rfl (pc' := 113) rfl ?_
  refine ow_iloadN X19 hx (hb hby at_113) rfl (pc' := 114) rfl ?_
  refine ow_bipush X19 hx (z := (15 : Int32)) (hb hby at_114) rfl (pc' := 116) rfl ?_
  refine ow_iand X19 hx (hb hby at_116) (pc' := 117) rfl (fun z20 hz20 => ?_)
  have az20 : z20.toInt = pk.toInt % 16 := by rw [hz20]; exact c_mask pk (15 : Int32) 4 (by decide) (by decide)
  have rz20 := rng32 z20
  obtain ⟨w117, hv117, hw117⟩ : ∃ w : Int32, ([(.int (0 : Int32)), (.int (31 : Int32)), (.int (32 : Int32)), (.int (126 : Int32)), (.int (127 : Int32)), (.int (159 : Int32)), (.int (160 : Int32)), (.int (8231 : Int32)), (.int (8232 : Int32)), (.int (8238 : Int32)), (.int (8239 : Int32)), (.int (8293 : Int32)), (.int (8294 : Int32)), (.int (8297 : Int32)), (.int (8298 : Int32)), (.int (1114111 : Int32))] : List Value).getD z20.toNatClampNeg (.int (0 : Int32)) = .int w ∧ 0 ≤ w.toInt := by
    have hn : z20.toNatClampNeg < 16 := by simp only [Int32.toNatClampNeg]; omega
    generalize z20.toNatClampNeg = i at hn ⊢
    match i, hn with
    | 0, _ => exact ⟨_, rfl, by decide⟩
    | 1, _ => exact ⟨_, rfl, by decide⟩
    | 2, _ => exact ⟨_, rfl, by decide⟩
    | 3, _ => exact ⟨_, rfl, by decide⟩
    | 4, _ => exact ⟨_, rfl, by decide⟩
    | 5, _ => exact ⟨_, rfl, by decide⟩
    | 6, _ => exact ⟨_, rfl, by decide⟩
    | 7, _ => exact ⟨_, rfl, by decide⟩
    | 8, _ => exact ⟨_, rfl, by decide⟩
    | 9, _ => exact ⟨_, rfl, by decide⟩
    | 10, _ => exact ⟨_, rfl, by decide⟩
    | 11, _ => exact ⟨_, rfl, by decide⟩
    | 12, _ => exact ⟨_, rfl, by decide⟩
    | 13, _ => exact ⟨_, rfl, by decide⟩
    | 14, _ => exact ⟨_, rfl, by decide⟩
    | 15, _ => exact ⟨_, rfl, by decide⟩
    | n + 16, hq => exact absurd hq (by omega)
  have r117 := rng32 w117
  refine ow_ldI X19 hx hZ e19 V_b3_19 (ow_nlt (y := (0 : Int32)) (show ¬ z20.toInt < 0 from by omega)) (ow_lt (y := (16 : Int32)) (show z20.toInt < 16 from by omega)) hv117 (hb hby at_117) (pc' := 118) rfl ?_
  refine ow_istore X19 hx (Ls' := #[.val (.int px), .val (.int pk), .val (.int z2), .val (.ref b3), .val (.int w117), .unset, .unset]) (hb hby at_118) rfl (pc' := 120) rfl ?_
  refine ow_iloadN X19 hx (hb hby at_120) rfl (pc' := 121) rfl ?_
  refine ow_callPI X19 hx hZ hown (hw _ (List.mem_of_getElem? (i := 4) rfl)) (hw _ (List.mem_of_getElem? (i := 5) rfl)) (hw _ (List.mem_of_getElem? (i := 6) rfl)) (hw _ (List.mem_of_getElem? (i := 7) rfl)) (by decide) (rm_ctl l Z a0 hw [] z2 h19 (by first | omega | decide)) e19 0 (by decide) (by decide) (by decide) (by decide) [(.int z2)] (by rw [hml]; rfl) pd_1 rfl rfl rfl (Nat.le_of_eq rfl) (hb hby at_121) (pc' := 124) rfl (fun z21 T21 hz21 X21 e21 => ?_)
  have az21 : (((0 ≤ z2.toInt ∧ z2.toInt < 32) ∨ (127 ≤ z2.toInt ∧ z2.toInt < 160) ∨ (8232 ≤ z2.toInt ∧ z2.toInt < 8239) ∨ (8294 ≤ z2.toInt ∧ z2.toInt < 8298)) ∧ z21.toInt = 1) ∨ (¬ ((0 ≤ z2.toInt ∧ z2.toInt < 32) ∨ (127 ≤ z2.toInt ∧ z2.toInt < 160) ∨ (8232 ≤ z2.toInt ∧ z2.toInt < 8239) ∨ (8294 ≤ z2.toInt ∧ z2.toInt < 8298)) ∧ z21.toInt = 0) := hz21
  have rz21 := rng32 z21
  refine ow_iloadN X21 hx (hb hby at_124) rfl (pc' := 125) rfl ?_
  refine ow_callPI X21 hx hZ hown (hw _ (List.mem_of_getElem? (i := 8) rfl)) (hw _ (List.mem_of_getElem? (i := 9) rfl)) (hw _ (List.mem_of_getElem? (i := 10) rfl)) (hw _ (List.mem_of_getElem? (i := 11) rfl)) (by decide) (rm_expected l Z a0 hw [] z2 h19 (by first | omega | decide)) e21 1 (by decide) (by decide) (by decide) (by decide) [(.int z2)] (by rw [hml]; rfl) pd_1 rfl rfl rfl (Nat.le_of_eq rfl) (hb hby at_125) (pc' := 128) rfl (fun z22 T22 hz22 X22 e22 => ?_)
  have az22 : (((0 ≤ z2.toInt ∧ z2.toInt < 32) ∨ (127 ≤ z2.toInt ∧ z2.toInt < 160) ∨ (8232 ≤ z2.toInt ∧ z2.toInt < 8239) ∨ (8294 ≤ z2.toInt ∧ z2.toInt < 8298)) ∧ z22.toInt = 1) ∨ (¬ ((0 ≤ z2.toInt ∧ z2.toInt < 32) ∨ (127 ≤ z2.toInt ∧ z2.toInt < 160) ∨ (8232 ≤ z2.toInt ∧ z2.toInt < 8239) ∨ (8294 ≤ z2.toInt ∧ z2.toInt < 8298)) ∧ z22.toInt = 0) := hz22
  have rz22 := rng32 z22
  refine ow_icmp_ne X22 hx (z21.toInt) (z22.toInt) (hb hby at_128) rfl rfl (by decide) (pt := 135) (by decide) (pf := 131) rfl (fun c128 => absurd c128 (by omega)) (fun c128 => ?_)
  refine ow_iconst X22 hx (z := (1 : Int32)) (hb hby at_131) rfl (pc' := 132) rfl ?_
  refine ow_goto X22 hx (hb hby at_132) (by decide) (pc' := 136) (by decide) ?_
  refine ow_istore X22 hx (Ls' := #[.val (.int px), .val (.int pk), .val (.int z2), .val (.ref b3), .val (.int w117), .val (.int (1 : Int32)), .unset]) (hb hby at_136) rfl (pc' := 138) rfl ?_
  refine ow_iload X22 hx (hb hby at_138) rfl (pc' := 140) rfl ?_
  refine ow_callPI X22 hx hZ hown (hw _ (List.mem_of_getElem? (i := 4) rfl)) (hw _ (List.mem_of_getElem? (i := 5) rfl)) (hw _ (List.mem_of_getElem? (i := 6) rfl)) (hw _ (List.mem_of_getElem? (i := 7) rfl)) (by decide) (rm_ctl l Z a0 hw [] w117 h19 (by first | omega | decide)) e22 0 (by decide) (by decide) (by decide) (by decide) [(.int w117)] (by rw [hml]; rfl) pd_1 rfl rfl rfl (Nat.le_of_eq rfl) (hb hby at_140) (pc' := 143) rfl (fun z23 T23 hz23 X23 e23 => ?_)
  have az23 : (((0 ≤ w117.toInt ∧ w117.toInt < 32) ∨ (127 ≤ w117.toInt ∧ w117.toInt < 160) ∨ (8232 ≤ w117.toInt ∧ w117.toInt < 8239) ∨ (8294 ≤ w117.toInt ∧ w117.toInt < 8298)) ∧ z23.toInt = 1) ∨ (¬ ((0 ≤ w117.toInt ∧ w117.toInt < 32) ∨ (127 ≤ w117.toInt ∧ w117.toInt < 160) ∨ (8232 ≤ w117.toInt ∧ w117.toInt < 8239) ∨ (8294 ≤ w117.toInt ∧ w117.toInt < 8298)) ∧ z23.toInt = 0) := hz23
  have rz23 := rng32 z23
  refine ow_iload X23 hx (hb hby at_143) rfl (pc' := 145) rfl ?_
  refine ow_callPI X23 hx hZ hown (hw _ (List.mem_of_getElem? (i := 8) rfl)) (hw _ (List.mem_of_getElem? (i := 9) rfl)) (hw _ (List.mem_of_getElem? (i := 10) rfl)) (hw _ (List.mem_of_getElem? (i := 11) rfl)) (by decide) (rm_expected l Z a0 hw [] w117 h19 (by first | omega | decide)) e23 1 (by decide) (by decide) (by decide) (by decide) [(.int w117)] (by rw [hml]; rfl) pd_1 rfl rfl rfl (Nat.le_of_eq rfl) (hb hby at_145) (pc' := 148) rfl (fun z24 T24 hz24 X24 e24 => ?_)
  have az24 : (((0 ≤ w117.toInt ∧ w117.toInt < 32) ∨ (127 ≤ w117.toInt ∧ w117.toInt < 160) ∨ (8232 ≤ w117.toInt ∧ w117.toInt < 8239) ∨ (8294 ≤ w117.toInt ∧ w117.toInt < 8298)) ∧ z24.toInt = 1) ∨ (¬ ((0 ≤ w117.toInt ∧ w117.toInt < 32) ∨ (127 ≤ w117.toInt ∧ w117.toInt < 160) ∨ (8232 ≤ w117.toInt ∧ w117.toInt < 8239) ∨ (8294 ≤ w117.toInt ∧ w117.toInt < 8298)) ∧ z24.toInt = 0) := hz24
  have rz24 := rng32 z24
  refine ow_icmp_ne X24 hx (z23.toInt) (z24.toInt) (hb hby at_148) rfl rfl (by decide) (pt := 155) (by decide) (pf := 151) rfl (fun c148 => absurd c148 (by omega)) (fun c148 => ?_)
  refine ow_iconst X24 hx (z := (1 : Int32)) (hb hby at_151) rfl (pc' := 152) rfl ?_
  refine ow_goto X24 hx (hb hby at_152) (by decide) (pc' := 156) (by decide) ?_
  refine ow_istore X24 hx (Ls' := #[.val (.int px), .val (.int pk), .val (.int z2), .val (.ref b3), .val (.int w117), .val (.int (1 : Int32)), .val (.int (1 : Int32))]) (hb hby at_156) rfl (pc' := 158) rfl ?_
  refine ow_iload X24 hx (hb hby at_158) rfl (pc' := 160) rfl ?_
  refine ow_ifN X24 hx (hb hby at_160) (by decide) (pc' := 163) rfl ?_
  refine ow_iload X24 hx (hb hby at_163) rfl (pc' := 165) rfl ?_
  refine ow_ifN X24 hx (hb hby at_165) (by decide) (pc' := 168) rfl ?_
  refine ow_iconst X24 hx (z := (1 : Int32)) (hb hby at_168) rfl (pc' := 169) rfl ?_
  refine ow_goto X24 hx (hb hby at_169) (by decide) (pc' := 173) (by decide) ?_
  exact ow_retB X24 hx hret hlk (hb hby at_173) (by decide) (by decide) (z' := (1 : Int32)) rfl ⟨rfl, N19⟩
set_option maxRecDepth 65536 in
set_option maxHeartbeats 40000000 in
theorem comes_1 {Post : Tables → Env → Array Value → State → Outcome → State → Prop} (hpost : ∀ tb e args s v u, (limb_1_1.after args s (.returned v) u = true ∧ limb_1_2.after args s (.returned v) u = true ∧ True) → FrameEnd s (.returned v) u (Jvm.fieldLocs frame_1_writes args s ++ Jvm.arrayLocs frame_1_arrays args s ++ Jvm.staticLocs frame_1_statics s) 16 128 → Post tb e args s (.returned v) u) :
    ArmFor flags0 classFile x code maxLocals ret World_1 tables_1 room_1 Calls_1 rest_1 Pre_1 Post := by
  intro l hfl _ _ p e ha hc hk s m args below hf hA hF happ hP
  obtain ⟨hcalls, hrest, hpre⟩ := hP
  obtain ⟨-, -, -, hnamed, -, -, -, hat⟩ := (Spec.applies_iff hf).mp happ
  obtain ⟨hg, hn⟩ := and_e (Cond.before_iff.mp (show (Jvm.Cond.and given_1 narrow_1).before args s = true from hpre))
  obtain ⟨gc, gr0⟩ := and_e hg
  obtain ⟨ga0, ga1⟩ := and_e gr0
  obtain ⟨w0, w1, rfl⟩ : ∃ w0 w1 : Value, args = #[w0, w1] := by
    have hs : args.size = 2 := by simpa [Cond.value, given_1] using gc
    obtain ⟨L⟩ := args
    match L, hs with
    | [w0, w1], _ => exact ⟨w0, w1, rfl⟩
  have hw := fun d (hd : d ∈ tables_1) => atoms_spec (ws := Jvm.Cond.code x code maxLocals ret :: tables_1) hat d (List.mem_cons_of_mem _ hd)
  have hfit : Fit s := fun {y c} hc i hi => by
    obtain ⟨ha, rfl⟩ := Array.getElem?_eq_some_iff.mp hc
    have q := List.all_eq_true.mp ((Array.all_eq_true_iff_forall_mem.mp hF) _ (Array.getElem_mem ha)) i (List.mem_range.mpr hi)
    simpa [Array.getElem?_eq_getElem hi] using q
  obtain ⟨i0, ei0⟩ := is_v ga0
  obtain rfl : w0 = (.int i0) := Option.some.inj ei0
  obtain ⟨i1, ei1⟩ := is_v ga1
  obtain rfl : w1 = (.int i1) := Option.some.inj ei1
  obtain ⟨n, o, h1, h2, h3, _, L, rfl, ⟨rfl, N⟩, hq⟩ := rm_law l s _ hw tables_1 i0 i1  s.heap s.heap.size (Nat.le_refl _)  p e ha hc hk s m _ below hf ((Spec.applies_iff_loose hf).mp happ).1 ⟨rfl, State.Warmed39.refl s, rfl⟩ trivial
  refine ⟨n, _, h1, h2, h3, hpost _ _ _ _ _ _ ⟨Cond.after_iff.mpr rfl, Cond.after_iff.mpr (eq_i res_at (Term.int_eval (1)) rfl), trivial⟩ ⟨hq.1, hq.2.1, (hq.2.2.sift fun y hy => Or.inr (N y hy)).mono (by decide) (by decide)⟩⟩
theorem main_1_1 : Claimed_1_1 := comes_1 fun _ _ _ _ _ _ h hF => ⟨h.1, hF⟩
theorem main_1_2 : Claimed_1_2 := comes_1 fun _ _ _ _ _ _ h hF => ⟨h.2.1, hF⟩
end Jvm.Pilot.@@N@@
namespace Jvm.Pilot.@@N@@
open Jvm Jvm.ClassFile Sem Op Lib Jvm.Free Jvm.Stand Jvm.Pilot.@@N@@.Jvm.D
/-! MADE BY PROGRAM (witnessworld.py) out of the Statement's table words and the real class files: 9 classes; the members and pool entries that the words name. The judged class is class 1, her method 3. -/
namespace start1
open Jvm.ClassFile
def u (s : String) : CpInfo := .utf8 (stringToUtf16 s)
/-- a pool by its gaps: so many unusable entries, then the entry; so many at the end -/
def gap : Nat → List CpInfo → List CpInfo
  | 0, r => r
  | n + 1, r => .unusable :: gap n r
def poolList (es : List (Nat × CpInfo)) (last : Nat) : List CpInfo := es.foldr (fun e r => gap e.1 (e.2 :: r)) (gap last [])
def pool (es : List (Nat × CpInfo)) (last : Nat) : Array CpInfo := ⟨poolList es last⟩
def fileOf (pool : Array CpInfo) (this : Nat) (attrs : Array Attribute := #[]) (ms : Array MethodInfo := #[]) (fl : Nat := 33) (sup : Nat := 0) (ifs : Array Nat := #[]) (fds : Array FieldInfo := #[]) : ClassFile where
  minorVersion := 0
  majorVersion := 65
  constantPool := pool
  accessFlags := fl
  thisClass := this
  superClass := sup
  interfaces := ifs
  fields := fds
  methods := ms
  attributes := attrs
def plain (name : String) (sup : Option ClassId) : Class where
  name := name
  kind := .ordinary
  loader := none
  accessFlags := 33
  super := sup
  interfaces := #[]
  cf := none
  fields := #[]
  methods := #[]
  instanceTypes := #[]
  staticTypes := #[]
  resolved := #[]
  callSites := []
  init := .initialized
  statics := none
  mirror := none

def pool0 : Array CpInfo := pool [(5, u "<init>"), (0, u "()V"), (1, .class_ 10), (1, u "java/lang/Object")] 113

def k0m0 : Method := { name := "<init>", desc := "()V", sig := { parameters := [], returnType := none }, accessFlags := 1, code := none }
/-- java/lang/Object -/
def k0 : Class := { plain "java/lang/Object" none with
  accessFlags := 33
  interfaces := #[]
  cf := some (fileOf pool0 8 #[] #[{ accessFlags := 1, nameIndex := 5, descriptorIndex := 6, attributes := #[] }] 33 0 #[] #[])
  fields := #[]
  methods := #[k0m0]
  instanceTypes := #[]
  staticTypes := #[]
  resolved := Array.replicate 124 none
  statics := none }

def pool1 : Array CpInfo := pool [(2, .class_ 4), (1, u "java/lang/Object"), (0, u "<init>"), (0, u "()V"), (0, .methodref 8 9), (0, .class_ 10), (0, .nameAndType 11 12), (0, u "com/example/strict_audit/strictaudit/format/ValueEncodingControlsLayoutPinLaw"), (0, u "inRun"), (0, u "(III)Z"), (0, .integer 2147483647), (0, .integer 1114112), (0, .integer 1114111), (0, .methodref 17 18), (0, .class_ 19), (0, .nameAndType 20 21), (0, u "com/example/strict_audit/strictaudit/format/ValueEncoding"), (0, u "controlsLayout"), (0, u "(I)Z"), (0, .methodref 8 23), (0, .nameAndType 24 21), (0, u "expected"), (3, u "law"), (0, u "(II)Z")] 4

def k1m0 : Method := { name := "<init>", desc := "()V", sig := { parameters := [], returnType := none }, accessFlags := 1, code := none }
def k1c1 : Code := { maxStack := 2, maxLocals := 4, code := method_2_code, exceptionTable := #[], attributes := #[] }
def k1m1 : Method := { name := "inRun", desc := "(III)Z", sig := { parameters := [.int, .int, .int], returnType := some .boolean }, accessFlags := 10, code := some k1c1 }
def k1c2 : Code := { maxStack := 3, maxLocals := 1, code := method_3_code, exceptionTable := #[], attributes := #[] }
def k1m2 : Method := { name := "expected", desc := "(I)Z", sig := { parameters := [.int], returnType := some .boolean }, accessFlags := 10, code := some k1c2 }
def k1c3 : Code := { maxStack := 4, maxLocals := 7, code := code, exceptionTable := #[], attributes := #[] }
def k1m3 : Method := { name := "law", desc := "(II)Z", sig := { parameters := [.int, .int], returnType := some .boolean }, accessFlags := 9, code := some k1c3 }
/-- com/example/strict_audit/strictaudit/format/ValueEncodingControlsLayoutPinLaw -/
def k1 : Class := { plain "com/example/strict_audit/strictaudit/format/ValueEncodingControlsLayoutPinLaw" (some 0) with
  accessFlags := 49
  interfaces := #[]
  cf := some (fileOf pool1 8 #[] #[{ accessFlags := 1, nameIndex := 5, descriptorIndex := 6, attributes := #[] }, { accessFlags := 10, nameIndex := 11, descriptorIndex := 12, attributes := #[] }, { accessFlags := 10, nameIndex := 24, descriptorIndex := 21, attributes := #[] }, { accessFlags := 9, nameIndex := 28, descriptorIndex := 29, attributes := #[] }] 49 2 #[] #[])
  fields := #[]
  methods := #[k1m0, k1m1, k1m2, k1m3]
  instanceTypes := #[]
  staticTypes := #[]
  resolved := Array.replicate 34 none
  statics := none }

def pool2 : Array CpInfo := pool [(2, .class_ 4), (1, u "java/lang/Object"), (0, u "<init>"), (0, u "()V"), (1, .class_ 10), (1, u "com/example/strict_audit/strictaudit/format/ValueEncoding"), (52, u "HEX"), (0, u "Ljava/util/HexFormat;"), (41, u "KEPT_ASCII"), (0, u "[Z"), (20, u "(I)Z"), (70, u "controlsLayout")] 38

def k2m0 : Method := { name := "<init>", desc := "()V", sig := { parameters := [], returnType := none }, accessFlags := 2, code := none }
def k2c1 : Code := { maxStack := 2, maxLocals := 1, code := prog_5_method_6_code, exceptionTable := #[], attributes := #[] }
def k2m1 : Method := { name := "controlsLayout", desc := "(I)Z", sig := { parameters := [.int], returnType := some .boolean }, accessFlags := 9, code := some k2c1 }
/-- com/example/strict_audit/strictaudit/format/ValueEncoding -/
def k2 : Class := { plain "com/example/strict_audit/strictaudit/format/ValueEncoding" (some 0) with
  accessFlags := 33
  interfaces := #[]
  cf := some (fileOf pool2 8 #[] #[{ accessFlags := 2, nameIndex := 5, descriptorIndex := 6, attributes := #[] }, { accessFlags := 9, nameIndex := 199, descriptorIndex := 128, attributes := #[] }] 33 2 #[] #[{ accessFlags := 26, nameIndex := 63, descriptorIndex := 64, attributes := #[] }, { accessFlags := 26, nameIndex := 106, descriptorIndex := 107, attributes := #[] }])
  fields := #[{ name := "HEX", type := (.object "java/util/HexFormat"), accessFlags := 26, slot := 0, constantValue := 0 }, { name := "KEPT_ASCII", type := (.array .boolean), accessFlags := 26, slot := 1, constantValue := 0 }]
  methods := #[k2m0, k2m1]
  instanceTypes := #[]
  staticTypes := #[(.object "java/util/HexFormat"), (.array .boolean)]
  resolved := Array.replicate 238 none
  statics := none }

def pool3 : Array CpInfo := pool [(1, u "java/lang/Cloneable"), (0, .class_ 1), (0, u "java/lang/Object"), (0, .class_ 3)] 3

/-- java/lang/Cloneable -/
def k3 : Class := { plain "java/lang/Cloneable" (some 0) with
  accessFlags := 1537
  interfaces := #[]
  cf := some (fileOf pool3 2 #[] #[] 1537 4 #[] #[])
  fields := #[]
  methods := #[]
  instanceTypes := #[]
  staticTypes := #[]
  resolved := Array.replicate 8 none
  statics := none }

def pool4 : Array CpInfo := pool [(1, u "java/io/Serializable"), (0, .class_ 1), (0, u "java/lang/Object"), (0, .class_ 3)] 3

/-- java/io/Serializable -/
def k4 : Class := { plain "java/io/Serializable" (some 0) with
  accessFlags := 1537
  interfaces := #[]
  cf := some (fileOf pool4 2 #[] #[] 1537 4 #[] #[])
  fields := #[]
  methods := #[]
  instanceTypes := #[]
  staticTypes := #[]
  resolved := Array.replicate 8 none
  statics := none }

/-- the primitive byte -/
def k5 : Class := { plain "byte" none with kind := .primitive 'B', accessFlags := 0x411 }
/-- [B -/
def k6 : Class := { plain "[B" (some 0) with kind := .array 5 .byte, interfaces := #[3, 4], accessFlags := 1041 }

/-- the primitive int -/
def k7 : Class := { plain "int" none with kind := .primitive 'I', accessFlags := 0x411 }
/-- [I -/
def k8 : Class := { plain "[I" (some 0) with kind := .array 7 .int, interfaces := #[3, 4], accessFlags := 1041 }

def heap : Heap := #[]
def classes : Array Class := #[k0, k1, k2, k3, k4, k5, k6, k7, k8]
def interned : List (Array UInt16 × Addr) := []
def slotsUsed : Nat := 0
def theMethod : MethodId := ⟨1, 3⟩
def args0 : Array Value := #[.int 5, .int 7]
def aboutOver (below : List Frame) : State where
  vm := { classes := classes, interned := interned.toArray }
  heap := heap
  slotsUsed := slotsUsed
  threads := #[{ frames := .invoking theMethod args0 :: below }]
def below0 : List Frame := [.native { method := ⟨0, 0⟩, args := #[] }]
def about1 : State := aboutOver below0
def p0 : Program := .bare "" "" ""
def e0 : Env := launch0.env 0 0 0
theorem w_frames : about1.frames = Frame.invoking theMethod args0 :: below0 := rfl
set_option maxRecDepth 65536 in
theorem w_args : argsFit about1.vm theMethod args0 = true := by decide +kernel
set_option maxRecDepth 65536 in
theorem w_heap : heapFits about1 = true := by decide +kernel
set_option maxRecDepth 65536 in
theorem w_runnable : about1.curStatus? = some .runnable := by decide +kernel
set_option maxRecDepth 65536 in
theorem w_alone : about1.alone = true := by decide +kernel
set_option maxRecDepth 65536 in
theorem w_named : about1.methodNamed? x = some theMethod := by decide +kernel
set_option maxRecDepth 65536 in
theorem w_hears : about1.hears theMethod below0 = true := by decide +kernel
set_option maxRecDepth 65536 in
theorem w_ripe : about1.ripe theMethod args0 below0 = true := by decide +kernel
theorem w_running : about1.status = .running := rfl
set_option maxRecDepth 65536 in
theorem w_room : about1.hasRoom e0.platform room_1 = true :=
  launch0.hasRoom_least _ room_1 (by decide +kernel) (by decide +kernel) (by decide +kernel) (by decide +kernel) (by decide +kernel) (by decide +kernel)
theorem allAtoms_all (ts : List Jvm.Cond) (a : Array Jvm.Value) (st : Jvm.State) : (allAtoms ts).before a st = ts.all (fun c => c.before a st) := by
  induction ts with
  | nil => rfl
  | cons c t ih =>
    show (Jvm.Cond.and c (allAtoms t)).before a st = _
    rw [Jvm.Cond.before_and, ih, List.all_cons]
def words1 : List Jvm.Cond := Jvm.Cond.code x code maxLocals ret :: tables_1
/-- a 'code' word, met by the world's own term for the bytes: nothing is compared byte by byte -/
theorem code_word {y : MethodName} {bytes : ByteArray} {mx : Nat} {rt : Option FieldType} {a : Array Value} {s : State} {m : MethodId} {meth : Method} {c : Code} (h1 : s.methodNamed? y = some m) (h2 : s.vm.method? m = some meth) (h3 : meth.code = some c) (h4 : c.code = bytes)
    (h5 : (c.maxLocals == mx && c.exceptionTable.isEmpty && decide (c.maxStack ≤ mostOperands) && decide (meth.sig.returnType = rt) && !meth.locks && decide (parseMethodDescriptor y.desc = some meth.sig)) = true) : (Jvm.Cond.code y bytes mx rt).before a s = true := by
  simp only [Bool.and_eq_true, beq_iff_eq, Bool.not_eq_true', decide_eq_true_eq] at h5
  obtain ⟨⟨⟨⟨⟨g1, g2⟩, g3⟩, g4⟩, g5⟩, g6⟩ := h5
  simp [Cond.before, Cond.holds, Cond.value, h1, h2, h3, h4, g1, g2, g3, g4, g5, g6]
def isCode : Jvm.Cond → Bool
  | .code _ _ _ _ => true
  | _ => false
theorem all_split {L : List Jvm.Cond} {P : Jvm.Cond → Bool} (h1 : L.all (fun c => isCode c || P c) = true) (h2 : ∀ c ∈ L.filter isCode, P c = true) : L.all P = true := by
  refine List.all_eq_true.mpr fun c hc => ?_
  have h := List.all_eq_true.mp h1 c hc
  rcases Bool.eq_false_or_eq_true (isCode c) with hi | hi
  · exact h2 c (List.mem_filter.mpr ⟨hc, hi⟩)
  · simpa [hi] using h
set_option maxRecDepth 65536 in
theorem w_c0 : (Jvm.Cond.code x code maxLocals ret).before args0 about1 = true := code_word (m := ⟨1, 3⟩) (meth := k1m3) (c := k1c3) (by decide +kernel) rfl rfl rfl (by decide +kernel)
set_option maxRecDepth 65536 in
theorem w_c1 : (Jvm.Cond.code ({ cls := "com/example/strict_audit/strictaudit/format/ValueEncoding", name := "controlsLayout", desc := "(I)Z" } : Jvm.MethodName) prog_5_method_6_code (1 : Nat) (Option.some Jvm.ClassFile.FieldType.boolean)).before args0 about1 = true := code_word (m := ⟨2, 1⟩) (meth := k2m1) (c := k2c1) (by decide +kernel) rfl rfl rfl (by decide +kernel)
set_option maxRecDepth 65536 in
theorem w_c2 : (Jvm.Cond.code ({ cls := "com/example/strict_audit/strictaudit/format/ValueEncodingControlsLayoutPinLaw", name := "expected", desc := "(I)Z" } : Jvm.MethodName) method_3_code (1 : Nat) (Option.some Jvm.ClassFile.FieldType.boolean)).before args0 about1 = true := code_word (m := ⟨1, 2⟩) (meth := k1m2) (c := k1c2) (by decide +kernel) rfl rfl rfl (by decide +kernel)
set_option maxRecDepth 65536 in
theorem w_c3 : (Jvm.Cond.code ({ cls := "com/example/strict_audit/strictaudit/format/ValueEncodingControlsLayoutPinLaw", name := "inRun", desc := "(III)Z" } : Jvm.MethodName) method_2_code (4 : Nat) (Option.some Jvm.ClassFile.FieldType.boolean)).before args0 about1 = true := code_word (m := ⟨1, 1⟩) (meth := k1m1) (c := k1c1) (by decide +kernel) rfl rfl rfl (by decide +kernel)
def codes1 : List Jvm.Cond := [Jvm.Cond.code x code maxLocals ret, Jvm.Cond.code ({ cls := "com/example/strict_audit/strictaudit/format/ValueEncoding", name := "controlsLayout", desc := "(I)Z" } : Jvm.MethodName) prog_5_method_6_code (1 : Nat) (Option.some Jvm.ClassFile.FieldType.boolean), Jvm.Cond.code ({ cls := "com/example/strict_audit/strictaudit/format/ValueEncodingControlsLayoutPinLaw", name := "expected", desc := "(I)Z" } : Jvm.MethodName) method_3_code (1 : Nat) (Option.some Jvm.ClassFile.FieldType.boolean), Jvm.Cond.code ({ cls := "com/example/strict_audit/strictaudit/format/ValueEncodingControlsLayoutPinLaw", name := "inRun", desc := "(III)Z" } : Jvm.MethodName) method_2_code (4 : Nat) (Option.some Jvm.ClassFile.FieldType.boolean)]
set_option maxRecDepth 65536 in
theorem codes_eq : words1.filter isCode = codes1 := rfl
theorem w_codes : ∀ c ∈ words1.filter isCode, c.before args0 about1 = true := by
  rw [codes_eq]
  intro c hc
  simp only [codes1, List.mem_cons, List.not_mem_nil, or_false] at hc
  rcases hc with rfl | rfl | rfl | rfl
  · exact w_c0
  · exact w_c1
  · exact w_c2
  · exact w_c3
set_option maxRecDepth 65536 in
theorem w_t1 : words1.all (fun c => isCode c || c.before args0 about1) = true := by decide +kernel
theorem w_tables : (allAtoms (Jvm.Cond.code x code maxLocals ret :: tables_1)).before args0 about1 = true := by
  rw [allAtoms_all]
  show words1.all (fun c => c.before args0 about1) = true
  refine all_split ?_ w_codes
  rw [w_t1]
set_option maxRecDepth 65536 in
theorem w_case : (Jvm.Cond.and given_1 narrow_1).before args0 about1 = true := by decide +kernel
theorem w_applies : (headSpec (Jvm.Cond.code x code maxLocals ret :: tables_1) room_1).applies x e0.platform about1 = true :=
  (Spec.applies_iff w_frames).mpr ⟨w_running, w_runnable, w_alone, w_named, w_hears, w_ripe, w_room, w_tables⟩
theorem atStart : AtStart classFile x code maxLocals ret World_1 tables_1 room_1 Calls_1 rest_1 Pre_1 launch0 p0 e0 about1 theMethod args0 below0 :=
  ⟨lists_1, trivial, launch0.admits_env _ _ _, launch0.least_env, fairChoices_fair.cas, fairChoices_fair.clock, w_frames, w_args, w_heap, w_applies, trivial, trivial, w_case⟩
end start1
theorem witness_1 : WitnessClaimed_1 := ⟨start1.p0, start1.e0, start1.about1, start1.theMethod, start1.args0, start1.below0, start1.atStart⟩
end Jvm.Pilot.@@N@@
