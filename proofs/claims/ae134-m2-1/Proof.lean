import JvmDerived
import JvmDerived.Pilot.@@N@@Statement
import JvmDerived.Pilot.@@N@@Code
set_option linter.unusedVariables false
set_option linter.unusedSimpArgs false
namespace Jvm.Pilot.@@N@@
open Jvm Jvm.ClassFile Sem Op Lib Jvm.Free Jvm.Stand Jvm.LawKit Jvm.RoadKit Bundle Jvm.Pilot.@@N@@.Jvm.D
section Own
variable {p : Program} {l : Launch} {e : Env} {R : Room} {s : State} {m : MethodId} {args : Array Value} {below : List Frame} {meth : Method} {c : Code} {T : State} {locs : List Loc} {cells slots : Nat} {Q : Outcome → State → Prop} {Z : State} {a0 : Array Value} {h : Heap}
/-- from T, with g on top, the run ends as Q says -/
def Ends (p : Program) (e : Env) (below : List Frame) (Q : Outcome → State → Prop) (T : State) (g : JFrame) : Prop :=
  ∃ s₂ o, Steps p.tables e below (T.setTop g) s₂ ∧ s₂.status = .running ∧ Ended s₂ below o ∧ Q o s₂
theorem Ends.go {T' : State} {g g' : JFrame} (st : ∀ t, Steps p.tables e below (T'.setTop g') t → Steps p.tables e below (T.setTop g) t) (k : Ends p e below Q T' g') : Ends p e below Q T g := by
  obtain ⟨s₂, o, h1, r⟩ := k
  exact ⟨s₂, o, st _ h1, r⟩
theorem Ends.thru {T' : State} {g g' : JFrame} (st : Steps p.tables e below (T.setTop g) (T'.setTop g')) (k : Ends p e below Q T' g') : Ends p e below Q T g := by
  obtain ⟨s₂, o, h1, r⟩ := k
  exact ⟨s₂, o, st.trans h1, r⟩
theorem Ends.cast {g g' : JFrame} (q : g = g') (k : Ends p e below Q T g') : Ends p e below Q T g := q ▸ k
/-- what a body that returns leaves -/
def Out (s : State) (ce sl : Nat) (Qv : Option Value → Heap → List Loc → Prop) (o : Outcome) (U : State) : Prop := ∃ v L, o = .returned v ∧ Qv v U.heap L ∧ FrameEnd s o U L ce sl
theorem ow_body {y : MethodName} {bytes : ByteArray} {ml : Nat} {ret : Option FieldType} {ws : List Jvm.Cond} {rm : Room} {as : Array Value} {ce sl : Nat} {Qv : Option Value → Heap → List Loc → Prop} (hp : plainFor y = true)
    (body : ∀ (p : Program) (e : Env) (s : State) (m : MethodId) (below : List Frame) (meth : Method) (c : Code) (T : State), Stand p l e rm s m as below meth c T [] 0 0 → p.tables.exec = Jvm.exec → Z.Warmed39 s.vm → c.code = bytes → c.maxLocals = ml → s.vm.findClass y.cls = some m.cls → meth.name = y.name → meth.sig.returnType = ret → meth.locks = false → T.heap = h → Ends p e below (Out s ce sl Qv) T (entryFrame m as ml)) :
    MetFree l y (head1 (Jvm.Cond.code y bytes ml ret :: ws) rm) (fun a U => a = as ∧ Z.Warmed39 U.vm ∧ U.heap = h) (fun _ _ _ _ _ => True) (fun _ U o U' => ∃ v L, o = .returned v ∧ Qv v U'.heap L ∧ FrameEnd U o U' L ce sl) := by
  refine MetFree.of_bodySF hp hisR ?_
  intro p e s m args below meth c s₁ Bd hml0 hP hK
  obtain ⟨rfl, hZ, hh⟩ := hP
  exact body p e s m below meth c s₁ (Stand.of_body Bd) Bd.exec hZ Bd.bytes hml0 (findClass_of_methodNamed Bd.named) (name_of_methodNamed Bd.named Bd.method).1 Bd.returns Bd.notSynchronized (by rw [← hh, Bd.state]; rfl)
theorem ow_iload (X : Stand p l e R s m args below meth c T locs cells slots) (hx : p.tables.exec = Jvm.exec) {pc pc' : Nat} {Ls : Array Slot} {St : List Value} {k : Nat} {v : Int32} (hd : decode c.code pc = .ok (.iload k, 2)) (hl : Ls[k]? = some (.val (.int v))) (hp : pc + 2 = pc') (kk : Ends p e below Q T (mkF m pc' Ls (.int v :: St))) : Ends p e below Q T (mkF m pc Ls St) := by subst hp; exact Ends.go (fun _ q => XS.iload X.here hx rfl hd hl q) kk
theorem ow_iloadN (X : Stand p l e R s m args below meth c T locs cells slots) (hx : p.tables.exec = Jvm.exec) {pc pc' : Nat} {Ls : Array Slot} {St : List Value} {k : Fin 4} {v : Int32} (hd : decode c.code pc = .ok (.iload_n k, 1)) (hl : Ls[k.val]? = some (.val (.int v))) (hp : pc + 1 = pc') (kk : Ends p e below Q T (mkF m pc' Ls (.int v :: St))) : Ends p e below Q T (mkF m pc Ls St) := by subst hp; exact Ends.go (fun _ q => XS.iloadN X.here hx rfl hd hl q) kk
theorem ow_aload (X : Stand p l e R s m args below meth c T locs cells slots) (hx : p.tables.exec = Jvm.exec) {pc pc' : Nat} {Ls : Array Slot} {St : List Value} {k : Nat} {v : Value} (hd : decode c.code pc = .ok (.aload k, 2)) (hl : Ls[k]? = some (.val v)) (hv : v.isRef = true) (hp : pc + 2 = pc') (kk : Ends p e below Q T (mkF m pc' Ls (v :: St))) : Ends p e below Q T (mkF m pc Ls St) := by subst hp; exact Ends.go (fun _ q => XS.aload X.here hx rfl hd hl hv q) kk
theorem ow_aloadN (X : Stand p l e R s m args below meth c T locs cells slots) (hx : p.tables.exec = Jvm.exec) {pc pc' : Nat} {Ls : Array Slot} {St : List Value} {k : Fin 4} {v : Value} (hd : decode c.code pc = .ok (.aload_n k, 1)) (hl : Ls[k.val]? = some (.val v)) (hv : v.isRef = true) (hp : pc + 1 = pc') (kk : Ends p e below Q T (mkF m pc' Ls (v :: St))) : Ends p e below Q T (mkF m pc Ls St) := by subst hp; exact Ends.go (fun _ q => XS.aloadN X.here hx rfl hd hl hv q) kk
theorem ow_istore (X : Stand p l e R s m args below meth c T locs cells slots) (hx : p.tables.exec = Jvm.exec) {pc pc' : Nat} {Ls : Array Slot} {Ls' : Array Slot} {St : List Value} {k : Nat} {v : Int32} (hd : decode c.code pc = .ok (.istore k, 2)) (hl : storeLocals Ls k (.int v) = some Ls') (hp : pc + 2 = pc') (kk : Ends p e below Q T (mkF m pc' Ls' St)) : Ends p e below Q T (mkF m pc Ls (.int v :: St)) := by subst hp; exact Ends.go (fun _ q => XS.istore X.here hx rfl hd rfl hl q) kk
theorem ow_istoreN (X : Stand p l e R s m args below meth c T locs cells slots) (hx : p.tables.exec = Jvm.exec) {pc pc' : Nat} {Ls : Array Slot} {Ls' : Array Slot} {St : List Value} {k : Fin 4} {v : Int32} (hd : decode c.code pc = .ok (.istore_n k, 1)) (hl : storeLocals Ls k.val (.int v) = some Ls') (hp : pc + 1 = pc') (kk : Ends p e below Q T (mkF m pc' Ls' St)) : Ends p e below Q T (mkF m pc Ls (.int v :: St)) := by subst hp; exact Ends.go (fun _ q => XS.istoreN X.here hx rfl hd rfl hl q) kk
theorem ow_astore (X : Stand p l e R s m args below meth c T locs cells slots) (hx : p.tables.exec = Jvm.exec) {pc pc' : Nat} {Ls : Array Slot} {Ls' : Array Slot} {St : List Value} {k : Nat} {v : Value} (hd : decode c.code pc = .ok (.astore k, 2)) (hv : v.isRef = true) (hl : storeLocals Ls k v = some Ls') (hp : pc + 2 = pc') (kk : Ends p e below Q T (mkF m pc' Ls' St)) : Ends p e below Q T (mkF m pc Ls (v :: St)) := by subst hp; exact Ends.go (fun _ q => XS.astore X.here hx rfl hd rfl hv hl q) kk
theorem ow_iconst (X : Stand p l e R s m args below meth c T locs cells slots) (hx : p.tables.exec = Jvm.exec) {pc pc' : Nat} {Ls : Array Slot} {St : List Value} {i : Int} {z : Int32} (hd : decode c.code pc = .ok (.iconst i, 1)) (hz : Int32.ofInt i = z) (hp : pc + 1 = pc') (kk : Ends p e below Q T (mkF m pc' Ls (.int z :: St))) : Ends p e below Q T (mkF m pc Ls St) := by subst hp hz; exact Ends.go (fun _ q => XS.iconst X.here hx rfl hd q) kk
theorem ow_aconstNull (X : Stand p l e R s m args below meth c T locs cells slots) (hx : p.tables.exec = Jvm.exec) {pc pc' : Nat} {Ls : Array Slot} {St : List Value} (hd : decode c.code pc = .ok (.aconst_null, 1)) (hp : pc + 1 = pc') (kk : Ends p e below Q T (mkF m pc' Ls (.null :: St))) : Ends p e below Q T (mkF m pc Ls St) := by subst hp; exact Ends.go (fun _ q => XS.aconstNull X.here hx rfl hd q) kk
theorem ow_ldcInt (X : Stand p l e R s m args below meth c T locs cells slots) (hx : p.tables.exec = Jvm.exec) (hZ : Z.Warmed39 s.vm) {own : String} {i : Nat} {z : Int32} (hown : s.vm.findClass own = some m.cls) (w : (Jvm.Cond.constant own i z).before a0 Z = true) {pc pc' : Nat} {Ls : Array Slot} {St : List Value} (hd : decode c.code pc = .ok (.ldc i, 2)) (hp : pc + 2 = pc') (kk : Ends p e below Q T (mkF m pc' Ls (.int z :: St))) : Ends p e below Q T (mkF m pc Ls St) := by subst hp; exact Ends.go (X.ldcInt hx hown (mvT hZ w) (g := mkF m pc Ls St) rfl hd) kk
theorem ow_iadd (X : Stand p l e R s m args below meth c T locs cells slots) (hx : p.tables.exec = Jvm.exec) {pc pc' : Nat} {Ls : Array Slot} {St : List Value} {x : Int32} {y : Int32} (hd : decode c.code pc = .ok (.iadd, 1)) (hp : pc + 1 = pc') (kk : ∀ z : Int32, z = x + y → Ends p e below Q T (mkF m pc' Ls (.int z :: St))) : Ends p e below Q T (mkF m pc Ls (.int y :: .int x :: St)) := by subst hp; exact Ends.go (fun _ q => XS.iadd X.here hx rfl hd rfl q) (kk _ rfl)
theorem ow_isub (X : Stand p l e R s m args below meth c T locs cells slots) (hx : p.tables.exec = Jvm.exec) {pc pc' : Nat} {Ls : Array Slot} {St : List Value} {x : Int32} {y : Int32} (hd : decode c.code pc = .ok (.isub, 1)) (hp : pc + 1 = pc') (kk : ∀ z : Int32, z = x - y → Ends p e below Q T (mkF m pc' Ls (.int z :: St))) : Ends p e below Q T (mkF m pc Ls (.int y :: .int x :: St)) := by subst hp; exact Ends.go (fun _ q => XS.isub X.here hx rfl hd rfl q) (kk _ rfl)
theorem ow_iand (X : Stand p l e R s m args below meth c T locs cells slots) (hx : p.tables.exec = Jvm.exec) {pc pc' : Nat} {Ls : Array Slot} {St : List Value} {x : Int32} {y : Int32} (hd : decode c.code pc = .ok (.iand, 1)) (hp : pc + 1 = pc') (kk : ∀ z : Int32, z = x &&& y → Ends p e below Q T (mkF m pc' Ls (.int z :: St))) : Ends p e below Q T (mkF m pc Ls (.int y :: .int x :: St)) := by subst hp; exact Ends.go (fun _ q => XS.iand X.here hx rfl hd rfl q) (kk _ rfl)
theorem ow_irem (X : Stand p l e R s m args below meth c T locs cells slots) (hx : p.tables.exec = Jvm.exec) {pc pc' : Nat} {Ls : Array Slot} {St : List Value} {x : Int32} {y : Int32} (hd : decode c.code pc = .ok (.irem, 1)) (hy : y ≠ 0) (hp : pc + 1 = pc') (kk : ∀ z : Int32, z = x % y → Ends p e below Q T (mkF m pc' Ls (.int z :: St))) : Ends p e below Q T (mkF m pc Ls (.int y :: .int x :: St)) := by subst hp; exact Ends.go (fun _ q => iremM (g := mkF m pc Ls (.int y :: .int x :: St)) X hx rfl hd rfl hy q) (kk _ rfl)
theorem ow_iushr (X : Stand p l e R s m args below meth c T locs cells slots) (hx : p.tables.exec = Jvm.exec) {pc pc' : Nat} {Ls : Array Slot} {St : List Value} {x : Int32} {y : Int32} (hd : decode c.code pc = .ok (.iushr, 1)) (hp : pc + 1 = pc') (kk : ∀ z : Int32, z = (x.toUInt32 >>> (y &&& 31).toUInt32).toInt32 → Ends p e below Q T (mkF m pc' Ls (.int z :: St))) : Ends p e below Q T (mkF m pc Ls (.int y :: .int x :: St)) := by subst hp; exact Ends.go (fun _ q => XS.iushr X.here hx rfl hd rfl q) (kk _ rfl)
theorem ow_iinc (X : Stand p l e R s m args below meth c T locs cells slots) (hx : p.tables.exec = Jvm.exec) {pc pc' : Nat} {Ls : Array Slot} {Ls' : Array Slot} {St : List Value} {k : Nat} {i : Int} {x : Int32} (hd : decode c.code pc = .ok (.iinc k i, 3)) (hl : Ls[k]? = some (.val (.int x))) (hl' : ∀ z, storeLocals Ls k (.int z) = some (Ls'.setIfInBounds k (.val (.int z)))) (hp : pc + 3 = pc') (kk : ∀ z : Int32, z = x + Int32.ofInt i → Ends p e below Q T (mkF m pc' (Ls'.setIfInBounds k (.val (.int z))) St)) : Ends p e below Q T (mkF m pc Ls St) := by subst hp; exact Ends.go (fun _ q => XS.iinc X.here hx rfl hd hl (hl' _) q) (kk _ rfl)
theorem ow_dup (X : Stand p l e R s m args below meth c T locs cells slots) (hx : p.tables.exec = Jvm.exec) {pc pc' : Nat} {Ls : Array Slot} {St : List Value} {v : Value} (hd : decode c.code pc = .ok (.dup, 1)) (hc : v.category = 1) (hp : pc + 1 = pc') (kk : Ends p e below Q T (mkF m pc' Ls (v :: v :: St))) : Ends p e below Q T (mkF m pc Ls (v :: St)) := by subst hp; exact Ends.go (fun _ q => XS.dup X.here hx rfl hd rfl hc q) kk
theorem ow_goto (X : Stand p l e R s m args below meth c T locs cells slots) (hx : p.tables.exec = Jvm.exec) {pc pc' : Nat} {Ls : Array Slot} {St : List Value} {o : Int} (hd : decode c.code pc = .ok (.goto o, 3)) (ho : 0 ≤ (pc : Int) + o) (hp : ((pc : Int) + o).toNat = pc') (kk : Ends p e below Q T (mkF m pc' Ls St)) : Ends p e below Q T (mkF m pc Ls St) := Ends.go (fun _ q => XS.goto X.here hx rfl (pc0 := pc) (pc' := pc') rfl hd ho hp q) kk
theorem ow_icmpY (X : Stand p l e R s m args below meth c T locs cells slots) (hx : p.tables.exec = Jvm.exec) {pc pc' : Nat} {Ls : Array Slot} {St : List Value} {cd : ClassFile.Cond} {x y : Int32} {o : Int} (hd : decode c.code pc = .ok (.if_icmp cd o, 3)) (hc : if_icmp.holds cd x y = true) (ho : 0 ≤ (pc : Int) + o) (hp : ((pc : Int) + o).toNat = pc') (kk : Ends p e below Q T (mkF m pc' Ls St)) : Ends p e below Q T (mkF m pc Ls (.int y :: .int x :: St)) := Ends.go (fun _ q => XS.icmpYes X.here hx rfl (pc0 := pc) (pc' := pc') rfl hd rfl hc ho hp q) kk
theorem ow_icmpN (X : Stand p l e R s m args below meth c T locs cells slots) (hx : p.tables.exec = Jvm.exec) {pc pc' : Nat} {Ls : Array Slot} {St : List Value} {cd : ClassFile.Cond} {x y : Int32} {o : Int} (hd : decode c.code pc = .ok (.if_icmp cd o, 3)) (hc : if_icmp.holds cd x y = false) (hp : pc + 3 = pc') (kk : Ends p e below Q T (mkF m pc' Ls St)) : Ends p e below Q T (mkF m pc Ls (.int y :: .int x :: St)) := by subst hp; exact Ends.go (fun _ q => XS.icmpNo X.here hx rfl hd rfl hc q) kk
theorem ow_ifY (X : Stand p l e R s m args below meth c T locs cells slots) (hx : p.tables.exec = Jvm.exec) {pc pc' : Nat} {Ls : Array Slot} {St : List Value} {cd : ClassFile.Cond} {x : Int32} {o : Int} (hd : decode c.code pc = .ok (.ifCond cd o, 3)) (hc : if_icmp.holds cd x 0 = true) (ho : 0 ≤ (pc : Int) + o) (hp : ((pc : Int) + o).toNat = pc') (kk : Ends p e below Q T (mkF m pc' Ls St)) : Ends p e below Q T (mkF m pc Ls (.int x :: St)) := Ends.go (fun _ q => XS.ifYes X.here hx rfl (pc0 := pc) (pc' := pc') rfl hd rfl ((if0 _ _).trans hc) ho hp q) kk
theorem ow_ifN (X : Stand p l e R s m args below meth c T locs cells slots) (hx : p.tables.exec = Jvm.exec) {pc pc' : Nat} {Ls : Array Slot} {St : List Value} {cd : ClassFile.Cond} {x : Int32} {o : Int} (hd : decode c.code pc = .ok (.ifCond cd o, 3)) (hc : if_icmp.holds cd x 0 = false) (hp : pc + 3 = pc') (kk : Ends p e below Q T (mkF m pc' Ls St)) : Ends p e below Q T (mkF m pc Ls (.int x :: St)) := by subst hp; exact Ends.go (fun _ q => XS.ifNo X.here hx rfl hd rfl ((if0 _ _).trans hc) q) kk
/-- the six comparisons, said of the signed worth -/
def cmpI : ClassFile.Cond → Int → Int → Prop
  | .eq, a, b => a = b
  | .ne, a, b => ¬ a = b
  | .lt, a, b => a < b
  | .ge, a, b => ¬ a < b
  | .gt, a, b => b < a
  | .le, a, b => ¬ b < a
theorem cmpI_y {cd : ClassFile.Cond} {x y : Int32} (q : cmpI cd x.toInt y.toInt) : if_icmp.holds cd x y = true := by
  cases cd <;> simp only [cmpI] at q <;> simp [if_icmp.holds, ← Int32.toInt_inj, Int32.lt_iff_toInt_lt, Int32.le_iff_toInt_le] <;> omega
theorem cmpI_n {cd : ClassFile.Cond} {x y : Int32} (q : ¬ cmpI cd x.toInt y.toInt) : if_icmp.holds cd x y = false := by
  cases cd <;> simp only [cmpI] at q <;> simp [if_icmp.holds, ← Int32.toInt_inj, Int32.lt_iff_toInt_lt, Int32.le_iff_toInt_le] <;> omega
theorem ow_if_eq (X : Stand p l e R s m args below meth c T locs cells slots) (hx : p.tables.exec = Jvm.exec) {pc pt pf : Nat} {Ls : Array Slot} {St : List Value} {x : Int32} {o : Int} (xi : Int) (hd : decode c.code pc = .ok (.ifCond .eq o, 3)) (hxi : x.toInt = xi) (ho : 0 ≤ (pc : Int) + o) (hp : ((pc : Int) + o).toNat = pt) (hq : pc + 3 = pf) (kt : xi = 0 → Ends p e below Q T (mkF m pt Ls St)) (kf : ¬ xi = 0 → Ends p e below Q T (mkF m pf Ls St)) : Ends p e below Q T (mkF m pc Ls (.int x :: St)) := by
  subst hxi
  have z0 : (0 : Int32).toInt = 0 := rfl
  rcases Classical.em (cmpI .eq x.toInt (0 : Int32).toInt) with w | w
  · exact ow_ifY X hx hd (cmpI_y w) ho hp (kt (by simp only [cmpI, z0] at w; omega))
  · exact ow_ifN X hx hd (cmpI_n w) hq (kf (by simp only [cmpI, z0] at w; omega))
theorem ow_icmp_ne (X : Stand p l e R s m args below meth c T locs cells slots) (hx : p.tables.exec = Jvm.exec) {pc pt pf : Nat} {Ls : Array Slot} {St : List Value} {x y : Int32} {o : Int} (xi yi : Int) (hd : decode c.code pc = .ok (.if_icmp .ne o, 3)) (hxi : x.toInt = xi) (hyi : y.toInt = yi) (ho : 0 ≤ (pc : Int) + o) (hp : ((pc : Int) + o).toNat = pt) (hq : pc + 3 = pf) (kt : ¬ xi = yi → Ends p e below Q T (mkF m pt Ls St)) (kf : xi = yi → Ends p e below Q T (mkF m pf Ls St)) : Ends p e below Q T (mkF m pc Ls (.int y :: .int x :: St)) := by
  subst hxi hyi
  rcases Classical.em (cmpI .ne x.toInt y.toInt) with w | w
  · exact ow_icmpY X hx hd (cmpI_y w) ho hp (kt w)
  · exact ow_icmpN X hx hd (cmpI_n w) hq (kf (by simp only [cmpI] at w; omega))
theorem ow_icmp_lt (X : Stand p l e R s m args below meth c T locs cells slots) (hx : p.tables.exec = Jvm.exec) {pc pt pf : Nat} {Ls : Array Slot} {St : List Value} {x y : Int32} {o : Int} (xi yi : Int) (hd : decode c.code pc = .ok (.if_icmp .lt o, 3)) (hxi : x.toInt = xi) (hyi : y.toInt = yi) (ho : 0 ≤ (pc : Int) + o) (hp : ((pc : Int) + o).toNat = pt) (hq : pc + 3 = pf) (kt : xi < yi → Ends p e below Q T (mkF m pt Ls St)) (kf : ¬ xi < yi → Ends p e below Q T (mkF m pf Ls St)) : Ends p e below Q T (mkF m pc Ls (.int y :: .int x :: St)) := by
  subst hxi hyi
  rcases Classical.em (cmpI .lt x.toInt y.toInt) with w | w
  · exact ow_icmpY X hx hd (cmpI_y w) ho hp (kt w)
  · exact ow_icmpN X hx hd (cmpI_n w) hq (kf (by simp only [cmpI] at w; omega))
theorem ow_if_lt (X : Stand p l e R s m args below meth c T locs cells slots) (hx : p.tables.exec = Jvm.exec) {pc pt pf : Nat} {Ls : Array Slot} {St : List Value} {x : Int32} {o : Int} (xi : Int) (hd : decode c.code pc = .ok (.ifCond .lt o, 3)) (hxi : x.toInt = xi) (ho : 0 ≤ (pc : Int) + o) (hp : ((pc : Int) + o).toNat = pt) (hq : pc + 3 = pf) (kt : xi < 0 → Ends p e below Q T (mkF m pt Ls St)) (kf : ¬ xi < 0 → Ends p e below Q T (mkF m pf Ls St)) : Ends p e below Q T (mkF m pc Ls (.int x :: St)) := by
  subst hxi
  have z0 : (0 : Int32).toInt = 0 := rfl
  rcases Classical.em (cmpI .lt x.toInt (0 : Int32).toInt) with w | w
  · exact ow_ifY X hx hd (cmpI_y w) ho hp (kt (by simp only [cmpI, z0] at w; omega))
  · exact ow_ifN X hx hd (cmpI_n w) hq (kf (by simp only [cmpI, z0] at w; omega))
theorem ow_icmp_ge (X : Stand p l e R s m args below meth c T locs cells slots) (hx : p.tables.exec = Jvm.exec) {pc pt pf : Nat} {Ls : Array Slot} {St : List Value} {x y : Int32} {o : Int} (xi yi : Int) (hd : decode c.code pc = .ok (.if_icmp .ge o, 3)) (hxi : x.toInt = xi) (hyi : y.toInt = yi) (ho : 0 ≤ (pc : Int) + o) (hp : ((pc : Int) + o).toNat = pt) (hq : pc + 3 = pf) (kt : ¬ xi < yi → Ends p e below Q T (mkF m pt Ls St)) (kf : xi < yi → Ends p e below Q T (mkF m pf Ls St)) : Ends p e below Q T (mkF m pc Ls (.int y :: .int x :: St)) := by
  subst hxi hyi
  rcases Classical.em (cmpI .ge x.toInt y.toInt) with w | w
  · exact ow_icmpY X hx hd (cmpI_y w) ho hp (kt w)
  · exact ow_icmpN X hx hd (cmpI_n w) hq (kf (by simp only [cmpI] at w; omega))
theorem ow_retB (X : Stand p l e R s m args below meth c T locs cells slots) (hx : p.tables.exec = Jvm.exec) {pc : Nat} {Ls : Array Slot} {rest : List Value} {z z' : Int32} (hret : meth.sig.returnType = some .boolean) (hlk : meth.locks = false) (hd : decode c.code pc = .ok (.ireturn, 1)) {ce sl : Nat} (hc : cells ≤ ce) (hs : slots ≤ sl) {Qv : Option Value → Heap → List Loc → Prop} (hz : nar .boolean z = z') (q : Qv (some (.int z')) T.heap locs) : Ends p e below (Out s ce sl Qv) T (mkF m pc Ls (.int z :: rest)) := by
  subst hz
  obtain ⟨fs, hr, hrun, hended, hW, hsame⟩ := X.leave (v := some (.int (nar .boolean z))) (fun h => by rw [hret] at h; cases h) hlk
  exact ⟨_, _, retN X hx (t := .boolean) hret (by simp) hd hr, hrun, hended, _, _, rfl, q, ⟨_, rfl⟩, hW, hsame.mono hc hs⟩
theorem ow_retI (X : Stand p l e R s m args below meth c T locs cells slots) (hx : p.tables.exec = Jvm.exec) {pc : Nat} {Ls : Array Slot} {z : Int32} (hret : meth.sig.returnType = some .int) (hlk : meth.locks = false) (hd : decode c.code pc = .ok (.ireturn, 1)) {ce sl : Nat} (hc : cells ≤ ce) (hs : slots ≤ sl) {Qv : Option Value → Heap → List Loc → Prop} (q : Qv (some (.int z)) T.heap locs) : Ends p e below (Out s ce sl Qv) T (mkF m pc Ls [.int z]) := by
  obtain ⟨fs, hr, hrun, hended, hW, hsame⟩ := X.leave (v := some (.int z)) (fun h => by rw [hret] at h; cases h) hlk
  exact ⟨_, _, X.ireturnOut hx hret rfl (Or.inl rfl) hd hr, hrun, hended, _, _, rfl, q, ⟨_, rfl⟩, hW, hsame.mono hc hs⟩
theorem ow_retA (X : Stand p l e R s m args below meth c T locs cells slots) (hx : p.tables.exec = Jvm.exec) {pc : Nat} {Ls : Array Slot} {w : Value} {t : FieldType} (hret : meth.sig.returnType = some t) (hlk : meth.locks = false) (hw : w.isRef = true) (ht : t.isReference = true) (hd : decode c.code pc = .ok (.areturn, 1)) {ce sl : Nat} (hc : cells ≤ ce) (hs : slots ≤ sl) {Qv : Option Value → Heap → List Loc → Prop} (q : Qv (some w) T.heap locs) : Ends p e below (Out s ce sl Qv) T (mkF m pc Ls [w]) := by
  obtain ⟨fs, hr, hrun, hended, hW, hsame⟩ := X.leave (v := some w) (fun h => by rw [hret] at h; cases h) hlk
  exact ⟨_, _, X.areturnOut hx hw hret ht hd hr, hrun, hended, _, _, rfl, q, ⟨_, rfl⟩, hW, hsame.mono hc hs⟩
theorem ow_retV (X : Stand p l e R s m args below meth c T locs cells slots) (hx : p.tables.exec = Jvm.exec) {pc : Nat} {Ls : Array Slot} (hret : meth.sig.returnType = none) (hlk : meth.locks = false) (hd : decode c.code pc = .ok (.return_, 1)) {ce sl : Nat} (hc : cells ≤ ce) (hs : slots ≤ sl) {Qv : Option Value → Heap → List Loc → Prop} (q : Qv none T.heap locs) : Ends p e below (Out s ce sl Qv) T (mkF m pc Ls []) := by
  obtain ⟨fs, hr, hrun, hended, hW, hsame⟩ := X.leave (v := none) (fun _ => rfl) hlk
  exact ⟨_, _, X.returnOut hx hret hd hr, hrun, hended, _, _, rfl, q, ⟨_, rfl⟩, hW, hsame.mono hc hs⟩
theorem ow_callS (X : Stand p l e R s m args below meth c T locs cells slots) (hx : p.tables.exec = Jvm.exec) (hZ : Z.Warmed39 s.vm) {own : String} {index : Nat} {y : MethodName} {bytes : ByteArray} {maxL : Nat} {ret : Option FieldType} (hown : s.vm.findClass own = some m.cls)
    (wl : (Jvm.Cond.methodLink own index y).before a0 Z = true) (wst : (Jvm.Cond.static y).before a0 Z = true) (wi : (Jvm.Cond.initialized y.cls).before a0 Z = true) (wc : (Jvm.Cond.code y bytes maxL ret).before a0 Z = true) (hy : y.cls ≠ "java/lang/invoke/MethodHandle" ∧ y.cls ≠ "java/lang/invoke/VarHandle")
    {rm : Room} {as' : Array Value} {Qc : Option Value → Heap → List Loc → Prop} (hM : MetFree l y (head1 [Jvm.Cond.code y bytes maxL ret] rm) (fun a U => a = as' ∧ Z.Warmed39 U.vm ∧ U.heap = h) (fun _ _ _ _ _ => True) (fun _ U o U' => ∃ v L, o = .returned v ∧ Qc v U'.heap L ∧ FrameEnd U o U' L rm.cells rm.slots))
    (eT : T.heap = h) (W : Nat) (hf : rm.frames + 1 ≤ R.frames) (hl : W + (maxL + 11) + rm.locals ≤ R.locals) (hce : cells + rm.cells ≤ R.cells) (hsl : slots + rm.slots ≤ R.slots) {pc pc' : Nat} {Ls : Array Slot} {St rest : List Value} (argsL : List Value) {ps : List FieldType} {rt : Option FieldType} (hsize : Ls.size = c.maxLocals) (hdesc : parseMethodDescriptor y.desc = some ⟨ps, rt⟩) (hlen : argsL.length = ps.length) (hst : St = argsL.reverse ++ rest) (has : argsL.toArray = as') (hW : (rest.map fun v => v.category).sum ≤ W)
    (hd : decode c.code pc = .ok (.invokestatic index, 3)) (hp : pc + 3 = pc')
    (kk : ∀ (v : Option Value) (T' : State) (L' : List Loc), Qc v T'.heap L' → Stand p l e R s m args below meth c T' (locs ++ L') (cells + rm.cells) (slots + rm.slots) → Ends p e below Q T' (mkF m pc' Ls (v.toList ++ rest))) : Ends p e below Q T (mkF m pc Ls St) := by
  subst hst has hp
  obtain ⟨v, vm₁, ⟨T', L, k2, n2⟩, -, X', ⟨Lc, hQ, l1, y1, z1⟩, st⟩ := Jvm.LawKit.callS X hx hown (mvT hZ wl) (mvT hZ wst) (mvT hZ wi) (mvT hZ wc) hy (backOf (W := W) hM hZ wc wi hf hl) (g := mkF m pc Ls (argsL.reverse ++ rest)) rfl hsize (argsL := argsL) (rest := rest) (lenOf hdesc hlen) rfl (by show 2 * 0 + _ ≤ _; omega) hd (fun _ _ => ⟨rfl, eT, hce, hsl⟩)
  dsimp only [Pt.U, Pt.locs, Pt.cells, Pt.slots] at X' l1 y1 z1 st hQ
  subst l1 y1 z1
  exact Ends.go st (kk v T' Lc hQ X')
theorem ow_callI (X : Stand p l e R s m args below meth c T locs cells slots) (hx : p.tables.exec = Jvm.exec) (hZ : Z.Warmed39 s.vm) {own : String} {index : Nat} {y : MethodName} {bytes : ByteArray} {maxL : Nat} {ret : Option FieldType} (hret0 : ret = none) (hy1 : y.name = "<init>") (hown : s.vm.findClass own = some m.cls)
    (wl : (Jvm.Cond.methodLink own index y).before a0 Z = true) (wst : (Jvm.Cond.instanceMethod y).before a0 Z = true) (wi : (Jvm.Cond.initialized y.cls).before a0 Z = true) (wc : (Jvm.Cond.code y bytes maxL ret).before a0 Z = true) (hy : y.cls ≠ "java/lang/invoke/MethodHandle" ∧ y.cls ≠ "java/lang/invoke/VarHandle")
    {rm : Room} {as' : Array Value} {Qc : Option Value → Heap → List Loc → Prop} (hM : MetFree l y (head1 [Jvm.Cond.code y bytes maxL ret] rm) (fun a U => a = as' ∧ Z.Warmed39 U.vm ∧ U.heap = h) (fun _ _ _ _ _ => True) (fun _ U o U' => ∃ v L, o = .returned v ∧ Qc v U'.heap L ∧ FrameEnd U o U' L rm.cells rm.slots))
    (eT : T.heap = h) (W : Nat) (hf : rm.frames + 1 ≤ R.frames) (hl : W + (maxL + 11) + rm.locals ≤ R.locals) (hce : cells + rm.cells ≤ R.cells) (hsl : slots + rm.slots ≤ R.slots) {pc pc' : Nat} {Ls : Array Slot} {St rest : List Value} (argsL : List Value) {ps : List FieldType} {rt : Option FieldType} (hsize : Ls.size = c.maxLocals) (hdesc : parseMethodDescriptor y.desc = some ⟨ps, rt⟩) (hlen : argsL.length = ps.length) {a : Addr} (hst : St = argsL.reverse ++ .ref a :: rest) (has : (Value.ref a :: argsL).toArray = as') (hW : (rest.map fun v => v.category).sum ≤ W)
    (hd : decode c.code pc = .ok (.invokespecial index, 3)) (hp : pc + 3 = pc')
    (kk : ∀ (v : Option Value) (T' : State) (L' : List Loc), Qc v T'.heap L' → Stand p l e R s m args below meth c T' (locs ++ L') (cells + rm.cells) (slots + rm.slots) → Ends p e below Q T' (mkF m pc' Ls (v.toList ++ rest))) : Ends p e below Q T (mkF m pc Ls St) := by
  subst hst has hp hret0
  obtain ⟨v, vm₁, ⟨T', L, k2, n2⟩, -, X', ⟨Lc, hQ, l1, y1, z1⟩, st⟩ := X.specialBack hx hy1 hown (mvT hZ wl) (mvT hZ wst) (mvT hZ wc) hy (backOf (W := W) hM hZ wc wi hf hl) (g := mkF m pc Ls (argsL.reverse ++ .ref a :: rest)) rfl hsize (Steps.refl _) (a := a) (argsL := argsL) (rest := rest) (lenOf hdesc hlen) rfl (by show 2 * 0 + _ ≤ _; omega) hd (fun _ _ => ⟨rfl, eT, hce, hsl⟩)
  dsimp only [Pt.U, Pt.locs, Pt.cells, Pt.slots] at X' l1 y1 z1 st hQ
  subst l1 y1 z1
  exact Ends.thru st (kk v T' Lc hQ X')
theorem ow_callV (X : Stand p l e R s m args below meth c T locs cells slots) (hx : p.tables.exec = Jvm.exec) (hZ : Z.Warmed39 s.vm) {own C : String} {index : Nat} {y y' : MethodName} (hyy : y = y') {bytes : ByteArray} {maxL : Nat} {ret : Option FieldType} (hown : s.vm.findClass own = some m.cls)
    (wl : (Jvm.Cond.methodLink own index y).before a0 Z = true) (wd : (Jvm.Cond.declares y).before a0 Z = true) (wsel : (Jvm.Cond.selects C y y').before a0 Z = true) (wst : (Jvm.Cond.instanceMethod y').before a0 Z = true) (wi : (Jvm.Cond.initialized y'.cls).before a0 Z = true) (wc : (Jvm.Cond.code y' bytes maxL ret).before a0 Z = true) (hy : y.cls ≠ "java/lang/invoke/MethodHandle" ∧ y.cls ≠ "java/lang/invoke/VarHandle")
    {rm : Room} {as' : Array Value} {Qc : Option Value → Heap → List Loc → Prop} (hM : MetFree l y' (head1 [Jvm.Cond.code y' bytes maxL ret] rm) (fun a U => a = as' ∧ Z.Warmed39 U.vm ∧ U.heap = h) (fun _ _ _ _ _ => True) (fun _ U o U' => ∃ v L, o = .returned v ∧ Qc v U'.heap L ∧ FrameEnd U o U' L rm.cells rm.slots))
    (eT : T.heap = h) (W : Nat) (hf : rm.frames + 1 ≤ R.frames) (hl : W + (maxL + 11) + rm.locals ≤ R.locals) (hce : cells + rm.cells ≤ R.cells) (hsl : slots + rm.slots ≤ R.slots) {pc pc' : Nat} {Ls : Array Slot} {St rest : List Value} (argsL : List Value) {ps : List FieldType} {rt : Option FieldType} (hsize : Ls.size = c.maxLocals) (hdesc : parseMethodDescriptor y.desc = some ⟨ps, rt⟩) (hlen : argsL.length = ps.length) {a : Addr} (E : Exa Z h a C) (hst : St = argsL.reverse ++ .ref a :: rest) (has : (Value.ref a :: argsL).toArray = as') (hW : (rest.map fun v => v.category).sum ≤ W)
    (hd : decode c.code pc = .ok (.invokevirtual index, 3)) (hp : pc + 3 = pc')
    (kk : ∀ (v : Option Value) (T' : State) (L' : List Loc), Qc v T'.heap L' → Stand p l e R s m args below meth c T' (locs ++ L') (cells + rm.cells) (slots + rm.slots) → Ends p e below Q T' (mkF m pc' Ls (v.toList ++ rest))) : Ends p e below Q T (mkF m pc Ls St) := by
  subst hst has hp hyy
  obtain ⟨cq, kq, qa, qb, qc⟩ := isOf hZ eT E
  obtain ⟨v, vm₁, ⟨T', L, k2, n2⟩, -, X', ⟨Lc, hQ, l1, y1, z1⟩, st⟩ := X.virtualBack hx hown (mvT hZ wl) (mvT hZ wd) (notFace_of_selects (args := #[]) (mvT hZ wsel)) (mvT hZ wsel) (mvT hZ wst) hy (backOf (W := W) hM hZ wc wi hf hl) qa qc (g := mkF m pc Ls (argsL.reverse ++ .ref a :: rest)) rfl hsize (Steps.refl _) (argsL := argsL) (rest := rest) (lenOf hdesc hlen) rfl (by show 2 * 0 + _ ≤ _; omega) hd (fun _ _ => ⟨rfl, eT, hce, hsl⟩)
  dsimp only [Pt.U, Pt.locs, Pt.cells, Pt.slots] at X' l1 y1 z1 st hQ
  subst l1 y1 z1
  exact Ends.thru st (kk v T' Lc hQ X')
/-- Object's constructor -/
theorem ow_init0 (X : Stand p l e R s m args below meth c T locs cells slots) (hx : p.tables.exec = Jvm.exec) (hZ : Z.Warmed39 s.vm) {own : String} {index : Nat} (hown : s.vm.findClass own = some m.cls) (wl : (Jvm.Cond.methodLink own index Lib.objectInit).before a0 Z = true) (wst : (Jvm.Cond.instanceMethod Lib.objectInit).before a0 Z = true) (wc : (Jvm.Cond.code Lib.objectInit ⟨#[0xb1]⟩ 1 none).before a0 Z = true)
    (eT : T.heap = h) (W : Nat) (hf : 1 ≤ R.frames) (hl : W + 12 ≤ R.locals) {pc pc' : Nat} {Ls : Array Slot} {a : Addr} {St : List Value} (hsize : Ls.size = c.maxLocals) (hW : (St.map fun v => v.category).sum ≤ W) (hd : decode c.code pc = .ok (.invokespecial index, 3)) (hp : pc + 3 = pc')
    (kk : ∀ T' : State, Stand p l e R s m args below meth c T' locs cells slots → T'.heap = h → Ends p e below Q T' (mkF m pc' Ls St)) : Ends p e below Q T (mkF m pc Ls (.ref a :: St)) := by
  subst hp
  obtain ⟨T', X', e', st⟩ := initO X hx hZ hown wl wst wc eT (g := mkF m pc Ls (.ref a :: St)) rfl hsize rfl hd hf (W := W) (by show 2 * 0 + _ ≤ _; omega) hl
  exact Ends.go st (kk T' X' e')
theorem ow_getF (X : Stand p l e R s m args below meth c T locs cells slots) (hx : p.tables.exec = Jvm.exec) (hZ : Z.Warmed39 s.vm) {own R0 O n d host : String} {index : Nat} (hown : s.vm.findClass own = some m.cls) (w : (Jvm.Cond.fieldLink own index R0 n d).before a0 Z = true ∨ (Jvm.Cond.fieldLinkNest own index R0 n d host).before a0 Z = true) (via : Via Z R0 O n d) (eT : T.heap = h) {a : Addr} {v : Value} (F : Fld Z h a O n d v) {pc pc' : Nat} {Ls : Array Slot} {St : List Value} (hd : decode c.code pc = .ok (.getfield index, 3)) (hp : pc + 3 = pc')
    (kk : ∀ T' : State, Stand p l e R s m args below meth c T' locs cells slots → T'.heap = h → Ends p e below Q T' (mkF m pc' Ls (v :: St))) : Ends p e below Q T (mkF m pc Ls (.ref a :: St)) := by
  subst hp
  obtain ⟨T', X', e', st⟩ := getF X hx hZ hown w via eT F (g := mkF m pc Ls (.ref a :: St)) rfl rfl hd
  exact Ends.go st (kk T' X' e')
theorem ow_getS (X : Stand p l e R s m args below meth c T locs cells slots) (hx : p.tables.exec = Jvm.exec) (hZ : Z.Warmed39 s.vm) {own R0 O n d host : String} {index : Nat} (hown : s.vm.findClass own = some m.cls) (w : (Jvm.Cond.fieldLink own index R0 n d).before a0 Z = true ∨ (Jvm.Cond.fieldLinkNest own index R0 n d host).before a0 Z = true) (via : Via Z R0 O n d) (eT : T.heap = h) {v : Value} (F : Sta Z h O n d v) {pc pc' : Nat} {Ls : Array Slot} {St : List Value} (hd : decode c.code pc = .ok (.getstatic index, 3)) (hp : pc + 3 = pc')
    (kk : ∀ T' : State, Stand p l e R s m args below meth c T' locs cells slots → T'.heap = h → Ends p e below Q T' (mkF m pc' Ls (v :: St))) : Ends p e below Q T (mkF m pc Ls St) := by
  subst hp
  obtain ⟨T', X', e', st⟩ := getS2 X hx hZ hown w via eT F (g := mkF m pc Ls St) rfl hd
  exact Ends.go st (kk T' X' e')
theorem ow_putF (X : Stand p l e R s m args below meth c T locs cells slots) (hx : p.tables.exec = Jvm.exec) (hZ : Z.Warmed39 s.vm) {own R0 O n d host C : String} {index kn : Nat} {ty : FieldType} (hown : s.vm.findClass own = some m.cls) (w : (Jvm.Cond.fieldLink own index R0 n d).before a0 Z = true ∨ (Jvm.Cond.fieldLinkNest own index R0 n d host).before a0 Z = true) (via : Via Z R0 O n d) (eT : T.heap = h) {a : Addr} {v old : Value} (F : Fld Z h a O n d old) (E : Exa Z h a C)
    (L : (Jvm.Cond.lays C O n d).before a0 Z = true ∨ ((Jvm.Cond.laysFinal C O n d).before a0 Z = true ∧ own = O ∧ meth.name = "<init>")) (wi : (Jvm.Cond.instantiable C kn).before a0 Z = true) (hty : parseFieldDescriptor d = some ty) (hn : narrow ty v = v) (hft : fits ty v = true) {pc pc' : Nat} {Ls : Array Slot} {St : List Value} (hd : decode c.code pc = .ok (.putfield index, 3)) (hp : pc + 3 = pc')
    (kk : ∀ (T' : State) (h' : Heap), Stand p l e R s m args below meth c T' (locs ++ [⟨a, Jvm.RoadKit.slotOf Z O n d⟩]) cells slots → T'.heap = h' → Wr h h' a (Jvm.RoadKit.slotOf Z O n d) v → Ends p e below Q T' (mkF m pc' Ls St)) : Ends p e below Q T (mkF m pc Ls (v :: .ref a :: St)) := by
  subst hp
  obtain ⟨T', h', X', e', W', st⟩ := putF X hx hZ hown w via eT F E L wi hty hn hft (g := mkF m pc Ls (v :: .ref a :: St)) rfl rfl hd
  exact Ends.go st (kk T' h' X' e' W')
theorem ow_putFN (X : Stand p l e R s m args below meth c T locs cells slots) (hx : p.tables.exec = Jvm.exec) (hZ : Z.Warmed39 s.vm) {own R0 O n d C : String} {index kn : Nat} {ty : FieldType} (hown : s.vm.findClass own = some m.cls) (w : (Jvm.Cond.fieldLink own index R0 n d).before a0 Z = true) (via : Via Z R0 O n d) (eT : T.heap = h) {a : Addr} {v v' old : Value} (F : Fld Z h a O n d old) (E : Exa Z h a C)
    (L : (Jvm.Cond.lays C O n d).before a0 Z = true ∨ ((Jvm.Cond.laysFinal C O n d).before a0 Z = true ∧ own = O ∧ meth.name = "<init>")) (wi : (Jvm.Cond.instantiable C kn).before a0 Z = true) (hty : parseFieldDescriptor d = some ty) (hn : narrow ty v = v') (hft : fits ty v' = true) {pc pc' : Nat} {Ls : Array Slot} {St : List Value} (hd : decode c.code pc = .ok (.putfield index, 3)) (hp : pc + 3 = pc')
    (kk : ∀ (T' : State) (h' : Heap), Stand p l e R s m args below meth c T' (locs ++ [⟨a, Jvm.RoadKit.slotOf Z O n d⟩]) cells slots → T'.heap = h' → Wr h h' a (Jvm.RoadKit.slotOf Z O n d) v' → Ends p e below Q T' (mkF m pc' Ls St)) : Ends p e below Q T (mkF m pc Ls (v :: .ref a :: St)) := by
  subst hp
  obtain ⟨T', h', X', e', W', st⟩ := putFN X hx hZ hown w via eT F E L wi hty hn hft (g := mkF m pc Ls (v :: .ref a :: St)) rfl rfl hd
  exact Ends.go st (kk T' h' X' e' W')
theorem ow_new (X : Stand p l e R s m args below meth c T locs cells slots) (hx : p.tables.exec = Jvm.exec) (hZ : Z.Warmed39 s.vm) {own C : String} {index n : Nat} (hown : s.vm.findClass own = some m.cls) (w : (Jvm.Cond.classLink own index C).before a0 Z = true) (wi : (Jvm.Cond.instantiable C n).before a0 Z = true) (wz : (Jvm.Cond.initialized C).before a0 Z = true) (eT : T.heap = h) {pc pc' : Nat} {Ls : Array Slot} {St : List Value} (hd : decode c.code pc = .ok (.new index, 3)) (hc : cells + 1 ≤ R.cells) (hl : slots + n ≤ R.slots) (hp : pc + 3 = pc')
    (kk : ∀ (T' : State) (h' : Heap) (b : Addr), b = h.size → Stand p l e R s m args below meth c T' locs (cells + 1) (slots + n) → T'.heap = h' → Ext h h' → Exa Z h' b C → (∀ {O nm d : String} {ty : FieldType}, Laid Z a0 C O nm d → parseFieldDescriptor d = some ty → Fld Z h' b O nm d (defaultValue ty)) → Ends p e below Q T' (mkF m pc' Ls (.ref b :: St))) : Ends p e below Q T (mkF m pc Ls St) := by
  subst hp
  obtain ⟨T', h', X', e', E', A', D', -, st⟩ := newO X hx hZ hown w wi wz eT (g := mkF m pc Ls St) rfl hd hc hl
  exact Ends.go st (kk T' h' _ rfl X' e' E' A' D')
theorem ow_newP (X : Stand p l e R s m args below meth c T locs cells slots) (hx : p.tables.exec = Jvm.exec) (hZ : Z.Warmed39 s.vm) {aty : ArrayType} (w : (Jvm.Cond.arrayClass (newarray.typeOf aty)).before a0 Z = true) (eT : T.heap = h) {pc pc' : Nat} {Ls : Array Slot} {St : List Value} {n : Int32} (hd : decode c.code pc = .ok (.newarray aty, 2)) (hn : ¬ n < 0) (cap : Nat) (hcap : n.toNatClampNeg ≤ cap) (hb : cap * 8 ≤ 536870912) (hc : cells + 1 ≤ R.cells) (hl : slots + cap ≤ R.slots) (hp : pc + 2 = pc')
    (kk : ∀ (T' : State) (h' : Heap) (b : Addr) (k : ClassId), b = h.size → Stand p l e R s m args below meth c T' locs (cells + 1) (slots + cap) → T'.heap = h' → Ext h h' → Arv Z h' b k (newarray.typeOf aty) n [] (defaultValue (newarray.typeOf aty)) → Ends p e below Q T' (mkF m pc' Ls (.ref b :: St))) : Ends p e below Q T (mkF m pc Ls (.int n :: St)) := by
  subst hp
  obtain ⟨T', h', k, X', e', E', A', st⟩ := newP X hx hZ w eT (g := mkF m pc Ls (.int n :: St)) rfl hd rfl hn (cap := cap) hcap hb hc hl
  exact Ends.go st (kk T' h' _ k rfl X' e' E' (Arv.new A' hn))
theorem ow_stI (X : Stand p l e R s m args below meth c T locs cells slots) (hx : p.tables.exec = Jvm.exec) (hZ : Z.Warmed39 s.vm) (eT : T.heap = h) {a : Addr} {k : ClassId} {z : Int32} {vs : List Value} {dv : Value} (V : Arv Z h a k .int z vs dv) {pc pc' : Nat} {Ls : Array Slot} {St : List Value} {j x : Int32} (i : Nat) (hj : j.toNatClampNeg = i) (hj0 : ¬ j < 0) (hjz : j < z) (hi : i < vs.length) (hd : decode c.code pc = .ok (.iastore, 1)) (hp : pc + 1 = pc')
    (kk : ∀ (T' : State) (h' : Heap), Stand p l e R s m args below meth c T' (locs ++ [⟨a, j.toNatClampNeg⟩]) cells slots → T'.heap = h' → Wr h h' a j.toNatClampNeg (.int x) → Arv Z h' a k .int z (vs.set i (.int x)) dv → Ends p e below Q T' (mkF m pc' Ls St)) : Ends p e below Q T (mkF m pc Ls (.int x :: .int j :: .ref a :: St)) := by
  subst hp
  obtain ⟨cl, A, q1, S, N, H, G⟩ := V
  obtain ⟨T', h', X', e', W', st⟩ := stI X hx hZ eT A (inb_of S ⟨hj0, hjz⟩) (g := mkF m pc Ls (.int x :: .int j :: .ref a :: St)) rfl rfl hd
  exact Ends.go st (kk T' h' X' e' W' (Arv.set A q1 S N H G rfl W' i hj hi))
theorem ow_ldI (X : Stand p l e R s m args below meth c T locs cells slots) (hx : p.tables.exec = Jvm.exec) (hZ : Z.Warmed39 s.vm) (eT : T.heap = h) {a : Addr} {k : ClassId} {z : Int32} {vs : List Value} {dv : Value} (V : Arv Z h a k .int z vs dv) {pc pc' : Nat} {Ls : Array Slot} {St : List Value} {j : Int32} {v : Value} (hj0 : ¬ j < 0) (hjz : j < z) (hv : vs.getD j.toNatClampNeg dv = v) (hd : decode c.code pc = .ok (.iaload, 1)) (hp : pc + 1 = pc')
    (kk : Ends p e below Q T (mkF m pc' Ls (v :: St))) : Ends p e below Q T (mkF m pc Ls (.int j :: .ref a :: St)) := by
  subst hp
  obtain ⟨cl, A, q1, S, N, H, G⟩ := V
  have hin := inb_of S ⟨hj0, hjz⟩
  exact Ends.go (X.iaload hx (by rw [eT]; exact A.1) (State.isArrayOf_alike hZ.alike A.2.1) A.2.2 hin (H.at hin hv) (g := mkF m pc Ls (.int j :: .ref a :: St)) rfl rfl hd) kk
theorem ow_len (X : Stand p l e R s m args below meth c T locs cells slots) (hx : p.tables.exec = Jvm.exec) (hZ : Z.Warmed39 s.vm) (eT : T.heap = h) {a : Addr} {k : ClassId} {ty : FieldType} {z : Int32} {vs : List Value} {dv : Value} (V : Arv Z h a k ty z vs dv) {pc pc' : Nat} {Ls : Array Slot} {St : List Value} (hd : decode c.code pc = .ok (.arraylength, 1)) (hp : pc + 1 = pc')
    (kk : Ends p e below Q T (mkF m pc' Ls (.int z :: St))) : Ends p e below Q T (mkF m pc Ls (.ref a :: St)) := by
  subst hp
  obtain ⟨cl, A, q1, S, N, H, G⟩ := V
  refine Ends.go (X.arraylength hx (by rw [eT]; exact A.1) (State.isArrayOf_alike hZ.alike A.2.1) (g := mkF m pc Ls (.ref a :: St)) rfl rfl hd) ?_
  rw [len_of S N]
  exact kk
/-- a body that returns a number and leaves the heap as it is -/
def QI (P : Int32 → Prop) (h0 : Heap) (v : Option Value) (h : Heap) (L : List Loc) : Prop := ∃ z, v = some (.int z) ∧ P z ∧ L = [] ∧ h = h0
theorem ow_callPI (X : Stand p l e R s m args below meth c T locs cells slots) (hx : p.tables.exec = Jvm.exec) (hZ : Z.Warmed39 s.vm) {own : String} {index : Nat} {y : MethodName} {bytes : ByteArray} {maxL : Nat} {ret : Option FieldType} (hown : s.vm.findClass own = some m.cls)
    (wl : (Jvm.Cond.methodLink own index y).before a0 Z = true) (wst : (Jvm.Cond.static y).before a0 Z = true) (wi : (Jvm.Cond.initialized y.cls).before a0 Z = true) (wc : (Jvm.Cond.code y bytes maxL ret).before a0 Z = true) (hy : y.cls ≠ "java/lang/invoke/MethodHandle" ∧ y.cls ≠ "java/lang/invoke/VarHandle")
    {fr lo : Nat} {as' : Array Value} {P : Int32 → Prop} (hM : MetFree l y (head1 [Jvm.Cond.code y bytes maxL ret] ({ frames := fr, cells := 0, slots := 0, locals := lo } : Room)) (fun a U => a = as' ∧ Z.Warmed39 U.vm ∧ U.heap = h) (fun _ _ _ _ _ => True) (fun _ U o U' => ∃ v L, o = .returned v ∧ QI P h v U'.heap L ∧ FrameEnd U o U' L 0 0))
    (eT : T.heap = h) (W : Nat) (hf : fr + 1 ≤ R.frames) (hl : W + (maxL + 11) + lo ≤ R.locals) (hce : cells ≤ R.cells) (hsl : slots ≤ R.slots) {pc pc' : Nat} {Ls : Array Slot} {St rest : List Value} (argsL : List Value) {ps : List FieldType} {rt : Option FieldType} (hsize : Ls.size = c.maxLocals) (hdesc : parseMethodDescriptor y.desc = some ⟨ps, rt⟩) (hlen : argsL.length = ps.length) (hst : St = argsL.reverse ++ rest) (has : argsL.toArray = as') (hW : (rest.map fun v => v.category).sum ≤ W)
    (hd : decode c.code pc = .ok (.invokestatic index, 3)) (hp : pc + 3 = pc')
    (kk : ∀ (z : Int32) (T' : State), P z → Stand p l e R s m args below meth c T' locs cells slots → T'.heap = h → Ends p e below Q T' (mkF m pc' Ls (.int z :: rest))) : Ends p e below Q T (mkF m pc Ls St) := by
  refine ow_callS X hx hZ hown wl wst wi wc hy hM eT W hf hl hce hsl argsL hsize hdesc hlen hst has hW hd hp ?_
  rintro v T' L' ⟨z, rfl, hP, rfl, hh⟩ X'
  rw [List.append_nil] at X'
  exact kk z T' hP X' hh
theorem ow_callVPI (X : Stand p l e R s m args below meth c T locs cells slots) (hx : p.tables.exec = Jvm.exec) (hZ : Z.Warmed39 s.vm) {own C : String} {index : Nat} {y y' : MethodName} (hyy : y = y') {bytes : ByteArray} {maxL : Nat} {ret : Option FieldType} (hown : s.vm.findClass own = some m.cls)
    (wl : (Jvm.Cond.methodLink own index y).before a0 Z = true) (wd : (Jvm.Cond.declares y).before a0 Z = true) (wsel : (Jvm.Cond.selects C y y').before a0 Z = true) (wst : (Jvm.Cond.instanceMethod y').before a0 Z = true) (wi : (Jvm.Cond.initialized y'.cls).before a0 Z = true) (wc : (Jvm.Cond.code y' bytes maxL ret).before a0 Z = true) (hy : y.cls ≠ "java/lang/invoke/MethodHandle" ∧ y.cls ≠ "java/lang/invoke/VarHandle")
    {fr lo : Nat} {as' : Array Value} {P : Int32 → Prop} (hM : MetFree l y' (head1 [Jvm.Cond.code y' bytes maxL ret] ({ frames := fr, cells := 0, slots := 0, locals := lo } : Room)) (fun a U => a = as' ∧ Z.Warmed39 U.vm ∧ U.heap = h) (fun _ _ _ _ _ => True) (fun _ U o U' => ∃ v L, o = .returned v ∧ QI P h v U'.heap L ∧ FrameEnd U o U' L 0 0))
    (eT : T.heap = h) (W : Nat) (hf : fr + 1 ≤ R.frames) (hl : W + (maxL + 11) + lo ≤ R.locals) (hce : cells ≤ R.cells) (hsl : slots ≤ R.slots) {pc pc' : Nat} {Ls : Array Slot} {St rest : List Value} (argsL : List Value) {ps : List FieldType} {rt : Option FieldType} (hsize : Ls.size = c.maxLocals) (hdesc : parseMethodDescriptor y.desc = some ⟨ps, rt⟩) (hlen : argsL.length = ps.length) {a : Addr} (E : Exa Z h a C) (hst : St = argsL.reverse ++ .ref a :: rest) (has : (Value.ref a :: argsL).toArray = as') (hW : (rest.map fun v => v.category).sum ≤ W)
    (hd : decode c.code pc = .ok (.invokevirtual index, 3)) (hp : pc + 3 = pc')
    (kk : ∀ (z : Int32) (T' : State), P z → Stand p l e R s m args below meth c T' locs cells slots → T'.heap = h → Ends p e below Q T' (mkF m pc' Ls (.int z :: rest))) : Ends p e below Q T (mkF m pc Ls St) := by
  refine ow_callV X hx hZ hyy hown wl wd wsel wst wi wc hy hM eT W hf hl hce hsl argsL hsize hdesc hlen E hst has hW hd hp ?_
  rintro v T' L' ⟨z, rfl, hP, rfl, hh⟩ X'
  rw [List.append_nil] at X'
  exact kk z T' hP X' hh
def OutW (s : State) (ce sl : Nat) (Qv : Option Value → Heap → List Loc → Prop) (o : Outcome) (U : State) : Prop := ∃ v L, o = .returned v ∧ Qv v U.heap L ∧ ReturnedEndW s o U L ce sl
theorem ow_bodyW {y : MethodName} {bytes : ByteArray} {ml : Nat} {ret : Option FieldType} {ws : List Jvm.Cond} {rm : Room} {as : Array Value} {ce sl : Nat} {Qv : Option Value → Heap → List Loc → Prop} (hp : plainFor y = true)
    (body : ∀ (p : Program) (e : Env) (s : State) (m : MethodId) (below : List Frame) (meth : Method) (c : Code) (T : State), Stand p l e rm (s.setVm s.vm) m as below meth c T [] 0 0 → p.tables.exec = Jvm.exec → Z.Warmed39 (s.setVm s.vm).vm → c.code = bytes → c.maxLocals = ml → (s.setVm s.vm).vm.findClass y.cls = some m.cls → meth.name = y.name → meth.sig.returnType = ret → meth.locks = false → T.heap = h → s.heap = h → s.Since s.vm 0 → Ends p e below (OutW s ce sl Qv) T (entryFrame m as ml)) :
    MetFree l y (head1 (Jvm.Cond.code y bytes ml ret :: ws) rm) (fun a U => a = as ∧ Z.Warmed39 U.vm ∧ U.heap = h) (fun _ _ _ _ _ => True) (fun _ U o U' => ∃ v L, o = .returned v ∧ Qv v U'.heap L ∧ ReturnedEndW U o U' L ce sl) := by
  refine MetFree.of_bodySF hp hisR ?_
  intro p e s m args below meth c s₁ Bd hml0 hP hK
  obtain ⟨rfl, hZ, hh⟩ := hP
  exact body p e s m below meth c s₁ (Stand.of_body Bd) Bd.exec hZ Bd.bytes hml0 (findClass_of_methodNamed Bd.named) (name_of_methodNamed Bd.named Bd.method).1 Bd.returns Bd.notSynchronized (by rw [← hh, Bd.state]; rfl) hh ((State.WarmedH.refl s).since 0)
theorem ow_retBW {vm0 : Vm} (X : Stand p l e R (s.setVm vm0) m args below meth c T locs cells slots) (hx : p.tables.exec = Jvm.exec) {pc : Nat} {Ls : Array Slot} {rest : List Value} {z z' : Int32} (hret : meth.sig.returnType = some .boolean) (hlk : meth.locks = false) (hd : decode c.code pc = .ok (.ireturn, 1)) {k1 : Nat} (hS : s.Since vm0 k1) (hk : k1 ≤ T.heap.size) {ce sl : Nat} (hc : cells ≤ ce) (hs : slots ≤ sl) {Qv : Option Value → Heap → List Loc → Prop} (hz : nar .boolean z = z') (q : Qv (some (.int z')) T.heap locs) : Ends p e below (OutW s ce sl Qv) T (mkF m pc Ls (.int z :: rest)) := by
  subst hz
  obtain ⟨fs, hr, hrun, hended, h1, h2, h3, h4⟩ := X.leaveW hS hk (v := some (.int (nar .boolean z))) (fun h => by rw [hret] at h; cases h) hlk
  exact ⟨_, _, retN X hx (t := .boolean) hret (by simp) hd hr, hrun, hended, _, _, rfl, q, ⟨_, rfl⟩, h2, h3, h4.mono hc hs⟩
theorem ow_ldcS {vm0 : Vm} (X : Stand p l e R (s.setVm vm0) m args below meth c T locs cells slots) (hx : p.tables.exec = Jvm.exec) (hZ : Z.Warmed39 (s.setVm vm0).vm) {own text : String} {index : Nat} (hown : (s.setVm vm0).vm.findClass own = some m.cls) (w : (Jvm.Cond.stringLink own index text).before a0 Z = true) (wS : ∀ a ∈ Bundle.stringAtoms, a.before a0 Z = true) (eT : T.heap = h) {k0 : Nat} (hS : s.Since vm0 k0) (hk : k0 ≤ h.size) {pc pc' : Nat} {Ls : Array Slot} {St : List Value} (hd : decode c.code pc = .ok (.ldc index, 2)) (n : Nat) (hn : 4 * text.toList.length ≤ n) (hbig : n ≤ 536870912) (hc : cells + 2 ≤ R.cells) (hl : slots + (n + 4) ≤ R.slots) (hp : pc + 2 = pc')
    (kk : ∀ (a : Addr) (T' : State) (h' : Heap) (k1 : Nat), Stand p l e R (s.setVm T'.vm) m args below meth c T' locs (cells + 2) (slots + (n + 4)) → T'.heap = h' → Ext h h' → s.Since T'.vm k1 → k1 ≤ h'.size → Z.Warmed39 (s.setVm T'.vm).vm → (s.setVm T'.vm).vm.findClass own = some m.cls → Ends p e below Q T' (mkF m pc' Ls (.ref a :: St))) : Ends p e below Q T (mkF m pc Ls St) := by
  subst hp
  obtain ⟨a, T', h', k1, X', e', E', S', hk', Z', o', st⟩ := ldcS X hx hZ hown w wS eT hS hk (g := mkF m pc Ls St) rfl hd hn hbig hc hl
  exact Ends.go st (kk a T' h' k1 X' e' E' S' hk' Z' o')
def QW (w : Value) (h0 : Heap) (v : Option Value) (h : Heap) (L : List Loc) : Prop := v = some w ∧ L = [] ∧ h = h0
theorem ow_staKeep {C n d : String} {v : Value} {h' : Heap} {ws : List Addr} (F : Sta Z h C n d v) (K : Keep h h' ws) (q : ∀ x ∈ ws, ∀ c : Cell, h[x]? = some c → c.vm.isStatics = false) : Sta Z h' C n d v := by
  obtain ⟨cf, i, k, f, st, cell, h1, h2, h3, h4, h5, h6, h7⟩ := F
  exact ⟨cf, i, k, f, st, cell, h1, h2, h3, h4, K.2.1 st cell h5 (fun w => by rw [q st w cell h5] at h6; cases h6), h6, h7⟩
theorem ow_lt {x y : Int32} (q : x.toInt < y.toInt) : x < y := Int32.lt_iff_toInt_lt.mpr q
theorem ow_nlt {x y : Int32} (q : ¬ x.toInt < y.toInt) : ¬ x < y := fun w => q (Int32.lt_iff_toInt_lt.mp w)
end Own

/-- the content of an int[] of at most four places -/
def IA (f : Nat → Int32) : List Value := (List.range 4).map fun i => Value.int (f i)
def upd (f : Nat → Int32) (i : Nat) (v : Int32) : Nat → Int32 := fun j => if j = i then v else f j
theorem upd_iff (f : Nat → Int32) (i : Nat) (v : Int32) (j : Nat) : (j = i → (upd f i v j).toInt = v.toInt) ∧ (¬ j = i → (upd f i v j).toInt = (f j).toInt) := by
  unfold upd
  by_cases q : j = i
  · simp [q]
  · simp [q]
theorem IA_len (f : Nat → Int32) : (IA f).length = 4 := by simp [IA]
theorem IA_get (f : Nat → Int32) (j : Nat) (hj : j < 4) (d : Value) : (IA f).getD j d = .int (f j) := by
  unfold IA
  rw [List.getD_eq_getElem?_getD, List.getElem?_map, List.getElem?_range hj]
  rfl
theorem IA_congr {f g : Nat → Int32} (h : ∀ j, j < 4 → f j = g j) : IA f = IA g := by
  unfold IA
  exact List.map_congr_left fun j hj => by rw [h j (List.mem_range.mp hj)]
theorem IA_set (f : Nat → Int32) (i : Nat) (v : Int32) (hi : i < 4) : (IA f).set i (.int v) = IA (upd f i v) := by
  have q : i = 0 ∨ i = 1 ∨ i = 2 ∨ i = 3 := by omega
  rcases q with rfl | rfl | rfl | rfl <;> rfl
theorem IA_step (f : Nat → Int32) (pv : Int32) (i : Int) (h0 : 0 ≤ i) (h4 : i < 4) : (IA (fun j => if (j : Int) < i then pv else f j)).set i.toNat (.int pv) = IA (fun j => if (j : Int) < i + 1 then pv else f j) := by
  rw [IA_set _ _ _ (by omega)]
  refine IA_congr fun j hj => ?_
  show (if j = i.toNat then pv else (if (j : Int) < i then pv else f j)) = (if (j : Int) < i + 1 then pv else f j)
  by_cases q1 : j = i.toNat
  · rw [if_pos q1, if_pos (by omega)]
  · rw [if_neg q1]
    by_cases q2 : (j : Int) < i
    · rw [if_pos q2, if_pos (by omega)]
    · rw [if_neg q2, if_neg (by omega)]
theorem IA_zero (i : Nat) : (IA fun _ => 0).getD i (.int 0) = ([] : List Value).getD i (.int 0) := by
  by_cases q : i < 4
  · rw [IA_get _ _ q]; simp
  · have w : (IA fun _ => 0).length ≤ i := by rw [IA_len]; omega
    simp [List.getD_eq_getElem?_getD, List.getElem?_eq_none w]

theorem d_afill_0 : decode jdk_65_method_103_code 0 = .ok (.iconst 0, 1) := by decide +kernel
theorem d_afill_1 : decode jdk_65_method_103_code 1 = .ok (.istore_n 2, 1) := by decide +kernel
theorem d_afill_2 : decode jdk_65_method_103_code 2 = .ok (.aload_n 0, 1) := by decide +kernel
theorem d_afill_3 : decode jdk_65_method_103_code 3 = .ok (.arraylength, 1) := by decide +kernel
theorem d_afill_4 : decode jdk_65_method_103_code 4 = .ok (.istore_n 3, 1) := by decide +kernel
theorem d_afill_5 : decode jdk_65_method_103_code 5 = .ok (.iload_n 2, 1) := by decide +kernel
theorem d_afill_6 : decode jdk_65_method_103_code 6 = .ok (.iload_n 3, 1) := by decide +kernel
theorem d_afill_7 : decode jdk_65_method_103_code 7 = .ok (.if_icmp .ge 13, 3) := by decide +kernel
theorem d_afill_10 : decode jdk_65_method_103_code 10 = .ok (.aload_n 0, 1) := by decide +kernel
theorem d_afill_11 : decode jdk_65_method_103_code 11 = .ok (.iload_n 2, 1) := by decide +kernel
theorem d_afill_12 : decode jdk_65_method_103_code 12 = .ok (.iload_n 1, 1) := by decide +kernel
theorem d_afill_13 : decode jdk_65_method_103_code 13 = .ok (.iastore, 1) := by decide +kernel
theorem d_afill_14 : decode jdk_65_method_103_code 14 = .ok (.iinc 2 1, 3) := by decide +kernel
theorem d_afill_17 : decode jdk_65_method_103_code 17 = .ok (.goto (-12), 3) := by decide +kernel
theorem d_afill_20 : decode jdk_65_method_103_code 20 = .ok (.return_, 1) := by decide +kernel
theorem ef_afill (m : MethodId) (x0 : Addr) (x1 : Int32) : entryFrame m #[(.ref x0), (.int x1)] 4 = mkF m 0 #[.val (.ref x0), .val (.int x1), .unset, .unset] [] := by first | (simp [entryFrame, mkF, argsToLocals, Value.category]; done) | rfl
def Q_afill (Z : State) (oa : Addr) (pv : Int32) (ka : ClassId) (pn : Int32) (f : Nat → Int32) (h0 : Heap) (n0 : Nat) (v : Option Value) (h : Heap) (L : List Loc) : Prop := (v = none) ∧ (Fr n0 L) ∧ (Keep h0 h [oa]) ∧ (Arv Z h oa ka (.int) pn (IA (fun j => if (j : Int) < pn.toInt then pv else f j)) (.int (0 : Int32)))
theorem pn_0 : plainName "java/util/Arrays" = true := by first | (simp [plainName, overriddenIn]; done) | decide +kernel
set_option maxRecDepth 65536 in
set_option maxHeartbeats 40000000 in
theorem rm_afill (l : Launch) (Z : State) (a0 : Array Value) (hw : ∀ d ∈ tables_1, d.before a0 Z = true) (ws : List Jvm.Cond) (oa : Addr) (pv : Int32) (ka : ClassId) (pn : Int32) (f : Nat → Int32) (h0 : Heap) (n0 : Nat) (Z0 : n0 ≤ h0.size) (V_a : Arv Z h0 oa ka (.int) pn (IA f) (.int (0 : Int32))) (g_oa : n0 ≤ oa) (hn0 : 0 ≤ pn.toInt) (hn4 : pn.toInt ≤ 4) :
    MetFree l (⟨"java/util/Arrays", "fill", "([II)V"⟩ : MethodName) (head1 (Jvm.Cond.code (⟨"java/util/Arrays", "fill", "([II)V"⟩ : MethodName) jdk_65_method_103_code 4 none :: ws) ({ frames := 0, cells := 0, slots := 0, locals := 0 } : Room)) (fun a_ U_ => a_ = #[(.ref oa), (.int pv)] ∧ Z.Warmed39 U_.vm ∧ U_.heap = h0) (fun _ _ _ _ _ => True) (fun _ U_ o_ U_' => ∃ v_ L_, o_ = .returned v_ ∧ (Q_afill Z oa pv ka pn f h0 n0) v_ U_'.heap L_ ∧ FrameEnd U_ o_ U_' L_ 0 0) := by
  refine ow_body (plainFor_of_name pn_0) ?_
  intro p e s m below meth c T0 X0 hx hZ hby hml hown hnm hret hlk e0
  have N0 := Fr.nil n0
  refine Ends.cast (ef_afill m oa pv) ?_
  have r_pv := rng32 pv
  refine ow_iconst X0 hx (z := (0 : Int32)) (hb hby d_afill_0) rfl (pc' := 1) rfl ?_
  refine ow_istoreN X0 hx (Ls' := #[.val (.ref oa), .val (.int pv), .val (.int (0 : Int32)), .unset]) (hb hby d_afill_1) rfl (pc' := 2) rfl ?_
  refine ow_aloadN X0 hx (hb hby d_afill_2) rfl rfl (pc' := 3) rfl ?_
  refine ow_len X0 hx hZ e0 V_a (hb hby d_afill_3) (pc' := 4) rfl ?_
  refine ow_istoreN X0 hx (Ls' := #[.val (.ref oa), .val (.int pv), .val (.int (0 : Int32)), .val (.int pn)]) (hb hby d_afill_4) rfl (pc' := 5) rfl ?_
  have V_start : Arv Z h0 oa ka .int pn (IA (fun j => if (j : Int) < (0 : Int) then pv else f j)) (.int (0 : Int32)) := by rw [show IA (fun j => if (j : Int) < (0 : Int) then pv else f j) = IA f from IA_congr fun j hj => if_neg (by omega)]; exact V_a
  have J5 : ∀ (n : Nat) (ii : Int32) (T1 : State) (hj5 : Heap) (lc5 : List Loc), Stand p l e ({ frames := 0, cells := 0, slots := 0, locals := 0 } : Room) s m #[(.ref oa), (.int pv)] below meth c T1 lc5 0 0 → T1.heap = hj5 → Fr n0 lc5 → (Arv Z hj5 oa ka (.int) pn (IA (fun j => if (j : Int) < ii.toInt then pv else f j)) (.int (0 : Int32))) → (Keep h0 hj5 [oa]) → (n0 ≤ hj5.size) → (0 ≤ ii.toInt ∧ ii.toInt ≤ pn.toInt) → (pn.toInt - ii.toInt) = (n : Int) → Ends p e below (Out s 0 0 (Q_afill Z oa pv ka pn f h0 n0)) T1 (mkF m 5 #[.val (.ref oa), .val (.int pv), .val (.int ii), .val (.int pn)] []) := by
    intro n
    induction n using Nat.strongRecOn with
    | _ n ih =>
      intro ii T1 hj5 lc5 X1 e1 Nj5 Hf5_0 HK5 HZ5 hi5 hm5
      have r_ii := rng32 ii
      refine ow_iloadN X1 hx (hb hby d_afill_5) rfl (pc' := 6) rfl ?_
      refine ow_iloadN X1 hx (hb hby d_afill_6) rfl (pc' := 7) rfl ?_
      refine ow_icmp_ge X1 hx (ii.toInt) (pn.toInt) (hb hby d_afill_7) rfl rfl (by decide) (pt := 20) (by decide) (pf := 10) rfl (fun c7 => ?_) (fun c7 => ?_)
      · have V_end : Arv Z hj5 oa ka .int pn (IA (fun j => if (j : Int) < pn.toInt then pv else f j)) (.int (0 : Int32)) := by rw [show pn.toInt = ii.toInt from by omega]; exact Hf5_0
        exact ow_retV X1 hx hret hlk (hb hby d_afill_20) (by decide) (by decide) (show Q_afill Z oa pv ka pn f h0 n0 _ T1.heap _ from by rw [e1]; exact ⟨rfl, Nj5, HK5, V_end⟩)
      · refine ow_aloadN X1 hx (hb hby d_afill_10) rfl rfl (pc' := 11) rfl ?_
        refine ow_iloadN X1 hx (hb hby d_afill_11) rfl (pc' := 12) rfl ?_
        refine ow_iloadN X1 hx (hb hby d_afill_12) rfl (pc' := 13) rfl ?_
        refine ow_stI X1 hx hZ e1 Hf5_0 (ii.toNatClampNeg) rfl (ow_nlt (y := (0 : Int32)) (show ¬ ii.toInt < 0 from by omega)) (ow_lt (show ii.toInt < pn.toInt from by omega)) (by rw [IA_len]; show ii.toInt.toNat < 4; omega) (hb hby d_afill_13) (pc' := 14) rfl (fun T2 h2 X2 e2 W2 V2 => ?_)
        have V_oa_2 : Arv Z h2 oa ka (.int) pn (IA (fun j => if (j : Int) < ii.toInt + 1 then pv else f j)) (.int (0 : Int32)) := by rw [← (show (IA (fun j => if (j : Int) < ii.toInt then pv else f j)).set ii.toNatClampNeg (.int pv) = IA (fun j => if (j : Int) < ii.toInt + 1 then pv else f j) from IA_step f pv ii.toInt (by omega) (by omega))]; exact V2
        have Zs2 : n0 ≤ h2.size := Nat.le_trans HZ5 (Keep.of_wr W2).1
        have K2 := HK5.wr W2 (Or.inl (List.mem_of_getElem? (i := 0) rfl))
        have N2 := Fr.snoc X2 Nj5 g_oa
        refine ow_iinc X2 hx (Ls' := #[.val (.ref oa), .val (.int pv), .val (.int ii), .val (.int pn)]) (hb hby d_afill_14) rfl (fun z => rfl) (pc' := 17) rfl (fun z3 hz3 => ?_)
        show Ends _ _ _ _ T2 (mkF m 17 #[.val (.ref oa), .val (.int pv), .val (.int z3), .val (.int pn)] [])
        have az3 : (z3.toInt - (ii.toInt + 1)) % 4294967296 = 0 := by rw [hz3]; exact c_iadd ii (1 : Int32)
        have rz3 := rng32 z3
        have V_t4 : Arv Z h2 oa ka .int pn (IA (fun j => if (j : Int) < z3.toInt then pv else f j)) (.int (0 : Int32)) := by rw [show z3.toInt = ii.toInt + 1 from by omega]; exact V_oa_2
        refine ow_goto X2 hx (hb hby d_afill_17) (by decide) (pc' := 5) (by decide) ?_
        exact ih (pn.toInt - z3.toInt).toNat (by omega) z3 T2 h2 _ X2 e2 N2 (show Arv Z h2 oa ka (.int) pn (IA (fun j => if (j : Int) < z3.toInt then pv else f j)) (.int (0 : Int32)) from V_t4) K2 Zs2 (show 0 ≤ z3.toInt ∧ z3.toInt ≤ pn.toInt from by omega) (show (pn.toInt - z3.toInt) = (((pn.toInt - z3.toInt).toNat : Nat) : Int) from by omega)
  exact J5 (pn.toInt - (0 : Int)).toNat (0 : Int32) T0 h0 _ X0 e0 N0 (show Arv Z h0 oa ka (.int) pn (IA (fun j => if (j : Int) < (0 : Int) then pv else f j)) (.int (0 : Int32)) from V_start) (Keep.refl h0 [oa]) Z0 (show 0 ≤ (0 : Int) ∧ (0 : Int) ≤ pn.toInt from by omega) (show (pn.toInt - (0 : Int)) = (((pn.toInt - (0 : Int)).toNat : Nat) : Int) from by omega)
theorem pd_0 : parseMethodDescriptor "([II)V" = some ⟨[(.array .int), .int], none⟩ := by decide +kernel
theorem d_shInit_0 : decode prog_57_method_1_code 0 = .ok (.aload_n 0, 1) := by decide +kernel
theorem d_shInit_1 : decode prog_57_method_1_code 1 = .ok (.invokespecial 3, 3) := by decide +kernel
theorem d_shInit_4 : decode prog_57_method_1_code 4 = .ok (.aload_n 0, 1) := by decide +kernel
theorem d_shInit_5 : decode prog_57_method_1_code 5 = .ok (.aload_n 1, 1) := by decide +kernel
theorem d_shInit_6 : decode prog_57_method_1_code 6 = .ok (.putfield 9, 3) := by decide +kernel
theorem d_shInit_9 : decode prog_57_method_1_code 9 = .ok (.aload_n 0, 1) := by decide +kernel
theorem d_shInit_10 : decode prog_57_method_1_code 10 = .ok (.iload_n 2, 1) := by decide +kernel
theorem d_shInit_11 : decode prog_57_method_1_code 11 = .ok (.newarray .int, 2) := by decide +kernel
theorem d_shInit_13 : decode prog_57_method_1_code 13 = .ok (.putfield 15, 3) := by decide +kernel
theorem d_shInit_16 : decode prog_57_method_1_code 16 = .ok (.aload_n 0, 1) := by decide +kernel
theorem d_shInit_17 : decode prog_57_method_1_code 17 = .ok (.getfield 15, 3) := by decide +kernel
theorem d_shInit_20 : decode prog_57_method_1_code 20 = .ok (.ldc 19, 2) := by decide +kernel
theorem d_shInit_22 : decode prog_57_method_1_code 22 = .ok (.invokestatic 20, 3) := by decide +kernel
theorem d_shInit_25 : decode prog_57_method_1_code 25 = .ok (.return_, 1) := by decide +kernel
theorem ef_shInit (m : MethodId) (x0 : Addr) (x1 : Addr) (x2 : Int32) : entryFrame m #[(.ref x0), (.ref x1), (.int x2)] 3 = mkF m 0 #[.val (.ref x0), .val (.ref x1), .val (.int x2)] [] := by first | (simp [entryFrame, mkF, argsToLocals, Value.category]; done) | rfl
def Q_shInit (Z : State) (o : Addr) (os : Addr) (pn : Int32) (h0 : Heap) (n0 : Nat) (v : Option Value) (h : Heap) (L : List Loc) : Prop := ∃ (oar : Addr), ∃ (ka : ClassId), (v = none) ∧ (Fr n0 L) ∧ (Keep h0 h [o]) ∧ (Exa Z h o "com/example/cubilete/cubilete/rules/Sheet") ∧ (Fld Z h o "com/example/cubilete/cubilete/rules/Sheet" "points" "[I" (.ref oar)) ∧ (Fld Z h o "com/example/cubilete/cubilete/rules/Sheet" "filled" "I" (.int (0 : Int32))) ∧ (Fld Z h o "com/example/cubilete/cubilete/rules/Sheet" "total" "I" (.int (0 : Int32))) ∧ (Arv Z h oar ka (.int) pn (IA (fun j => if (j : Int) < pn.toInt then (-2147483648 : Int32) else (fun _ => 0) j)) (.int (0 : Int32))) ∧ (n0 ≤ oar) ∧ (h0.size ≤ oar) ∧ (o ≠ oar)
theorem pn_1 : plainName "com/example/cubilete/cubilete/rules/Sheet" = true := by first | (simp [plainName, overriddenIn]; done) | decide +kernel
set_option maxRecDepth 65536 in
set_option maxHeartbeats 40000000 in
theorem rm_shInit (l : Launch) (Z : State) (a0 : Array Value) (hw : ∀ d ∈ tables_1, d.before a0 Z = true) (ws : List Jvm.Cond) (o : Addr) (os : Addr) (pn : Int32) (h0 : Heap) (n0 : Nat) (Z0 : n0 ≤ h0.size) (E_o : Exa Z h0 o "com/example/cubilete/cubilete/rules/Sheet") (F_player : Fld Z h0 o "com/example/cubilete/cubilete/rules/Sheet" "player" "Ljava/lang/String;" .null) (F_points : Fld Z h0 o "com/example/cubilete/cubilete/rules/Sheet" "points" "[I" .null) (F_filled : Fld Z h0 o "com/example/cubilete/cubilete/rules/Sheet" "filled" "I" (.int (0 : Int32))) (F_total : Fld Z h0 o "com/example/cubilete/cubilete/rules/Sheet" "total" "I" (.int (0 : Int32))) (g_o : n0 ≤ o) (hn0 : 0 ≤ pn.toInt) (hn4 : pn.toInt ≤ 4) :
    MetFree l (⟨"com/example/cubilete/cubilete/rules/Sheet", "<init>", "(Ljava/lang/String;I)V"⟩ : MethodName) (head1 (Jvm.Cond.code (⟨"com/example/cubilete/cubilete/rules/Sheet", "<init>", "(Ljava/lang/String;I)V"⟩ : MethodName) prog_57_method_1_code 3 none :: ws) ({ frames := 1, cells := 1, slots := 4, locals := 15 } : Room)) (fun a_ U_ => a_ = #[(.ref o), (.ref os), (.int pn)] ∧ Z.Warmed39 U_.vm ∧ U_.heap = h0) (fun _ _ _ _ _ => True) (fun _ U_ o_ U_' => ∃ v_ L_, o_ = .returned v_ ∧ (Q_shInit Z o os pn h0 n0) v_ U_'.heap L_ ∧ FrameEnd U_ o_ U_' L_ 1 4) := by
  refine ow_body (plainFor_of_name pn_1) ?_
  intro p e s m below meth c T0 X0 hx hZ hby hml hown hnm hret hlk e0
  have N0 := Fr.nil n0
  refine Ends.cast (ef_shInit m o os pn) ?_
  have r_pn := rng32 pn
  refine ow_aloadN X0 hx (hb hby d_shInit_0) rfl rfl (pc' := 1) rfl ?_
  refine ow_init0 X0 hx hZ hown (hw _ (List.mem_of_getElem? (i := 16) rfl)) (hw _ (List.mem_of_getElem? (i := 17) rfl)) (hw _ (List.mem_of_getElem? (i := 18) rfl)) e0 0 (by decide) (by decide) (by rw [hml]; rfl) (Nat.le_of_eq rfl) (hb hby d_shInit_1) (pc' := 4) rfl (fun T1 X1 e1 => ?_)
  refine ow_aloadN X1 hx (hb hby d_shInit_4) rfl rfl (pc' := 5) rfl ?_
  refine ow_aloadN X1 hx (hb hby d_shInit_5) rfl rfl (pc' := 6) rfl ?_
  refine ow_putF X1 hx hZ hown (host := "") (Or.inl (hw _ (List.mem_of_getElem? (i := 19) rfl))) Via.refl e1 F_player E_o (Or.inr ⟨(hw _ (List.mem_of_getElem? (i := 20) rfl)), rfl, hnm⟩) (hw _ (List.mem_of_getElem? (i := 3) rfl)) (ty := (.object "java/lang/String")) (by decide) rfl rfl (hb hby d_shInit_6) (pc' := 9) rfl (fun T2 h2 X2 e2 W2 => ?_)
  have F_o_player_2 := F_player.same W2
  have E_o_2 := E_o.wr W2
  have F_o_points_2 := F_points.other W2 (Or.inr (slot_ne (Or.inr (hw _ (List.mem_of_getElem? (i := 23) rfl))) (Or.inr (hw _ (List.mem_of_getElem? (i := 20) rfl))) (by decide) (t := (.array .int)) (t' := (.object "java/lang/String")) (by decide) (by decide)))
  have F_o_filled_2 := F_filled.other W2 (Or.inr (slot_ne (Or.inl (hw _ (List.mem_of_getElem? (i := 43) rfl))) (Or.inr (hw _ (List.mem_of_getElem? (i := 20) rfl))) (by decide) (t := .int) (t' := (.object "java/lang/String")) (by decide) (by decide)))
  have F_o_total_2 := F_total.other W2 (Or.inr (slot_ne (Or.inl (hw _ (List.mem_of_getElem? (i := 45) rfl))) (Or.inr (hw _ (List.mem_of_getElem? (i := 20) rfl))) (by decide) (t := .int) (t' := (.object "java/lang/String")) (by decide) (by decide)))
  have Zs2 : n0 ≤ h2.size := Nat.le_trans Z0 (Keep.of_wr W2).1
  have K2 := (Keep.refl h0 [o]).wr W2 (Or.inl (List.mem_of_getElem? (i := 0) rfl))
  have N2 := Fr.snoc X2 N0 g_o
  refine ow_aloadN X2 hx (hb hby d_shInit_9) rfl rfl (pc' := 10) rfl ?_
  refine ow_iloadN X2 hx (hb hby d_shInit_10) rfl (pc' := 11) rfl ?_
  refine ow_newP X2 hx hZ (hw _ (List.mem_of_getElem? (i := 21) rfl)) e2 (hb hby d_shInit_11) (ow_nlt (y := (0 : Int32)) (show ¬ pn.toInt < 0 from by omega)) 4 (show pn.toInt.toNat ≤ 4 from by omega) (by decide) (by decide) (by decide) (pc' := 13) rfl (fun T3 h3 b3 k3 g3 X3 e3 E3 V3 => ?_)
  have ne_o_b3 : o ≠ b3 := Nat.ne_of_lt (Nat.lt_of_lt_of_le E_o_2.lt (Nat.le_of_eq g3.symm))
  have g_b3 : n0 ≤ b3 := Nat.le_trans Zs2 (Nat.le_of_eq g3.symm)
  have sz_b3 : h0.size ≤ b3 := Nat.le_trans K2.1 (Nat.le_of_eq g3.symm)
  have E_o_3 := E_o_2.ext E3
  have F_o_points_3 := F_o_points_2.ext E3
  have F_o_filled_3 := F_o_filled_2.ext E3
  have F_o_total_3 := F_o_total_2.ext E3
  have F_o_player_3 := F_o_player_2.ext E3
  have Zs3 : n0 ≤ h3.size := Nat.le_trans Zs2 E3.1
  have K3 := K2.ext E3
  have V_b3 : Arv Z h3 b3 k3 .int pn (IA (fun _ => 0)) (.int (0 : Int32)) := V3.pad IA_zero
  refine ow_putF X3 hx hZ hown (host := "") (Or.inl (hw _ (List.mem_of_getElem? (i := 22) rfl))) Via.refl e3 F_o_points_3 E_o_3 (Or.inr ⟨(hw _ (List.mem_of_getElem? (i := 23) rfl)), rfl, hnm⟩) (hw _ (List.mem_of_getElem? (i := 3) rfl)) (ty := (.array .int)) (by decide) rfl rfl (hb hby d_shInit_13) (pc' := 16) rfl (fun T4 h4 X4 e4 W4 => ?_)
  have F_o_points_4 := F_o_points_3.same W4
  have E_o_4 := E_o_3.wr W4
  have F_o_filled_4 := F_o_filled_3.other W4 (Or.inr (slot_ne (Or.inl (hw _ (List.mem_of_getElem? (i := 43) rfl))) (Or.inr (hw _ (List.mem_of_getElem? (i := 23) rfl))) (by decide) (t := .int) (t' := (.array .int)) (by decide) (by decide)))
  have F_o_total_4 := F_o_total_3.other W4 (Or.inr (slot_ne (Or.inl (hw _ (List.mem_of_getElem? (i := 45) rfl))) (Or.inr (hw _ (List.mem_of_getElem? (i := 23) rfl))) (by decide) (t := .int) (t' := (.array .int)) (by decide) (by decide)))
  have F_o_player_4 := F_o_player_3.other W4 (Or.inr (slot_ne (Or.inr (hw _ (List.mem_of_getElem? (i := 20) rfl))) (Or.inr (hw _ (List.mem_of_getElem? (i := 23) rfl))) (by decide) (t := (.object "java/lang/String")) (t' := (.array .int)) (by decide) (by decide)))
  have V_b3_4 := V_b3.other W4 (Ne.symm ne_o_b3)
  have Zs4 : n0 ≤ h4.size := Nat.le_trans Zs3 (Keep.of_wr W4).1
  have K4 := K3.wr W4 (Or.inl (List.mem_of_getElem? (i := 0) rfl))
  have N4 := Fr.snoc X4 N2 g_o
  refine ow_aloadN X4 hx (hb hby d_shInit_16) rfl rfl (pc' := 17) rfl ?_
  refine ow_getF X4 hx hZ hown (host := "") (Or.inl (hw _ (List.mem_of_getElem? (i := 22) rfl))) Via.refl e4 F_o_points_4 (hb hby d_shInit_17) (pc' := 20) rfl (fun T5 X5 e5 => ?_)
  refine ow_ldcInt X5 hx hZ hown (hw _ (List.mem_of_getElem? (i := 24) rfl)) (hb hby d_shInit_20) (pc' := 22) rfl ?_
  refine ow_callS X5 hx hZ hown (hw _ (List.mem_of_getElem? (i := 25) rfl)) (hw _ (List.mem_of_getElem? (i := 26) rfl)) (hw _ (List.mem_of_getElem? (i := 27) rfl)) (hw _ (List.mem_of_getElem? (i := 28) rfl)) (by decide) (rm_afill l Z a0 hw [] b3 (-2147483648 : Int32) k3 pn (fun _ => 0) h4 n0 Zs4 V_b3_4 g_b3 (by first | decide | omega) (by first | decide | omega)) e5 0 (by decide) (by decide) (by decide) (by decide) [(.ref b3), (.int (-2147483648 : Int32))] (by rw [hml]; rfl) pd_0 rfl rfl rfl (Nat.le_of_eq rfl) (hb hby d_shInit_22) (pc' := 25) rfl (fun v6 T6 L6 hQ6 X6 => ?_)
  obtain ⟨rfl, Nc6, Kc6, P6_0⟩ := hQ6
  have E_o_6 := E_o_4.keep Kc6
  have F_o_filled_6 := F_o_filled_4.keep Kc6 (ninS ne_o_b3 nin0)
  have F_o_total_6 := F_o_total_4.keep Kc6 (ninS ne_o_b3 nin0)
  have F_o_player_6 := F_o_player_4.keep Kc6 (ninS ne_o_b3 nin0)
  have F_o_points_6 := F_o_points_4.keep Kc6 (ninS ne_o_b3 nin0)
  have Zs6 : n0 ≤ T6.heap.size := Nat.le_trans Zs4 Kc6.1
  have K6 := K4.trans Kc6 (allS (Or.inr sz_b3) all0)
  have N6 := Fr.app N4 Nc6
  show Ends _ _ _ _ T6 (mkF m 25 #[.val (.ref o), .val (.ref os), .val (.int pn)] [])
  exact ow_retV X6 hx hret hlk (hb hby d_shInit_25) (by decide) (by decide) (show Q_shInit Z o os pn h0 n0 _ T6.heap _ from ⟨b3, k3, rfl, N6, K6, E_o_6, F_o_points_6, F_o_filled_6, F_o_total_6, P6_0, g_b3, sz_b3, ne_o_b3⟩)
theorem d_pchk_0 : decode jdk_41_method_11_code 0 = .ok (.iload_n 0, 1) := by decide +kernel
theorem d_pchk_1 : decode jdk_41_method_11_code 1 = .ok (.ifCond .lt 8, 3) := by decide +kernel
theorem d_pchk_4 : decode jdk_41_method_11_code 4 = .ok (.iload_n 0, 1) := by decide +kernel
theorem d_pchk_5 : decode jdk_41_method_11_code 5 = .ok (.iload_n 1, 1) := by decide +kernel
theorem d_pchk_6 : decode jdk_41_method_11_code 6 = .ok (.if_icmp .lt 10, 3) := by decide +kernel
theorem d_pchk_16 : decode jdk_41_method_11_code 16 = .ok (.iload_n 0, 1) := by decide +kernel
theorem d_pchk_17 : decode jdk_41_method_11_code 17 = .ok (.ireturn, 1) := by decide +kernel
theorem ef_pchk (m : MethodId) (x0 : Int32) (x1 : Int32) : entryFrame m #[(.int x0), (.int x1), .null] 3 = mkF m 0 #[.val (.int x0), .val (.int x1), .val .null] [] := by first | (simp [entryFrame, mkF, argsToLocals, Value.category]; done) | rfl
theorem pn_2 : plainName "jdk/internal/util/Preconditions" = true := by first | (simp [plainName, overriddenIn]; done) | decide +kernel
set_option maxRecDepth 65536 in
set_option maxHeartbeats 40000000 in
theorem rm_pchk (l : Launch) (Z : State) (a0 : Array Value) (hw : ∀ d ∈ tables_1, d.before a0 Z = true) (ws : List Jvm.Cond) (pi : Int32) (pn : Int32) (h0 : Heap) (hi0 : 0 ≤ pi.toInt) (hi1 : pi.toInt < pn.toInt) :
    MetFree l (⟨"jdk/internal/util/Preconditions", "checkIndex", "(IILjava/util/function/BiFunction;)I"⟩ : MethodName) (head1 (Jvm.Cond.code (⟨"jdk/internal/util/Preconditions", "checkIndex", "(IILjava/util/function/BiFunction;)I"⟩ : MethodName) jdk_41_method_11_code 3 (some .int) :: ws) ({ frames := 0, cells := 0, slots := 0, locals := 0 } : Room)) (fun a_ U_ => a_ = #[(.int pi), (.int pn), .null] ∧ Z.Warmed39 U_.vm ∧ U_.heap = h0) (fun _ _ _ _ _ => True) (fun _ U_ o_ U_' => ∃ v_ L_, o_ = .returned v_ ∧ (QI (fun z => z.toInt = pi.toInt) h0) v_ U_'.heap L_ ∧ FrameEnd U_ o_ U_' L_ 0 0) := by
  refine ow_body (plainFor_of_name pn_2) ?_
  intro p e s m below meth c T0 X0 hx hZ hby hml hown hnm hret hlk e0
  refine Ends.cast (ef_pchk m pi pn) ?_
  have r_pi := rng32 pi
  have r_pn := rng32 pn
  refine ow_iloadN X0 hx (hb hby d_pchk_0) rfl (pc' := 1) rfl ?_
  refine ow_if_lt X0 hx (pi.toInt) (hb hby d_pchk_1) rfl (by decide) (pt := 9) (by decide) (pf := 4) rfl (fun c1 => absurd c1 (by omega)) (fun c1 => ?_)
  refine ow_iloadN X0 hx (hb hby d_pchk_4) rfl (pc' := 5) rfl ?_
  refine ow_iloadN X0 hx (hb hby d_pchk_5) rfl (pc' := 6) rfl ?_
  refine ow_icmp_lt X0 hx (pi.toInt) (pn.toInt) (hb hby d_pchk_6) rfl rfl (by decide) (pt := 16) (by decide) (pf := 9) rfl (fun c6 => ?_) (fun c6 => absurd c6 (by omega))
  refine ow_iloadN X0 hx (hb hby d_pchk_16) rfl (pc' := 17) rfl ?_
  exact ow_retI X0 hx hret hlk (hb hby d_pchk_17) (by decide) (by decide) ⟨pi, rfl, (show pi.toInt = pi.toInt from by omega), rfl, e0⟩
theorem pd_1 : parseMethodDescriptor "(IILjava/util/function/BiFunction;)I" = some ⟨[.int, .int, (.object "java/util/function/BiFunction")], some .int⟩ := by decide +kernel
theorem d_ochk_0 : decode jdk_31_method_17_code 0 = .ok (.iload_n 0, 1) := by decide +kernel
theorem d_ochk_1 : decode jdk_31_method_17_code 1 = .ok (.iload_n 1, 1) := by decide +kernel
theorem d_ochk_2 : decode jdk_31_method_17_code 2 = .ok (.aconst_null, 1) := by decide +kernel
theorem d_ochk_3 : decode jdk_31_method_17_code 3 = .ok (.invokestatic 105, 3) := by decide +kernel
theorem d_ochk_6 : decode jdk_31_method_17_code 6 = .ok (.ireturn, 1) := by decide +kernel
theorem ef_ochk (m : MethodId) (x0 : Int32) (x1 : Int32) : entryFrame m #[(.int x0), (.int x1)] 2 = mkF m 0 #[.val (.int x0), .val (.int x1)] [] := by first | (simp [entryFrame, mkF, argsToLocals, Value.category]; done) | rfl
theorem pn_3 : plainName "java/util/Objects" = true := by first | (simp [plainName, overriddenIn]; done) | decide +kernel
set_option maxRecDepth 65536 in
set_option maxHeartbeats 40000000 in
theorem rm_ochk (l : Launch) (Z : State) (a0 : Array Value) (hw : ∀ d ∈ tables_1, d.before a0 Z = true) (ws : List Jvm.Cond) (pi : Int32) (pn : Int32) (h0 : Heap) (hi0 : 0 ≤ pi.toInt) (hi1 : pi.toInt < pn.toInt) :
    MetFree l (⟨"java/util/Objects", "checkIndex", "(II)I"⟩ : MethodName) (head1 (Jvm.Cond.code (⟨"java/util/Objects", "checkIndex", "(II)I"⟩ : MethodName) jdk_31_method_17_code 2 (some .int) :: ws) ({ frames := 1, cells := 0, slots := 0, locals := 14 } : Room)) (fun a_ U_ => a_ = #[(.int pi), (.int pn)] ∧ Z.Warmed39 U_.vm ∧ U_.heap = h0) (fun _ _ _ _ _ => True) (fun _ U_ o_ U_' => ∃ v_ L_, o_ = .returned v_ ∧ (QI (fun z => z.toInt = pi.toInt) h0) v_ U_'.heap L_ ∧ FrameEnd U_ o_ U_' L_ 0 0) := by
  refine ow_body (plainFor_of_name pn_3) ?_
  intro p e s m below meth c T0 X0 hx hZ hby hml hown hnm hret hlk e0
  refine Ends.cast (ef_ochk m pi pn) ?_
  have r_pi := rng32 pi
  have r_pn := rng32 pn
  refine ow_iloadN X0 hx (hb hby d_ochk_0) rfl (pc' := 1) rfl ?_
  refine ow_iloadN X0 hx (hb hby d_ochk_1) rfl (pc' := 2) rfl ?_
  refine ow_aconstNull X0 hx (hb hby d_ochk_2) (pc' := 3) rfl ?_
  refine ow_callPI X0 hx hZ hown (hw _ (List.mem_of_getElem? (i := 38) rfl)) (hw _ (List.mem_of_getElem? (i := 39) rfl)) (hw _ (List.mem_of_getElem? (i := 40) rfl)) (hw _ (List.mem_of_getElem? (i := 41) rfl)) (by decide) (rm_pchk l Z a0 hw [] pi pn h0 (by first | decide | omega) (by first | decide | omega)) e0 0 (by decide) (by decide) (by decide) (by decide) [(.int pi), (.int pn), .null] (by rw [hml]; rfl) pd_1 rfl rfl rfl (Nat.le_of_eq rfl) (hb hby d_ochk_3) (pc' := 6) rfl (fun z1 T1 hz1 X1 e1 => ?_)
  have az1 : z1.toInt = pi.toInt := hz1
  have rz1 := rng32 z1
  exact ow_retI X1 hx hret hlk (hb hby d_ochk_6) (by decide) (by decide) ⟨z1, rfl, (show z1.toInt = pi.toInt from by omega), rfl, e1⟩
theorem pd_2 : parseMethodDescriptor "(II)I" = some ⟨[.int, .int], some .int⟩ := by decide +kernel
theorem d_shFill_0 : decode prog_57_method_8_code 0 = .ok (.aload_n 0, 1) := by decide +kernel
theorem d_shFill_1 : decode prog_57_method_8_code 1 = .ok (.getfield 15, 3) := by decide +kernel
theorem d_shFill_4 : decode prog_57_method_8_code 4 = .ok (.iload_n 1, 1) := by decide +kernel
theorem d_shFill_5 : decode prog_57_method_8_code 5 = .ok (.aload_n 0, 1) := by decide +kernel
theorem d_shFill_6 : decode prog_57_method_8_code 6 = .ok (.getfield 15, 3) := by decide +kernel
theorem d_shFill_9 : decode prog_57_method_8_code 9 = .ok (.arraylength, 1) := by decide +kernel
theorem d_shFill_10 : decode prog_57_method_8_code 10 = .ok (.invokestatic 26, 3) := by decide +kernel
theorem d_shFill_13 : decode prog_57_method_8_code 13 = .ok (.iload_n 2, 1) := by decide +kernel
theorem d_shFill_14 : decode prog_57_method_8_code 14 = .ok (.iastore, 1) := by decide +kernel
theorem d_shFill_15 : decode prog_57_method_8_code 15 = .ok (.aload_n 0, 1) := by decide +kernel
theorem d_shFill_16 : decode prog_57_method_8_code 16 = .ok (.dup, 1) := by decide +kernel
theorem d_shFill_17 : decode prog_57_method_8_code 17 = .ok (.getfield 42, 3) := by decide +kernel
theorem d_shFill_20 : decode prog_57_method_8_code 20 = .ok (.iconst 1, 1) := by decide +kernel
theorem d_shFill_21 : decode prog_57_method_8_code 21 = .ok (.iadd, 1) := by decide +kernel
theorem d_shFill_22 : decode prog_57_method_8_code 22 = .ok (.putfield 42, 3) := by decide +kernel
theorem d_shFill_25 : decode prog_57_method_8_code 25 = .ok (.aload_n 0, 1) := by decide +kernel
theorem d_shFill_26 : decode prog_57_method_8_code 26 = .ok (.dup, 1) := by decide +kernel
theorem d_shFill_27 : decode prog_57_method_8_code 27 = .ok (.getfield 46, 3) := by decide +kernel
theorem d_shFill_30 : decode prog_57_method_8_code 30 = .ok (.iload_n 2, 1) := by decide +kernel
theorem d_shFill_31 : decode prog_57_method_8_code 31 = .ok (.iadd, 1) := by decide +kernel
theorem d_shFill_32 : decode prog_57_method_8_code 32 = .ok (.putfield 46, 3) := by decide +kernel
theorem d_shFill_35 : decode prog_57_method_8_code 35 = .ok (.return_, 1) := by decide +kernel
theorem ef_shFill (m : MethodId) (x0 : Addr) (x1 : Int32) (x2 : Int32) : entryFrame m #[(.ref x0), (.int x1), (.int x2)] 3 = mkF m 0 #[.val (.ref x0), .val (.int x1), .val (.int x2)] [] := by first | (simp [entryFrame, mkF, argsToLocals, Value.category]; done) | rfl
def Q_shFill (Z : State) (o : Addr) (pi : Int32) (pv : Int32) (oar : Addr) (ka : ClassId) (pn : Int32) (f : Nat → Int32) (pfl : Int32) (ptl : Int32) (h0 : Heap) (n0 : Nat) (v : Option Value) (h : Heap) (L : List Loc) : Prop := ∃ (zf : Int32), ∃ (zt : Int32), (v = none) ∧ (Fr n0 L) ∧ (Keep h0 h [o, oar]) ∧ (Exa Z h o "com/example/cubilete/cubilete/rules/Sheet") ∧ (Fld Z h o "com/example/cubilete/cubilete/rules/Sheet" "points" "[I" (.ref oar)) ∧ (Fld Z h o "com/example/cubilete/cubilete/rules/Sheet" "filled" "I" (.int zf)) ∧ (Fld Z h o "com/example/cubilete/cubilete/rules/Sheet" "total" "I" (.int zt)) ∧ (Arv Z h oar ka (.int) pn (IA (upd f pi.toInt.toNat pv)) (.int (0 : Int32))) ∧ (zf.toInt = pfl.toInt + 1 ∧ zt.toInt = ptl.toInt + pv.toInt)
set_option maxRecDepth 65536 in
set_option maxHeartbeats 40000000 in
theorem rm_shFill (l : Launch) (Z : State) (a0 : Array Value) (hw : ∀ d ∈ tables_1, d.before a0 Z = true) (ws : List Jvm.Cond) (o : Addr) (pi : Int32) (pv : Int32) (oar : Addr) (ka : ClassId) (pn : Int32) (f : Nat → Int32) (pfl : Int32) (ptl : Int32) (h0 : Heap) (n0 : Nat) (Z0 : n0 ≤ h0.size) (E_o : Exa Z h0 o "com/example/cubilete/cubilete/rules/Sheet") (F_points : Fld Z h0 o "com/example/cubilete/cubilete/rules/Sheet" "points" "[I" (.ref oar)) (F_filled : Fld Z h0 o "com/example/cubilete/cubilete/rules/Sheet" "filled" "I" (.int pfl)) (F_total : Fld Z h0 o "com/example/cubilete/cubilete/rules/Sheet" "total" "I" (.int ptl)) (V_a : Arv Z h0 oar ka (.int) pn (IA f) (.int (0 : Int32))) (g_o : n0 ≤ o) (g_oar : n0 ≤ oar) (ne_o_oar : o ≠ oar) (hi0 : 0 ≤ pi.toInt) (hi1 : pi.toInt < pn.toInt) (hn4 : pn.toInt ≤ 4) (hf0 : 0 ≤ pfl.toInt) (hf9 : pfl.toInt ≤ 9) (ht0 : 0 ≤ ptl.toInt) (ht1 : ptl.toInt ≤ 1073741823) (hv0 : 0 ≤ pv.toInt) (hv1 : pv.toInt ≤ 1073741823) :
    MetFree l (⟨"com/example/cubilete/cubilete/rules/Sheet", "fill", "(II)V"⟩ : MethodName) (head1 (Jvm.Cond.code (⟨"com/example/cubilete/cubilete/rules/Sheet", "fill", "(II)V"⟩ : MethodName) prog_57_method_8_code 3 none :: ws) ({ frames := 2, cells := 0, slots := 0, locals := 28 } : Room)) (fun a_ U_ => a_ = #[(.ref o), (.int pi), (.int pv)] ∧ Z.Warmed39 U_.vm ∧ U_.heap = h0) (fun _ _ _ _ _ => True) (fun _ U_ o_ U_' => ∃ v_ L_, o_ = .returned v_ ∧ (Q_shFill Z o pi pv oar ka pn f pfl ptl h0 n0) v_ U_'.heap L_ ∧ FrameEnd U_ o_ U_' L_ 0 0) := by
  refine ow_body (plainFor_of_name pn_1) ?_
  intro p e s m below meth c T0 X0 hx hZ hby hml hown hnm hret hlk e0
  have N0 := Fr.nil n0
  refine Ends.cast (ef_shFill m o pi pv) ?_
  have r_pi := rng32 pi
  have r_pv := rng32 pv
  refine ow_aloadN X0 hx (hb hby d_shFill_0) rfl rfl (pc' := 1) rfl ?_
  refine ow_getF X0 hx hZ hown (host := "") (Or.inl (hw _ (List.mem_of_getElem? (i := 22) rfl))) Via.refl e0 F_points (hb hby d_shFill_1) (pc' := 4) rfl (fun T1 X1 e1 => ?_)
  refine ow_iloadN X1 hx (hb hby d_shFill_4) rfl (pc' := 5) rfl ?_
  refine ow_aloadN X1 hx (hb hby d_shFill_5) rfl rfl (pc' := 6) rfl ?_
  refine ow_getF X1 hx hZ hown (host := "") (Or.inl (hw _ (List.mem_of_getElem? (i := 22) rfl))) Via.refl e1 F_points (hb hby d_shFill_6) (pc' := 9) rfl (fun T2 X2 e2 => ?_)
  refine ow_len X2 hx hZ e2 V_a (hb hby d_shFill_9) (pc' := 10) rfl ?_
  refine ow_callPI X2 hx hZ hown (hw _ (List.mem_of_getElem? (i := 34) rfl)) (hw _ (List.mem_of_getElem? (i := 35) rfl)) (hw _ (List.mem_of_getElem? (i := 36) rfl)) (hw _ (List.mem_of_getElem? (i := 37) rfl)) (by decide) (rm_ochk l Z a0 hw [] pi pn h0 (by first | decide | omega) (by first | decide | omega)) e2 1 (by decide) (by decide) (by decide) (by decide) [(.int pi), (.int pn)] (by rw [hml]; rfl) pd_2 rfl rfl rfl (Nat.le_of_eq rfl) (hb hby d_shFill_10) (pc' := 13) rfl (fun z3 T3 hz3 X3 e3 => ?_)
  have az3 : z3.toInt = pi.toInt := hz3
  have rz3 := rng32 z3
  refine ow_iloadN X3 hx (hb hby d_shFill_13) rfl (pc' := 14) rfl ?_
  refine ow_stI X3 hx hZ e3 V_a (z3.toNatClampNeg) rfl (ow_nlt (y := (0 : Int32)) (show ¬ z3.toInt < 0 from by omega)) (ow_lt (show z3.toInt < pn.toInt from by omega)) (by rw [IA_len]; show z3.toInt.toNat < 4; omega) (hb hby d_shFill_14) (pc' := 15) rfl (fun T4 h4 X4 e4 W4 V4 => ?_)
  have V_oar_4 : Arv Z h4 oar ka (.int) pn (IA (upd f pi.toInt.toNat pv)) (.int (0 : Int32)) := by rw [← (show (IA f).set z3.toNatClampNeg (.int pv) = IA (upd f pi.toInt.toNat pv) from by rw [show z3.toNatClampNeg = pi.toInt.toNat from by (show z3.toInt.toNat = _; omega)]; exact IA_set _ _ _ (by omega))]; exact V4
  have E_o_4 := E_o.wr W4
  have F_o_points_4 := F_points.other W4 (Or.inl ne_o_oar)
  have F_o_filled_4 := F_filled.other W4 (Or.inl ne_o_oar)
  have F_o_total_4 := F_total.other W4 (Or.inl ne_o_oar)
  have Zs4 : n0 ≤ h4.size := Nat.le_trans Z0 (Keep.of_wr W4).1
  have K4 := (Keep.refl h0 [o, oar]).wr W4 (Or.inl (List.mem_of_getElem? (i := 1) rfl))
  have N4 := Fr.snoc X4 N0 g_oar
  refine ow_aloadN X4 hx (hb hby d_shFill_15) rfl rfl (pc' := 16) rfl ?_
  refine ow_dup X4 hx (hb hby d_shFill_16) rfl (pc' := 17) rfl ?_
  refine ow_getF X4 hx hZ hown (host := "") (Or.inl (hw _ (List.mem_of_getElem? (i := 42) rfl))) Via.refl e4 F_o_filled_4 (hb hby d_shFill_17) (pc' := 20) rfl (fun T5 X5 e5 => ?_)
  refine ow_iconst X5 hx (z := (1 : Int32)) (hb hby d_shFill_20) rfl (pc' := 21) rfl ?_
  refine ow_iadd X5 hx (hb hby d_shFill_21) (pc' := 22) rfl (fun z6 hz6 => ?_)
  have az6 : (z6.toInt - (pfl.toInt + (1 : Int))) % 4294967296 = 0 := by rw [hz6]; exact c_iadd pfl (1 : Int32)
  have rz6 := rng32 z6
  refine ow_putF X5 hx hZ hown (host := "") (Or.inl (hw _ (List.mem_of_getElem? (i := 42) rfl))) Via.refl e5 F_o_filled_4 E_o_4 (Or.inl (hw _ (List.mem_of_getElem? (i := 43) rfl))) (hw _ (List.mem_of_getElem? (i := 3) rfl)) (ty := .int) (by decide) rfl rfl (hb hby d_shFill_22) (pc' := 25) rfl (fun T7 h7 X7 e7 W7 => ?_)
  have F_o_filled_7 := F_o_filled_4.same W7
  have E_o_7 := E_o_4.wr W7
  have F_o_points_7 := F_o_points_4.other W7 (Or.inr (slot_ne (Or.inr (hw _ (List.mem_of_getElem? (i := 23) rfl))) (Or.inl (hw _ (List.mem_of_getElem? (i := 43) rfl))) (by decide) (t := (.array .int)) (t' := .int) (by decide) (by decide)))
  have F_o_total_7 := F_o_total_4.other W7 (Or.inr (slot_ne (Or.inl (hw _ (List.mem_of_getElem? (i := 45) rfl))) (Or.inl (hw _ (List.mem_of_getElem? (i := 43) rfl))) (by decide) (t := .int) (t' := .int) (by decide) (by decide)))
  have V_oar_7 := V_oar_4.other W7 (Ne.symm ne_o_oar)
  have Zs7 : n0 ≤ h7.size := Nat.le_trans Zs4 (Keep.of_wr W7).1
  have K7 := K4.wr W7 (Or.inl (List.mem_of_getElem? (i := 0) rfl))
  have N7 := Fr.snoc X7 N4 g_o
  refine ow_aloadN X7 hx (hb hby d_shFill_25) rfl rfl (pc' := 26) rfl ?_
  refine ow_dup X7 hx (hb hby d_shFill_26) rfl (pc' := 27) rfl ?_
  refine ow_getF X7 hx hZ hown (host := "") (Or.inl (hw _ (List.mem_of_getElem? (i := 44) rfl))) Via.refl e7 F_o_total_7 (hb hby d_shFill_27) (pc' := 30) rfl (fun T8 X8 e8 => ?_)
  refine ow_iloadN X8 hx (hb hby d_shFill_30) rfl (pc' := 31) rfl ?_
  refine ow_iadd X8 hx (hb hby d_shFill_31) (pc' := 32) rfl (fun z9 hz9 => ?_)
  have az9 : (z9.toInt - (ptl.toInt + pv.toInt)) % 4294967296 = 0 := by rw [hz9]; exact c_iadd ptl pv
  have rz9 := rng32 z9
  refine ow_putF X8 hx hZ hown (host := "") (Or.inl (hw _ (List.mem_of_getElem? (i := 44) rfl))) Via.refl e8 F_o_total_7 E_o_7 (Or.inl (hw _ (List.mem_of_getElem? (i := 45) rfl))) (hw _ (List.mem_of_getElem? (i := 3) rfl)) (ty := .int) (by decide) rfl rfl (hb hby d_shFill_32) (pc' := 35) rfl (fun T10 h10 X10 e10 W10 => ?_)
  have F_o_total_10 := F_o_total_7.same W10
  have E_o_10 := E_o_7.wr W10
  have F_o_points_10 := F_o_points_7.other W10 (Or.inr (slot_ne (Or.inr (hw _ (List.mem_of_getElem? (i := 23) rfl))) (Or.inl (hw _ (List.mem_of_getElem? (i := 45) rfl))) (by decide) (t := (.array .int)) (t' := .int) (by decide) (by decide)))
  have V_oar_10 := V_oar_7.other W10 (Ne.symm ne_o_oar)
  have F_o_filled_10 := F_o_filled_7.other W10 (Or.inr (slot_ne (Or.inl (hw _ (List.mem_of_getElem? (i := 43) rfl))) (Or.inl (hw _ (List.mem_of_getElem? (i := 45) rfl))) (by decide) (t := .int) (t' := .int) (by decide) (by decide)))
  have Zs10 : n0 ≤ h10.size := Nat.le_trans Zs7 (Keep.of_wr W10).1
  have K10 := K7.wr W10 (Or.inl (List.mem_of_getElem? (i := 0) rfl))
  have N10 := Fr.snoc X10 N7 g_o
  exact ow_retV X10 hx hret hlk (hb hby d_shFill_35) (by decide) (by decide) (show Q_shFill Z o pi pv oar ka pn f pfl ptl h0 n0 _ T10.heap _ from by rw [e10]; exact ⟨z6, z9, rfl, N10, K10, E_o_10, F_o_points_10, F_o_filled_10, F_o_total_10, V_oar_10, (show z6.toInt = pfl.toInt + 1 ∧ z9.toInt = ptl.toInt + pv.toInt from by omega)⟩)
theorem d_rows_0 : decode prog_57_method_3_code 0 = .ok (.aload_n 0, 1) := by decide +kernel
theorem d_rows_1 : decode prog_57_method_3_code 1 = .ok (.getfield 15, 3) := by decide +kernel
theorem d_rows_4 : decode prog_57_method_3_code 4 = .ok (.arraylength, 1) := by decide +kernel
theorem d_rows_5 : decode prog_57_method_3_code 5 = .ok (.ireturn, 1) := by decide +kernel
theorem ef_rows (m : MethodId) (x0 : Addr) : entryFrame m #[(.ref x0)] 1 = mkF m 0 #[.val (.ref x0)] [] := by first | (simp [entryFrame, mkF, argsToLocals, Value.category]; done) | rfl
set_option maxRecDepth 65536 in
set_option maxHeartbeats 40000000 in
theorem rm_rows (l : Launch) (Z : State) (a0 : Array Value) (hw : ∀ d ∈ tables_1, d.before a0 Z = true) (ws : List Jvm.Cond) (o : Addr) (oar : Addr) (ka : ClassId) (pn : Int32) (f : Nat → Int32) (h0 : Heap) (F_points : Fld Z h0 o "com/example/cubilete/cubilete/rules/Sheet" "points" "[I" (.ref oar)) (V_a : Arv Z h0 oar ka (.int) pn (IA f) (.int (0 : Int32))) :
    MetFree l (⟨"com/example/cubilete/cubilete/rules/Sheet", "rows", "()I"⟩ : MethodName) (head1 (Jvm.Cond.code (⟨"com/example/cubilete/cubilete/rules/Sheet", "rows", "()I"⟩ : MethodName) prog_57_method_3_code 1 (some .int) :: ws) ({ frames := 0, cells := 0, slots := 0, locals := 0 } : Room)) (fun a_ U_ => a_ = #[(.ref o)] ∧ Z.Warmed39 U_.vm ∧ U_.heap = h0) (fun _ _ _ _ _ => True) (fun _ U_ o_ U_' => ∃ v_ L_, o_ = .returned v_ ∧ (QI (fun z => z.toInt = pn.toInt) h0) v_ U_'.heap L_ ∧ FrameEnd U_ o_ U_' L_ 0 0) := by
  refine ow_body (plainFor_of_name pn_1) ?_
  intro p e s m below meth c T0 X0 hx hZ hby hml hown hnm hret hlk e0
  refine Ends.cast (ef_rows m o) ?_
  refine ow_aloadN X0 hx (hb hby d_rows_0) rfl rfl (pc' := 1) rfl ?_
  refine ow_getF X0 hx hZ hown (host := "") (Or.inl (hw _ (List.mem_of_getElem? (i := 22) rfl))) Via.refl e0 F_points (hb hby d_rows_1) (pc' := 4) rfl (fun T1 X1 e1 => ?_)
  refine ow_len X1 hx hZ e1 V_a (hb hby d_rows_4) (pc' := 5) rfl ?_
  exact ow_retI X1 hx hret hlk (hb hby d_rows_5) (by decide) (by decide) ⟨pn, rfl, (show pn.toInt = pn.toInt from by omega), rfl, e1⟩
theorem d_filled_0 : decode prog_57_method_5_code 0 = .ok (.aload_n 0, 1) := by decide +kernel
theorem d_filled_1 : decode prog_57_method_5_code 1 = .ok (.getfield 42, 3) := by decide +kernel
theorem d_filled_4 : decode prog_57_method_5_code 4 = .ok (.ireturn, 1) := by decide +kernel
theorem ef_filled (m : MethodId) (x0 : Addr) : entryFrame m #[(.ref x0)] 1 = mkF m 0 #[.val (.ref x0)] [] := by first | (simp [entryFrame, mkF, argsToLocals, Value.category]; done) | rfl
set_option maxRecDepth 65536 in
set_option maxHeartbeats 40000000 in
theorem rm_filled (l : Launch) (Z : State) (a0 : Array Value) (hw : ∀ d ∈ tables_1, d.before a0 Z = true) (ws : List Jvm.Cond) (o : Addr) (pfl : Int32) (h0 : Heap) (F_filled : Fld Z h0 o "com/example/cubilete/cubilete/rules/Sheet" "filled" "I" (.int pfl)) :
    MetFree l (⟨"com/example/cubilete/cubilete/rules/Sheet", "filled", "()I"⟩ : MethodName) (head1 (Jvm.Cond.code (⟨"com/example/cubilete/cubilete/rules/Sheet", "filled", "()I"⟩ : MethodName) prog_57_method_5_code 1 (some .int) :: ws) ({ frames := 0, cells := 0, slots := 0, locals := 0 } : Room)) (fun a_ U_ => a_ = #[(.ref o)] ∧ Z.Warmed39 U_.vm ∧ U_.heap = h0) (fun _ _ _ _ _ => True) (fun _ U_ o_ U_' => ∃ v_ L_, o_ = .returned v_ ∧ (QI (fun z => z.toInt = pfl.toInt) h0) v_ U_'.heap L_ ∧ FrameEnd U_ o_ U_' L_ 0 0) := by
  refine ow_body (plainFor_of_name pn_1) ?_
  intro p e s m below meth c T0 X0 hx hZ hby hml hown hnm hret hlk e0
  refine Ends.cast (ef_filled m o) ?_
  refine ow_aloadN X0 hx (hb hby d_filled_0) rfl rfl (pc' := 1) rfl ?_
  refine ow_getF X0 hx hZ hown (host := "") (Or.inl (hw _ (List.mem_of_getElem? (i := 42) rfl))) Via.refl e0 F_filled (hb hby d_filled_1) (pc' := 4) rfl (fun T1 X1 e1 => ?_)
  exact ow_retI X1 hx hret hlk (hb hby d_filled_4) (by decide) (by decide) ⟨pfl, rfl, (show pfl.toInt = pfl.toInt from by omega), rfl, e1⟩
theorem d_total_0 : decode prog_57_method_7_code 0 = .ok (.aload_n 0, 1) := by decide +kernel
theorem d_total_1 : decode prog_57_method_7_code 1 = .ok (.getfield 46, 3) := by decide +kernel
theorem d_total_4 : decode prog_57_method_7_code 4 = .ok (.ireturn, 1) := by decide +kernel
theorem ef_total (m : MethodId) (x0 : Addr) : entryFrame m #[(.ref x0)] 1 = mkF m 0 #[.val (.ref x0)] [] := by first | (simp [entryFrame, mkF, argsToLocals, Value.category]; done) | rfl
set_option maxRecDepth 65536 in
set_option maxHeartbeats 40000000 in
theorem rm_total (l : Launch) (Z : State) (a0 : Array Value) (hw : ∀ d ∈ tables_1, d.before a0 Z = true) (ws : List Jvm.Cond) (o : Addr) (ptl : Int32) (h0 : Heap) (F_total : Fld Z h0 o "com/example/cubilete/cubilete/rules/Sheet" "total" "I" (.int ptl)) :
    MetFree l (⟨"com/example/cubilete/cubilete/rules/Sheet", "total", "()I"⟩ : MethodName) (head1 (Jvm.Cond.code (⟨"com/example/cubilete/cubilete/rules/Sheet", "total", "()I"⟩ : MethodName) prog_57_method_7_code 1 (some .int) :: ws) ({ frames := 0, cells := 0, slots := 0, locals := 0 } : Room)) (fun a_ U_ => a_ = #[(.ref o)] ∧ Z.Warmed39 U_.vm ∧ U_.heap = h0) (fun _ _ _ _ _ => True) (fun _ U_ o_ U_' => ∃ v_ L_, o_ = .returned v_ ∧ (QI (fun z => z.toInt = ptl.toInt) h0) v_ U_'.heap L_ ∧ FrameEnd U_ o_ U_' L_ 0 0) := by
  refine ow_body (plainFor_of_name pn_1) ?_
  intro p e s m below meth c T0 X0 hx hZ hby hml hown hnm hret hlk e0
  refine Ends.cast (ef_total m o) ?_
  refine ow_aloadN X0 hx (hb hby d_total_0) rfl rfl (pc' := 1) rfl ?_
  refine ow_getF X0 hx hZ hown (host := "") (Or.inl (hw _ (List.mem_of_getElem? (i := 44) rfl))) Via.refl e0 F_total (hb hby d_total_1) (pc' := 4) rfl (fun T1 X1 e1 => ?_)
  exact ow_retI X1 hx hret hlk (hb hby d_total_4) (by decide) (by decide) ⟨ptl, rfl, (show ptl.toInt = ptl.toInt from by omega), rfl, e1⟩
theorem d_isFull_0 : decode prog_57_method_6_code 0 = .ok (.aload_n 0, 1) := by decide +kernel
theorem d_isFull_1 : decode prog_57_method_6_code 1 = .ok (.getfield 42, 3) := by decide +kernel
theorem d_isFull_4 : decode prog_57_method_6_code 4 = .ok (.aload_n 0, 1) := by decide +kernel
theorem d_isFull_5 : decode prog_57_method_6_code 5 = .ok (.getfield 15, 3) := by decide +kernel
theorem d_isFull_8 : decode prog_57_method_6_code 8 = .ok (.arraylength, 1) := by decide +kernel
theorem d_isFull_9 : decode prog_57_method_6_code 9 = .ok (.if_icmp .ne 7, 3) := by decide +kernel
theorem d_isFull_12 : decode prog_57_method_6_code 12 = .ok (.iconst 1, 1) := by decide +kernel
theorem d_isFull_13 : decode prog_57_method_6_code 13 = .ok (.goto 4, 3) := by decide +kernel
theorem d_isFull_16 : decode prog_57_method_6_code 16 = .ok (.iconst 0, 1) := by decide +kernel
theorem d_isFull_17 : decode prog_57_method_6_code 17 = .ok (.ireturn, 1) := by decide +kernel
theorem ef_isFull (m : MethodId) (x0 : Addr) : entryFrame m #[(.ref x0)] 1 = mkF m 0 #[.val (.ref x0)] [] := by first | (simp [entryFrame, mkF, argsToLocals, Value.category]; done) | rfl
set_option maxRecDepth 65536 in
set_option maxHeartbeats 40000000 in
theorem rm_isFull (l : Launch) (Z : State) (a0 : Array Value) (hw : ∀ d ∈ tables_1, d.before a0 Z = true) (ws : List Jvm.Cond) (o : Addr) (oar : Addr) (ka : ClassId) (pn : Int32) (f : Nat → Int32) (pfl : Int32) (h0 : Heap) (F_filled : Fld Z h0 o "com/example/cubilete/cubilete/rules/Sheet" "filled" "I" (.int pfl)) (F_points : Fld Z h0 o "com/example/cubilete/cubilete/rules/Sheet" "points" "[I" (.ref oar)) (V_a : Arv Z h0 oar ka (.int) pn (IA f) (.int (0 : Int32))) :
    MetFree l (⟨"com/example/cubilete/cubilete/rules/Sheet", "isFull", "()Z"⟩ : MethodName) (head1 (Jvm.Cond.code (⟨"com/example/cubilete/cubilete/rules/Sheet", "isFull", "()Z"⟩ : MethodName) prog_57_method_6_code 1 (some .boolean) :: ws) ({ frames := 0, cells := 0, slots := 0, locals := 0 } : Room)) (fun a_ U_ => a_ = #[(.ref o)] ∧ Z.Warmed39 U_.vm ∧ U_.heap = h0) (fun _ _ _ _ _ => True) (fun _ U_ o_ U_' => ∃ v_ L_, o_ = .returned v_ ∧ (QI (fun z => ((pfl.toInt = pn.toInt) ∧ z.toInt = 1) ∨ (¬ (pfl.toInt = pn.toInt) ∧ z.toInt = 0)) h0) v_ U_'.heap L_ ∧ FrameEnd U_ o_ U_' L_ 0 0) := by
  refine ow_body (plainFor_of_name pn_1) ?_
  intro p e s m below meth c T0 X0 hx hZ hby hml hown hnm hret hlk e0
  refine Ends.cast (ef_isFull m o) ?_
  refine ow_aloadN X0 hx (hb hby d_isFull_0) rfl rfl (pc' := 1) rfl ?_
  refine ow_getF X0 hx hZ hown (host := "") (Or.inl (hw _ (List.mem_of_getElem? (i := 42) rfl))) Via.refl e0 F_filled (hb hby d_isFull_1) (pc' := 4) rfl (fun T1 X1 e1 => ?_)
  refine ow_aloadN X1 hx (hb hby d_isFull_4) rfl rfl (pc' := 5) rfl ?_
  refine ow_getF X1 hx hZ hown (host := "") (Or.inl (hw _ (List.mem_of_getElem? (i := 22) rfl))) Via.refl e1 F_points (hb hby d_isFull_5) (pc' := 8) rfl (fun T2 X2 e2 => ?_)
  refine ow_len X2 hx hZ e2 V_a (hb hby d_isFull_8) (pc' := 9) rfl ?_
  refine ow_icmp_ne X2 hx (pfl.toInt) (pn.toInt) (hb hby d_isFull_9) rfl rfl (by decide) (pt := 16) (by decide) (pf := 12) rfl (fun c9 => ?_) (fun c9 => ?_)
  · refine ow_iconst X2 hx (z := (0 : Int32)) (hb hby d_isFull_16) rfl (pc' := 17) rfl ?_
    exact ow_retB X2 hx hret hlk (hb hby d_isFull_17) (by decide) (by decide) (z' := (0 : Int32)) rfl ⟨(0 : Int32), rfl, (show ((pfl.toInt = pn.toInt) ∧ (0 : Int) = 1) ∨ (¬ (pfl.toInt = pn.toInt) ∧ (0 : Int) = 0) from by omega), rfl, e2⟩
  · refine ow_iconst X2 hx (z := (1 : Int32)) (hb hby d_isFull_12) rfl (pc' := 13) rfl ?_
    refine ow_goto X2 hx (hb hby d_isFull_13) (by decide) (pc' := 17) (by decide) ?_
    exact ow_retB X2 hx hret hlk (hb hby d_isFull_17) (by decide) (by decide) (z' := (1 : Int32)) rfl ⟨(1 : Int32), rfl, (show ((pfl.toInt = pn.toInt) ∧ (1 : Int) = 1) ∨ (¬ (pfl.toInt = pn.toInt) ∧ (1 : Int) = 0) from by omega), rfl, e2⟩
theorem d_oiInit_0 : decode jdk_2649_method_3_code 0 = .ok (.aload_n 0, 1) := by decide +kernel
theorem d_oiInit_1 : decode jdk_2649_method_3_code 1 = .ok (.invokespecial 1, 3) := by decide +kernel
theorem d_oiInit_4 : decode jdk_2649_method_3_code 4 = .ok (.aload_n 0, 1) := by decide +kernel
theorem d_oiInit_5 : decode jdk_2649_method_3_code 5 = .ok (.iconst 1, 1) := by decide +kernel
theorem d_oiInit_6 : decode jdk_2649_method_3_code 6 = .ok (.putfield 7, 3) := by decide +kernel
theorem d_oiInit_9 : decode jdk_2649_method_3_code 9 = .ok (.aload_n 0, 1) := by decide +kernel
theorem d_oiInit_10 : decode jdk_2649_method_3_code 10 = .ok (.iload_n 1, 1) := by decide +kernel
theorem d_oiInit_11 : decode jdk_2649_method_3_code 11 = .ok (.putfield 13, 3) := by decide +kernel
theorem d_oiInit_14 : decode jdk_2649_method_3_code 14 = .ok (.return_, 1) := by decide +kernel
theorem ef_oiInit (m : MethodId) (x0 : Addr) (x1 : Int32) : entryFrame m #[(.ref x0), (.int x1)] 2 = mkF m 0 #[.val (.ref x0), .val (.int x1)] [] := by first | (simp [entryFrame, mkF, argsToLocals, Value.category]; done) | rfl
def Q_oiInit (Z : State) (o : Addr) (pv : Int32) (h0 : Heap) (n0 : Nat) (v : Option Value) (h : Heap) (L : List Loc) : Prop := (v = none) ∧ (Fr n0 L) ∧ (Keep h0 h [o]) ∧ (Exa Z h o "java/util/OptionalInt") ∧ (Fld Z h o "java/util/OptionalInt" "isPresent" "Z" (.int (1 : Int32))) ∧ (Fld Z h o "java/util/OptionalInt" "value" "I" (.int pv))
theorem pn_4 : plainName "java/util/OptionalInt" = true := by first | (simp [plainName, overriddenIn]; done) | decide +kernel
set_option maxRecDepth 65536 in
set_option maxHeartbeats 40000000 in
theorem rm_oiInit (l : Launch) (Z : State) (a0 : Array Value) (hw : ∀ d ∈ tables_1, d.before a0 Z = true) (ws : List Jvm.Cond) (o : Addr) (pv : Int32) (h0 : Heap) (n0 : Nat) (Z0 : n0 ≤ h0.size) (E_o : Exa Z h0 o "java/util/OptionalInt") (F_ip : Fld Z h0 o "java/util/OptionalInt" "isPresent" "Z" (.int (0 : Int32))) (F_v : Fld Z h0 o "java/util/OptionalInt" "value" "I" (.int (0 : Int32))) (g_o : n0 ≤ o) :
    MetFree l (⟨"java/util/OptionalInt", "<init>", "(I)V"⟩ : MethodName) (head1 (Jvm.Cond.code (⟨"java/util/OptionalInt", "<init>", "(I)V"⟩ : MethodName) jdk_2649_method_3_code 2 none :: ws) ({ frames := 1, cells := 0, slots := 0, locals := 12 } : Room)) (fun a_ U_ => a_ = #[(.ref o), (.int pv)] ∧ Z.Warmed39 U_.vm ∧ U_.heap = h0) (fun _ _ _ _ _ => True) (fun _ U_ o_ U_' => ∃ v_ L_, o_ = .returned v_ ∧ (Q_oiInit Z o pv h0 n0) v_ U_'.heap L_ ∧ FrameEnd U_ o_ U_' L_ 0 0) := by
  refine ow_body (plainFor_of_name pn_4) ?_
  intro p e s m below meth c T0 X0 hx hZ hby hml hown hnm hret hlk e0
  have N0 := Fr.nil n0
  refine Ends.cast (ef_oiInit m o pv) ?_
  have r_pv := rng32 pv
  refine ow_aloadN X0 hx (hb hby d_oiInit_0) rfl rfl (pc' := 1) rfl ?_
  refine ow_init0 X0 hx hZ hown (hw _ (List.mem_of_getElem? (i := 81) rfl)) (hw _ (List.mem_of_getElem? (i := 17) rfl)) (hw _ (List.mem_of_getElem? (i := 18) rfl)) e0 0 (by decide) (by decide) (by rw [hml]; rfl) (Nat.le_of_eq rfl) (hb hby d_oiInit_1) (pc' := 4) rfl (fun T1 X1 e1 => ?_)
  refine ow_aloadN X1 hx (hb hby d_oiInit_4) rfl rfl (pc' := 5) rfl ?_
  refine ow_iconst X1 hx (z := (1 : Int32)) (hb hby d_oiInit_5) rfl (pc' := 6) rfl ?_
  refine ow_putFN X1 hx hZ hown (hw _ (List.mem_of_getElem? (i := 82) rfl)) Via.refl e1 F_ip E_o (Or.inr ⟨(hw _ (List.mem_of_getElem? (i := 83) rfl)), rfl, hnm⟩) (hw _ (List.mem_of_getElem? (i := 76) rfl)) (ty := .boolean) (v' := .int (nar .boolean (1 : Int32))) (by decide) rfl (fits_nar_bool _) (hb hby d_oiInit_6) (pc' := 9) rfl (fun T2 h2 X2 e2 W2 => ?_)
  have F_o_isPresent_2 := F_ip.same W2
  have E_o_2 := E_o.wr W2
  have F_o_value_2 := F_v.other W2 (Or.inr (slot_ne (Or.inr (hw _ (List.mem_of_getElem? (i := 85) rfl))) (Or.inr (hw _ (List.mem_of_getElem? (i := 83) rfl))) (by decide) (t := .int) (t' := .boolean) (by decide) (by decide)))
  have Zs2 : n0 ≤ h2.size := Nat.le_trans Z0 (Keep.of_wr W2).1
  have K2 := (Keep.refl h0 [o]).wr W2 (Or.inl (List.mem_of_getElem? (i := 0) rfl))
  have N2 := Fr.snoc X2 N0 g_o
  refine ow_aloadN X2 hx (hb hby d_oiInit_9) rfl rfl (pc' := 10) rfl ?_
  refine ow_iloadN X2 hx (hb hby d_oiInit_10) rfl (pc' := 11) rfl ?_
  refine ow_putF X2 hx hZ hown (host := "") (Or.inl (hw _ (List.mem_of_getElem? (i := 84) rfl))) Via.refl e2 F_o_value_2 E_o_2 (Or.inr ⟨(hw _ (List.mem_of_getElem? (i := 85) rfl)), rfl, hnm⟩) (hw _ (List.mem_of_getElem? (i := 76) rfl)) (ty := .int) (by decide) rfl rfl (hb hby d_oiInit_11) (pc' := 14) rfl (fun T3 h3 X3 e3 W3 => ?_)
  have F_o_value_3 := F_o_value_2.same W3
  have E_o_3 := E_o_2.wr W3
  have F_o_isPresent_3 := F_o_isPresent_2.other W3 (Or.inr (slot_ne (Or.inr (hw _ (List.mem_of_getElem? (i := 83) rfl))) (Or.inr (hw _ (List.mem_of_getElem? (i := 85) rfl))) (by decide) (t := .boolean) (t' := .int) (by decide) (by decide)))
  have Zs3 : n0 ≤ h3.size := Nat.le_trans Zs2 (Keep.of_wr W3).1
  have K3 := K2.wr W3 (Or.inl (List.mem_of_getElem? (i := 0) rfl))
  have N3 := Fr.snoc X3 N2 g_o
  exact ow_retV X3 hx hret hlk (hb hby d_oiInit_14) (by decide) (by decide) (show Q_oiInit Z o pv h0 n0 _ T3.heap _ from by rw [e3]; exact ⟨rfl, N3, K3, E_o_3, F_o_isPresent_3, F_o_value_3⟩)
theorem pd_3 : parseMethodDescriptor "(I)V" = some ⟨[.int], none⟩ := by decide +kernel
theorem d_oiOf_0 : decode jdk_2649_method_4_code 0 = .ok (.new 8, 3) := by decide +kernel
theorem d_oiOf_3 : decode jdk_2649_method_4_code 3 = .ok (.dup, 1) := by decide +kernel
theorem d_oiOf_4 : decode jdk_2649_method_4_code 4 = .ok (.iload_n 0, 1) := by decide +kernel
theorem d_oiOf_5 : decode jdk_2649_method_4_code 5 = .ok (.invokespecial 21, 3) := by decide +kernel
theorem d_oiOf_8 : decode jdk_2649_method_4_code 8 = .ok (.areturn, 1) := by decide +kernel
theorem ef_oiOf (m : MethodId) (x0 : Int32) : entryFrame m #[(.int x0)] 1 = mkF m 0 #[.val (.int x0)] [] := by first | (simp [entryFrame, mkF, argsToLocals, Value.category]; done) | rfl
def Q_oiOf (Z : State) (pv : Int32) (h0 : Heap) (n0 : Nat) (v : Option Value) (h : Heap) (L : List Loc) : Prop := ∃ (ow : Addr), (v = some (.ref ow)) ∧ (Fr n0 L) ∧ (Keep h0 h []) ∧ (Exa Z h ow "java/util/OptionalInt") ∧ (Fld Z h ow "java/util/OptionalInt" "isPresent" "Z" (.int (1 : Int32))) ∧ (Fld Z h ow "java/util/OptionalInt" "value" "I" (.int pv))
set_option maxRecDepth 65536 in
set_option maxHeartbeats 40000000 in
theorem rm_oiOf (l : Launch) (Z : State) (a0 : Array Value) (hw : ∀ d ∈ tables_1, d.before a0 Z = true) (ws : List Jvm.Cond) (pv : Int32) (h0 : Heap) (n0 : Nat) (Z0 : n0 ≤ h0.size) :
    MetFree l (⟨"java/util/OptionalInt", "of", "(I)Ljava/util/OptionalInt;"⟩ : MethodName) (head1 (Jvm.Cond.code (⟨"java/util/OptionalInt", "of", "(I)Ljava/util/OptionalInt;"⟩ : MethodName) jdk_2649_method_4_code 1 (some (.object "java/util/OptionalInt")) :: ws) ({ frames := 2, cells := 1, slots := 2, locals := 26 } : Room)) (fun a_ U_ => a_ = #[(.int pv)] ∧ Z.Warmed39 U_.vm ∧ U_.heap = h0) (fun _ _ _ _ _ => True) (fun _ U_ o_ U_' => ∃ v_ L_, o_ = .returned v_ ∧ (Q_oiOf Z pv h0 n0) v_ U_'.heap L_ ∧ FrameEnd U_ o_ U_' L_ 1 2) := by
  refine ow_body (plainFor_of_name pn_4) ?_
  intro p e s m below meth c T0 X0 hx hZ hby hml hown hnm hret hlk e0
  have N0 := Fr.nil n0
  refine Ends.cast (ef_oiOf m pv) ?_
  have r_pv := rng32 pv
  refine ow_new X0 hx hZ hown (hw _ (List.mem_of_getElem? (i := 75) rfl)) (hw _ (List.mem_of_getElem? (i := 76) rfl)) (hw _ (List.mem_of_getElem? (i := 73) rfl)) e0 (hb hby d_oiOf_0) (by decide) (by decide) (pc' := 3) rfl (fun T1 h1 b1 g1 X1 e1 E1 A1 D1 => ?_)
  have g_b1 : n0 ≤ b1 := Nat.le_trans Z0 (Nat.le_of_eq g1.symm)
  have sz_b1 : h0.size ≤ b1 := Nat.le_trans (Keep.refl h0 []).1 (Nat.le_of_eq g1.symm)
  have Zs1 : n0 ≤ h1.size := Nat.le_trans Z0 E1.1
  have K1 := (Keep.refl h0 []).ext E1
  have F_b1_isPresent : Fld Z h1 b1 "java/util/OptionalInt" "isPresent" "Z" (.int (0 : Int32)) := D1 (Or.inr (hw _ (List.mem_of_getElem? (i := 83) rfl))) (ty := .boolean) (by decide)
  have F_b1_value : Fld Z h1 b1 "java/util/OptionalInt" "value" "I" (.int (0 : Int32)) := D1 (Or.inr (hw _ (List.mem_of_getElem? (i := 85) rfl))) (ty := .int) (by decide)
  refine ow_dup X1 hx (hb hby d_oiOf_3) rfl (pc' := 4) rfl ?_
  refine ow_iloadN X1 hx (hb hby d_oiOf_4) rfl (pc' := 5) rfl ?_
  refine ow_callI X1 hx hZ rfl rfl hown (hw _ (List.mem_of_getElem? (i := 77) rfl)) (hw _ (List.mem_of_getElem? (i := 78) rfl)) (hw _ (List.mem_of_getElem? (i := 73) rfl)) (hw _ (List.mem_of_getElem? (i := 80) rfl)) (by decide) (rm_oiInit l Z a0 hw [] b1 pv h1 n0 Zs1 A1 F_b1_isPresent F_b1_value g_b1) e1 1 (by decide) (by decide) (by decide) (by decide) [(.int pv)] (by rw [hml]; rfl) pd_3 rfl rfl rfl (Nat.le_of_eq rfl) (hb hby d_oiOf_5) (pc' := 8) rfl (fun v2 T2 L2 hQ2 X2 => ?_)
  obtain ⟨rfl, Nc2, Kc2, P2_0, P2_1, P2_2⟩ := hQ2
  have Zs2 : n0 ≤ T2.heap.size := Nat.le_trans Zs1 Kc2.1
  have K2 := K1.trans Kc2 (allS (Or.inr sz_b1) all0)
  have N2 := Fr.app N0 Nc2
  show Ends _ _ _ _ T2 (mkF m 8 #[.val (.int pv)] [(.ref b1)])
  exact ow_retA X2 hx hret hlk rfl rfl (hb hby d_oiOf_8) (by decide) (by decide) (show Q_oiOf Z pv h0 n0 _ T2.heap _ from ⟨b1, rfl, N2, K2, P2_0, P2_1, P2_2⟩)
theorem d_oiEmpty_0 : decode jdk_2649_method_2_code 0 = .ok (.getstatic 17, 3) := by decide +kernel
theorem d_oiEmpty_3 : decode jdk_2649_method_2_code 3 = .ok (.areturn, 1) := by decide +kernel
theorem ef_oiEmpty (m : MethodId)  : entryFrame m #[] 0 = mkF m 0 #[] [] := by first | (simp [entryFrame, mkF, argsToLocals, Value.category]; done) | rfl
set_option maxRecDepth 65536 in
set_option maxHeartbeats 40000000 in
theorem rm_oiEmpty (l : Launch) (Z : State) (a0 : Array Value) (hw : ∀ d ∈ tables_1, d.before a0 Z = true) (ws : List Jvm.Cond) (oe : Addr) (h0 : Heap) (S_e : Sta Z h0 "java/util/OptionalInt" "EMPTY" "Ljava/util/OptionalInt;" (.ref oe)) :
    MetFree l (⟨"java/util/OptionalInt", "empty", "()Ljava/util/OptionalInt;"⟩ : MethodName) (head1 (Jvm.Cond.code (⟨"java/util/OptionalInt", "empty", "()Ljava/util/OptionalInt;"⟩ : MethodName) jdk_2649_method_2_code 0 (some (.object "java/util/OptionalInt")) :: ws) ({ frames := 0, cells := 0, slots := 0, locals := 0 } : Room)) (fun a_ U_ => a_ = #[] ∧ Z.Warmed39 U_.vm ∧ U_.heap = h0) (fun _ _ _ _ _ => True) (fun _ U_ o_ U_' => ∃ v_ L_, o_ = .returned v_ ∧ (QW (.ref oe) h0) v_ U_'.heap L_ ∧ FrameEnd U_ o_ U_' L_ 0 0) := by
  refine ow_body (plainFor_of_name pn_4) ?_
  intro p e s m below meth c T0 X0 hx hZ hby hml hown hnm hret hlk e0
  refine Ends.cast (ef_oiEmpty m ) ?_
  refine ow_getS X0 hx hZ hown (host := "") (Or.inl (hw _ (List.mem_of_getElem? (i := 94) rfl))) Via.refl e0 S_e (hb hby d_oiEmpty_0) (pc' := 3) rfl (fun T1 X1 e1 => ?_)
  exact ow_retA X1 hx hret hlk rfl rfl (hb hby d_oiEmpty_3) (by decide) (by decide) ⟨rfl, rfl, e1⟩
theorem d_orElse_0 : decode jdk_2649_method_11_code 0 = .ok (.aload_n 0, 1) := by decide +kernel
theorem d_orElse_1 : decode jdk_2649_method_11_code 1 = .ok (.getfield 7, 3) := by decide +kernel
theorem d_orElse_4 : decode jdk_2649_method_11_code 4 = .ok (.ifCond .eq 10, 3) := by decide +kernel
theorem d_orElse_7 : decode jdk_2649_method_11_code 7 = .ok (.aload_n 0, 1) := by decide +kernel
theorem d_orElse_8 : decode jdk_2649_method_11_code 8 = .ok (.getfield 13, 3) := by decide +kernel
theorem d_orElse_11 : decode jdk_2649_method_11_code 11 = .ok (.goto 4, 3) := by decide +kernel
theorem d_orElse_14 : decode jdk_2649_method_11_code 14 = .ok (.iload_n 1, 1) := by decide +kernel
theorem d_orElse_15 : decode jdk_2649_method_11_code 15 = .ok (.ireturn, 1) := by decide +kernel
theorem ef_orElse (m : MethodId) (x0 : Addr) (x1 : Int32) : entryFrame m #[(.ref x0), (.int x1)] 2 = mkF m 0 #[.val (.ref x0), .val (.int x1)] [] := by first | (simp [entryFrame, mkF, argsToLocals, Value.category]; done) | rfl
set_option maxRecDepth 65536 in
set_option maxHeartbeats 40000000 in
theorem rm_orElse (l : Launch) (Z : State) (a0 : Array Value) (hw : ∀ d ∈ tables_1, d.before a0 Z = true) (ws : List Jvm.Cond) (o : Addr) (pd : Int32) (zp : Int32) (zv : Int32) (h0 : Heap) (F_ip : Fld Z h0 o "java/util/OptionalInt" "isPresent" "Z" (.int zp)) (F_v : Fld Z h0 o "java/util/OptionalInt" "value" "I" (.int zv)) :
    MetFree l (⟨"java/util/OptionalInt", "orElse", "(I)I"⟩ : MethodName) (head1 (Jvm.Cond.code (⟨"java/util/OptionalInt", "orElse", "(I)I"⟩ : MethodName) jdk_2649_method_11_code 2 (some .int) :: ws) ({ frames := 0, cells := 0, slots := 0, locals := 0 } : Room)) (fun a_ U_ => a_ = #[(.ref o), (.int pd)] ∧ Z.Warmed39 U_.vm ∧ U_.heap = h0) (fun _ _ _ _ _ => True) (fun _ U_ o_ U_' => ∃ v_ L_, o_ = .returned v_ ∧ (QI (fun z => (zp.toInt = 0 → z.toInt = pd.toInt) ∧ (¬ zp.toInt = 0 → z.toInt = zv.toInt)) h0) v_ U_'.heap L_ ∧ FrameEnd U_ o_ U_' L_ 0 0) := by
  refine ow_body (plainFor_of_name pn_4) ?_
  intro p e s m below meth c T0 X0 hx hZ hby hml hown hnm hret hlk e0
  refine Ends.cast (ef_orElse m o pd) ?_
  have r_pd := rng32 pd
  refine ow_aloadN X0 hx (hb hby d_orElse_0) rfl rfl (pc' := 1) rfl ?_
  refine ow_getF X0 hx hZ hown (host := "") (Or.inl (hw _ (List.mem_of_getElem? (i := 82) rfl))) Via.refl e0 F_ip (hb hby d_orElse_1) (pc' := 4) rfl (fun T1 X1 e1 => ?_)
  refine ow_if_eq X1 hx (zp.toInt) (hb hby d_orElse_4) rfl (by decide) (pt := 14) (by decide) (pf := 7) rfl (fun c4 => ?_) (fun c4 => ?_)
  · refine ow_iloadN X1 hx (hb hby d_orElse_14) rfl (pc' := 15) rfl ?_
    exact ow_retI X1 hx hret hlk (hb hby d_orElse_15) (by decide) (by decide) ⟨pd, rfl, (show (zp.toInt = 0 → pd.toInt = pd.toInt) ∧ (¬ zp.toInt = 0 → pd.toInt = zv.toInt) from by omega), rfl, e1⟩
  · refine ow_aloadN X1 hx (hb hby d_orElse_7) rfl rfl (pc' := 8) rfl ?_
    refine ow_getF X1 hx hZ hown (host := "") (Or.inl (hw _ (List.mem_of_getElem? (i := 84) rfl))) Via.refl e1 F_v (hb hby d_orElse_8) (pc' := 11) rfl (fun T2 X2 e2 => ?_)
    refine ow_goto X2 hx (hb hby d_orElse_11) (by decide) (pc' := 15) (by decide) ?_
    exact ow_retI X2 hx hret hlk (hb hby d_orElse_15) (by decide) (by decide) ⟨zv, rfl, (show (zp.toInt = 0 → zv.toInt = pd.toInt) ∧ (¬ zp.toInt = 0 → zv.toInt = zv.toInt) from by omega), rfl, e2⟩
theorem pd_4 : parseMethodDescriptor "(I)Ljava/util/OptionalInt;" = some ⟨[.int], some (.object "java/util/OptionalInt")⟩ := by decide +kernel
theorem pd_5 : parseMethodDescriptor "()Ljava/util/OptionalInt;" = some ⟨[], some (.object "java/util/OptionalInt")⟩ := by decide +kernel
theorem d_points_0 : decode prog_57_method_4_code 0 = .ok (.aload_n 0, 1) := by decide +kernel
theorem d_points_1 : decode prog_57_method_4_code 1 = .ok (.getfield 15, 3) := by decide +kernel
theorem d_points_4 : decode prog_57_method_4_code 4 = .ok (.iload_n 1, 1) := by decide +kernel
theorem d_points_5 : decode prog_57_method_4_code 5 = .ok (.aload_n 0, 1) := by decide +kernel
theorem d_points_6 : decode prog_57_method_4_code 6 = .ok (.getfield 15, 3) := by decide +kernel
theorem d_points_9 : decode prog_57_method_4_code 9 = .ok (.arraylength, 1) := by decide +kernel
theorem d_points_10 : decode prog_57_method_4_code 10 = .ok (.invokestatic 26, 3) := by decide +kernel
theorem d_points_13 : decode prog_57_method_4_code 13 = .ok (.iaload, 1) := by decide +kernel
theorem d_points_14 : decode prog_57_method_4_code 14 = .ok (.istore_n 2, 1) := by decide +kernel
theorem d_points_15 : decode prog_57_method_4_code 15 = .ok (.iload_n 2, 1) := by decide +kernel
theorem d_points_16 : decode prog_57_method_4_code 16 = .ok (.ldc 19, 2) := by decide +kernel
theorem d_points_18 : decode prog_57_method_4_code 18 = .ok (.if_icmp .ne 9, 3) := by decide +kernel
theorem d_points_21 : decode prog_57_method_4_code 21 = .ok (.invokestatic 32, 3) := by decide +kernel
theorem d_points_24 : decode prog_57_method_4_code 24 = .ok (.goto 7, 3) := by decide +kernel
theorem d_points_27 : decode prog_57_method_4_code 27 = .ok (.iload_n 2, 1) := by decide +kernel
theorem d_points_28 : decode prog_57_method_4_code 28 = .ok (.invokestatic 38, 3) := by decide +kernel
theorem d_points_31 : decode prog_57_method_4_code 31 = .ok (.areturn, 1) := by decide +kernel
theorem ef_points (m : MethodId) (x0 : Addr) (x1 : Int32) : entryFrame m #[(.ref x0), (.int x1)] 3 = mkF m 0 #[.val (.ref x0), .val (.int x1), .unset] [] := by first | (simp [entryFrame, mkF, argsToLocals, Value.category]; done) | rfl
def Q_points (Z : State) (o : Addr) (pi : Int32) (oar : Addr) (ka : ClassId) (pn : Int32) (f : Nat → Int32) (oe : Addr) (h0 : Heap) (n0 : Nat) (v : Option Value) (h : Heap) (L : List Loc) : Prop := ∃ (ow : Addr), ∃ (zp : Int32), ∃ (zv : Int32), (v = some (.ref ow)) ∧ (Fr n0 L) ∧ (Keep h0 h []) ∧ (Exa Z h ow "java/util/OptionalInt") ∧ (Fld Z h ow "java/util/OptionalInt" "isPresent" "Z" (.int zp)) ∧ (Fld Z h ow "java/util/OptionalInt" "value" "I" (.int zv)) ∧ (((f pi.toInt.toNat).toInt = -2147483648 ∧ zp.toInt = 0) ∨ (¬ (f pi.toInt.toNat).toInt = -2147483648 ∧ zp.toInt = 1 ∧ zv.toInt = (f pi.toInt.toNat).toInt))
set_option maxRecDepth 65536 in
set_option maxHeartbeats 40000000 in
theorem rm_points (l : Launch) (Z : State) (a0 : Array Value) (hw : ∀ d ∈ tables_1, d.before a0 Z = true) (ws : List Jvm.Cond) (o : Addr) (pi : Int32) (oar : Addr) (ka : ClassId) (pn : Int32) (f : Nat → Int32) (oe : Addr) (h0 : Heap) (n0 : Nat) (Z0 : n0 ≤ h0.size) (F_points : Fld Z h0 o "com/example/cubilete/cubilete/rules/Sheet" "points" "[I" (.ref oar)) (V_a : Arv Z h0 oar ka (.int) pn (IA f) (.int (0 : Int32))) (S_e : Sta Z h0 "java/util/OptionalInt" "EMPTY" "Ljava/util/OptionalInt;" (.ref oe)) (E_e : Exa Z h0 oe "java/util/OptionalInt") (F_eip : Fld Z h0 oe "java/util/OptionalInt" "isPresent" "Z" (.int (0 : Int32))) (F_ev : Fld Z h0 oe "java/util/OptionalInt" "value" "I" (.int (0 : Int32))) (hi0 : 0 ≤ pi.toInt) (hi1 : pi.toInt < pn.toInt) (hn4 : pn.toInt ≤ 4) :
    MetFree l (⟨"com/example/cubilete/cubilete/rules/Sheet", "points", "(I)Ljava/util/OptionalInt;"⟩ : MethodName) (head1 (Jvm.Cond.code (⟨"com/example/cubilete/cubilete/rules/Sheet", "points", "(I)Ljava/util/OptionalInt;"⟩ : MethodName) prog_57_method_4_code 3 (some (.object "java/util/OptionalInt")) :: ws) ({ frames := 3, cells := 1, slots := 2, locals := 38 } : Room)) (fun a_ U_ => a_ = #[(.ref o), (.int pi)] ∧ Z.Warmed39 U_.vm ∧ U_.heap = h0) (fun _ _ _ _ _ => True) (fun _ U_ o_ U_' => ∃ v_ L_, o_ = .returned v_ ∧ (Q_points Z o pi oar ka pn f oe h0 n0) v_ U_'.heap L_ ∧ FrameEnd U_ o_ U_' L_ 1 2) := by
  refine ow_body (plainFor_of_name pn_1) ?_
  intro p e s m below meth c T0 X0 hx hZ hby hml hown hnm hret hlk e0
  have N0 := Fr.nil n0
  refine Ends.cast (ef_points m o pi) ?_
  have r_pi := rng32 pi
  refine ow_aloadN X0 hx (hb hby d_points_0) rfl rfl (pc' := 1) rfl ?_
  refine ow_getF X0 hx hZ hown (host := "") (Or.inl (hw _ (List.mem_of_getElem? (i := 22) rfl))) Via.refl e0 F_points (hb hby d_points_1) (pc' := 4) rfl (fun T1 X1 e1 => ?_)
  refine ow_iloadN X1 hx (hb hby d_points_4) rfl (pc' := 5) rfl ?_
  refine ow_aloadN X1 hx (hb hby d_points_5) rfl rfl (pc' := 6) rfl ?_
  refine ow_getF X1 hx hZ hown (host := "") (Or.inl (hw _ (List.mem_of_getElem? (i := 22) rfl))) Via.refl e1 F_points (hb hby d_points_6) (pc' := 9) rfl (fun T2 X2 e2 => ?_)
  refine ow_len X2 hx hZ e2 V_a (hb hby d_points_9) (pc' := 10) rfl ?_
  refine ow_callPI X2 hx hZ hown (hw _ (List.mem_of_getElem? (i := 34) rfl)) (hw _ (List.mem_of_getElem? (i := 35) rfl)) (hw _ (List.mem_of_getElem? (i := 36) rfl)) (hw _ (List.mem_of_getElem? (i := 37) rfl)) (by decide) (rm_ochk l Z a0 hw [] pi pn h0 (by first | decide | omega) (by first | decide | omega)) e2 1 (by decide) (by decide) (by decide) (by decide) [(.int pi), (.int pn)] (by rw [hml]; rfl) pd_2 rfl rfl rfl (Nat.le_of_eq rfl) (hb hby d_points_10) (pc' := 13) rfl (fun z3 T3 hz3 X3 e3 => ?_)
  have az3 : z3.toInt = pi.toInt := hz3
  have rz3 := rng32 z3
  refine ow_ldI X3 hx hZ e3 V_a (ow_nlt (y := (0 : Int32)) (show ¬ z3.toInt < 0 from by omega)) (ow_lt (show z3.toInt < pn.toInt from by omega)) (show (IA f).getD z3.toNatClampNeg (.int (0 : Int32)) = .int (f pi.toInt.toNat) from by rw [show z3.toNatClampNeg = pi.toInt.toNat from by (show z3.toInt.toNat = _; omega)]; exact IA_get _ _ (by omega) _) (hb hby d_points_13) (pc' := 14) rfl ?_
  refine ow_istoreN X3 hx (Ls' := #[.val (.ref o), .val (.int pi), .val (.int (f pi.toInt.toNat))]) (hb hby d_points_14) rfl (pc' := 15) rfl ?_
  refine ow_iloadN X3 hx (hb hby d_points_15) rfl (pc' := 16) rfl ?_
  refine ow_ldcInt X3 hx hZ hown (hw _ (List.mem_of_getElem? (i := 24) rfl)) (hb hby d_points_16) (pc' := 18) rfl ?_
  refine ow_icmp_ne X3 hx ((f pi.toInt.toNat).toInt) ((-2147483648 : Int)) (hb hby d_points_18) rfl rfl (by decide) (pt := 27) (by decide) (pf := 21) rfl (fun c18 => ?_) (fun c18 => ?_)
  · refine ow_iloadN X3 hx (hb hby d_points_27) rfl (pc' := 28) rfl ?_
    refine ow_callS X3 hx hZ hown (hw _ (List.mem_of_getElem? (i := 71) rfl)) (hw _ (List.mem_of_getElem? (i := 72) rfl)) (hw _ (List.mem_of_getElem? (i := 73) rfl)) (hw _ (List.mem_of_getElem? (i := 74) rfl)) (by decide) (rm_oiOf l Z a0 hw [] (f pi.toInt.toNat) h0 n0 Z0) e3 0 (by decide) (by decide) (by decide) (by decide) [(.int (f pi.toInt.toNat))] (by rw [hml]; rfl) pd_4 rfl rfl rfl (Nat.le_of_eq rfl) (hb hby d_points_28) (pc' := 31) rfl (fun v4 T4 L4 hQ4 X4 => ?_)
    obtain ⟨b4, rfl, Nc4, Kc4, P4_0, P4_1, P4_2⟩ := hQ4
    have F_o_points_4 := F_points.keep Kc4 nin0
    have V_oar_4 := V_a.keep Kc4 nin0
    have Zs4 : n0 ≤ T4.heap.size := Nat.le_trans Z0 Kc4.1
    have K4 := (Keep.refl h0 []).trans Kc4 all0
    have N4 := Fr.app N0 Nc4
    show Ends _ _ _ _ T4 (mkF m 31 #[.val (.ref o), .val (.int pi), .val (.int (f pi.toInt.toNat))] [(.ref b4)])
    exact ow_retA X4 hx hret hlk rfl rfl (hb hby d_points_31) (by decide) (by decide) (show Q_points Z o pi oar ka pn f oe h0 n0 _ T4.heap _ from ⟨b4, (1 : Int32), (f pi.toInt.toNat), rfl, N4, K4, P4_0, P4_1, P4_2, (show ((f pi.toInt.toNat).toInt = -2147483648 ∧ (1 : Int) = 0) ∨ (¬ (f pi.toInt.toNat).toInt = -2147483648 ∧ (1 : Int) = 1 ∧ (f pi.toInt.toNat).toInt = (f pi.toInt.toNat).toInt) from by omega)⟩)
  · refine ow_callS X3 hx hZ hown (hw _ (List.mem_of_getElem? (i := 91) rfl)) (hw _ (List.mem_of_getElem? (i := 92) rfl)) (hw _ (List.mem_of_getElem? (i := 73) rfl)) (hw _ (List.mem_of_getElem? (i := 93) rfl)) (by decide) (rm_oiEmpty l Z a0 hw []  oe h0 S_e) e3 0 (by decide) (by decide) (by decide) (by decide) [] (by rw [hml]; rfl) pd_5 rfl rfl rfl (Nat.le_of_eq rfl) (hb hby d_points_21) (pc' := 24) rfl (fun v5 T5 L5 hQ5 X5 => ?_)
    obtain ⟨rfl, rfl, e5⟩ := hQ5
    rw [List.append_nil] at X5
    show Ends _ _ _ _ T5 (mkF m 24 #[.val (.ref o), .val (.int pi), .val (.int (f pi.toInt.toNat))] [(.ref oe)])
    refine ow_goto X5 hx (hb hby d_points_24) (by decide) (pc' := 31) (by decide) ?_
    exact ow_retA X5 hx hret hlk rfl rfl (hb hby d_points_31) (by decide) (by decide) (show Q_points Z o pi oar ka pn f oe h0 n0 _ T5.heap _ from by rw [e5]; exact ⟨oe, (0 : Int32), (0 : Int32), rfl, N0, (Keep.refl h0 []), E_e, F_eip, F_ev, (show ((f pi.toInt.toNat).toInt = -2147483648 ∧ (0 : Int) = 0) ∨ (¬ (f pi.toInt.toNat).toInt = -2147483648 ∧ (0 : Int) = 1 ∧ (0 : Int) = (f pi.toInt.toNat).toInt) from by omega)⟩)
theorem pd_6 : parseMethodDescriptor "(Ljava/lang/String;I)V" = some ⟨[(.object "java/lang/String"), .int], none⟩ := by decide +kernel
theorem pd_7 : parseMethodDescriptor "(II)V" = some ⟨[.int, .int], none⟩ := by decide +kernel
theorem pd_8 : parseMethodDescriptor "()I" = some ⟨[], some .int⟩ := by decide +kernel
theorem pd_9 : parseMethodDescriptor "()Z" = some ⟨[], some .boolean⟩ := by decide +kernel
theorem pd_10 : parseMethodDescriptor "(I)I" = some ⟨[.int], some .int⟩ := by decide +kernel
theorem ef_law (m : MethodId) (x0 : Int32) (x1 : Int32) (x2 : Int32) (x3 : Int32) (x4 : Int32) (x5 : Int32) : entryFrame m #[(.int x0), (.int x1), (.int x2), (.int x3), (.int x4), (.int x5)] maxLocals = mkF m 0 #[.val (.int x0), .val (.int x1), .val (.int x2), .val (.int x3), .val (.int x4), .val (.int x5), .unset, .unset, .unset, .unset, .unset, .unset, .unset, .unset, .unset, .unset, .unset] [] := by first | (simp [entryFrame, mkF, argsToLocals, Value.category, maxLocals]; done) | rfl
def Q_law (ps : Int32) (pra : Int32) (psa : Int32) (prb : Int32) (psb : Int32) (pp : Int32) (oe : Addr) (h0 : Heap) (n0 : Nat) (v : Option Value) (h : Heap) (L : List Loc) : Prop := v = some (.int 1) ∧ Fr n0 L
theorem pn_5 : plainName "com/example/cubilete/cubilete/rules/SheetFillPinLaw" = true := by first | (simp [plainName, overriddenIn]; done) | decide +kernel
set_option maxRecDepth 65536 in
set_option maxHeartbeats 40000000 in
theorem rm_law (l : Launch) (Z : State) (a0 : Array Value) (hw : ∀ d ∈ tables_1, d.before a0 Z = true) (ws : List Jvm.Cond) (ps : Int32) (pra : Int32) (psa : Int32) (prb : Int32) (psb : Int32) (pp : Int32) (oe : Addr) (h0 : Heap) (n0 : Nat) (Z0 : n0 ≤ h0.size) (S_e : Sta Z h0 "java/util/OptionalInt" "EMPTY" "Ljava/util/OptionalInt;" (.ref oe)) (E_e : Exa Z h0 oe "java/util/OptionalInt") (F_eip : Fld Z h0 oe "java/util/OptionalInt" "isPresent" "Z" (.int (0 : Int32))) (F_ev : Fld Z h0 oe "java/util/OptionalInt" "value" "I" (.int (0 : Int32))) :
    MetFree l x (head1 (Jvm.Cond.code x code maxLocals ret :: ws) room_1) (fun a_ U_ => a_ = #[(.int ps), (.int pra), (.int psa), (.int prb), (.int psb), (.int pp)] ∧ Z.Warmed39 U_.vm ∧ U_.heap = h0) (fun _ _ _ _ _ => True) (fun _ U_ o_ U_' => ∃ v_ L_, o_ = .returned v_ ∧ (Q_law ps pra psa prb psb pp oe h0 n0) v_ U_'.heap L_ ∧ ReturnedEndW U_ o_ U_' L_ 24 1152) := by
  refine ow_bodyW (plainFor_of_name pn_5) ?_
  intro p e s m below meth c T0 X0 hx hZ hby hml hown hnm hret hlk e0 es hS0
  have N0 := Fr.nil n0
  have hret : meth.sig.returnType = (some .boolean) := hret
  refine Ends.cast (ef_law m ps pra psa prb psb pp) ?_
  have r_ps := rng32 ps
  have r_pra := rng32 pra
  have r_psa := rng32 psa
  have r_prb := rng32 prb
  have r_psb := rng32 psb
  have r_pp := rng32 pp
  refine ow_iconst X0 hx (z := (1 : Int32)) (hb hby at_0) rfl (pc' := 1) rfl ?_
  refine ow_iloadN X0 hx (hb hby at_1) rfl (pc' := 2) rfl ?_
  refine ow_iconst X0 hx (z := (3 : Int32)) (hb hby at_2) rfl (pc' := 3) rfl ?_
  refine ow_iand X0 hx (hb hby at_3) (pc' := 4) rfl (fun z1 hz1 => ?_)
  have az1 : z1.toInt = ps.toInt % 4 := by rw [hz1]; exact c_mask ps (3 : Int32) 2 (by decide) (by decide)
  have rz1 := rng32 z1
  refine ow_iadd X0 hx (hb hby at_4) (pc' := 5) rfl (fun z2 hz2 => ?_)
  have az2 : (z2.toInt - ((1 : Int) + z1.toInt)) % 4294967296 = 0 := by rw [hz2]; exact c_iadd (1 : Int32) z1
  have rz2 := rng32 z2
  refine ow_istore X0 hx (Ls' := #[.val (.int ps), .val (.int pra), .val (.int psa), .val (.int prb), .val (.int psb), .val (.int pp), .val (.int z2), .unset, .unset, .unset, .unset, .unset, .unset, .unset, .unset, .unset, .unset]) (hb hby at_5) rfl (pc' := 7) rfl ?_
  refine ow_iload X0 hx (hb hby at_7) rfl (pc' := 9) rfl ?_
  refine ow_iconst X0 hx (z := (2 : Int32)) (hb hby at_9) rfl (pc' := 10) rfl ?_
  refine ow_icmp_lt X0 hx (z2.toInt) ((2 : Int)) (hb hby at_10) rfl rfl (by decide) (pt := 25) (by decide) (pf := 13) rfl (fun c10 => ?_) (fun c10 => ?_)
  · refine ow_iconst X0 hx (z := (0 : Int32)) (hb hby at_25) rfl (pc' := 26) rfl ?_
    refine ow_istore X0 hx (Ls' := #[.val (.int ps), .val (.int pra), .val (.int psa), .val (.int prb), .val (.int psb), .val (.int pp), .val (.int z2), .val (.int (0 : Int32)), .unset, .unset, .unset, .unset, .unset, .unset, .unset, .unset, .unset]) (hb hby at_26) rfl (pc' := 28) rfl ?_
    refine ow_iloadN X0 hx (hb hby at_28) rfl (pc' := 29) rfl ?_
    refine ow_ldcInt X0 hx hZ hown (hw _ (List.mem_of_getElem? (i := 0) rfl)) (hb hby at_29) (pc' := 31) rfl ?_
    refine ow_iand X0 hx (hb hby at_31) (pc' := 32) rfl (fun z3 hz3 => ?_)
    have az3 : z3.toInt = pra.toInt % 2147483648 := by rw [hz3]; exact c_mask pra (2147483647 : Int32) 31 (by decide) (by decide)
    have rz3 := rng32 z3
    refine ow_iload X0 hx (hb hby at_32) rfl (pc' := 34) rfl ?_
    refine ow_irem X0 hx (hb hby at_34) (fun q => absurd (show z2.toInt = 0 from congrArg Int32.toInt q) (by omega)) (pc' := 35) rfl (fun z4 hz4 => ?_)
    have az4 : 0 ≤ z4.toInt ∧ z4.toInt < z2.toInt ∧ z4.toInt ≤ z3.toInt ∧ (z3.toInt < z2.toInt → z4.toInt = z3.toInt) ∧ (z2.toInt ≤ z3.toInt → z3.toInt < 2 * z2.toInt → z4.toInt = z3.toInt - z2.toInt) := by rw [hz4]; exact (c_iremV z3 z2).1 (by omega) (by omega)
    have rz4 := rng32 z4
    refine ow_istore X0 hx (Ls' := #[.val (.int ps), .val (.int pra), .val (.int psa), .val (.int prb), .val (.int psb), .val (.int pp), .val (.int z2), .val (.int (0 : Int32)), .val (.int z4), .unset, .unset, .unset, .unset, .unset, .unset, .unset, .unset]) (hb hby at_35) rfl (pc' := 37) rfl ?_
    refine ow_iloadN X0 hx (hb hby at_37) rfl (pc' := 38) rfl ?_
    refine ow_ldcInt X0 hx hZ hown (hw _ (List.mem_of_getElem? (i := 1) rfl)) (hb hby at_38) (pc' := 40) rfl ?_
    refine ow_iand X0 hx (hb hby at_40) (pc' := 41) rfl (fun z5 hz5 => ?_)
    have az5 : z5.toInt = psa.toInt % 1073741824 := by rw [hz5]; exact c_mask psa (1073741823 : Int32) 30 (by decide) (by decide)
    have rz5 := rng32 z5
    refine ow_istore X0 hx (Ls' := #[.val (.int ps), .val (.int pra), .val (.int psa), .val (.int prb), .val (.int psb), .val (.int pp), .val (.int z2), .val (.int (0 : Int32)), .val (.int z4), .val (.int z5), .unset, .unset, .unset, .unset, .unset, .unset, .unset]) (hb hby at_41) rfl (pc' := 43) rfl ?_
    refine ow_iload X0 hx (hb hby at_43) rfl (pc' := 45) rfl ?_
    refine ow_ldcInt X0 hx hZ hown (hw _ (List.mem_of_getElem? (i := 1) rfl)) (hb hby at_45) (pc' := 47) rfl ?_
    refine ow_iand X0 hx (hb hby at_47) (pc' := 48) rfl (fun z6 hz6 => ?_)
    have az6 : z6.toInt = psb.toInt % 1073741824 := by rw [hz6]; exact c_mask psb (1073741823 : Int32) 30 (by decide) (by decide)
    have rz6 := rng32 z6
    refine ow_istore X0 hx (Ls' := #[.val (.int ps), .val (.int pra), .val (.int psa), .val (.int prb), .val (.int psb), .val (.int pp), .val (.int z2), .val (.int (0 : Int32)), .val (.int z4), .val (.int z5), .val (.int z6), .unset, .unset, .unset, .unset, .unset, .unset]) (hb hby at_48) rfl (pc' := 50) rfl ?_
    refine ow_iconst X0 hx (z := (-1 : Int32)) (hb hby at_50) rfl (pc' := 51) rfl ?_
    refine ow_istore X0 hx (Ls' := #[.val (.int ps), .val (.int pra), .val (.int psa), .val (.int prb), .val (.int psb), .val (.int pp), .val (.int z2), .val (.int (0 : Int32)), .val (.int z4), .val (.int z5), .val (.int z6), .val (.int (-1 : Int32)), .unset, .unset, .unset, .unset, .unset]) (hb hby at_51) rfl (pc' := 53) rfl ?_
    refine ow_iload X0 hx (hb hby at_53) rfl (pc' := 55) rfl ?_
    refine ow_ifY X0 hx (hb hby at_55) (by decide) (by decide) (pc' := 77) (by decide) ?_
    refine ow_iload X0 hx (hb hby at_77) rfl (pc' := 79) rfl ?_
    refine ow_ldcInt X0 hx hZ hown (hw _ (List.mem_of_getElem? (i := 0) rfl)) (hb hby at_79) (pc' := 81) rfl ?_
    refine ow_iand X0 hx (hb hby at_81) (pc' := 82) rfl (fun z7 hz7 => ?_)
    have az7 : z7.toInt = pp.toInt % 2147483648 := by rw [hz7]; exact c_mask pp (2147483647 : Int32) 31 (by decide) (by decide)
    have rz7 := rng32 z7
    refine ow_iload X0 hx (hb hby at_82) rfl (pc' := 84) rfl ?_
    refine ow_irem X0 hx (hb hby at_84) (fun q => absurd (show z2.toInt = 0 from congrArg Int32.toInt q) (by omega)) (pc' := 85) rfl (fun z8 hz8 => ?_)
    have az8 : 0 ≤ z8.toInt ∧ z8.toInt < z2.toInt ∧ z8.toInt ≤ z7.toInt ∧ (z7.toInt < z2.toInt → z8.toInt = z7.toInt) ∧ (z2.toInt ≤ z7.toInt → z7.toInt < 2 * z2.toInt → z8.toInt = z7.toInt - z2.toInt) := by rw [hz8]; exact (c_iremV z7 z2).1 (by omega) (by omega)
    have rz8 := rng32 z8
    refine ow_istore X0 hx (Ls' := #[.val (.int ps), .val (.int pra), .val (.int psa), .val (.int prb), .val (.int psb), .val (.int pp), .val (.int z2), .val (.int (0 : Int32)), .val (.int z4), .val (.int z5), .val (.int z6), .val (.int (-1 : Int32)), .val (.int z8), .unset, .unset, .unset, .unset]) (hb hby at_85) rfl (pc' := 87) rfl ?_
    have sn : 1 ≤ z2.toInt ∧ z2.toInt ≤ 4 := by omega
    have sa : 0 ≤ z4.toInt ∧ z4.toInt < z2.toInt := by omega
    have su : 0 ≤ z5.toInt ∧ z5.toInt ≤ 1073741823 := by omega
    have sv : 0 ≤ z6.toInt ∧ z6.toInt ≤ 1073741823 := by omega
    have sc : 0 ≤ z8.toInt ∧ z8.toInt < z2.toInt := by omega
    clear az1 rz1 az2 rz2 az3 rz3 az4 rz4 az5 rz5 az6 rz6 az7 rz7 az8 rz8 r_ps r_pra r_psa r_prb r_psb r_pp
    refine ow_new X0 hx hZ hown (hw _ (List.mem_of_getElem? (i := 2) rfl)) (hw _ (List.mem_of_getElem? (i := 3) rfl)) (hw _ (List.mem_of_getElem? (i := 4) rfl)) e0 (hb hby at_87) (by decide) (by decide) (pc' := 90) rfl (fun T9 h9 b9 g9 X9 e9 E9 A9 D9 => ?_)
    have g_b9 : n0 ≤ b9 := Nat.le_trans Z0 (Nat.le_of_eq g9.symm)
    have sz_b9 : h0.size ≤ b9 := Nat.le_trans (Keep.refl h0 []).1 (Nat.le_of_eq g9.symm)
    have Zs9 : n0 ≤ h9.size := Nat.le_trans Z0 E9.1
    have K9 := (Keep.refl h0 []).ext E9
    have F_b9_player : Fld Z h9 b9 "com/example/cubilete/cubilete/rules/Sheet" "player" "Ljava/lang/String;" .null := D9 (Or.inr (hw _ (List.mem_of_getElem? (i := 20) rfl))) (ty := (.object "java/lang/String")) (by decide)
    have F_b9_points : Fld Z h9 b9 "com/example/cubilete/cubilete/rules/Sheet" "points" "[I" .null := D9 (Or.inr (hw _ (List.mem_of_getElem? (i := 23) rfl))) (ty := (.array .int)) (by decide)
    have F_b9_filled : Fld Z h9 b9 "com/example/cubilete/cubilete/rules/Sheet" "filled" "I" (.int (0 : Int32)) := D9 (Or.inl (hw _ (List.mem_of_getElem? (i := 43) rfl))) (ty := .int) (by decide)
    have F_b9_total : Fld Z h9 b9 "com/example/cubilete/cubilete/rules/Sheet" "total" "I" (.int (0 : Int32)) := D9 (Or.inl (hw _ (List.mem_of_getElem? (i := 45) rfl))) (ty := .int) (by decide)
    refine ow_dup X9 hx (hb hby at_90) rfl (pc' := 91) rfl ?_
    have wS10 : ∀ a ∈ Bundle.stringAtoms, a.before a0 Z = true := fun a ha => by
      simp only [Bundle.stringAtoms, Bundle.sN, List.mem_cons, List.not_mem_nil, or_false] at ha
      rcases ha with rfl | rfl | rfl | rfl | rfl | rfl | rfl
      · exact (hw _ (List.mem_of_getElem? (i := 6) rfl))
      · exact (hw _ (List.mem_of_getElem? (i := 7) rfl))
      · exact (hw _ (List.mem_of_getElem? (i := 8) rfl))
      · exact (hw _ (List.mem_of_getElem? (i := 9) rfl))
      · exact (hw _ (List.mem_of_getElem? (i := 10) rfl))
      · exact (hw _ (List.mem_of_getElem? (i := 11) rfl))
      · exact (hw _ (List.mem_of_getElem? (i := 12) rfl))
    refine ow_ldcS X9 hx hZ hown (hw _ (List.mem_of_getElem? (i := 5) rfl)) wS10 e9 hS0 (Nat.zero_le _) (hb hby at_91) 1024 (by decide) (by decide) (by decide) (by decide) (pc' := 93) rfl (fun a10 T10 h10 k10 X10 e10 E10 hS10 hk10 hZ hown => ?_)
    have E_b9_10 := A9.ext E10
    have F_b9_player_10 := F_b9_player.ext E10
    have F_b9_points_10 := F_b9_points.ext E10
    have F_b9_filled_10 := F_b9_filled.ext E10
    have F_b9_total_10 := F_b9_total.ext E10
    have Zs10 : n0 ≤ h10.size := Nat.le_trans Zs9 E10.1
    have K10 := K9.ext E10
    refine ow_iload X10 hx (hb hby at_93) rfl (pc' := 95) rfl ?_
    refine ow_callI X10 hx hZ rfl rfl hown (hw _ (List.mem_of_getElem? (i := 13) rfl)) (hw _ (List.mem_of_getElem? (i := 14) rfl)) (hw _ (List.mem_of_getElem? (i := 4) rfl)) (hw _ (List.mem_of_getElem? (i := 15) rfl)) (by decide) (rm_shInit l Z a0 hw [] b9 a10 z2 h10 n0 Zs10 E_b9_10 F_b9_player_10 F_b9_points_10 F_b9_filled_10 F_b9_total_10 g_b9 (by first | decide | omega) (by first | decide | omega)) e10 1 (by decide) (by decide) (by decide) (by decide) [(.ref a10), (.int z2)] (by rw [hml]; rfl) pd_6 rfl rfl rfl (Nat.le_of_eq rfl) (hb hby at_95) (pc' := 98) rfl (fun v11 T11 L11 hQ11 X11 => ?_)
    obtain ⟨b11, ka_11, rfl, Nc11, Kc11, P11_0, P11_1, P11_2, P11_3, P11_4, P11_5, P11_6, P11_7⟩ := hQ11
    have ne_b9_b11 : b9 ≠ b11 := Nat.ne_of_lt (Nat.lt_of_lt_of_le E_b9_10.lt P11_6)
    have sz_b11 : h0.size ≤ b11 := Nat.le_trans K10.1 P11_6
    have Zs11 : n0 ≤ T11.heap.size := Nat.le_trans Zs10 Kc11.1
    have hks11 : k10 ≤ T11.heap.size := Nat.le_trans hk10 Kc11.1
    have K11 := K10.trans Kc11 (allS (Or.inr sz_b9) all0)
    have N11 := Fr.app N0 Nc11
    show Ends _ _ _ _ T11 (mkF m 98 #[.val (.int ps), .val (.int pra), .val (.int psa), .val (.int prb), .val (.int psb), .val (.int pp), .val (.int z2), .val (.int (0 : Int32)), .val (.int z4), .val (.int z5), .val (.int z6), .val (.int (-1 : Int32)), .val (.int z8), .unset, .unset, .unset, .unset] [(.ref b9)])
    refine ow_astore X11 hx (Ls' := #[.val (.int ps), .val (.int pra), .val (.int psa), .val (.int prb), .val (.int psb), .val (.int pp), .val (.int z2), .val (.int (0 : Int32)), .val (.int z4), .val (.int z5), .val (.int z6), .val (.int (-1 : Int32)), .val (.int z8), .val (.ref b9), .unset, .unset, .unset]) (hb hby at_98) rfl rfl (pc' := 100) rfl ?_
    refine ow_aload X11 hx (hb hby at_100) rfl rfl (pc' := 102) rfl ?_
    refine ow_iload X11 hx (hb hby at_102) rfl (pc' := 104) rfl ?_
    refine ow_iload X11 hx (hb hby at_104) rfl (pc' := 106) rfl ?_
    refine ow_callV X11 hx hZ rfl hown (hw _ (List.mem_of_getElem? (i := 29) rfl)) (hw _ (List.mem_of_getElem? (i := 30) rfl)) (hw _ (List.mem_of_getElem? (i := 32) rfl)) (hw _ (List.mem_of_getElem? (i := 31) rfl)) (hw _ (List.mem_of_getElem? (i := 4) rfl)) (hw _ (List.mem_of_getElem? (i := 33) rfl)) (by decide) (rm_shFill l Z a0 hw [] b9 z4 z5 b11 ka_11 z2 (fun j => if (j : Int) < z2.toInt then (-2147483648 : Int32) else (fun _ => 0) j) (0 : Int32) (0 : Int32) T11.heap n0 Zs11 P11_0 P11_1 P11_2 P11_3 P11_4 g_b9 P11_5 P11_7 (by first | decide | omega) (by first | decide | omega) (by first | decide | omega) (by first | decide | omega) (by first | decide | omega) (by first | decide | omega) (by first | decide | omega) (by first | decide | omega) (by first | decide | omega)) rfl 0 (by decide) (by decide) (by decide) (by decide) [(.int z4), (.int z5)] (by rw [hml]; rfl) pd_7 rfl P11_0 rfl rfl (Nat.le_of_eq rfl) (hb hby at_106) (pc' := 109) rfl (fun v12 T12 L12 hQ12 X12 => ?_)
    obtain ⟨zf_12, zt_12, rfl, Nc12, Kc12, P12_0, P12_1, P12_2, P12_3, P12_4, P12_5⟩ := hQ12
    have P12_5 : zf_12.toInt = (0 : Int) + 1 ∧ zt_12.toInt = (0 : Int) + z5.toInt := P12_5
    have Zs12 : n0 ≤ T12.heap.size := Nat.le_trans Zs11 Kc12.1
    have hks12 : k10 ≤ T12.heap.size := Nat.le_trans hks11 Kc12.1
    have K12 := K11.trans Kc12 (allS (Or.inr sz_b9) (allS (Or.inr sz_b11) all0))
    have N12 := Fr.app N11 Nc12
    show Ends _ _ _ _ T12 (mkF m 109 #[.val (.int ps), .val (.int pra), .val (.int psa), .val (.int prb), .val (.int psb), .val (.int pp), .val (.int z2), .val (.int (0 : Int32)), .val (.int z4), .val (.int z5), .val (.int z6), .val (.int (-1 : Int32)), .val (.int z8), .val (.ref b9), .unset, .unset, .unset] [])
    refine ow_iload X12 hx (hb hby at_109) rfl (pc' := 111) rfl ?_
    refine ow_ifY X12 hx (hb hby at_111) (by decide) (by decide) (pc' := 123) (by decide) ?_
    refine ow_iload X12 hx (hb hby at_123) rfl (pc' := 125) rfl ?_
    refine ow_ifY X12 hx (hb hby at_125) (by decide) (by decide) (pc' := 132) (by decide) ?_
    refine ow_iconst X12 hx (z := (1 : Int32)) (hb hby at_132) rfl (pc' := 133) rfl ?_
    refine ow_istore X12 hx (Ls' := #[.val (.int ps), .val (.int pra), .val (.int psa), .val (.int prb), .val (.int psb), .val (.int pp), .val (.int z2), .val (.int (0 : Int32)), .val (.int z4), .val (.int z5), .val (.int z6), .val (.int (-1 : Int32)), .val (.int z8), .val (.ref b9), .val (.int (1 : Int32)), .unset, .unset]) (hb hby at_133) rfl (pc' := 135) rfl ?_
    refine ow_iload X12 hx (hb hby at_135) rfl (pc' := 137) rfl ?_
    refine ow_ifY X12 hx (hb hby at_137) (by decide) (by decide) (pc' := 148) (by decide) ?_
    refine ow_iload X12 hx (hb hby at_148) rfl (pc' := 150) rfl ?_
    refine ow_istore X12 hx (Ls' := #[.val (.int ps), .val (.int pra), .val (.int psa), .val (.int prb), .val (.int psb), .val (.int pp), .val (.int z2), .val (.int (0 : Int32)), .val (.int z4), .val (.int z5), .val (.int z6), .val (.int (-1 : Int32)), .val (.int z8), .val (.ref b9), .val (.int (1 : Int32)), .val (.int z5), .unset]) (hb hby at_150) rfl (pc' := 152) rfl ?_
    refine ow_iload X12 hx (hb hby at_152) rfl (pc' := 154) rfl ?_
    refine ow_iload X12 hx (hb hby at_154) rfl (pc' := 156) rfl ?_
    refine ow_icmp_ne X12 hx (z8.toInt) (z4.toInt) (hb hby at_156) rfl rfl (by decide) (pt := 166) (by decide) (pf := 159) rfl (fun c156 => ?_) (fun c156 => ?_)
    · refine ow_iload X12 hx (hb hby at_166) rfl (pc' := 168) rfl ?_
      refine ow_ifY X12 hx (hb hby at_168) (by decide) (by decide) (pc' := 185) (by decide) ?_
      refine ow_iconst X12 hx (z := (-1 : Int32)) (hb hby at_185) rfl (pc' := 186) rfl ?_
      refine ow_istore X12 hx (Ls' := #[.val (.int ps), .val (.int pra), .val (.int psa), .val (.int prb), .val (.int psb), .val (.int pp), .val (.int z2), .val (.int (0 : Int32)), .val (.int z4), .val (.int z5), .val (.int z6), .val (.int (-1 : Int32)), .val (.int z8), .val (.ref b9), .val (.int (1 : Int32)), .val (.int z5), .val (.int (-1 : Int32))]) (hb hby at_186) rfl (pc' := 188) rfl ?_
      refine ow_aload X12 hx (hb hby at_188) rfl rfl (pc' := 190) rfl ?_
      refine ow_callVPI X12 hx hZ rfl hown (hw _ (List.mem_of_getElem? (i := 46) rfl)) (hw _ (List.mem_of_getElem? (i := 47) rfl)) (hw _ (List.mem_of_getElem? (i := 49) rfl)) (hw _ (List.mem_of_getElem? (i := 48) rfl)) (hw _ (List.mem_of_getElem? (i := 4) rfl)) (hw _ (List.mem_of_getElem? (i := 50) rfl)) (by decide) (rm_rows l Z a0 hw [] b9 b11 ka_11 z2 (upd (fun j => if (j : Int) < z2.toInt then (-2147483648 : Int32) else (fun _ => 0) j) z4.toInt.toNat z5) T12.heap P12_1 P12_4) rfl 0 (by decide) (by decide) (by decide) (by decide) [] (by rw [hml]; rfl) pd_8 rfl P12_0 rfl rfl (Nat.le_of_eq rfl) (hb hby at_190) (pc' := 193) rfl (fun z13 T13 hz13 X13 e13 => ?_)
      have az13 : z13.toInt = z2.toInt := hz13
      have rz13 := rng32 z13
      refine ow_iload X13 hx (hb hby at_193) rfl (pc' := 195) rfl ?_
      refine ow_icmp_ne X13 hx (z13.toInt) (z2.toInt) (hb hby at_195) rfl rfl (by decide) (pt := 274) (by decide) (pf := 198) rfl (fun c195 => absurd c195 (by omega)) (fun c195 => ?_)
      refine ow_aload X13 hx (hb hby at_198) rfl rfl (pc' := 200) rfl ?_
      refine ow_callVPI X13 hx hZ rfl hown (hw _ (List.mem_of_getElem? (i := 51) rfl)) (hw _ (List.mem_of_getElem? (i := 52) rfl)) (hw _ (List.mem_of_getElem? (i := 54) rfl)) (hw _ (List.mem_of_getElem? (i := 53) rfl)) (hw _ (List.mem_of_getElem? (i := 4) rfl)) (hw _ (List.mem_of_getElem? (i := 55) rfl)) (by decide) (rm_filled l Z a0 hw [] b9 zf_12 T12.heap P12_2) e13 0 (by decide) (by decide) (by decide) (by decide) [] (by rw [hml]; rfl) pd_8 rfl P12_0 rfl rfl (Nat.le_of_eq rfl) (hb hby at_200) (pc' := 203) rfl (fun z14 T14 hz14 X14 e14 => ?_)
      have az14 : z14.toInt = zf_12.toInt := hz14
      have rz14 := rng32 z14
      refine ow_iload X14 hx (hb hby at_203) rfl (pc' := 205) rfl ?_
      refine ow_icmp_ne X14 hx (z14.toInt) ((1 : Int)) (hb hby at_205) rfl rfl (by decide) (pt := 274) (by decide) (pf := 208) rfl (fun c205 => absurd c205 (by omega)) (fun c205 => ?_)
      refine ow_aload X14 hx (hb hby at_208) rfl rfl (pc' := 210) rfl ?_
      refine ow_callVPI X14 hx hZ rfl hown (hw _ (List.mem_of_getElem? (i := 56) rfl)) (hw _ (List.mem_of_getElem? (i := 57) rfl)) (hw _ (List.mem_of_getElem? (i := 59) rfl)) (hw _ (List.mem_of_getElem? (i := 58) rfl)) (hw _ (List.mem_of_getElem? (i := 4) rfl)) (hw _ (List.mem_of_getElem? (i := 60) rfl)) (by decide) (rm_total l Z a0 hw [] b9 zt_12 T12.heap P12_3) e14 0 (by decide) (by decide) (by decide) (by decide) [] (by rw [hml]; rfl) pd_8 rfl P12_0 rfl rfl (Nat.le_of_eq rfl) (hb hby at_210) (pc' := 213) rfl (fun z15 T15 hz15 X15 e15 => ?_)
      have az15 : z15.toInt = zt_12.toInt := hz15
      have rz15 := rng32 z15
      refine ow_iload X15 hx (hb hby at_213) rfl (pc' := 215) rfl ?_
      refine ow_icmp_ne X15 hx (z15.toInt) (z5.toInt) (hb hby at_215) rfl rfl (by decide) (pt := 274) (by decide) (pf := 218) rfl (fun c215 => absurd c215 (by omega)) (fun c215 => ?_)
      refine ow_aload X15 hx (hb hby at_218) rfl rfl (pc' := 220) rfl ?_
      refine ow_callVPI X15 hx hZ rfl hown (hw _ (List.mem_of_getElem? (i := 61) rfl)) (hw _ (List.mem_of_getElem? (i := 62) rfl)) (hw _ (List.mem_of_getElem? (i := 64) rfl)) (hw _ (List.mem_of_getElem? (i := 63) rfl)) (hw _ (List.mem_of_getElem? (i := 4) rfl)) (hw _ (List.mem_of_getElem? (i := 65) rfl)) (by decide) (rm_isFull l Z a0 hw [] b9 b11 ka_11 z2 (upd (fun j => if (j : Int) < z2.toInt then (-2147483648 : Int32) else (fun _ => 0) j) z4.toInt.toNat z5) zf_12 T12.heap P12_2 P12_1 P12_4) e15 0 (by decide) (by decide) (by decide) (by decide) [] (by rw [hml]; rfl) pd_9 rfl P12_0 rfl rfl (Nat.le_of_eq rfl) (hb hby at_220) (pc' := 223) rfl (fun z16 T16 hz16 X16 e16 => ?_)
      have az16 : ((zf_12.toInt = z2.toInt) ∧ z16.toInt = 1) ∨ (¬ (zf_12.toInt = z2.toInt) ∧ z16.toInt = 0) := hz16
      have rz16 := rng32 z16
      refine ow_iload X16 hx (hb hby at_223) rfl (pc' := 225) rfl ?_
      refine ow_iload X16 hx (hb hby at_225) rfl (pc' := 227) rfl ?_
      refine ow_icmp_ne X16 hx ((1 : Int)) (z2.toInt) (hb hby at_227) rfl rfl (by decide) (pt := 234) (by decide) (pf := 230) rfl (fun c227 => ?_) (fun c227 => ?_)
      · refine ow_iconst X16 hx (z := (0 : Int32)) (hb hby at_234) rfl (pc' := 235) rfl ?_
        refine ow_icmp_ne X16 hx (z16.toInt) ((0 : Int)) (hb hby at_235) rfl rfl (by decide) (pt := 274) (by decide) (pf := 238) rfl (fun c235 => absurd c235 (by omega)) (fun c235 => ?_)
        have hb17 : ((fun j => if (j : Int) < z2.toInt then (-2147483648 : Int32) else (fun _ => 0) j) z4.toInt.toNat).toInt = -2147483648 := by show (if ((z4.toInt.toNat : Nat) : Int) < z2.toInt then (-2147483648 : Int32) else 0).toInt = _; rw [if_pos (by omega)]; rfl
        have hu17 : (z4.toInt.toNat = z4.toInt.toNat → ((upd (fun j => if (j : Int) < z2.toInt then (-2147483648 : Int32) else (fun _ => 0) j) z4.toInt.toNat z5) z4.toInt.toNat).toInt = z5.toInt) ∧ (¬ z4.toInt.toNat = z4.toInt.toNat → ((upd (fun j => if (j : Int) < z2.toInt then (-2147483648 : Int32) else (fun _ => 0) j) z4.toInt.toNat z5) z4.toInt.toNat).toInt = -2147483648) := ⟨(upd_iff (fun j => if (j : Int) < z2.toInt then (-2147483648 : Int32) else (fun _ => 0) j) z4.toInt.toNat z5 z4.toInt.toNat).1, fun q => ((upd_iff (fun j => if (j : Int) < z2.toInt then (-2147483648 : Int32) else (fun _ => 0) j) z4.toInt.toNat z5 z4.toInt.toNat).2 q).trans hb17⟩
        clear hb17
        refine ow_aload X16 hx (hb hby at_238) rfl rfl (pc' := 240) rfl ?_
        refine ow_iload X16 hx (hb hby at_240) rfl (pc' := 242) rfl ?_
        refine ow_callV X16 hx hZ rfl hown (hw _ (List.mem_of_getElem? (i := 66) rfl)) (hw _ (List.mem_of_getElem? (i := 67) rfl)) (hw _ (List.mem_of_getElem? (i := 69) rfl)) (hw _ (List.mem_of_getElem? (i := 68) rfl)) (hw _ (List.mem_of_getElem? (i := 4) rfl)) (hw _ (List.mem_of_getElem? (i := 70) rfl)) (by decide) (rm_points l Z a0 hw [] b9 z4 b11 ka_11 z2 (upd (fun j => if (j : Int) < z2.toInt then (-2147483648 : Int32) else (fun _ => 0) j) z4.toInt.toNat z5) oe T12.heap n0 Zs12 P12_1 P12_4 (ow_staKeep S_e K12 all0) (E_e.keep K12) (F_eip.keep K12 nin0) (F_ev.keep K12 nin0) (by first | decide | omega) (by first | decide | omega) (by first | decide | omega)) e16 0 (by decide) (by decide) (by decide) (by decide) [(.int z4)] (by rw [hml]; rfl) pd_4 rfl P12_0 rfl rfl (Nat.le_of_eq rfl) (hb hby at_242) (pc' := 245) rfl (fun v18 T18 L18 hQ18 X18 => ?_)
        obtain ⟨b18, zp_18, zv_18, rfl, Nc18, Kc18, P18_0, P18_1, P18_2, P18_3⟩ := hQ18
        have P18_3 : (((upd (fun j => if (j : Int) < z2.toInt then (-2147483648 : Int32) else (fun _ => 0) j) z4.toInt.toNat z5) z4.toInt.toNat).toInt = -2147483648 ∧ zp_18.toInt = 0) ∨ (¬ ((upd (fun j => if (j : Int) < z2.toInt then (-2147483648 : Int32) else (fun _ => 0) j) z4.toInt.toNat z5) z4.toInt.toNat).toInt = -2147483648 ∧ zp_18.toInt = 1 ∧ zv_18.toInt = ((upd (fun j => if (j : Int) < z2.toInt then (-2147483648 : Int32) else (fun _ => 0) j) z4.toInt.toNat z5) z4.toInt.toNat).toInt) := P18_3
        have E_b9_18 := P12_0.keep Kc18
        have F_b9_points_18 := P12_1.keep Kc18 nin0
        have F_b9_filled_18 := P12_2.keep Kc18 nin0
        have F_b9_total_18 := P12_3.keep Kc18 nin0
        have V_b11_18 := P12_4.keep Kc18 nin0
        have Zs18 : n0 ≤ T18.heap.size := Nat.le_trans Zs12 Kc18.1
        have hks18 : k10 ≤ T18.heap.size := Nat.le_trans hks12 Kc18.1
        have K18 := K12.trans Kc18 all0
        have N18 := Fr.app N12 Nc18
        show Ends _ _ _ _ T18 (mkF m 245 #[.val (.int ps), .val (.int pra), .val (.int psa), .val (.int prb), .val (.int psb), .val (.int pp), .val (.int z2), .val (.int (0 : Int32)), .val (.int z4), .val (.int z5), .val (.int z6), .val (.int (-1 : Int32)), .val (.int z8), .val (.ref b9), .val (.int (1 : Int32)), .val (.int z5), .val (.int (-1 : Int32))] [(.ref b18)])
        refine ow_iconst X18 hx (z := (-1 : Int32)) (hb hby at_245) rfl (pc' := 246) rfl ?_
        refine ow_callVPI X18 hx hZ rfl hown (hw _ (List.mem_of_getElem? (i := 86) rfl)) (hw _ (List.mem_of_getElem? (i := 87) rfl)) (hw _ (List.mem_of_getElem? (i := 89) rfl)) (hw _ (List.mem_of_getElem? (i := 88) rfl)) (hw _ (List.mem_of_getElem? (i := 73) rfl)) (hw _ (List.mem_of_getElem? (i := 90) rfl)) (by decide) (rm_orElse l Z a0 hw [] b18 (-1 : Int32) zp_18 zv_18 T18.heap P18_1 P18_2) rfl 0 (by decide) (by decide) (by decide) (by decide) [(.int (-1 : Int32))] (by rw [hml]; rfl) pd_10 rfl P18_0 rfl rfl (Nat.le_of_eq rfl) (hb hby at_246) (pc' := 249) rfl (fun z19 T19 hz19 X19 e19 => ?_)
        have az19 : (zp_18.toInt = 0 → z19.toInt = (-1 : Int)) ∧ (¬ zp_18.toInt = 0 → z19.toInt = zv_18.toInt) := hz19
        have rz19 := rng32 z19
        refine ow_iload X19 hx (hb hby at_249) rfl (pc' := 251) rfl ?_
        refine ow_icmp_ne X19 hx (z19.toInt) (z5.toInt) (hb hby at_251) rfl rfl (by decide) (pt := 274) (by decide) (pf := 254) rfl (fun c251 => absurd c251 (by omega)) (fun c251 => ?_)
        have hb20 : ((fun j => if (j : Int) < z2.toInt then (-2147483648 : Int32) else (fun _ => 0) j) z8.toInt.toNat).toInt = -2147483648 := by show (if ((z8.toInt.toNat : Nat) : Int) < z2.toInt then (-2147483648 : Int32) else 0).toInt = _; rw [if_pos (by omega)]; rfl
        have hu20 : (z8.toInt.toNat = z4.toInt.toNat → ((upd (fun j => if (j : Int) < z2.toInt then (-2147483648 : Int32) else (fun _ => 0) j) z4.toInt.toNat z5) z8.toInt.toNat).toInt = z5.toInt) ∧ (¬ z8.toInt.toNat = z4.toInt.toNat → ((upd (fun j => if (j : Int) < z2.toInt then (-2147483648 : Int32) else (fun _ => 0) j) z4.toInt.toNat z5) z8.toInt.toNat).toInt = -2147483648) := ⟨(upd_iff (fun j => if (j : Int) < z2.toInt then (-2147483648 : Int32) else (fun _ => 0) j) z4.toInt.toNat z5 z8.toInt.toNat).1, fun q => ((upd_iff (fun j => if (j : Int) < z2.toInt then (-2147483648 : Int32) else (fun _ => 0) j) z4.toInt.toNat z5 z8.toInt.toNat).2 q).trans hb20⟩
        clear hb20
        refine ow_aload X19 hx (hb hby at_254) rfl rfl (pc' := 256) rfl ?_
        refine ow_iload X19 hx (hb hby at_256) rfl (pc' := 258) rfl ?_
        refine ow_callV X19 hx hZ rfl hown (hw _ (List.mem_of_getElem? (i := 66) rfl)) (hw _ (List.mem_of_getElem? (i := 67) rfl)) (hw _ (List.mem_of_getElem? (i := 69) rfl)) (hw _ (List.mem_of_getElem? (i := 68) rfl)) (hw _ (List.mem_of_getElem? (i := 4) rfl)) (hw _ (List.mem_of_getElem? (i := 70) rfl)) (by decide) (rm_points l Z a0 hw [] b9 z8 b11 ka_11 z2 (upd (fun j => if (j : Int) < z2.toInt then (-2147483648 : Int32) else (fun _ => 0) j) z4.toInt.toNat z5) oe T18.heap n0 Zs18 F_b9_points_18 V_b11_18 (ow_staKeep S_e K18 all0) (E_e.keep K18) (F_eip.keep K18 nin0) (F_ev.keep K18 nin0) (by first | decide | omega) (by first | decide | omega) (by first | decide | omega)) e19 0 (by decide) (by decide) (by decide) (by decide) [(.int z8)] (by rw [hml]; rfl) pd_4 rfl E_b9_18 rfl rfl (Nat.le_of_eq rfl) (hb hby at_258) (pc' := 261) rfl (fun v21 T21 L21 hQ21 X21 => ?_)
        obtain ⟨b21, zp_21, zv_21, rfl, Nc21, Kc21, P21_0, P21_1, P21_2, P21_3⟩ := hQ21
        have P21_3 : (((upd (fun j => if (j : Int) < z2.toInt then (-2147483648 : Int32) else (fun _ => 0) j) z4.toInt.toNat z5) z8.toInt.toNat).toInt = -2147483648 ∧ zp_21.toInt = 0) ∨ (¬ ((upd (fun j => if (j : Int) < z2.toInt then (-2147483648 : Int32) else (fun _ => 0) j) z4.toInt.toNat z5) z8.toInt.toNat).toInt = -2147483648 ∧ zp_21.toInt = 1 ∧ zv_21.toInt = ((upd (fun j => if (j : Int) < z2.toInt then (-2147483648 : Int32) else (fun _ => 0) j) z4.toInt.toNat z5) z8.toInt.toNat).toInt) := P21_3
        have E_b9_21 := E_b9_18.keep Kc21
        have F_b9_points_21 := F_b9_points_18.keep Kc21 nin0
        have F_b9_filled_21 := F_b9_filled_18.keep Kc21 nin0
        have F_b9_total_21 := F_b9_total_18.keep Kc21 nin0
        have V_b11_21 := V_b11_18.keep Kc21 nin0
        have E_b18_21 := P18_0.keep Kc21
        have F_b18_isPresent_21 := P18_1.keep Kc21 nin0
        have F_b18_value_21 := P18_2.keep Kc21 nin0
        have Zs21 : n0 ≤ T21.heap.size := Nat.le_trans Zs18 Kc21.1
        have hks21 : k10 ≤ T21.heap.size := Nat.le_trans hks18 Kc21.1
        have K21 := K18.trans Kc21 all0
        have N21 := Fr.app N18 Nc21
        show Ends _ _ _ _ T21 (mkF m 261 #[.val (.int ps), .val (.int pra), .val (.int psa), .val (.int prb), .val (.int psb), .val (.int pp), .val (.int z2), .val (.int (0 : Int32)), .val (.int z4), .val (.int z5), .val (.int z6), .val (.int (-1 : Int32)), .val (.int z8), .val (.ref b9), .val (.int (1 : Int32)), .val (.int z5), .val (.int (-1 : Int32))] [(.ref b21)])
        refine ow_iconst X21 hx (z := (-1 : Int32)) (hb hby at_261) rfl (pc' := 262) rfl ?_
        refine ow_callVPI X21 hx hZ rfl hown (hw _ (List.mem_of_getElem? (i := 86) rfl)) (hw _ (List.mem_of_getElem? (i := 87) rfl)) (hw _ (List.mem_of_getElem? (i := 89) rfl)) (hw _ (List.mem_of_getElem? (i := 88) rfl)) (hw _ (List.mem_of_getElem? (i := 73) rfl)) (hw _ (List.mem_of_getElem? (i := 90) rfl)) (by decide) (rm_orElse l Z a0 hw [] b21 (-1 : Int32) zp_21 zv_21 T21.heap P21_1 P21_2) rfl 0 (by decide) (by decide) (by decide) (by decide) [(.int (-1 : Int32))] (by rw [hml]; rfl) pd_10 rfl P21_0 rfl rfl (Nat.le_of_eq rfl) (hb hby at_262) (pc' := 265) rfl (fun z22 T22 hz22 X22 e22 => ?_)
        have az22 : (zp_21.toInt = 0 → z22.toInt = (-1 : Int)) ∧ (¬ zp_21.toInt = 0 → z22.toInt = zv_21.toInt) := hz22
        have rz22 := rng32 z22
        refine ow_iload X22 hx (hb hby at_265) rfl (pc' := 267) rfl ?_
        refine ow_icmp_ne X22 hx (z22.toInt) ((-1 : Int)) (hb hby at_267) rfl rfl (by decide) (pt := 274) (by decide) (pf := 270) rfl (fun c267 => absurd c267 (by omega)) (fun c267 => ?_)
        refine ow_iconst X22 hx (z := (1 : Int32)) (hb hby at_270) rfl (pc' := 271) rfl ?_
        refine ow_goto X22 hx (hb hby at_271) (by decide) (pc' := 275) (by decide) ?_
        exact ow_retBW X22 hx hret hlk (hb hby at_275) hS10 (by rw [e22]; exact hks21) (by decide) (by decide) (z' := (1 : Int32)) rfl ⟨rfl, N21⟩
      · refine ow_iconst X16 hx (z := (1 : Int32)) (hb hby at_230) rfl (pc' := 231) rfl ?_
        refine ow_goto X16 hx (hb hby at_231) (by decide) (pc' := 235) (by decide) ?_
        refine ow_icmp_ne X16 hx (z16.toInt) ((1 : Int)) (hb hby at_235) rfl rfl (by decide) (pt := 274) (by decide) (pf := 238) rfl (fun c235 => absurd c235 (by omega)) (fun c235 => ?_)
        have hb23 : ((fun j => if (j : Int) < z2.toInt then (-2147483648 : Int32) else (fun _ => 0) j) z4.toInt.toNat).toInt = -2147483648 := by show (if ((z4.toInt.toNat : Nat) : Int) < z2.toInt then (-2147483648 : Int32) else 0).toInt = _; rw [if_pos (by omega)]; rfl
        have hu23 : (z4.toInt.toNat = z4.toInt.toNat → ((upd (fun j => if (j : Int) < z2.toInt then (-2147483648 : Int32) else (fun _ => 0) j) z4.toInt.toNat z5) z4.toInt.toNat).toInt = z5.toInt) ∧ (¬ z4.toInt.toNat = z4.toInt.toNat → ((upd (fun j => if (j : Int) < z2.toInt then (-2147483648 : Int32) else (fun _ => 0) j) z4.toInt.toNat z5) z4.toInt.toNat).toInt = -2147483648) := ⟨(upd_iff (fun j => if (j : Int) < z2.toInt then (-2147483648 : Int32) else (fun _ => 0) j) z4.toInt.toNat z5 z4.toInt.toNat).1, fun q => ((upd_iff (fun j => if (j : Int) < z2.toInt then (-2147483648 : Int32) else (fun _ => 0) j) z4.toInt.toNat z5 z4.toInt.toNat).2 q).trans hb23⟩
        clear hb23
        refine ow_aload X16 hx (hb hby at_238) rfl rfl (pc' := 240) rfl ?_
        refine ow_iload X16 hx (hb hby at_240) rfl (pc' := 242) rfl ?_
        refine ow_callV X16 hx hZ rfl hown (hw _ (List.mem_of_getElem? (i := 66) rfl)) (hw _ (List.mem_of_getElem? (i := 67) rfl)) (hw _ (List.mem_of_getElem? (i := 69) rfl)) (hw _ (List.mem_of_getElem? (i := 68) rfl)) (hw _ (List.mem_of_getElem? (i := 4) rfl)) (hw _ (List.mem_of_getElem? (i := 70) rfl)) (by decide) (rm_points l Z a0 hw [] b9 z4 b11 ka_11 z2 (upd (fun j => if (j : Int) < z2.toInt then (-2147483648 : Int32) else (fun _ => 0) j) z4.toInt.toNat z5) oe T12.heap n0 Zs12 P12_1 P12_4 (ow_staKeep S_e K12 all0) (E_e.keep K12) (F_eip.keep K12 nin0) (F_ev.keep K12 nin0) (by first | decide | omega) (by first | decide | omega) (by first | decide | omega)) e16 0 (by decide) (by decide) (by decide) (by decide) [(.int z4)] (by rw [hml]; rfl) pd_4 rfl P12_0 rfl rfl (Nat.le_of_eq rfl) (hb hby at_242) (pc' := 245) rfl (fun v24 T24 L24 hQ24 X24 => ?_)
        obtain ⟨b24, zp_24, zv_24, rfl, Nc24, Kc24, P24_0, P24_1, P24_2, P24_3⟩ := hQ24
        have P24_3 : (((upd (fun j => if (j : Int) < z2.toInt then (-2147483648 : Int32) else (fun _ => 0) j) z4.toInt.toNat z5) z4.toInt.toNat).toInt = -2147483648 ∧ zp_24.toInt = 0) ∨ (¬ ((upd (fun j => if (j : Int) < z2.toInt then (-2147483648 : Int32) else (fun _ => 0) j) z4.toInt.toNat z5) z4.toInt.toNat).toInt = -2147483648 ∧ zp_24.toInt = 1 ∧ zv_24.toInt = ((upd (fun j => if (j : Int) < z2.toInt then (-2147483648 : Int32) else (fun _ => 0) j) z4.toInt.toNat z5) z4.toInt.toNat).toInt) := P24_3
        have E_b9_24 := P12_0.keep Kc24
        have F_b9_points_24 := P12_1.keep Kc24 nin0
        have F_b9_filled_24 := P12_2.keep Kc24 nin0
        have F_b9_total_24 := P12_3.keep Kc24 nin0
        have V_b11_24 := P12_4.keep Kc24 nin0
        have Zs24 : n0 ≤ T24.heap.size := Nat.le_trans Zs12 Kc24.1
        have hks24 : k10 ≤ T24.heap.size := Nat.le_trans hks12 Kc24.1
        have K24 := K12.trans Kc24 all0
        have N24 := Fr.app N12 Nc24
        show Ends _ _ _ _ T24 (mkF m 245 #[.val (.int ps), .val (.int pra), .val (.int psa), .val (.int prb), .val (.int psb), .val (.int pp), .val (.int z2), .val (.int (0 : Int32)), .val (.int z4), .val (.int z5), .val (.int z6), .val (.int (-1 : Int32)), .val (.int z8), .val (.ref b9), .val (.int (1 : Int32)), .val (.int z5), .val (.int (-1 : Int32))] [(.ref b24)])
        refine ow_iconst X24 hx (z := (-1 : Int32)) (hb hby at_245) rfl (pc' := 246) rfl ?_
        refine ow_callVPI X24 hx hZ rfl hown (hw _ (List.mem_of_getElem? (i := 86) rfl)) (hw _ (List.mem_of_getElem? (i := 87) rfl)) (hw _ (List.mem_of_getElem? (i := 89) rfl)) (hw _ (List.mem_of_getElem? (i := 88) rfl)) (hw _ (List.mem_of_getElem? (i := 73) rfl)) (hw _ (List.mem_of_getElem? (i := 90) rfl)) (by decide) (rm_orElse l Z a0 hw [] b24 (-1 : Int32) zp_24 zv_24 T24.heap P24_1 P24_2) rfl 0 (by decide) (by decide) (by decide) (by decide) [(.int (-1 : Int32))] (by rw [hml]; rfl) pd_10 rfl P24_0 rfl rfl (Nat.le_of_eq rfl) (hb hby at_246) (pc' := 249) rfl (fun z25 T25 hz25 X25 e25 => ?_)
        have az25 : (zp_24.toInt = 0 → z25.toInt = (-1 : Int)) ∧ (¬ zp_24.toInt = 0 → z25.toInt = zv_24.toInt) := hz25
        have rz25 := rng32 z25
        refine ow_iload X25 hx (hb hby at_249) rfl (pc' := 251) rfl ?_
        refine ow_icmp_ne X25 hx (z25.toInt) (z5.toInt) (hb hby at_251) rfl rfl (by decide) (pt := 274) (by decide) (pf := 254) rfl (fun c251 => absurd c251 (by omega)) (fun c251 => ?_)
        have hb26 : ((fun j => if (j : Int) < z2.toInt then (-2147483648 : Int32) else (fun _ => 0) j) z8.toInt.toNat).toInt = -2147483648 := by show (if ((z8.toInt.toNat : Nat) : Int) < z2.toInt then (-2147483648 : Int32) else 0).toInt = _; rw [if_pos (by omega)]; rfl
        have hu26 : (z8.toInt.toNat = z4.toInt.toNat → ((upd (fun j => if (j : Int) < z2.toInt then (-2147483648 : Int32) else (fun _ => 0) j) z4.toInt.toNat z5) z8.toInt.toNat).toInt = z5.toInt) ∧ (¬ z8.toInt.toNat = z4.toInt.toNat → ((upd (fun j => if (j : Int) < z2.toInt then (-2147483648 : Int32) else (fun _ => 0) j) z4.toInt.toNat z5) z8.toInt.toNat).toInt = -2147483648) := ⟨(upd_iff (fun j => if (j : Int) < z2.toInt then (-2147483648 : Int32) else (fun _ => 0) j) z4.toInt.toNat z5 z8.toInt.toNat).1, fun q => ((upd_iff (fun j => if (j : Int) < z2.toInt then (-2147483648 : Int32) else (fun _ => 0) j) z4.toInt.toNat z5 z8.toInt.toNat).2 q).trans hb26⟩
        clear hb26
        refine ow_aload X25 hx (hb hby at_254) rfl rfl (pc' := 256) rfl ?_
        refine ow_iload X25 hx (hb hby at_256) rfl (pc' := 258) rfl ?_
        refine ow_callV X25 hx hZ rfl hown (hw _ (List.mem_of_getElem? (i := 66) rfl)) (hw _ (List.mem_of_getElem? (i := 67) rfl)) (hw _ (List.mem_of_getElem? (i := 69) rfl)) (hw _ (List.mem_of_getElem? (i := 68) rfl)) (hw _ (List.mem_of_getElem? (i := 4) rfl)) (hw _ (List.mem_of_getElem? (i := 70) rfl)) (by decide) (rm_points l Z a0 hw [] b9 z8 b11 ka_11 z2 (upd (fun j => if (j : Int) < z2.toInt then (-2147483648 : Int32) else (fun _ => 0) j) z4.toInt.toNat z5) oe T24.heap n0 Zs24 F_b9_points_24 V_b11_24 (ow_staKeep S_e K24 all0) (E_e.keep K24) (F_eip.keep K24 nin0) (F_ev.keep K24 nin0) (by first | decide | omega) (by first | decide | omega) (by first | decide | omega)) e25 0 (by decide) (by decide) (by decide) (by decide) [(.int z8)] (by rw [hml]; rfl) pd_4 rfl E_b9_24 rfl rfl (Nat.le_of_eq rfl) (hb hby at_258) (pc' := 261) rfl (fun v27 T27 L27 hQ27 X27 => ?_)
        obtain ⟨b27, zp_27, zv_27, rfl, Nc27, Kc27, P27_0, P27_1, P27_2, P27_3⟩ := hQ27
        have P27_3 : (((upd (fun j => if (j : Int) < z2.toInt then (-2147483648 : Int32) else (fun _ => 0) j) z4.toInt.toNat z5) z8.toInt.toNat).toInt = -2147483648 ∧ zp_27.toInt = 0) ∨ (¬ ((upd (fun j => if (j : Int) < z2.toInt then (-2147483648 : Int32) else (fun _ => 0) j) z4.toInt.toNat z5) z8.toInt.toNat).toInt = -2147483648 ∧ zp_27.toInt = 1 ∧ zv_27.toInt = ((upd (fun j => if (j : Int) < z2.toInt then (-2147483648 : Int32) else (fun _ => 0) j) z4.toInt.toNat z5) z8.toInt.toNat).toInt) := P27_3
        have E_b9_27 := E_b9_24.keep Kc27
        have F_b9_points_27 := F_b9_points_24.keep Kc27 nin0
        have F_b9_filled_27 := F_b9_filled_24.keep Kc27 nin0
        have F_b9_total_27 := F_b9_total_24.keep Kc27 nin0
        have V_b11_27 := V_b11_24.keep Kc27 nin0
        have E_b24_27 := P24_0.keep Kc27
        have F_b24_isPresent_27 := P24_1.keep Kc27 nin0
        have F_b24_value_27 := P24_2.keep Kc27 nin0
        have Zs27 : n0 ≤ T27.heap.size := Nat.le_trans Zs24 Kc27.1
        have hks27 : k10 ≤ T27.heap.size := Nat.le_trans hks24 Kc27.1
        have K27 := K24.trans Kc27 all0
        have N27 := Fr.app N24 Nc27
        show Ends _ _ _ _ T27 (mkF m 261 #[.val (.int ps), .val (.int pra), .val (.int psa), .val (.int prb), .val (.int psb), .val (.int pp), .val (.int z2), .val (.int (0 : Int32)), .val (.int z4), .val (.int z5), .val (.int z6), .val (.int (-1 : Int32)), .val (.int z8), .val (.ref b9), .val (.int (1 : Int32)), .val (.int z5), .val (.int (-1 : Int32))] [(.ref b27)])
        refine ow_iconst X27 hx (z := (-1 : Int32)) (hb hby at_261) rfl (pc' := 262) rfl ?_
        refine ow_callVPI X27 hx hZ rfl hown (hw _ (List.mem_of_getElem? (i := 86) rfl)) (hw _ (List.mem_of_getElem? (i := 87) rfl)) (hw _ (List.mem_of_getElem? (i := 89) rfl)) (hw _ (List.mem_of_getElem? (i := 88) rfl)) (hw _ (List.mem_of_getElem? (i := 73) rfl)) (hw _ (List.mem_of_getElem? (i := 90) rfl)) (by decide) (rm_orElse l Z a0 hw [] b27 (-1 : Int32) zp_27 zv_27 T27.heap P27_1 P27_2) rfl 0 (by decide) (by decide) (by decide) (by decide) [(.int (-1 : Int32))] (by rw [hml]; rfl) pd_10 rfl P27_0 rfl rfl (Nat.le_of_eq rfl) (hb hby at_262) (pc' := 265) rfl (fun z28 T28 hz28 X28 e28 => ?_)
        have az28 : (zp_27.toInt = 0 → z28.toInt = (-1 : Int)) ∧ (¬ zp_27.toInt = 0 → z28.toInt = zv_27.toInt) := hz28
        have rz28 := rng32 z28
        refine ow_iload X28 hx (hb hby at_265) rfl (pc' := 267) rfl ?_
        refine ow_icmp_ne X28 hx (z28.toInt) ((-1 : Int)) (hb hby at_267) rfl rfl (by decide) (pt := 274) (by decide) (pf := 270) rfl (fun c267 => absurd c267 (by omega)) (fun c267 => ?_)
        refine ow_iconst X28 hx (z := (1 : Int32)) (hb hby at_270) rfl (pc' := 271) rfl ?_
        refine ow_goto X28 hx (hb hby at_271) (by decide) (pc' := 275) (by decide) ?_
        exact ow_retBW X28 hx hret hlk (hb hby at_275) hS10 (by rw [e28]; exact hks27) (by decide) (by decide) (z' := (1 : Int32)) rfl ⟨rfl, N27⟩
    · refine ow_iload X12 hx (hb hby at_159) rfl (pc' := 161) rfl ?_
      refine ow_istore X12 hx (Ls' := #[.val (.int ps), .val (.int pra), .val (.int psa), .val (.int prb), .val (.int psb), .val (.int pp), .val (.int z2), .val (.int (0 : Int32)), .val (.int z4), .val (.int z5), .val (.int z6), .val (.int (-1 : Int32)), .val (.int z8), .val (.ref b9), .val (.int (1 : Int32)), .val (.int z5), .val (.int z5)]) (hb hby at_161) rfl (pc' := 163) rfl ?_
      refine ow_goto X12 hx (hb hby at_163) (by decide) (pc' := 188) (by decide) ?_
      refine ow_aload X12 hx (hb hby at_188) rfl rfl (pc' := 190) rfl ?_
      refine ow_callVPI X12 hx hZ rfl hown (hw _ (List.mem_of_getElem? (i := 46) rfl)) (hw _ (List.mem_of_getElem? (i := 47) rfl)) (hw _ (List.mem_of_getElem? (i := 49) rfl)) (hw _ (List.mem_of_getElem? (i := 48) rfl)) (hw _ (List.mem_of_getElem? (i := 4) rfl)) (hw _ (List.mem_of_getElem? (i := 50) rfl)) (by decide) (rm_rows l Z a0 hw [] b9 b11 ka_11 z2 (upd (fun j => if (j : Int) < z2.toInt then (-2147483648 : Int32) else (fun _ => 0) j) z4.toInt.toNat z5) T12.heap P12_1 P12_4) rfl 0 (by decide) (by decide) (by decide) (by decide) [] (by rw [hml]; rfl) pd_8 rfl P12_0 rfl rfl (Nat.le_of_eq rfl) (hb hby at_190) (pc' := 193) rfl (fun z29 T29 hz29 X29 e29 => ?_)
      have az29 : z29.toInt = z2.toInt := hz29
      have rz29 := rng32 z29
      refine ow_iload X29 hx (hb hby at_193) rfl (pc' := 195) rfl ?_
      refine ow_icmp_ne X29 hx (z29.toInt) (z2.toInt) (hb hby at_195) rfl rfl (by decide) (pt := 274) (by decide) (pf := 198) rfl (fun c195 => absurd c195 (by omega)) (fun c195 => ?_)
      refine ow_aload X29 hx (hb hby at_198) rfl rfl (pc' := 200) rfl ?_
      refine ow_callVPI X29 hx hZ rfl hown (hw _ (List.mem_of_getElem? (i := 51) rfl)) (hw _ (List.mem_of_getElem? (i := 52) rfl)) (hw _ (List.mem_of_getElem? (i := 54) rfl)) (hw _ (List.mem_of_getElem? (i := 53) rfl)) (hw _ (List.mem_of_getElem? (i := 4) rfl)) (hw _ (List.mem_of_getElem? (i := 55) rfl)) (by decide) (rm_filled l Z a0 hw [] b9 zf_12 T12.heap P12_2) e29 0 (by decide) (by decide) (by decide) (by decide) [] (by rw [hml]; rfl) pd_8 rfl P12_0 rfl rfl (Nat.le_of_eq rfl) (hb hby at_200) (pc' := 203) rfl (fun z30 T30 hz30 X30 e30 => ?_)
      have az30 : z30.toInt = zf_12.toInt := hz30
      have rz30 := rng32 z30
      refine ow_iload X30 hx (hb hby at_203) rfl (pc' := 205) rfl ?_
      refine ow_icmp_ne X30 hx (z30.toInt) ((1 : Int)) (hb hby at_205) rfl rfl (by decide) (pt := 274) (by decide) (pf := 208) rfl (fun c205 => absurd c205 (by omega)) (fun c205 => ?_)
      refine ow_aload X30 hx (hb hby at_208) rfl rfl (pc' := 210) rfl ?_
      refine ow_callVPI X30 hx hZ rfl hown (hw _ (List.mem_of_getElem? (i := 56) rfl)) (hw _ (List.mem_of_getElem? (i := 57) rfl)) (hw _ (List.mem_of_getElem? (i := 59) rfl)) (hw _ (List.mem_of_getElem? (i := 58) rfl)) (hw _ (List.mem_of_getElem? (i := 4) rfl)) (hw _ (List.mem_of_getElem? (i := 60) rfl)) (by decide) (rm_total l Z a0 hw [] b9 zt_12 T12.heap P12_3) e30 0 (by decide) (by decide) (by decide) (by decide) [] (by rw [hml]; rfl) pd_8 rfl P12_0 rfl rfl (Nat.le_of_eq rfl) (hb hby at_210) (pc' := 213) rfl (fun z31 T31 hz31 X31 e31 => ?_)
      have az31 : z31.toInt = zt_12.toInt := hz31
      have rz31 := rng32 z31
      refine ow_iload X31 hx (hb hby at_213) rfl (pc' := 215) rfl ?_
      refine ow_icmp_ne X31 hx (z31.toInt) (z5.toInt) (hb hby at_215) rfl rfl (by decide) (pt := 274) (by decide) (pf := 218) rfl (fun c215 => absurd c215 (by omega)) (fun c215 => ?_)
      refine ow_aload X31 hx (hb hby at_218) rfl rfl (pc' := 220) rfl ?_
      refine ow_callVPI X31 hx hZ rfl hown (hw _ (List.mem_of_getElem? (i := 61) rfl)) (hw _ (List.mem_of_getElem? (i := 62) rfl)) (hw _ (List.mem_of_getElem? (i := 64) rfl)) (hw _ (List.mem_of_getElem? (i := 63) rfl)) (hw _ (List.mem_of_getElem? (i := 4) rfl)) (hw _ (List.mem_of_getElem? (i := 65) rfl)) (by decide) (rm_isFull l Z a0 hw [] b9 b11 ka_11 z2 (upd (fun j => if (j : Int) < z2.toInt then (-2147483648 : Int32) else (fun _ => 0) j) z4.toInt.toNat z5) zf_12 T12.heap P12_2 P12_1 P12_4) e31 0 (by decide) (by decide) (by decide) (by decide) [] (by rw [hml]; rfl) pd_9 rfl P12_0 rfl rfl (Nat.le_of_eq rfl) (hb hby at_220) (pc' := 223) rfl (fun z32 T32 hz32 X32 e32 => ?_)
      have az32 : ((zf_12.toInt = z2.toInt) ∧ z32.toInt = 1) ∨ (¬ (zf_12.toInt = z2.toInt) ∧ z32.toInt = 0) := hz32
      have rz32 := rng32 z32
      refine ow_iload X32 hx (hb hby at_223) rfl (pc' := 225) rfl ?_
      refine ow_iload X32 hx (hb hby at_225) rfl (pc' := 227) rfl ?_
      refine ow_icmp_ne X32 hx ((1 : Int)) (z2.toInt) (hb hby at_227) rfl rfl (by decide) (pt := 234) (by decide) (pf := 230) rfl (fun c227 => ?_) (fun c227 => ?_)
      · refine ow_iconst X32 hx (z := (0 : Int32)) (hb hby at_234) rfl (pc' := 235) rfl ?_
        refine ow_icmp_ne X32 hx (z32.toInt) ((0 : Int)) (hb hby at_235) rfl rfl (by decide) (pt := 274) (by decide) (pf := 238) rfl (fun c235 => absurd c235 (by omega)) (fun c235 => ?_)
        have hb33 : ((fun j => if (j : Int) < z2.toInt then (-2147483648 : Int32) else (fun _ => 0) j) z4.toInt.toNat).toInt = -2147483648 := by show (if ((z4.toInt.toNat : Nat) : Int) < z2.toInt then (-2147483648 : Int32) else 0).toInt = _; rw [if_pos (by omega)]; rfl
        have hu33 : (z4.toInt.toNat = z4.toInt.toNat → ((upd (fun j => if (j : Int) < z2.toInt then (-2147483648 : Int32) else (fun _ => 0) j) z4.toInt.toNat z5) z4.toInt.toNat).toInt = z5.toInt) ∧ (¬ z4.toInt.toNat = z4.toInt.toNat → ((upd (fun j => if (j : Int) < z2.toInt then (-2147483648 : Int32) else (fun _ => 0) j) z4.toInt.toNat z5) z4.toInt.toNat).toInt = -2147483648) := ⟨(upd_iff (fun j => if (j : Int) < z2.toInt then (-2147483648 : Int32) else (fun _ => 0) j) z4.toInt.toNat z5 z4.toInt.toNat).1, fun q => ((upd_iff (fun j => if (j : Int) < z2.toInt then (-2147483648 : Int32) else (fun _ => 0) j) z4.toInt.toNat z5 z4.toInt.toNat).2 q).trans hb33⟩
        clear hb33
        refine ow_aload X32 hx (hb hby at_238) rfl rfl (pc' := 240) rfl ?_
        refine ow_iload X32 hx (hb hby at_240) rfl (pc' := 242) rfl ?_
        refine ow_callV X32 hx hZ rfl hown (hw _ (List.mem_of_getElem? (i := 66) rfl)) (hw _ (List.mem_of_getElem? (i := 67) rfl)) (hw _ (List.mem_of_getElem? (i := 69) rfl)) (hw _ (List.mem_of_getElem? (i := 68) rfl)) (hw _ (List.mem_of_getElem? (i := 4) rfl)) (hw _ (List.mem_of_getElem? (i := 70) rfl)) (by decide) (rm_points l Z a0 hw [] b9 z4 b11 ka_11 z2 (upd (fun j => if (j : Int) < z2.toInt then (-2147483648 : Int32) else (fun _ => 0) j) z4.toInt.toNat z5) oe T12.heap n0 Zs12 P12_1 P12_4 (ow_staKeep S_e K12 all0) (E_e.keep K12) (F_eip.keep K12 nin0) (F_ev.keep K12 nin0) (by first | decide | omega) (by first | decide | omega) (by first | decide | omega)) e32 0 (by decide) (by decide) (by decide) (by decide) [(.int z4)] (by rw [hml]; rfl) pd_4 rfl P12_0 rfl rfl (Nat.le_of_eq rfl) (hb hby at_242) (pc' := 245) rfl (fun v34 T34 L34 hQ34 X34 => ?_)
        obtain ⟨b34, zp_34, zv_34, rfl, Nc34, Kc34, P34_0, P34_1, P34_2, P34_3⟩ := hQ34
        have P34_3 : (((upd (fun j => if (j : Int) < z2.toInt then (-2147483648 : Int32) else (fun _ => 0) j) z4.toInt.toNat z5) z4.toInt.toNat).toInt = -2147483648 ∧ zp_34.toInt = 0) ∨ (¬ ((upd (fun j => if (j : Int) < z2.toInt then (-2147483648 : Int32) else (fun _ => 0) j) z4.toInt.toNat z5) z4.toInt.toNat).toInt = -2147483648 ∧ zp_34.toInt = 1 ∧ zv_34.toInt = ((upd (fun j => if (j : Int) < z2.toInt then (-2147483648 : Int32) else (fun _ => 0) j) z4.toInt.toNat z5) z4.toInt.toNat).toInt) := P34_3
        have E_b9_34 := P12_0.keep Kc34
        have F_b9_points_34 := P12_1.keep Kc34 nin0
        have F_b9_filled_34 := P12_2.keep Kc34 nin0
        have F_b9_total_34 := P12_3.keep Kc34 nin0
        have V_b11_34 := P12_4.keep Kc34 nin0
        have Zs34 : n0 ≤ T34.heap.size := Nat.le_trans Zs12 Kc34.1
        have hks34 : k10 ≤ T34.heap.size := Nat.le_trans hks12 Kc34.1
        have K34 := K12.trans Kc34 all0
        have N34 := Fr.app N12 Nc34
        show Ends _ _ _ _ T34 (mkF m 245 #[.val (.int ps), .val (.int pra), .val (.int psa), .val (.int prb), .val (.int psb), .val (.int pp), .val (.int z2), .val (.int (0 : Int32)), .val (.int z4), .val (.int z5), .val (.int z6), .val (.int (-1 : Int32)), .val (.int z8), .val (.ref b9), .val (.int (1 : Int32)), .val (.int z5), .val (.int z5)] [(.ref b34)])
        refine ow_iconst X34 hx (z := (-1 : Int32)) (hb hby at_245) rfl (pc' := 246) rfl ?_
        refine ow_callVPI X34 hx hZ rfl hown (hw _ (List.mem_of_getElem? (i := 86) rfl)) (hw _ (List.mem_of_getElem? (i := 87) rfl)) (hw _ (List.mem_of_getElem? (i := 89) rfl)) (hw _ (List.mem_of_getElem? (i := 88) rfl)) (hw _ (List.mem_of_getElem? (i := 73) rfl)) (hw _ (List.mem_of_getElem? (i := 90) rfl)) (by decide) (rm_orElse l Z a0 hw [] b34 (-1 : Int32) zp_34 zv_34 T34.heap P34_1 P34_2) rfl 0 (by decide) (by decide) (by decide) (by decide) [(.int (-1 : Int32))] (by rw [hml]; rfl) pd_10 rfl P34_0 rfl rfl (Nat.le_of_eq rfl) (hb hby at_246) (pc' := 249) rfl (fun z35 T35 hz35 X35 e35 => ?_)
        have az35 : (zp_34.toInt = 0 → z35.toInt = (-1 : Int)) ∧ (¬ zp_34.toInt = 0 → z35.toInt = zv_34.toInt) := hz35
        have rz35 := rng32 z35
        refine ow_iload X35 hx (hb hby at_249) rfl (pc' := 251) rfl ?_
        refine ow_icmp_ne X35 hx (z35.toInt) (z5.toInt) (hb hby at_251) rfl rfl (by decide) (pt := 274) (by decide) (pf := 254) rfl (fun c251 => absurd c251 (by omega)) (fun c251 => ?_)
        have hb36 : ((fun j => if (j : Int) < z2.toInt then (-2147483648 : Int32) else (fun _ => 0) j) z8.toInt.toNat).toInt = -2147483648 := by show (if ((z8.toInt.toNat : Nat) : Int) < z2.toInt then (-2147483648 : Int32) else 0).toInt = _; rw [if_pos (by omega)]; rfl
        have hu36 : (z8.toInt.toNat = z4.toInt.toNat → ((upd (fun j => if (j : Int) < z2.toInt then (-2147483648 : Int32) else (fun _ => 0) j) z4.toInt.toNat z5) z8.toInt.toNat).toInt = z5.toInt) ∧ (¬ z8.toInt.toNat = z4.toInt.toNat → ((upd (fun j => if (j : Int) < z2.toInt then (-2147483648 : Int32) else (fun _ => 0) j) z4.toInt.toNat z5) z8.toInt.toNat).toInt = -2147483648) := ⟨(upd_iff (fun j => if (j : Int) < z2.toInt then (-2147483648 : Int32) else (fun _ => 0) j) z4.toInt.toNat z5 z8.toInt.toNat).1, fun q => ((upd_iff (fun j => if (j : Int) < z2.toInt then (-2147483648 : Int32) else (fun _ => 0) j) z4.toInt.toNat z5 z8.toInt.toNat).2 q).trans hb36⟩
        clear hb36
        refine ow_aload X35 hx (hb hby at_254) rfl rfl (pc' := 256) rfl ?_
        refine ow_iload X35 hx (hb hby at_256) rfl (pc' := 258) rfl ?_
        refine ow_callV X35 hx hZ rfl hown (hw _ (List.mem_of_getElem? (i := 66) rfl)) (hw _ (List.mem_of_getElem? (i := 67) rfl)) (hw _ (List.mem_of_getElem? (i := 69) rfl)) (hw _ (List.mem_of_getElem? (i := 68) rfl)) (hw _ (List.mem_of_getElem? (i := 4) rfl)) (hw _ (List.mem_of_getElem? (i := 70) rfl)) (by decide) (rm_points l Z a0 hw [] b9 z8 b11 ka_11 z2 (upd (fun j => if (j : Int) < z2.toInt then (-2147483648 : Int32) else (fun _ => 0) j) z4.toInt.toNat z5) oe T34.heap n0 Zs34 F_b9_points_34 V_b11_34 (ow_staKeep S_e K34 all0) (E_e.keep K34) (F_eip.keep K34 nin0) (F_ev.keep K34 nin0) (by first | decide | omega) (by first | decide | omega) (by first | decide | omega)) e35 0 (by decide) (by decide) (by decide) (by decide) [(.int z8)] (by rw [hml]; rfl) pd_4 rfl E_b9_34 rfl rfl (Nat.le_of_eq rfl) (hb hby at_258) (pc' := 261) rfl (fun v37 T37 L37 hQ37 X37 => ?_)
        obtain ⟨b37, zp_37, zv_37, rfl, Nc37, Kc37, P37_0, P37_1, P37_2, P37_3⟩ := hQ37
        have P37_3 : (((upd (fun j => if (j : Int) < z2.toInt then (-2147483648 : Int32) else (fun _ => 0) j) z4.toInt.toNat z5) z8.toInt.toNat).toInt = -2147483648 ∧ zp_37.toInt = 0) ∨ (¬ ((upd (fun j => if (j : Int) < z2.toInt then (-2147483648 : Int32) else (fun _ => 0) j) z4.toInt.toNat z5) z8.toInt.toNat).toInt = -2147483648 ∧ zp_37.toInt = 1 ∧ zv_37.toInt = ((upd (fun j => if (j : Int) < z2.toInt then (-2147483648 : Int32) else (fun _ => 0) j) z4.toInt.toNat z5) z8.toInt.toNat).toInt) := P37_3
        have E_b9_37 := E_b9_34.keep Kc37
        have F_b9_points_37 := F_b9_points_34.keep Kc37 nin0
        have F_b9_filled_37 := F_b9_filled_34.keep Kc37 nin0
        have F_b9_total_37 := F_b9_total_34.keep Kc37 nin0
        have V_b11_37 := V_b11_34.keep Kc37 nin0
        have E_b34_37 := P34_0.keep Kc37
        have F_b34_isPresent_37 := P34_1.keep Kc37 nin0
        have F_b34_value_37 := P34_2.keep Kc37 nin0
        have Zs37 : n0 ≤ T37.heap.size := Nat.le_trans Zs34 Kc37.1
        have hks37 : k10 ≤ T37.heap.size := Nat.le_trans hks34 Kc37.1
        have K37 := K34.trans Kc37 all0
        have N37 := Fr.app N34 Nc37
        show Ends _ _ _ _ T37 (mkF m 261 #[.val (.int ps), .val (.int pra), .val (.int psa), .val (.int prb), .val (.int psb), .val (.int pp), .val (.int z2), .val (.int (0 : Int32)), .val (.int z4), .val (.int z5), .val (.int z6), .val (.int (-1 : Int32)), .val (.int z8), .val (.ref b9), .val (.int (1 : Int32)), .val (.int z5), .val (.int z5)] [(.ref b37)])
        refine ow_iconst X37 hx (z := (-1 : Int32)) (hb hby at_261) rfl (pc' := 262) rfl ?_
        refine ow_callVPI X37 hx hZ rfl hown (hw _ (List.mem_of_getElem? (i := 86) rfl)) (hw _ (List.mem_of_getElem? (i := 87) rfl)) (hw _ (List.mem_of_getElem? (i := 89) rfl)) (hw _ (List.mem_of_getElem? (i := 88) rfl)) (hw _ (List.mem_of_getElem? (i := 73) rfl)) (hw _ (List.mem_of_getElem? (i := 90) rfl)) (by decide) (rm_orElse l Z a0 hw [] b37 (-1 : Int32) zp_37 zv_37 T37.heap P37_1 P37_2) rfl 0 (by decide) (by decide) (by decide) (by decide) [(.int (-1 : Int32))] (by rw [hml]; rfl) pd_10 rfl P37_0 rfl rfl (Nat.le_of_eq rfl) (hb hby at_262) (pc' := 265) rfl (fun z38 T38 hz38 X38 e38 => ?_)
        have az38 : (zp_37.toInt = 0 → z38.toInt = (-1 : Int)) ∧ (¬ zp_37.toInt = 0 → z38.toInt = zv_37.toInt) := hz38
        have rz38 := rng32 z38
        refine ow_iload X38 hx (hb hby at_265) rfl (pc' := 267) rfl ?_
        refine ow_icmp_ne X38 hx (z38.toInt) (z5.toInt) (hb hby at_267) rfl rfl (by decide) (pt := 274) (by decide) (pf := 270) rfl (fun c267 => absurd c267 (by omega)) (fun c267 => ?_)
        refine ow_iconst X38 hx (z := (1 : Int32)) (hb hby at_270) rfl (pc' := 271) rfl ?_
        refine ow_goto X38 hx (hb hby at_271) (by decide) (pc' := 275) (by decide) ?_
        exact ow_retBW X38 hx hret hlk (hb hby at_275) hS10 (by rw [e38]; exact hks37) (by decide) (by decide) (z' := (1 : Int32)) rfl ⟨rfl, N37⟩
      · refine ow_iconst X32 hx (z := (1 : Int32)) (hb hby at_230) rfl (pc' := 231) rfl ?_
        refine ow_goto X32 hx (hb hby at_231) (by decide) (pc' := 235) (by decide) ?_
        refine ow_icmp_ne X32 hx (z32.toInt) ((1 : Int)) (hb hby at_235) rfl rfl (by decide) (pt := 274) (by decide) (pf := 238) rfl (fun c235 => absurd c235 (by omega)) (fun c235 => ?_)
        have hb39 : ((fun j => if (j : Int) < z2.toInt then (-2147483648 : Int32) else (fun _ => 0) j) z4.toInt.toNat).toInt = -2147483648 := by show (if ((z4.toInt.toNat : Nat) : Int) < z2.toInt then (-2147483648 : Int32) else 0).toInt = _; rw [if_pos (by omega)]; rfl
        have hu39 : (z4.toInt.toNat = z4.toInt.toNat → ((upd (fun j => if (j : Int) < z2.toInt then (-2147483648 : Int32) else (fun _ => 0) j) z4.toInt.toNat z5) z4.toInt.toNat).toInt = z5.toInt) ∧ (¬ z4.toInt.toNat = z4.toInt.toNat → ((upd (fun j => if (j : Int) < z2.toInt then (-2147483648 : Int32) else (fun _ => 0) j) z4.toInt.toNat z5) z4.toInt.toNat).toInt = -2147483648) := ⟨(upd_iff (fun j => if (j : Int) < z2.toInt then (-2147483648 : Int32) else (fun _ => 0) j) z4.toInt.toNat z5 z4.toInt.toNat).1, fun q => ((upd_iff (fun j => if (j : Int) < z2.toInt then (-2147483648 : Int32) else (fun _ => 0) j) z4.toInt.toNat z5 z4.toInt.toNat).2 q).trans hb39⟩
        clear hb39
        refine ow_aload X32 hx (hb hby at_238) rfl rfl (pc' := 240) rfl ?_
        refine ow_iload X32 hx (hb hby at_240) rfl (pc' := 242) rfl ?_
        refine ow_callV X32 hx hZ rfl hown (hw _ (List.mem_of_getElem? (i := 66) rfl)) (hw _ (List.mem_of_getElem? (i := 67) rfl)) (hw _ (List.mem_of_getElem? (i := 69) rfl)) (hw _ (List.mem_of_getElem? (i := 68) rfl)) (hw _ (List.mem_of_getElem? (i := 4) rfl)) (hw _ (List.mem_of_getElem? (i := 70) rfl)) (by decide) (rm_points l Z a0 hw [] b9 z4 b11 ka_11 z2 (upd (fun j => if (j : Int) < z2.toInt then (-2147483648 : Int32) else (fun _ => 0) j) z4.toInt.toNat z5) oe T12.heap n0 Zs12 P12_1 P12_4 (ow_staKeep S_e K12 all0) (E_e.keep K12) (F_eip.keep K12 nin0) (F_ev.keep K12 nin0) (by first | decide | omega) (by first | decide | omega) (by first | decide | omega)) e32 0 (by decide) (by decide) (by decide) (by decide) [(.int z4)] (by rw [hml]; rfl) pd_4 rfl P12_0 rfl rfl (Nat.le_of_eq rfl) (hb hby at_242) (pc' := 245) rfl (fun v40 T40 L40 hQ40 X40 => ?_)
        obtain ⟨b40, zp_40, zv_40, rfl, Nc40, Kc40, P40_0, P40_1, P40_2, P40_3⟩ := hQ40
        have P40_3 : (((upd (fun j => if (j : Int) < z2.toInt then (-2147483648 : Int32) else (fun _ => 0) j) z4.toInt.toNat z5) z4.toInt.toNat).toInt = -2147483648 ∧ zp_40.toInt = 0) ∨ (¬ ((upd (fun j => if (j : Int) < z2.toInt then (-2147483648 : Int32) else (fun _ => 0) j) z4.toInt.toNat z5) z4.toInt.toNat).toInt = -2147483648 ∧ zp_40.toInt = 1 ∧ zv_40.toInt = ((upd (fun j => if (j : Int) < z2.toInt then (-2147483648 : Int32) else (fun _ => 0) j) z4.toInt.toNat z5) z4.toInt.toNat).toInt) := P40_3
        have E_b9_40 := P12_0.keep Kc40
        have F_b9_points_40 := P12_1.keep Kc40 nin0
        have F_b9_filled_40 := P12_2.keep Kc40 nin0
        have F_b9_total_40 := P12_3.keep Kc40 nin0
        have V_b11_40 := P12_4.keep Kc40 nin0
        have Zs40 : n0 ≤ T40.heap.size := Nat.le_trans Zs12 Kc40.1
        have hks40 : k10 ≤ T40.heap.size := Nat.le_trans hks12 Kc40.1
        have K40 := K12.trans Kc40 all0
        have N40 := Fr.app N12 Nc40
        show Ends _ _ _ _ T40 (mkF m 245 #[.val (.int ps), .val (.int pra), .val (.int psa), .val (.int prb), .val (.int psb), .val (.int pp), .val (.int z2), .val (.int (0 : Int32)), .val (.int z4), .val (.int z5), .val (.int z6), .val (.int (-1 : Int32)), .val (.int z8), .val (.ref b9), .val (.int (1 : Int32)), .val (.int z5), .val (.int z5)] [(.ref b40)])
        refine ow_iconst X40 hx (z := (-1 : Int32)) (hb hby at_245) rfl (pc' := 246) rfl ?_
        refine ow_callVPI X40 hx hZ rfl hown (hw _ (List.mem_of_getElem? (i := 86) rfl)) (hw _ (List.mem_of_getElem? (i := 87) rfl)) (hw _ (List.mem_of_getElem? (i := 89) rfl)) (hw _ (List.mem_of_getElem? (i := 88) rfl)) (hw _ (List.mem_of_getElem? (i := 73) rfl)) (hw _ (List.mem_of_getElem? (i := 90) rfl)) (by decide) (rm_orElse l Z a0 hw [] b40 (-1 : Int32) zp_40 zv_40 T40.heap P40_1 P40_2) rfl 0 (by decide) (by decide) (by decide) (by decide) [(.int (-1 : Int32))] (by rw [hml]; rfl) pd_10 rfl P40_0 rfl rfl (Nat.le_of_eq rfl) (hb hby at_246) (pc' := 249) rfl (fun z41 T41 hz41 X41 e41 => ?_)
        have az41 : (zp_40.toInt = 0 → z41.toInt = (-1 : Int)) ∧ (¬ zp_40.toInt = 0 → z41.toInt = zv_40.toInt) := hz41
        have rz41 := rng32 z41
        refine ow_iload X41 hx (hb hby at_249) rfl (pc' := 251) rfl ?_
        refine ow_icmp_ne X41 hx (z41.toInt) (z5.toInt) (hb hby at_251) rfl rfl (by decide) (pt := 274) (by decide) (pf := 254) rfl (fun c251 => absurd c251 (by omega)) (fun c251 => ?_)
        have hb42 : ((fun j => if (j : Int) < z2.toInt then (-2147483648 : Int32) else (fun _ => 0) j) z8.toInt.toNat).toInt = -2147483648 := by show (if ((z8.toInt.toNat : Nat) : Int) < z2.toInt then (-2147483648 : Int32) else 0).toInt = _; rw [if_pos (by omega)]; rfl
        have hu42 : (z8.toInt.toNat = z4.toInt.toNat → ((upd (fun j => if (j : Int) < z2.toInt then (-2147483648 : Int32) else (fun _ => 0) j) z4.toInt.toNat z5) z8.toInt.toNat).toInt = z5.toInt) ∧ (¬ z8.toInt.toNat = z4.toInt.toNat → ((upd (fun j => if (j : Int) < z2.toInt then (-2147483648 : Int32) else (fun _ => 0) j) z4.toInt.toNat z5) z8.toInt.toNat).toInt = -2147483648) := ⟨(upd_iff (fun j => if (j : Int) < z2.toInt then (-2147483648 : Int32) else (fun _ => 0) j) z4.toInt.toNat z5 z8.toInt.toNat).1, fun q => ((upd_iff (fun j => if (j : Int) < z2.toInt then (-2147483648 : Int32) else (fun _ => 0) j) z4.toInt.toNat z5 z8.toInt.toNat).2 q).trans hb42⟩
        clear hb42
        refine ow_aload X41 hx (hb hby at_254) rfl rfl (pc' := 256) rfl ?_
        refine ow_iload X41 hx (hb hby at_256) rfl (pc' := 258) rfl ?_
        refine ow_callV X41 hx hZ rfl hown (hw _ (List.mem_of_getElem? (i := 66) rfl)) (hw _ (List.mem_of_getElem? (i := 67) rfl)) (hw _ (List.mem_of_getElem? (i := 69) rfl)) (hw _ (List.mem_of_getElem? (i := 68) rfl)) (hw _ (List.mem_of_getElem? (i := 4) rfl)) (hw _ (List.mem_of_getElem? (i := 70) rfl)) (by decide) (rm_points l Z a0 hw [] b9 z8 b11 ka_11 z2 (upd (fun j => if (j : Int) < z2.toInt then (-2147483648 : Int32) else (fun _ => 0) j) z4.toInt.toNat z5) oe T40.heap n0 Zs40 F_b9_points_40 V_b11_40 (ow_staKeep S_e K40 all0) (E_e.keep K40) (F_eip.keep K40 nin0) (F_ev.keep K40 nin0) (by first | decide | omega) (by first | decide | omega) (by first | decide | omega)) e41 0 (by decide) (by decide) (by decide) (by decide) [(.int z8)] (by rw [hml]; rfl) pd_4 rfl E_b9_40 rfl rfl (Nat.le_of_eq rfl) (hb hby at_258) (pc' := 261) rfl (fun v43 T43 L43 hQ43 X43 => ?_)
        obtain ⟨b43, zp_43, zv_43, rfl, Nc43, Kc43, P43_0, P43_1, P43_2, P43_3⟩ := hQ43
        have P43_3 : (((upd (fun j => if (j : Int) < z2.toInt then (-2147483648 : Int32) else (fun _ => 0) j) z4.toInt.toNat z5) z8.toInt.toNat).toInt = -2147483648 ∧ zp_43.toInt = 0) ∨ (¬ ((upd (fun j => if (j : Int) < z2.toInt then (-2147483648 : Int32) else (fun _ => 0) j) z4.toInt.toNat z5) z8.toInt.toNat).toInt = -2147483648 ∧ zp_43.toInt = 1 ∧ zv_43.toInt = ((upd (fun j => if (j : Int) < z2.toInt then (-2147483648 : Int32) else (fun _ => 0) j) z4.toInt.toNat z5) z8.toInt.toNat).toInt) := P43_3
        have E_b9_43 := E_b9_40.keep Kc43
        have F_b9_points_43 := F_b9_points_40.keep Kc43 nin0
        have F_b9_filled_43 := F_b9_filled_40.keep Kc43 nin0
        have F_b9_total_43 := F_b9_total_40.keep Kc43 nin0
        have V_b11_43 := V_b11_40.keep Kc43 nin0
        have E_b40_43 := P40_0.keep Kc43
        have F_b40_isPresent_43 := P40_1.keep Kc43 nin0
        have F_b40_value_43 := P40_2.keep Kc43 nin0
        have Zs43 : n0 ≤ T43.heap.size := Nat.le_trans Zs40 Kc43.1
        have hks43 : k10 ≤ T43.heap.size := Nat.le_trans hks40 Kc43.1
        have K43 := K40.trans Kc43 all0
        have N43 := Fr.app N40 Nc43
        show Ends _ _ _ _ T43 (mkF m 261 #[.val (.int ps), .val (.int pra), .val (.int psa), .val (.int prb), .val (.int psb), .val (.int pp), .val (.int z2), .val (.int (0 : Int32)), .val (.int z4), .val (.int z5), .val (.int z6), .val (.int (-1 : Int32)), .val (.int z8), .val (.ref b9), .val (.int (1 : Int32)), .val (.int z5), .val (.int z5)] [(.ref b43)])
        refine ow_iconst X43 hx (z := (-1 : Int32)) (hb hby at_261) rfl (pc' := 262) rfl ?_
        refine ow_callVPI X43 hx hZ rfl hown (hw _ (List.mem_of_getElem? (i := 86) rfl)) (hw _ (List.mem_of_getElem? (i := 87) rfl)) (hw _ (List.mem_of_getElem? (i := 89) rfl)) (hw _ (List.mem_of_getElem? (i := 88) rfl)) (hw _ (List.mem_of_getElem? (i := 73) rfl)) (hw _ (List.mem_of_getElem? (i := 90) rfl)) (by decide) (rm_orElse l Z a0 hw [] b43 (-1 : Int32) zp_43 zv_43 T43.heap P43_1 P43_2) rfl 0 (by decide) (by decide) (by decide) (by decide) [(.int (-1 : Int32))] (by rw [hml]; rfl) pd_10 rfl P43_0 rfl rfl (Nat.le_of_eq rfl) (hb hby at_262) (pc' := 265) rfl (fun z44 T44 hz44 X44 e44 => ?_)
        have az44 : (zp_43.toInt = 0 → z44.toInt = (-1 : Int)) ∧ (¬ zp_43.toInt = 0 → z44.toInt = zv_43.toInt) := hz44
        have rz44 := rng32 z44
        refine ow_iload X44 hx (hb hby at_265) rfl (pc' := 267) rfl ?_
        refine ow_icmp_ne X44 hx (z44.toInt) (z5.toInt) (hb hby at_267) rfl rfl (by decide) (pt := 274) (by decide) (pf := 270) rfl (fun c267 => absurd c267 (by omega)) (fun c267 => ?_)
        refine ow_iconst X44 hx (z := (1 : Int32)) (hb hby at_270) rfl (pc' := 271) rfl ?_
        refine ow_goto X44 hx (hb hby at_271) (by decide) (pc' := 275) (by decide) ?_
        exact ow_retBW X44 hx hret hlk (hb hby at_275) hS10 (by rw [e44]; exact hks43) (by decide) (by decide) (z' := (1 : Int32)) rfl ⟨rfl, N43⟩
  · refine ow_iloadN X0 hx (hb hby at_13) rfl (pc' := 14) rfl ?_
    refine ow_iconst X0 hx (z := (2 : Int32)) (hb hby at_14) rfl (pc' := 15) rfl ?_
    refine ow_iushr X0 hx (hb hby at_15) (pc' := 16) rfl (fun z45 hz45 => ?_)
    have az45 : z45.toInt = (ps.toInt % 4294967296) / 4 := by rw [hz45]; exact c_iushr ps (2 : Int32) 2 (by decide) (by decide)
    have rz45 := rng32 z45
    refine ow_iconst X0 hx (z := (1 : Int32)) (hb hby at_16) rfl (pc' := 17) rfl ?_
    refine ow_iand X0 hx (hb hby at_17) (pc' := 18) rfl (fun z46 hz46 => ?_)
    have az46 : z46.toInt = z45.toInt % 2 := by rw [hz46]; exact c_mask z45 (1 : Int32) 1 (by decide) (by decide)
    have rz46 := rng32 z46
    refine ow_if_eq X0 hx (z46.toInt) (hb hby at_18) rfl (by decide) (pt := 25) (by decide) (pf := 21) rfl (fun c18 => ?_) (fun c18 => ?_)
    · refine ow_iconst X0 hx (z := (0 : Int32)) (hb hby at_25) rfl (pc' := 26) rfl ?_
      refine ow_istore X0 hx (Ls' := #[.val (.int ps), .val (.int pra), .val (.int psa), .val (.int prb), .val (.int psb), .val (.int pp), .val (.int z2), .val (.int (0 : Int32)), .unset, .unset, .unset, .unset, .unset, .unset, .unset, .unset, .unset]) (hb hby at_26) rfl (pc' := 28) rfl ?_
      refine ow_iloadN X0 hx (hb hby at_28) rfl (pc' := 29) rfl ?_
      refine ow_ldcInt X0 hx hZ hown (hw _ (List.mem_of_getElem? (i := 0) rfl)) (hb hby at_29) (pc' := 31) rfl ?_
      refine ow_iand X0 hx (hb hby at_31) (pc' := 32) rfl (fun z47 hz47 => ?_)
      have az47 : z47.toInt = pra.toInt % 2147483648 := by rw [hz47]; exact c_mask pra (2147483647 : Int32) 31 (by decide) (by decide)
      have rz47 := rng32 z47
      refine ow_iload X0 hx (hb hby at_32) rfl (pc' := 34) rfl ?_
      refine ow_irem X0 hx (hb hby at_34) (fun q => absurd (show z2.toInt = 0 from congrArg Int32.toInt q) (by omega)) (pc' := 35) rfl (fun z48 hz48 => ?_)
      have az48 : 0 ≤ z48.toInt ∧ z48.toInt < z2.toInt ∧ z48.toInt ≤ z47.toInt ∧ (z47.toInt < z2.toInt → z48.toInt = z47.toInt) ∧ (z2.toInt ≤ z47.toInt → z47.toInt < 2 * z2.toInt → z48.toInt = z47.toInt - z2.toInt) := by rw [hz48]; exact (c_iremV z47 z2).1 (by omega) (by omega)
      have rz48 := rng32 z48
      refine ow_istore X0 hx (Ls' := #[.val (.int ps), .val (.int pra), .val (.int psa), .val (.int prb), .val (.int psb), .val (.int pp), .val (.int z2), .val (.int (0 : Int32)), .val (.int z48), .unset, .unset, .unset, .unset, .unset, .unset, .unset, .unset]) (hb hby at_35) rfl (pc' := 37) rfl ?_
      refine ow_iloadN X0 hx (hb hby at_37) rfl (pc' := 38) rfl ?_
      refine ow_ldcInt X0 hx hZ hown (hw _ (List.mem_of_getElem? (i := 1) rfl)) (hb hby at_38) (pc' := 40) rfl ?_
      refine ow_iand X0 hx (hb hby at_40) (pc' := 41) rfl (fun z49 hz49 => ?_)
      have az49 : z49.toInt = psa.toInt % 1073741824 := by rw [hz49]; exact c_mask psa (1073741823 : Int32) 30 (by decide) (by decide)
      have rz49 := rng32 z49
      refine ow_istore X0 hx (Ls' := #[.val (.int ps), .val (.int pra), .val (.int psa), .val (.int prb), .val (.int psb), .val (.int pp), .val (.int z2), .val (.int (0 : Int32)), .val (.int z48), .val (.int z49), .unset, .unset, .unset, .unset, .unset, .unset, .unset]) (hb hby at_41) rfl (pc' := 43) rfl ?_
      refine ow_iload X0 hx (hb hby at_43) rfl (pc' := 45) rfl ?_
      refine ow_ldcInt X0 hx hZ hown (hw _ (List.mem_of_getElem? (i := 1) rfl)) (hb hby at_45) (pc' := 47) rfl ?_
      refine ow_iand X0 hx (hb hby at_47) (pc' := 48) rfl (fun z50 hz50 => ?_)
      have az50 : z50.toInt = psb.toInt % 1073741824 := by rw [hz50]; exact c_mask psb (1073741823 : Int32) 30 (by decide) (by decide)
      have rz50 := rng32 z50
      refine ow_istore X0 hx (Ls' := #[.val (.int ps), .val (.int pra), .val (.int psa), .val (.int prb), .val (.int psb), .val (.int pp), .val (.int z2), .val (.int (0 : Int32)), .val (.int z48), .val (.int z49), .val (.int z50), .unset, .unset, .unset, .unset, .unset, .unset]) (hb hby at_48) rfl (pc' := 50) rfl ?_
      refine ow_iconst X0 hx (z := (-1 : Int32)) (hb hby at_50) rfl (pc' := 51) rfl ?_
      refine ow_istore X0 hx (Ls' := #[.val (.int ps), .val (.int pra), .val (.int psa), .val (.int prb), .val (.int psb), .val (.int pp), .val (.int z2), .val (.int (0 : Int32)), .val (.int z48), .val (.int z49), .val (.int z50), .val (.int (-1 : Int32)), .unset, .unset, .unset, .unset, .unset]) (hb hby at_51) rfl (pc' := 53) rfl ?_
      refine ow_iload X0 hx (hb hby at_53) rfl (pc' := 55) rfl ?_
      refine ow_ifY X0 hx (hb hby at_55) (by decide) (by decide) (pc' := 77) (by decide) ?_
      refine ow_iload X0 hx (hb hby at_77) rfl (pc' := 79) rfl ?_
      refine ow_ldcInt X0 hx hZ hown (hw _ (List.mem_of_getElem? (i := 0) rfl)) (hb hby at_79) (pc' := 81) rfl ?_
      refine ow_iand X0 hx (hb hby at_81) (pc' := 82) rfl (fun z51 hz51 => ?_)
      have az51 : z51.toInt = pp.toInt % 2147483648 := by rw [hz51]; exact c_mask pp (2147483647 : Int32) 31 (by decide) (by decide)
      have rz51 := rng32 z51
      refine ow_iload X0 hx (hb hby at_82) rfl (pc' := 84) rfl ?_
      refine ow_irem X0 hx (hb hby at_84) (fun q => absurd (show z2.toInt = 0 from congrArg Int32.toInt q) (by omega)) (pc' := 85) rfl (fun z52 hz52 => ?_)
      have az52 : 0 ≤ z52.toInt ∧ z52.toInt < z2.toInt ∧ z52.toInt ≤ z51.toInt ∧ (z51.toInt < z2.toInt → z52.toInt = z51.toInt) ∧ (z2.toInt ≤ z51.toInt → z51.toInt < 2 * z2.toInt → z52.toInt = z51.toInt - z2.toInt) := by rw [hz52]; exact (c_iremV z51 z2).1 (by omega) (by omega)
      have rz52 := rng32 z52
      refine ow_istore X0 hx (Ls' := #[.val (.int ps), .val (.int pra), .val (.int psa), .val (.int prb), .val (.int psb), .val (.int pp), .val (.int z2), .val (.int (0 : Int32)), .val (.int z48), .val (.int z49), .val (.int z50), .val (.int (-1 : Int32)), .val (.int z52), .unset, .unset, .unset, .unset]) (hb hby at_85) rfl (pc' := 87) rfl ?_
      have sn : 1 ≤ z2.toInt ∧ z2.toInt ≤ 4 := by omega
      have sa : 0 ≤ z48.toInt ∧ z48.toInt < z2.toInt := by omega
      have su : 0 ≤ z49.toInt ∧ z49.toInt ≤ 1073741823 := by omega
      have sv : 0 ≤ z50.toInt ∧ z50.toInt ≤ 1073741823 := by omega
      have sc : 0 ≤ z52.toInt ∧ z52.toInt < z2.toInt := by omega
      clear az1 rz1 az2 rz2 az45 rz45 az46 rz46 az47 rz47 az48 rz48 az49 rz49 az50 rz50 az51 rz51 az52 rz52 r_ps r_pra r_psa r_prb r_psb r_pp
      refine ow_new X0 hx hZ hown (hw _ (List.mem_of_getElem? (i := 2) rfl)) (hw _ (List.mem_of_getElem? (i := 3) rfl)) (hw _ (List.mem_of_getElem? (i := 4) rfl)) e0 (hb hby at_87) (by decide) (by decide) (pc' := 90) rfl (fun T53 h53 b53 g53 X53 e53 E53 A53 D53 => ?_)
      have g_b53 : n0 ≤ b53 := Nat.le_trans Z0 (Nat.le_of_eq g53.symm)
      have sz_b53 : h0.size ≤ b53 := Nat.le_trans (Keep.refl h0 []).1 (Nat.le_of_eq g53.symm)
      have Zs53 : n0 ≤ h53.size := Nat.le_trans Z0 E53.1
      have K53 := (Keep.refl h0 []).ext E53
      have F_b53_player : Fld Z h53 b53 "com/example/cubilete/cubilete/rules/Sheet" "player" "Ljava/lang/String;" .null := D53 (Or.inr (hw _ (List.mem_of_getElem? (i := 20) rfl))) (ty := (.object "java/lang/String")) (by decide)
      have F_b53_points : Fld Z h53 b53 "com/example/cubilete/cubilete/rules/Sheet" "points" "[I" .null := D53 (Or.inr (hw _ (List.mem_of_getElem? (i := 23) rfl))) (ty := (.array .int)) (by decide)
      have F_b53_filled : Fld Z h53 b53 "com/example/cubilete/cubilete/rules/Sheet" "filled" "I" (.int (0 : Int32)) := D53 (Or.inl (hw _ (List.mem_of_getElem? (i := 43) rfl))) (ty := .int) (by decide)
      have F_b53_total : Fld Z h53 b53 "com/example/cubilete/cubilete/rules/Sheet" "total" "I" (.int (0 : Int32)) := D53 (Or.inl (hw _ (List.mem_of_getElem? (i := 45) rfl))) (ty := .int) (by decide)
      refine ow_dup X53 hx (hb hby at_90) rfl (pc' := 91) rfl ?_
      have wS54 : ∀ a ∈ Bundle.stringAtoms, a.before a0 Z = true := fun a ha => by
        simp only [Bundle.stringAtoms, Bundle.sN, List.mem_cons, List.not_mem_nil, or_false] at ha
        rcases ha with rfl | rfl | rfl | rfl | rfl | rfl | rfl
        · exact (hw _ (List.mem_of_getElem? (i := 6) rfl))
        · exact (hw _ (List.mem_of_getElem? (i := 7) rfl))
        · exact (hw _ (List.mem_of_getElem? (i := 8) rfl))
        · exact (hw _ (List.mem_of_getElem? (i := 9) rfl))
        · exact (hw _ (List.mem_of_getElem? (i := 10) rfl))
        · exact (hw _ (List.mem_of_getElem? (i := 11) rfl))
        · exact (hw _ (List.mem_of_getElem? (i := 12) rfl))
      refine ow_ldcS X53 hx hZ hown (hw _ (List.mem_of_getElem? (i := 5) rfl)) wS54 e53 hS0 (Nat.zero_le _) (hb hby at_91) 1024 (by decide) (by decide) (by decide) (by decide) (pc' := 93) rfl (fun a54 T54 h54 k54 X54 e54 E54 hS54 hk54 hZ hown => ?_)
      have E_b53_54 := A53.ext E54
      have F_b53_player_54 := F_b53_player.ext E54
      have F_b53_points_54 := F_b53_points.ext E54
      have F_b53_filled_54 := F_b53_filled.ext E54
      have F_b53_total_54 := F_b53_total.ext E54
      have Zs54 : n0 ≤ h54.size := Nat.le_trans Zs53 E54.1
      have K54 := K53.ext E54
      refine ow_iload X54 hx (hb hby at_93) rfl (pc' := 95) rfl ?_
      refine ow_callI X54 hx hZ rfl rfl hown (hw _ (List.mem_of_getElem? (i := 13) rfl)) (hw _ (List.mem_of_getElem? (i := 14) rfl)) (hw _ (List.mem_of_getElem? (i := 4) rfl)) (hw _ (List.mem_of_getElem? (i := 15) rfl)) (by decide) (rm_shInit l Z a0 hw [] b53 a54 z2 h54 n0 Zs54 E_b53_54 F_b53_player_54 F_b53_points_54 F_b53_filled_54 F_b53_total_54 g_b53 (by first | decide | omega) (by first | decide | omega)) e54 1 (by decide) (by decide) (by decide) (by decide) [(.ref a54), (.int z2)] (by rw [hml]; rfl) pd_6 rfl rfl rfl (Nat.le_of_eq rfl) (hb hby at_95) (pc' := 98) rfl (fun v55 T55 L55 hQ55 X55 => ?_)
      obtain ⟨b55, ka_55, rfl, Nc55, Kc55, P55_0, P55_1, P55_2, P55_3, P55_4, P55_5, P55_6, P55_7⟩ := hQ55
      have ne_b53_b55 : b53 ≠ b55 := Nat.ne_of_lt (Nat.lt_of_lt_of_le E_b53_54.lt P55_6)
      have sz_b55 : h0.size ≤ b55 := Nat.le_trans K54.1 P55_6
      have Zs55 : n0 ≤ T55.heap.size := Nat.le_trans Zs54 Kc55.1
      have hks55 : k54 ≤ T55.heap.size := Nat.le_trans hk54 Kc55.1
      have K55 := K54.trans Kc55 (allS (Or.inr sz_b53) all0)
      have N55 := Fr.app N0 Nc55
      show Ends _ _ _ _ T55 (mkF m 98 #[.val (.int ps), .val (.int pra), .val (.int psa), .val (.int prb), .val (.int psb), .val (.int pp), .val (.int z2), .val (.int (0 : Int32)), .val (.int z48), .val (.int z49), .val (.int z50), .val (.int (-1 : Int32)), .val (.int z52), .unset, .unset, .unset, .unset] [(.ref b53)])
      refine ow_astore X55 hx (Ls' := #[.val (.int ps), .val (.int pra), .val (.int psa), .val (.int prb), .val (.int psb), .val (.int pp), .val (.int z2), .val (.int (0 : Int32)), .val (.int z48), .val (.int z49), .val (.int z50), .val (.int (-1 : Int32)), .val (.int z52), .val (.ref b53), .unset, .unset, .unset]) (hb hby at_98) rfl rfl (pc' := 100) rfl ?_
      refine ow_aload X55 hx (hb hby at_100) rfl rfl (pc' := 102) rfl ?_
      refine ow_iload X55 hx (hb hby at_102) rfl (pc' := 104) rfl ?_
      refine ow_iload X55 hx (hb hby at_104) rfl (pc' := 106) rfl ?_
      refine ow_callV X55 hx hZ rfl hown (hw _ (List.mem_of_getElem? (i := 29) rfl)) (hw _ (List.mem_of_getElem? (i := 30) rfl)) (hw _ (List.mem_of_getElem? (i := 32) rfl)) (hw _ (List.mem_of_getElem? (i := 31) rfl)) (hw _ (List.mem_of_getElem? (i := 4) rfl)) (hw _ (List.mem_of_getElem? (i := 33) rfl)) (by decide) (rm_shFill l Z a0 hw [] b53 z48 z49 b55 ka_55 z2 (fun j => if (j : Int) < z2.toInt then (-2147483648 : Int32) else (fun _ => 0) j) (0 : Int32) (0 : Int32) T55.heap n0 Zs55 P55_0 P55_1 P55_2 P55_3 P55_4 g_b53 P55_5 P55_7 (by first | decide | omega) (by first | decide | omega) (by first | decide | omega) (by first | decide | omega) (by first | decide | omega) (by first | decide | omega) (by first | decide | omega) (by first | decide | omega) (by first | decide | omega)) rfl 0 (by decide) (by decide) (by decide) (by decide) [(.int z48), (.int z49)] (by rw [hml]; rfl) pd_7 rfl P55_0 rfl rfl (Nat.le_of_eq rfl) (hb hby at_106) (pc' := 109) rfl (fun v56 T56 L56 hQ56 X56 => ?_)
      obtain ⟨zf_56, zt_56, rfl, Nc56, Kc56, P56_0, P56_1, P56_2, P56_3, P56_4, P56_5⟩ := hQ56
      have P56_5 : zf_56.toInt = (0 : Int) + 1 ∧ zt_56.toInt = (0 : Int) + z49.toInt := P56_5
      have Zs56 : n0 ≤ T56.heap.size := Nat.le_trans Zs55 Kc56.1
      have hks56 : k54 ≤ T56.heap.size := Nat.le_trans hks55 Kc56.1
      have K56 := K55.trans Kc56 (allS (Or.inr sz_b53) (allS (Or.inr sz_b55) all0))
      have N56 := Fr.app N55 Nc56
      show Ends _ _ _ _ T56 (mkF m 109 #[.val (.int ps), .val (.int pra), .val (.int psa), .val (.int prb), .val (.int psb), .val (.int pp), .val (.int z2), .val (.int (0 : Int32)), .val (.int z48), .val (.int z49), .val (.int z50), .val (.int (-1 : Int32)), .val (.int z52), .val (.ref b53), .unset, .unset, .unset] [])
      refine ow_iload X56 hx (hb hby at_109) rfl (pc' := 111) rfl ?_
      refine ow_ifY X56 hx (hb hby at_111) (by decide) (by decide) (pc' := 123) (by decide) ?_
      refine ow_iload X56 hx (hb hby at_123) rfl (pc' := 125) rfl ?_
      refine ow_ifY X56 hx (hb hby at_125) (by decide) (by decide) (pc' := 132) (by decide) ?_
      refine ow_iconst X56 hx (z := (1 : Int32)) (hb hby at_132) rfl (pc' := 133) rfl ?_
      refine ow_istore X56 hx (Ls' := #[.val (.int ps), .val (.int pra), .val (.int psa), .val (.int prb), .val (.int psb), .val (.int pp), .val (.int z2), .val (.int (0 : Int32)), .val (.int z48), .val (.int z49), .val (.int z50), .val (.int (-1 : Int32)), .val (.int z52), .val (.ref b53), .val (.int (1 : Int32)), .unset, .unset]) (hb hby at_133) rfl (pc' := 135) rfl ?_
      refine ow_iload X56 hx (hb hby at_135) rfl (pc' := 137) rfl ?_
      refine ow_ifY X56 hx (hb hby at_137) (by decide) (by decide) (pc' := 148) (by decide) ?_
      refine ow_iload X56 hx (hb hby at_148) rfl (pc' := 150) rfl ?_
      refine ow_istore X56 hx (Ls' := #[.val (.int ps), .val (.int pra), .val (.int psa), .val (.int prb), .val (.int psb), .val (.int pp), .val (.int z2), .val (.int (0 : Int32)), .val (.int z48), .val (.int z49), .val (.int z50), .val (.int (-1 : Int32)), .val (.int z52), .val (.ref b53), .val (.int (1 : Int32)), .val (.int z49), .unset]) (hb hby at_150) rfl (pc' := 152) rfl ?_
      refine ow_iload X56 hx (hb hby at_152) rfl (pc' := 154) rfl ?_
      refine ow_iload X56 hx (hb hby at_154) rfl (pc' := 156) rfl ?_
      refine ow_icmp_ne X56 hx (z52.toInt) (z48.toInt) (hb hby at_156) rfl rfl (by decide) (pt := 166) (by decide) (pf := 159) rfl (fun c156 => ?_) (fun c156 => ?_)
      · refine ow_iload X56 hx (hb hby at_166) rfl (pc' := 168) rfl ?_
        refine ow_ifY X56 hx (hb hby at_168) (by decide) (by decide) (pc' := 185) (by decide) ?_
        refine ow_iconst X56 hx (z := (-1 : Int32)) (hb hby at_185) rfl (pc' := 186) rfl ?_
        refine ow_istore X56 hx (Ls' := #[.val (.int ps), .val (.int pra), .val (.int psa), .val (.int prb), .val (.int psb), .val (.int pp), .val (.int z2), .val (.int (0 : Int32)), .val (.int z48), .val (.int z49), .val (.int z50), .val (.int (-1 : Int32)), .val (.int z52), .val (.ref b53), .val (.int (1 : Int32)), .val (.int z49), .val (.int (-1 : Int32))]) (hb hby at_186) rfl (pc' := 188) rfl ?_
        refine ow_aload X56 hx (hb hby at_188) rfl rfl (pc' := 190) rfl ?_
        refine ow_callVPI X56 hx hZ rfl hown (hw _ (List.mem_of_getElem? (i := 46) rfl)) (hw _ (List.mem_of_getElem? (i := 47) rfl)) (hw _ (List.mem_of_getElem? (i := 49) rfl)) (hw _ (List.mem_of_getElem? (i := 48) rfl)) (hw _ (List.mem_of_getElem? (i := 4) rfl)) (hw _ (List.mem_of_getElem? (i := 50) rfl)) (by decide) (rm_rows l Z a0 hw [] b53 b55 ka_55 z2 (upd (fun j => if (j : Int) < z2.toInt then (-2147483648 : Int32) else (fun _ => 0) j) z48.toInt.toNat z49) T56.heap P56_1 P56_4) rfl 0 (by decide) (by decide) (by decide) (by decide) [] (by rw [hml]; rfl) pd_8 rfl P56_0 rfl rfl (Nat.le_of_eq rfl) (hb hby at_190) (pc' := 193) rfl (fun z57 T57 hz57 X57 e57 => ?_)
        have az57 : z57.toInt = z2.toInt := hz57
        have rz57 := rng32 z57
        refine ow_iload X57 hx (hb hby at_193) rfl (pc' := 195) rfl ?_
        refine ow_icmp_ne X57 hx (z57.toInt) (z2.toInt) (hb hby at_195) rfl rfl (by decide) (pt := 274) (by decide) (pf := 198) rfl (fun c195 => absurd c195 (by omega)) (fun c195 => ?_)
        refine ow_aload X57 hx (hb hby at_198) rfl rfl (pc' := 200) rfl ?_
        refine ow_callVPI X57 hx hZ rfl hown (hw _ (List.mem_of_getElem? (i := 51) rfl)) (hw _ (List.mem_of_getElem? (i := 52) rfl)) (hw _ (List.mem_of_getElem? (i := 54) rfl)) (hw _ (List.mem_of_getElem? (i := 53) rfl)) (hw _ (List.mem_of_getElem? (i := 4) rfl)) (hw _ (List.mem_of_getElem? (i := 55) rfl)) (by decide) (rm_filled l Z a0 hw [] b53 zf_56 T56.heap P56_2) e57 0 (by decide) (by decide) (by decide) (by decide) [] (by rw [hml]; rfl) pd_8 rfl P56_0 rfl rfl (Nat.le_of_eq rfl) (hb hby at_200) (pc' := 203) rfl (fun z58 T58 hz58 X58 e58 => ?_)
        have az58 : z58.toInt = zf_56.toInt := hz58
        have rz58 := rng32 z58
        refine ow_iload X58 hx (hb hby at_203) rfl (pc' := 205) rfl ?_
        refine ow_icmp_ne X58 hx (z58.toInt) ((1 : Int)) (hb hby at_205) rfl rfl (by decide) (pt := 274) (by decide) (pf := 208) rfl (fun c205 => absurd c205 (by omega)) (fun c205 => ?_)
        refine ow_aload X58 hx (hb hby at_208) rfl rfl (pc' := 210) rfl ?_
        refine ow_callVPI X58 hx hZ rfl hown (hw _ (List.mem_of_getElem? (i := 56) rfl)) (hw _ (List.mem_of_getElem? (i := 57) rfl)) (hw _ (List.mem_of_getElem? (i := 59) rfl)) (hw _ (List.mem_of_getElem? (i := 58) rfl)) (hw _ (List.mem_of_getElem? (i := 4) rfl)) (hw _ (List.mem_of_getElem? (i := 60) rfl)) (by decide) (rm_total l Z a0 hw [] b53 zt_56 T56.heap P56_3) e58 0 (by decide) (by decide) (by decide) (by decide) [] (by rw [hml]; rfl) pd_8 rfl P56_0 rfl rfl (Nat.le_of_eq rfl) (hb hby at_210) (pc' := 213) rfl (fun z59 T59 hz59 X59 e59 => ?_)
        have az59 : z59.toInt = zt_56.toInt := hz59
        have rz59 := rng32 z59
        refine ow_iload X59 hx (hb hby at_213) rfl (pc' := 215) rfl ?_
        refine ow_icmp_ne X59 hx (z59.toInt) (z49.toInt) (hb hby at_215) rfl rfl (by decide) (pt := 274) (by decide) (pf := 218) rfl (fun c215 => absurd c215 (by omega)) (fun c215 => ?_)
        refine ow_aload X59 hx (hb hby at_218) rfl rfl (pc' := 220) rfl ?_
        refine ow_callVPI X59 hx hZ rfl hown (hw _ (List.mem_of_getElem? (i := 61) rfl)) (hw _ (List.mem_of_getElem? (i := 62) rfl)) (hw _ (List.mem_of_getElem? (i := 64) rfl)) (hw _ (List.mem_of_getElem? (i := 63) rfl)) (hw _ (List.mem_of_getElem? (i := 4) rfl)) (hw _ (List.mem_of_getElem? (i := 65) rfl)) (by decide) (rm_isFull l Z a0 hw [] b53 b55 ka_55 z2 (upd (fun j => if (j : Int) < z2.toInt then (-2147483648 : Int32) else (fun _ => 0) j) z48.toInt.toNat z49) zf_56 T56.heap P56_2 P56_1 P56_4) e59 0 (by decide) (by decide) (by decide) (by decide) [] (by rw [hml]; rfl) pd_9 rfl P56_0 rfl rfl (Nat.le_of_eq rfl) (hb hby at_220) (pc' := 223) rfl (fun z60 T60 hz60 X60 e60 => ?_)
        have az60 : ((zf_56.toInt = z2.toInt) ∧ z60.toInt = 1) ∨ (¬ (zf_56.toInt = z2.toInt) ∧ z60.toInt = 0) := hz60
        have rz60 := rng32 z60
        refine ow_iload X60 hx (hb hby at_223) rfl (pc' := 225) rfl ?_
        refine ow_iload X60 hx (hb hby at_225) rfl (pc' := 227) rfl ?_
        refine ow_icmp_ne X60 hx ((1 : Int)) (z2.toInt) (hb hby at_227) rfl rfl (by decide) (pt := 234) (by decide) (pf := 230) rfl (fun c227 => ?_) (fun c227 => ?_)
        · refine ow_iconst X60 hx (z := (0 : Int32)) (hb hby at_234) rfl (pc' := 235) rfl ?_
          refine ow_icmp_ne X60 hx (z60.toInt) ((0 : Int)) (hb hby at_235) rfl rfl (by decide) (pt := 274) (by decide) (pf := 238) rfl (fun c235 => absurd c235 (by omega)) (fun c235 => ?_)
          have hb61 : ((fun j => if (j : Int) < z2.toInt then (-2147483648 : Int32) else (fun _ => 0) j) z48.toInt.toNat).toInt = -2147483648 := by show (if ((z48.toInt.toNat : Nat) : Int) < z2.toInt then (-2147483648 : Int32) else 0).toInt = _; rw [if_pos (by omega)]; rfl
          have hu61 : (z48.toInt.toNat = z48.toInt.toNat → ((upd (fun j => if (j : Int) < z2.toInt then (-2147483648 : Int32) else (fun _ => 0) j) z48.toInt.toNat z49) z48.toInt.toNat).toInt = z49.toInt) ∧ (¬ z48.toInt.toNat = z48.toInt.toNat → ((upd (fun j => if (j : Int) < z2.toInt then (-2147483648 : Int32) else (fun _ => 0) j) z48.toInt.toNat z49) z48.toInt.toNat).toInt = -2147483648) := ⟨(upd_iff (fun j => if (j : Int) < z2.toInt then (-2147483648 : Int32) else (fun _ => 0) j) z48.toInt.toNat z49 z48.toInt.toNat).1, fun q => ((upd_iff (fun j => if (j : Int) < z2.toInt then (-2147483648 : Int32) else (fun _ => 0) j) z48.toInt.toNat z49 z48.toInt.toNat).2 q).trans hb61⟩
          clear hb61
          refine ow_aload X60 hx (hb hby at_238) rfl rfl (pc' := 240) rfl ?_
          refine ow_iload X60 hx (hb hby at_240) rfl (pc' := 242) rfl ?_
          refine ow_callV X60 hx hZ rfl hown (hw _ (List.mem_of_getElem? (i := 66) rfl)) (hw _ (List.mem_of_getElem? (i := 67) rfl)) (hw _ (List.mem_of_getElem? (i := 69) rfl)) (hw _ (List.mem_of_getElem? (i := 68) rfl)) (hw _ (List.mem_of_getElem? (i := 4) rfl)) (hw _ (List.mem_of_getElem? (i := 70) rfl)) (by decide) (rm_points l Z a0 hw [] b53 z48 b55 ka_55 z2 (upd (fun j => if (j : Int) < z2.toInt then (-2147483648 : Int32) else (fun _ => 0) j) z48.toInt.toNat z49) oe T56.heap n0 Zs56 P56_1 P56_4 (ow_staKeep S_e K56 all0) (E_e.keep K56) (F_eip.keep K56 nin0) (F_ev.keep K56 nin0) (by first | decide | omega) (by first | decide | omega) (by first | decide | omega)) e60 0 (by decide) (by decide) (by decide) (by decide) [(.int z48)] (by rw [hml]; rfl) pd_4 rfl P56_0 rfl rfl (Nat.le_of_eq rfl) (hb hby at_242) (pc' := 245) rfl (fun v62 T62 L62 hQ62 X62 => ?_)
          obtain ⟨b62, zp_62, zv_62, rfl, Nc62, Kc62, P62_0, P62_1, P62_2, P62_3⟩ := hQ62
          have P62_3 : (((upd (fun j => if (j : Int) < z2.toInt then (-2147483648 : Int32) else (fun _ => 0) j) z48.toInt.toNat z49) z48.toInt.toNat).toInt = -2147483648 ∧ zp_62.toInt = 0) ∨ (¬ ((upd (fun j => if (j : Int) < z2.toInt then (-2147483648 : Int32) else (fun _ => 0) j) z48.toInt.toNat z49) z48.toInt.toNat).toInt = -2147483648 ∧ zp_62.toInt = 1 ∧ zv_62.toInt = ((upd (fun j => if (j : Int) < z2.toInt then (-2147483648 : Int32) else (fun _ => 0) j) z48.toInt.toNat z49) z48.toInt.toNat).toInt) := P62_3
          have E_b53_62 := P56_0.keep Kc62
          have F_b53_points_62 := P56_1.keep Kc62 nin0
          have F_b53_filled_62 := P56_2.keep Kc62 nin0
          have F_b53_total_62 := P56_3.keep Kc62 nin0
          have V_b55_62 := P56_4.keep Kc62 nin0
          have Zs62 : n0 ≤ T62.heap.size := Nat.le_trans Zs56 Kc62.1
          have hks62 : k54 ≤ T62.heap.size := Nat.le_trans hks56 Kc62.1
          have K62 := K56.trans Kc62 all0
          have N62 := Fr.app N56 Nc62
          show Ends _ _ _ _ T62 (mkF m 245 #[.val (.int ps), .val (.int pra), .val (.int psa), .val (.int prb), .val (.int psb), .val (.int pp), .val (.int z2), .val (.int (0 : Int32)), .val (.int z48), .val (.int z49), .val (.int z50), .val (.int (-1 : Int32)), .val (.int z52), .val (.ref b53), .val (.int (1 : Int32)), .val (.int z49), .val (.int (-1 : Int32))] [(.ref b62)])
          refine ow_iconst X62 hx (z := (-1 : Int32)) (hb hby at_245) rfl (pc' := 246) rfl ?_
          refine ow_callVPI X62 hx hZ rfl hown (hw _ (List.mem_of_getElem? (i := 86) rfl)) (hw _ (List.mem_of_getElem? (i := 87) rfl)) (hw _ (List.mem_of_getElem? (i := 89) rfl)) (hw _ (List.mem_of_getElem? (i := 88) rfl)) (hw _ (List.mem_of_getElem? (i := 73) rfl)) (hw _ (List.mem_of_getElem? (i := 90) rfl)) (by decide) (rm_orElse l Z a0 hw [] b62 (-1 : Int32) zp_62 zv_62 T62.heap P62_1 P62_2) rfl 0 (by decide) (by decide) (by decide) (by decide) [(.int (-1 : Int32))] (by rw [hml]; rfl) pd_10 rfl P62_0 rfl rfl (Nat.le_of_eq rfl) (hb hby at_246) (pc' := 249) rfl (fun z63 T63 hz63 X63 e63 => ?_)
          have az63 : (zp_62.toInt = 0 → z63.toInt = (-1 : Int)) ∧ (¬ zp_62.toInt = 0 → z63.toInt = zv_62.toInt) := hz63
          have rz63 := rng32 z63
          refine ow_iload X63 hx (hb hby at_249) rfl (pc' := 251) rfl ?_
          refine ow_icmp_ne X63 hx (z63.toInt) (z49.toInt) (hb hby at_251) rfl rfl (by decide) (pt := 274) (by decide) (pf := 254) rfl (fun c251 => absurd c251 (by omega)) (fun c251 => ?_)
          have hb64 : ((fun j => if (j : Int) < z2.toInt then (-2147483648 : Int32) else (fun _ => 0) j) z52.toInt.toNat).toInt = -2147483648 := by show (if ((z52.toInt.toNat : Nat) : Int) < z2.toInt then (-2147483648 : Int32) else 0).toInt = _; rw [if_pos (by omega)]; rfl
          have hu64 : (z52.toInt.toNat = z48.toInt.toNat → ((upd (fun j => if (j : Int) < z2.toInt then (-2147483648 : Int32) else (fun _ => 0) j) z48.toInt.toNat z49) z52.toInt.toNat).toInt = z49.toInt) ∧ (¬ z52.toInt.toNat = z48.toInt.toNat → ((upd (fun j => if (j : Int) < z2.toInt then (-2147483648 : Int32) else (fun _ => 0) j) z48.toInt.toNat z49) z52.toInt.toNat).toInt = -2147483648) := ⟨(upd_iff (fun j => if (j : Int) < z2.toInt then (-2147483648 : Int32) else (fun _ => 0) j) z48.toInt.toNat z49 z52.toInt.toNat).1, fun q => ((upd_iff (fun j => if (j : Int) < z2.toInt then (-2147483648 : Int32) else (fun _ => 0) j) z48.toInt.toNat z49 z52.toInt.toNat).2 q).trans hb64⟩
          clear hb64
          refine ow_aload X63 hx (hb hby at_254) rfl rfl (pc' := 256) rfl ?_
          refine ow_iload X63 hx (hb hby at_256) rfl (pc' := 258) rfl ?_
          refine ow_callV X63 hx hZ rfl hown (hw _ (List.mem_of_getElem? (i := 66) rfl)) (hw _ (List.mem_of_getElem? (i := 67) rfl)) (hw _ (List.mem_of_getElem? (i := 69) rfl)) (hw _ (List.mem_of_getElem? (i := 68) rfl)) (hw _ (List.mem_of_getElem? (i := 4) rfl)) (hw _ (List.mem_of_getElem? (i := 70) rfl)) (by decide) (rm_points l Z a0 hw [] b53 z52 b55 ka_55 z2 (upd (fun j => if (j : Int) < z2.toInt then (-2147483648 : Int32) else (fun _ => 0) j) z48.toInt.toNat z49) oe T62.heap n0 Zs62 F_b53_points_62 V_b55_62 (ow_staKeep S_e K62 all0) (E_e.keep K62) (F_eip.keep K62 nin0) (F_ev.keep K62 nin0) (by first | decide | omega) (by first | decide | omega) (by first | decide | omega)) e63 0 (by decide) (by decide) (by decide) (by decide) [(.int z52)] (by rw [hml]; rfl) pd_4 rfl E_b53_62 rfl rfl (Nat.le_of_eq rfl) (hb hby at_258) (pc' := 261) rfl (fun v65 T65 L65 hQ65 X65 => ?_)
          obtain ⟨b65, zp_65, zv_65, rfl, Nc65, Kc65, P65_0, P65_1, P65_2, P65_3⟩ := hQ65
          have P65_3 : (((upd (fun j => if (j : Int) < z2.toInt then (-2147483648 : Int32) else (fun _ => 0) j) z48.toInt.toNat z49) z52.toInt.toNat).toInt = -2147483648 ∧ zp_65.toInt = 0) ∨ (¬ ((upd (fun j => if (j : Int) < z2.toInt then (-2147483648 : Int32) else (fun _ => 0) j) z48.toInt.toNat z49) z52.toInt.toNat).toInt = -2147483648 ∧ zp_65.toInt = 1 ∧ zv_65.toInt = ((upd (fun j => if (j : Int) < z2.toInt then (-2147483648 : Int32) else (fun _ => 0) j) z48.toInt.toNat z49) z52.toInt.toNat).toInt) := P65_3
          have E_b53_65 := E_b53_62.keep Kc65
          have F_b53_points_65 := F_b53_points_62.keep Kc65 nin0
          have F_b53_filled_65 := F_b53_filled_62.keep Kc65 nin0
          have F_b53_total_65 := F_b53_total_62.keep Kc65 nin0
          have V_b55_65 := V_b55_62.keep Kc65 nin0
          have E_b62_65 := P62_0.keep Kc65
          have F_b62_isPresent_65 := P62_1.keep Kc65 nin0
          have F_b62_value_65 := P62_2.keep Kc65 nin0
          have Zs65 : n0 ≤ T65.heap.size := Nat.le_trans Zs62 Kc65.1
          have hks65 : k54 ≤ T65.heap.size := Nat.le_trans hks62 Kc65.1
          have K65 := K62.trans Kc65 all0
          have N65 := Fr.app N62 Nc65
          show Ends _ _ _ _ T65 (mkF m 261 #[.val (.int ps), .val (.int pra), .val (.int psa), .val (.int prb), .val (.int psb), .val (.int pp), .val (.int z2), .val (.int (0 : Int32)), .val (.int z48), .val (.int z49), .val (.int z50), .val (.int (-1 : Int32)), .val (.int z52), .val (.ref b53), .val (.int (1 : Int32)), .val (.int z49), .val (.int (-1 : Int32))] [(.ref b65)])
          refine ow_iconst X65 hx (z := (-1 : Int32)) (hb hby at_261) rfl (pc' := 262) rfl ?_
          refine ow_callVPI X65 hx hZ rfl hown (hw _ (List.mem_of_getElem? (i := 86) rfl)) (hw _ (List.mem_of_getElem? (i := 87) rfl)) (hw _ (List.mem_of_getElem? (i := 89) rfl)) (hw _ (List.mem_of_getElem? (i := 88) rfl)) (hw _ (List.mem_of_getElem? (i := 73) rfl)) (hw _ (List.mem_of_getElem? (i := 90) rfl)) (by decide) (rm_orElse l Z a0 hw [] b65 (-1 : Int32) zp_65 zv_65 T65.heap P65_1 P65_2) rfl 0 (by decide) (by decide) (by decide) (by decide) [(.int (-1 : Int32))] (by rw [hml]; rfl) pd_10 rfl P65_0 rfl rfl (Nat.le_of_eq rfl) (hb hby at_262) (pc' := 265) rfl (fun z66 T66 hz66 X66 e66 => ?_)
          have az66 : (zp_65.toInt = 0 → z66.toInt = (-1 : Int)) ∧ (¬ zp_65.toInt = 0 → z66.toInt = zv_65.toInt) := hz66
          have rz66 := rng32 z66
          refine ow_iload X66 hx (hb hby at_265) rfl (pc' := 267) rfl ?_
          refine ow_icmp_ne X66 hx (z66.toInt) ((-1 : Int)) (hb hby at_267) rfl rfl (by decide) (pt := 274) (by decide) (pf := 270) rfl (fun c267 => absurd c267 (by omega)) (fun c267 => ?_)
          refine ow_iconst X66 hx (z := (1 : Int32)) (hb hby at_270) rfl (pc' := 271) rfl ?_
          refine ow_goto X66 hx (hb hby at_271) (by decide) (pc' := 275) (by decide) ?_
          exact ow_retBW X66 hx hret hlk (hb hby at_275) hS54 (by rw [e66]; exact hks65) (by decide) (by decide) (z' := (1 : Int32)) rfl ⟨rfl, N65⟩
        · refine ow_iconst X60 hx (z := (1 : Int32)) (hb hby at_230) rfl (pc' := 231) rfl ?_
          refine ow_goto X60 hx (hb hby at_231) (by decide) (pc' := 235) (by decide) ?_
          refine ow_icmp_ne X60 hx (z60.toInt) ((1 : Int)) (hb hby at_235) rfl rfl (by decide) (pt := 274) (by decide) (pf := 238) rfl (fun c235 => absurd c235 (by omega)) (fun c235 => ?_)
          have hb67 : ((fun j => if (j : Int) < z2.toInt then (-2147483648 : Int32) else (fun _ => 0) j) z48.toInt.toNat).toInt = -2147483648 := by show (if ((z48.toInt.toNat : Nat) : Int) < z2.toInt then (-2147483648 : Int32) else 0).toInt = _; rw [if_pos (by omega)]; rfl
          have hu67 : (z48.toInt.toNat = z48.toInt.toNat → ((upd (fun j => if (j : Int) < z2.toInt then (-2147483648 : Int32) else (fun _ => 0) j) z48.toInt.toNat z49) z48.toInt.toNat).toInt = z49.toInt) ∧ (¬ z48.toInt.toNat = z48.toInt.toNat → ((upd (fun j => if (j : Int) < z2.toInt then (-2147483648 : Int32) else (fun _ => 0) j) z48.toInt.toNat z49) z48.toInt.toNat).toInt = -2147483648) := ⟨(upd_iff (fun j => if (j : Int) < z2.toInt then (-2147483648 : Int32) else (fun _ => 0) j) z48.toInt.toNat z49 z48.toInt.toNat).1, fun q => ((upd_iff (fun j => if (j : Int) < z2.toInt then (-2147483648 : Int32) else (fun _ => 0) j) z48.toInt.toNat z49 z48.toInt.toNat).2 q).trans hb67⟩
          clear hb67
          refine ow_aload X60 hx (hb hby at_238) rfl rfl (pc' := 240) rfl ?_
          refine ow_iload X60 hx (hb hby at_240) rfl (pc' := 242) rfl ?_
          refine ow_callV X60 hx hZ rfl hown (hw _ (List.mem_of_getElem? (i := 66) rfl)) (hw _ (List.mem_of_getElem? (i := 67) rfl)) (hw _ (List.mem_of_getElem? (i := 69) rfl)) (hw _ (List.mem_of_getElem? (i := 68) rfl)) (hw _ (List.mem_of_getElem? (i := 4) rfl)) (hw _ (List.mem_of_getElem? (i := 70) rfl)) (by decide) (rm_points l Z a0 hw [] b53 z48 b55 ka_55 z2 (upd (fun j => if (j : Int) < z2.toInt then (-2147483648 : Int32) else (fun _ => 0) j) z48.toInt.toNat z49) oe T56.heap n0 Zs56 P56_1 P56_4 (ow_staKeep S_e K56 all0) (E_e.keep K56) (F_eip.keep K56 nin0) (F_ev.keep K56 nin0) (by first | decide | omega) (by first | decide | omega) (by first | decide | omega)) e60 0 (by decide) (by decide) (by decide) (by decide) [(.int z48)] (by rw [hml]; rfl) pd_4 rfl P56_0 rfl rfl (Nat.le_of_eq rfl) (hb hby at_242) (pc' := 245) rfl (fun v68 T68 L68 hQ68 X68 => ?_)
          obtain ⟨b68, zp_68, zv_68, rfl, Nc68, Kc68, P68_0, P68_1, P68_2, P68_3⟩ := hQ68
          have P68_3 : (((upd (fun j => if (j : Int) < z2.toInt then (-2147483648 : Int32) else (fun _ => 0) j) z48.toInt.toNat z49) z48.toInt.toNat).toInt = -2147483648 ∧ zp_68.toInt = 0) ∨ (¬ ((upd (fun j => if (j : Int) < z2.toInt then (-2147483648 : Int32) else (fun _ => 0) j) z48.toInt.toNat z49) z48.toInt.toNat).toInt = -2147483648 ∧ zp_68.toInt = 1 ∧ zv_68.toInt = ((upd (fun j => if (j : Int) < z2.toInt then (-2147483648 : Int32) else (fun _ => 0) j) z48.toInt.toNat z49) z48.toInt.toNat).toInt) := P68_3
          have E_b53_68 := P56_0.keep Kc68
          have F_b53_points_68 := P56_1.keep Kc68 nin0
          have F_b53_filled_68 := P56_2.keep Kc68 nin0
          have F_b53_total_68 := P56_3.keep Kc68 nin0
          have V_b55_68 := P56_4.keep Kc68 nin0
          have Zs68 : n0 ≤ T68.heap.size := Nat.le_trans Zs56 Kc68.1
          have hks68 : k54 ≤ T68.heap.size := Nat.le_trans hks56 Kc68.1
          have K68 := K56.trans Kc68 all0
          have N68 := Fr.app N56 Nc68
          show Ends _ _ _ _ T68 (mkF m 245 #[.val (.int ps), .val (.int pra), .val (.int psa), .val (.int prb), .val (.int psb), .val (.int pp), .val (.int z2), .val (.int (0 : Int32)), .val (.int z48), .val (.int z49), .val (.int z50), .val (.int (-1 : Int32)), .val (.int z52), .val (.ref b53), .val (.int (1 : Int32)), .val (.int z49), .val (.int (-1 : Int32))] [(.ref b68)])
          refine ow_iconst X68 hx (z := (-1 : Int32)) (hb hby at_245) rfl (pc' := 246) rfl ?_
          refine ow_callVPI X68 hx hZ rfl hown (hw _ (List.mem_of_getElem? (i := 86) rfl)) (hw _ (List.mem_of_getElem? (i := 87) rfl)) (hw _ (List.mem_of_getElem? (i := 89) rfl)) (hw _ (List.mem_of_getElem? (i := 88) rfl)) (hw _ (List.mem_of_getElem? (i := 73) rfl)) (hw _ (List.mem_of_getElem? (i := 90) rfl)) (by decide) (rm_orElse l Z a0 hw [] b68 (-1 : Int32) zp_68 zv_68 T68.heap P68_1 P68_2) rfl 0 (by decide) (by decide) (by decide) (by decide) [(.int (-1 : Int32))] (by rw [hml]; rfl) pd_10 rfl P68_0 rfl rfl (Nat.le_of_eq rfl) (hb hby at_246) (pc' := 249) rfl (fun z69 T69 hz69 X69 e69 => ?_)
          have az69 : (zp_68.toInt = 0 → z69.toInt = (-1 : Int)) ∧ (¬ zp_68.toInt = 0 → z69.toInt = zv_68.toInt) := hz69
          have rz69 := rng32 z69
          refine ow_iload X69 hx (hb hby at_249) rfl (pc' := 251) rfl ?_
          refine ow_icmp_ne X69 hx (z69.toInt) (z49.toInt) (hb hby at_251) rfl rfl (by decide) (pt := 274) (by decide) (pf := 254) rfl (fun c251 => absurd c251 (by omega)) (fun c251 => ?_)
          have hb70 : ((fun j => if (j : Int) < z2.toInt then (-2147483648 : Int32) else (fun _ => 0) j) z52.toInt.toNat).toInt = -2147483648 := by show (if ((z52.toInt.toNat : Nat) : Int) < z2.toInt then (-2147483648 : Int32) else 0).toInt = _; rw [if_pos (by omega)]; rfl
          have hu70 : (z52.toInt.toNat = z48.toInt.toNat → ((upd (fun j => if (j : Int) < z2.toInt then (-2147483648 : Int32) else (fun _ => 0) j) z48.toInt.toNat z49) z52.toInt.toNat).toInt = z49.toInt) ∧ (¬ z52.toInt.toNat = z48.toInt.toNat → ((upd (fun j => if (j : Int) < z2.toInt then (-2147483648 : Int32) else (fun _ => 0) j) z48.toInt.toNat z49) z52.toInt.toNat).toInt = -2147483648) := ⟨(upd_iff (fun j => if (j : Int) < z2.toInt then (-2147483648 : Int32) else (fun _ => 0) j) z48.toInt.toNat z49 z52.toInt.toNat).1, fun q => ((upd_iff (fun j => if (j : Int) < z2.toInt then (-2147483648 : Int32) else (fun _ => 0) j) z48.toInt.toNat z49 z52.toInt.toNat).2 q).trans hb70⟩
          clear hb70
          refine ow_aload X69 hx (hb hby at_254) rfl rfl (pc' := 256) rfl ?_
          refine ow_iload X69 hx (hb hby at_256) rfl (pc' := 258) rfl ?_
          refine ow_callV X69 hx hZ rfl hown (hw _ (List.mem_of_getElem? (i := 66) rfl)) (hw _ (List.mem_of_getElem? (i := 67) rfl)) (hw _ (List.mem_of_getElem? (i := 69) rfl)) (hw _ (List.mem_of_getElem? (i := 68) rfl)) (hw _ (List.mem_of_getElem? (i := 4) rfl)) (hw _ (List.mem_of_getElem? (i := 70) rfl)) (by decide) (rm_points l Z a0 hw [] b53 z52 b55 ka_55 z2 (upd (fun j => if (j : Int) < z2.toInt then (-2147483648 : Int32) else (fun _ => 0) j) z48.toInt.toNat z49) oe T68.heap n0 Zs68 F_b53_points_68 V_b55_68 (ow_staKeep S_e K68 all0) (E_e.keep K68) (F_eip.keep K68 nin0) (F_ev.keep K68 nin0) (by first | decide | omega) (by first | decide | omega) (by first | decide | omega)) e69 0 (by decide) (by decide) (by decide) (by decide) [(.int z52)] (by rw [hml]; rfl) pd_4 rfl E_b53_68 rfl rfl (Nat.le_of_eq rfl) (hb hby at_258) (pc' := 261) rfl (fun v71 T71 L71 hQ71 X71 => ?_)
          obtain ⟨b71, zp_71, zv_71, rfl, Nc71, Kc71, P71_0, P71_1, P71_2, P71_3⟩ := hQ71
          have P71_3 : (((upd (fun j => if (j : Int) < z2.toInt then (-2147483648 : Int32) else (fun _ => 0) j) z48.toInt.toNat z49) z52.toInt.toNat).toInt = -2147483648 ∧ zp_71.toInt = 0) ∨ (¬ ((upd (fun j => if (j : Int) < z2.toInt then (-2147483648 : Int32) else (fun _ => 0) j) z48.toInt.toNat z49) z52.toInt.toNat).toInt = -2147483648 ∧ zp_71.toInt = 1 ∧ zv_71.toInt = ((upd (fun j => if (j : Int) < z2.toInt then (-2147483648 : Int32) else (fun _ => 0) j) z48.toInt.toNat z49) z52.toInt.toNat).toInt) := P71_3
          have E_b53_71 := E_b53_68.keep Kc71
          have F_b53_points_71 := F_b53_points_68.keep Kc71 nin0
          have F_b53_filled_71 := F_b53_filled_68.keep Kc71 nin0
          have F_b53_total_71 := F_b53_total_68.keep Kc71 nin0
          have V_b55_71 := V_b55_68.keep Kc71 nin0
          have E_b68_71 := P68_0.keep Kc71
          have F_b68_isPresent_71 := P68_1.keep Kc71 nin0
          have F_b68_value_71 := P68_2.keep Kc71 nin0
          have Zs71 : n0 ≤ T71.heap.size := Nat.le_trans Zs68 Kc71.1
          have hks71 : k54 ≤ T71.heap.size := Nat.le_trans hks68 Kc71.1
          have K71 := K68.trans Kc71 all0
          have N71 := Fr.app N68 Nc71
          show Ends _ _ _ _ T71 (mkF m 261 #[.val (.int ps), .val (.int pra), .val (.int psa), .val (.int prb), .val (.int psb), .val (.int pp), .val (.int z2), .val (.int (0 : Int32)), .val (.int z48), .val (.int z49), .val (.int z50), .val (.int (-1 : Int32)), .val (.int z52), .val (.ref b53), .val (.int (1 : Int32)), .val (.int z49), .val (.int (-1 : Int32))] [(.ref b71)])
          refine ow_iconst X71 hx (z := (-1 : Int32)) (hb hby at_261) rfl (pc' := 262) rfl ?_
          refine ow_callVPI X71 hx hZ rfl hown (hw _ (List.mem_of_getElem? (i := 86) rfl)) (hw _ (List.mem_of_getElem? (i := 87) rfl)) (hw _ (List.mem_of_getElem? (i := 89) rfl)) (hw _ (List.mem_of_getElem? (i := 88) rfl)) (hw _ (List.mem_of_getElem? (i := 73) rfl)) (hw _ (List.mem_of_getElem? (i := 90) rfl)) (by decide) (rm_orElse l Z a0 hw [] b71 (-1 : Int32) zp_71 zv_71 T71.heap P71_1 P71_2) rfl 0 (by decide) (by decide) (by decide) (by decide) [(.int (-1 : Int32))] (by rw [hml]; rfl) pd_10 rfl P71_0 rfl rfl (Nat.le_of_eq rfl) (hb hby at_262) (pc' := 265) rfl (fun z72 T72 hz72 X72 e72 => ?_)
          have az72 : (zp_71.toInt = 0 → z72.toInt = (-1 : Int)) ∧ (¬ zp_71.toInt = 0 → z72.toInt = zv_71.toInt) := hz72
          have rz72 := rng32 z72
          refine ow_iload X72 hx (hb hby at_265) rfl (pc' := 267) rfl ?_
          refine ow_icmp_ne X72 hx (z72.toInt) ((-1 : Int)) (hb hby at_267) rfl rfl (by decide) (pt := 274) (by decide) (pf := 270) rfl (fun c267 => absurd c267 (by omega)) (fun c267 => ?_)
          refine ow_iconst X72 hx (z := (1 : Int32)) (hb hby at_270) rfl (pc' := 271) rfl ?_
          refine ow_goto X72 hx (hb hby at_271) (by decide) (pc' := 275) (by decide) ?_
          exact ow_retBW X72 hx hret hlk (hb hby at_275) hS54 (by rw [e72]; exact hks71) (by decide) (by decide) (z' := (1 : Int32)) rfl ⟨rfl, N71⟩
      · refine ow_iload X56 hx (hb hby at_159) rfl (pc' := 161) rfl ?_
        refine ow_istore X56 hx (Ls' := #[.val (.int ps), .val (.int pra), .val (.int psa), .val (.int prb), .val (.int psb), .val (.int pp), .val (.int z2), .val (.int (0 : Int32)), .val (.int z48), .val (.int z49), .val (.int z50), .val (.int (-1 : Int32)), .val (.int z52), .val (.ref b53), .val (.int (1 : Int32)), .val (.int z49), .val (.int z49)]) (hb hby at_161) rfl (pc' := 163) rfl ?_
        refine ow_goto X56 hx (hb hby at_163) (by decide) (pc' := 188) (by decide) ?_
        refine ow_aload X56 hx (hb hby at_188) rfl rfl (pc' := 190) rfl ?_
        refine ow_callVPI X56 hx hZ rfl hown (hw _ (List.mem_of_getElem? (i := 46) rfl)) (hw _ (List.mem_of_getElem? (i := 47) rfl)) (hw _ (List.mem_of_getElem? (i := 49) rfl)) (hw _ (List.mem_of_getElem? (i := 48) rfl)) (hw _ (List.mem_of_getElem? (i := 4) rfl)) (hw _ (List.mem_of_getElem? (i := 50) rfl)) (by decide) (rm_rows l Z a0 hw [] b53 b55 ka_55 z2 (upd (fun j => if (j : Int) < z2.toInt then (-2147483648 : Int32) else (fun _ => 0) j) z48.toInt.toNat z49) T56.heap P56_1 P56_4) rfl 0 (by decide) (by decide) (by decide) (by decide) [] (by rw [hml]; rfl) pd_8 rfl P56_0 rfl rfl (Nat.le_of_eq rfl) (hb hby at_190) (pc' := 193) rfl (fun z73 T73 hz73 X73 e73 => ?_)
        have az73 : z73.toInt = z2.toInt := hz73
        have rz73 := rng32 z73
        refine ow_iload X73 hx (hb hby at_193) rfl (pc' := 195) rfl ?_
        refine ow_icmp_ne X73 hx (z73.toInt) (z2.toInt) (hb hby at_195) rfl rfl (by decide) (pt := 274) (by decide) (pf := 198) rfl (fun c195 => absurd c195 (by omega)) (fun c195 => ?_)
        refine ow_aload X73 hx (hb hby at_198) rfl rfl (pc' := 200) rfl ?_
        refine ow_callVPI X73 hx hZ rfl hown (hw _ (List.mem_of_getElem? (i := 51) rfl)) (hw _ (List.mem_of_getElem? (i := 52) rfl)) (hw _ (List.mem_of_getElem? (i := 54) rfl)) (hw _ (List.mem_of_getElem? (i := 53) rfl)) (hw _ (List.mem_of_getElem? (i := 4) rfl)) (hw _ (List.mem_of_getElem? (i := 55) rfl)) (by decide) (rm_filled l Z a0 hw [] b53 zf_56 T56.heap P56_2) e73 0 (by decide) (by decide) (by decide) (by decide) [] (by rw [hml]; rfl) pd_8 rfl P56_0 rfl rfl (Nat.le_of_eq rfl) (hb hby at_200) (pc' := 203) rfl (fun z74 T74 hz74 X74 e74 => ?_)
        have az74 : z74.toInt = zf_56.toInt := hz74
        have rz74 := rng32 z74
        refine ow_iload X74 hx (hb hby at_203) rfl (pc' := 205) rfl ?_
        refine ow_icmp_ne X74 hx (z74.toInt) ((1 : Int)) (hb hby at_205) rfl rfl (by decide) (pt := 274) (by decide) (pf := 208) rfl (fun c205 => absurd c205 (by omega)) (fun c205 => ?_)
        refine ow_aload X74 hx (hb hby at_208) rfl rfl (pc' := 210) rfl ?_
        refine ow_callVPI X74 hx hZ rfl hown (hw _ (List.mem_of_getElem? (i := 56) rfl)) (hw _ (List.mem_of_getElem? (i := 57) rfl)) (hw _ (List.mem_of_getElem? (i := 59) rfl)) (hw _ (List.mem_of_getElem? (i := 58) rfl)) (hw _ (List.mem_of_getElem? (i := 4) rfl)) (hw _ (List.mem_of_getElem? (i := 60) rfl)) (by decide) (rm_total l Z a0 hw [] b53 zt_56 T56.heap P56_3) e74 0 (by decide) (by decide) (by decide) (by decide) [] (by rw [hml]; rfl) pd_8 rfl P56_0 rfl rfl (Nat.le_of_eq rfl) (hb hby at_210) (pc' := 213) rfl (fun z75 T75 hz75 X75 e75 => ?_)
        have az75 : z75.toInt = zt_56.toInt := hz75
        have rz75 := rng32 z75
        refine ow_iload X75 hx (hb hby at_213) rfl (pc' := 215) rfl ?_
        refine ow_icmp_ne X75 hx (z75.toInt) (z49.toInt) (hb hby at_215) rfl rfl (by decide) (pt := 274) (by decide) (pf := 218) rfl (fun c215 => absurd c215 (by omega)) (fun c215 => ?_)
        refine ow_aload X75 hx (hb hby at_218) rfl rfl (pc' := 220) rfl ?_
        refine ow_callVPI X75 hx hZ rfl hown (hw _ (List.mem_of_getElem? (i := 61) rfl)) (hw _ (List.mem_of_getElem? (i := 62) rfl)) (hw _ (List.mem_of_getElem? (i := 64) rfl)) (hw _ (List.mem_of_getElem? (i := 63) rfl)) (hw _ (List.mem_of_getElem? (i := 4) rfl)) (hw _ (List.mem_of_getElem? (i := 65) rfl)) (by decide) (rm_isFull l Z a0 hw [] b53 b55 ka_55 z2 (upd (fun j => if (j : Int) < z2.toInt then (-2147483648 : Int32) else (fun _ => 0) j) z48.toInt.toNat z49) zf_56 T56.heap P56_2 P56_1 P56_4) e75 0 (by decide) (by decide) (by decide) (by decide) [] (by rw [hml]; rfl) pd_9 rfl P56_0 rfl rfl (Nat.le_of_eq rfl) (hb hby at_220) (pc' := 223) rfl (fun z76 T76 hz76 X76 e76 => ?_)
        have az76 : ((zf_56.toInt = z2.toInt) ∧ z76.toInt = 1) ∨ (¬ (zf_56.toInt = z2.toInt) ∧ z76.toInt = 0) := hz76
        have rz76 := rng32 z76
        refine ow_iload X76 hx (hb hby at_223) rfl (pc' := 225) rfl ?_
        refine ow_iload X76 hx (hb hby at_225) rfl (pc' := 227) rfl ?_
        refine ow_icmp_ne X76 hx ((1 : Int)) (z2.toInt) (hb hby at_227) rfl rfl (by decide) (pt := 234) (by decide) (pf := 230) rfl (fun c227 => ?_) (fun c227 => ?_)
        · refine ow_iconst X76 hx (z := (0 : Int32)) (hb hby at_234) rfl (pc' := 235) rfl ?_
          refine ow_icmp_ne X76 hx (z76.toInt) ((0 : Int)) (hb hby at_235) rfl rfl (by decide) (pt := 274) (by decide) (pf := 238) rfl (fun c235 => absurd c235 (by omega)) (fun c235 => ?_)
          have hb77 : ((fun j => if (j : Int) < z2.toInt then (-2147483648 : Int32) else (fun _ => 0) j) z48.toInt.toNat).toInt = -2147483648 := by show (if ((z48.toInt.toNat : Nat) : Int) < z2.toInt then (-2147483648 : Int32) else 0).toInt = _; rw [if_pos (by omega)]; rfl
          have hu77 : (z48.toInt.toNat = z48.toInt.toNat → ((upd (fun j => if (j : Int) < z2.toInt then (-2147483648 : Int32) else (fun _ => 0) j) z48.toInt.toNat z49) z48.toInt.toNat).toInt = z49.toInt) ∧ (¬ z48.toInt.toNat = z48.toInt.toNat → ((upd (fun j => if (j : Int) < z2.toInt then (-2147483648 : Int32) else (fun _ => 0) j) z48.toInt.toNat z49) z48.toInt.toNat).toInt = -2147483648) := ⟨(upd_iff (fun j => if (j : Int) < z2.toInt then (-2147483648 : Int32) else (fun _ => 0) j) z48.toInt.toNat z49 z48.toInt.toNat).1, fun q => ((upd_iff (fun j => if (j : Int) < z2.toInt then (-2147483648 : Int32) else (fun _ => 0) j) z48.toInt.toNat z49 z48.toInt.toNat).2 q).trans hb77⟩
          clear hb77
          refine ow_aload X76 hx (hb hby at_238) rfl rfl (pc' := 240) rfl ?_
          refine ow_iload X76 hx (hb hby at_240) rfl (pc' := 242) rfl ?_
          refine ow_callV X76 hx hZ rfl hown (hw _ (List.mem_of_getElem? (i := 66) rfl)) (hw _ (List.mem_of_getElem? (i := 67) rfl)) (hw _ (List.mem_of_getElem? (i := 69) rfl)) (hw _ (List.mem_of_getElem? (i := 68) rfl)) (hw _ (List.mem_of_getElem? (i := 4) rfl)) (hw _ (List.mem_of_getElem? (i := 70) rfl)) (by decide) (rm_points l Z a0 hw [] b53 z48 b55 ka_55 z2 (upd (fun j => if (j : Int) < z2.toInt then (-2147483648 : Int32) else (fun _ => 0) j) z48.toInt.toNat z49) oe T56.heap n0 Zs56 P56_1 P56_4 (ow_staKeep S_e K56 all0) (E_e.keep K56) (F_eip.keep K56 nin0) (F_ev.keep K56 nin0) (by first | decide | omega) (by first | decide | omega) (by first | decide | omega)) e76 0 (by decide) (by decide) (by decide) (by decide) [(.int z48)] (by rw [hml]; rfl) pd_4 rfl P56_0 rfl rfl (Nat.le_of_eq rfl) (hb hby at_242) (pc' := 245) rfl (fun v78 T78 L78 hQ78 X78 => ?_)
          obtain ⟨b78, zp_78, zv_78, rfl, Nc78, Kc78, P78_0, P78_1, P78_2, P78_3⟩ := hQ78
          have P78_3 : (((upd (fun j => if (j : Int) < z2.toInt then (-2147483648 : Int32) else (fun _ => 0) j) z48.toInt.toNat z49) z48.toInt.toNat).toInt = -2147483648 ∧ zp_78.toInt = 0) ∨ (¬ ((upd (fun j => if (j : Int) < z2.toInt then (-2147483648 : Int32) else (fun _ => 0) j) z48.toInt.toNat z49) z48.toInt.toNat).toInt = -2147483648 ∧ zp_78.toInt = 1 ∧ zv_78.toInt = ((upd (fun j => if (j : Int) < z2.toInt then (-2147483648 : Int32) else (fun _ => 0) j) z48.toInt.toNat z49) z48.toInt.toNat).toInt) := P78_3
          have E_b53_78 := P56_0.keep Kc78
          have F_b53_points_78 := P56_1.keep Kc78 nin0
          have F_b53_filled_78 := P56_2.keep Kc78 nin0
          have F_b53_total_78 := P56_3.keep Kc78 nin0
          have V_b55_78 := P56_4.keep Kc78 nin0
          have Zs78 : n0 ≤ T78.heap.size := Nat.le_trans Zs56 Kc78.1
          have hks78 : k54 ≤ T78.heap.size := Nat.le_trans hks56 Kc78.1
          have K78 := K56.trans Kc78 all0
          have N78 := Fr.app N56 Nc78
          show Ends _ _ _ _ T78 (mkF m 245 #[.val (.int ps), .val (.int pra), .val (.int psa), .val (.int prb), .val (.int psb), .val (.int pp), .val (.int z2), .val (.int (0 : Int32)), .val (.int z48), .val (.int z49), .val (.int z50), .val (.int (-1 : Int32)), .val (.int z52), .val (.ref b53), .val (.int (1 : Int32)), .val (.int z49), .val (.int z49)] [(.ref b78)])
          refine ow_iconst X78 hx (z := (-1 : Int32)) (hb hby at_245) rfl (pc' := 246) rfl ?_
          refine ow_callVPI X78 hx hZ rfl hown (hw _ (List.mem_of_getElem? (i := 86) rfl)) (hw _ (List.mem_of_getElem? (i := 87) rfl)) (hw _ (List.mem_of_getElem? (i := 89) rfl)) (hw _ (List.mem_of_getElem? (i := 88) rfl)) (hw _ (List.mem_of_getElem? (i := 73) rfl)) (hw _ (List.mem_of_getElem? (i := 90) rfl)) (by decide) (rm_orElse l Z a0 hw [] b78 (-1 : Int32) zp_78 zv_78 T78.heap P78_1 P78_2) rfl 0 (by decide) (by decide) (by decide) (by decide) [(.int (-1 : Int32))] (by rw [hml]; rfl) pd_10 rfl P78_0 rfl rfl (Nat.le_of_eq rfl) (hb hby at_246) (pc' := 249) rfl (fun z79 T79 hz79 X79 e79 => ?_)
          have az79 : (zp_78.toInt = 0 → z79.toInt = (-1 : Int)) ∧ (¬ zp_78.toInt = 0 → z79.toInt = zv_78.toInt) := hz79
          have rz79 := rng32 z79
          refine ow_iload X79 hx (hb hby at_249) rfl (pc' := 251) rfl ?_
          refine ow_icmp_ne X79 hx (z79.toInt) (z49.toInt) (hb hby at_251) rfl rfl (by decide) (pt := 274) (by decide) (pf := 254) rfl (fun c251 => absurd c251 (by omega)) (fun c251 => ?_)
          have hb80 : ((fun j => if (j : Int) < z2.toInt then (-2147483648 : Int32) else (fun _ => 0) j) z52.toInt.toNat).toInt = -2147483648 := by show (if ((z52.toInt.toNat : Nat) : Int) < z2.toInt then (-2147483648 : Int32) else 0).toInt = _; rw [if_pos (by omega)]; rfl
          have hu80 : (z52.toInt.toNat = z48.toInt.toNat → ((upd (fun j => if (j : Int) < z2.toInt then (-2147483648 : Int32) else (fun _ => 0) j) z48.toInt.toNat z49) z52.toInt.toNat).toInt = z49.toInt) ∧ (¬ z52.toInt.toNat = z48.toInt.toNat → ((upd (fun j => if (j : Int) < z2.toInt then (-2147483648 : Int32) else (fun _ => 0) j) z48.toInt.toNat z49) z52.toInt.toNat).toInt = -2147483648) := ⟨(upd_iff (fun j => if (j : Int) < z2.toInt then (-2147483648 : Int32) else (fun _ => 0) j) z48.toInt.toNat z49 z52.toInt.toNat).1, fun q => ((upd_iff (fun j => if (j : Int) < z2.toInt then (-2147483648 : Int32) else (fun _ => 0) j) z48.toInt.toNat z49 z52.toInt.toNat).2 q).trans hb80⟩
          clear hb80
          refine ow_aload X79 hx (hb hby at_254) rfl rfl (pc' := 256) rfl ?_
          refine ow_iload X79 hx (hb hby at_256) rfl (pc' := 258) rfl ?_
          refine ow_callV X79 hx hZ rfl hown (hw _ (List.mem_of_getElem? (i := 66) rfl)) (hw _ (List.mem_of_getElem? (i := 67) rfl)) (hw _ (List.mem_of_getElem? (i := 69) rfl)) (hw _ (List.mem_of_getElem? (i := 68) rfl)) (hw _ (List.mem_of_getElem? (i := 4) rfl)) (hw _ (List.mem_of_getElem? (i := 70) rfl)) (by decide) (rm_points l Z a0 hw [] b53 z52 b55 ka_55 z2 (upd (fun j => if (j : Int) < z2.toInt then (-2147483648 : Int32) else (fun _ => 0) j) z48.toInt.toNat z49) oe T78.heap n0 Zs78 F_b53_points_78 V_b55_78 (ow_staKeep S_e K78 all0) (E_e.keep K78) (F_eip.keep K78 nin0) (F_ev.keep K78 nin0) (by first | decide | omega) (by first | decide | omega) (by first | decide | omega)) e79 0 (by decide) (by decide) (by decide) (by decide) [(.int z52)] (by rw [hml]; rfl) pd_4 rfl E_b53_78 rfl rfl (Nat.le_of_eq rfl) (hb hby at_258) (pc' := 261) rfl (fun v81 T81 L81 hQ81 X81 => ?_)
          obtain ⟨b81, zp_81, zv_81, rfl, Nc81, Kc81, P81_0, P81_1, P81_2, P81_3⟩ := hQ81
          have P81_3 : (((upd (fun j => if (j : Int) < z2.toInt then (-2147483648 : Int32) else (fun _ => 0) j) z48.toInt.toNat z49) z52.toInt.toNat).toInt = -2147483648 ∧ zp_81.toInt = 0) ∨ (¬ ((upd (fun j => if (j : Int) < z2.toInt then (-2147483648 : Int32) else (fun _ => 0) j) z48.toInt.toNat z49) z52.toInt.toNat).toInt = -2147483648 ∧ zp_81.toInt = 1 ∧ zv_81.toInt = ((upd (fun j => if (j : Int) < z2.toInt then (-2147483648 : Int32) else (fun _ => 0) j) z48.toInt.toNat z49) z52.toInt.toNat).toInt) := P81_3
          have E_b53_81 := E_b53_78.keep Kc81
          have F_b53_points_81 := F_b53_points_78.keep Kc81 nin0
          have F_b53_filled_81 := F_b53_filled_78.keep Kc81 nin0
          have F_b53_total_81 := F_b53_total_78.keep Kc81 nin0
          have V_b55_81 := V_b55_78.keep Kc81 nin0
          have E_b78_81 := P78_0.keep Kc81
          have F_b78_isPresent_81 := P78_1.keep Kc81 nin0
          have F_b78_value_81 := P78_2.keep Kc81 nin0
          have Zs81 : n0 ≤ T81.heap.size := Nat.le_trans Zs78 Kc81.1
          have hks81 : k54 ≤ T81.heap.size := Nat.le_trans hks78 Kc81.1
          have K81 := K78.trans Kc81 all0
          have N81 := Fr.app N78 Nc81
          show Ends _ _ _ _ T81 (mkF m 261 #[.val (.int ps), .val (.int pra), .val (.int psa), .val (.int prb), .val (.int psb), .val (.int pp), .val (.int z2), .val (.int (0 : Int32)), .val (.int z48), .val (.int z49), .val (.int z50), .val (.int (-1 : Int32)), .val (.int z52), .val (.ref b53), .val (.int (1 : Int32)), .val (.int z49), .val (.int z49)] [(.ref b81)])
          refine ow_iconst X81 hx (z := (-1 : Int32)) (hb hby at_261) rfl (pc' := 262) rfl ?_
          refine ow_callVPI X81 hx hZ rfl hown (hw _ (List.mem_of_getElem? (i := 86) rfl)) (hw _ (List.mem_of_getElem? (i := 87) rfl)) (hw _ (List.mem_of_getElem? (i := 89) rfl)) (hw _ (List.mem_of_getElem? (i := 88) rfl)) (hw _ (List.mem_of_getElem? (i := 73) rfl)) (hw _ (List.mem_of_getElem? (i := 90) rfl)) (by decide) (rm_orElse l Z a0 hw [] b81 (-1 : Int32) zp_81 zv_81 T81.heap P81_1 P81_2) rfl 0 (by decide) (by decide) (by decide) (by decide) [(.int (-1 : Int32))] (by rw [hml]; rfl) pd_10 rfl P81_0 rfl rfl (Nat.le_of_eq rfl) (hb hby at_262) (pc' := 265) rfl (fun z82 T82 hz82 X82 e82 => ?_)
          have az82 : (zp_81.toInt = 0 → z82.toInt = (-1 : Int)) ∧ (¬ zp_81.toInt = 0 → z82.toInt = zv_81.toInt) := hz82
          have rz82 := rng32 z82
          refine ow_iload X82 hx (hb hby at_265) rfl (pc' := 267) rfl ?_
          refine ow_icmp_ne X82 hx (z82.toInt) (z49.toInt) (hb hby at_267) rfl rfl (by decide) (pt := 274) (by decide) (pf := 270) rfl (fun c267 => absurd c267 (by omega)) (fun c267 => ?_)
          refine ow_iconst X82 hx (z := (1 : Int32)) (hb hby at_270) rfl (pc' := 271) rfl ?_
          refine ow_goto X82 hx (hb hby at_271) (by decide) (pc' := 275) (by decide) ?_
          exact ow_retBW X82 hx hret hlk (hb hby at_275) hS54 (by rw [e82]; exact hks81) (by decide) (by decide) (z' := (1 : Int32)) rfl ⟨rfl, N81⟩
        · refine ow_iconst X76 hx (z := (1 : Int32)) (hb hby at_230) rfl (pc' := 231) rfl ?_
          refine ow_goto X76 hx (hb hby at_231) (by decide) (pc' := 235) (by decide) ?_
          refine ow_icmp_ne X76 hx (z76.toInt) ((1 : Int)) (hb hby at_235) rfl rfl (by decide) (pt := 274) (by decide) (pf := 238) rfl (fun c235 => absurd c235 (by omega)) (fun c235 => ?_)
          have hb83 : ((fun j => if (j : Int) < z2.toInt then (-2147483648 : Int32) else (fun _ => 0) j) z48.toInt.toNat).toInt = -2147483648 := by show (if ((z48.toInt.toNat : Nat) : Int) < z2.toInt then (-2147483648 : Int32) else 0).toInt = _; rw [if_pos (by omega)]; rfl
          have hu83 : (z48.toInt.toNat = z48.toInt.toNat → ((upd (fun j => if (j : Int) < z2.toInt then (-2147483648 : Int32) else (fun _ => 0) j) z48.toInt.toNat z49) z48.toInt.toNat).toInt = z49.toInt) ∧ (¬ z48.toInt.toNat = z48.toInt.toNat → ((upd (fun j => if (j : Int) < z2.toInt then (-2147483648 : Int32) else (fun _ => 0) j) z48.toInt.toNat z49) z48.toInt.toNat).toInt = -2147483648) := ⟨(upd_iff (fun j => if (j : Int) < z2.toInt then (-2147483648 : Int32) else (fun _ => 0) j) z48.toInt.toNat z49 z48.toInt.toNat).1, fun q => ((upd_iff (fun j => if (j : Int) < z2.toInt then (-2147483648 : Int32) else (fun _ => 0) j) z48.toInt.toNat z49 z48.toInt.toNat).2 q).trans hb83⟩
          clear hb83
          refine ow_aload X76 hx (hb hby at_238) rfl rfl (pc' := 240) rfl ?_
          refine ow_iload X76 hx (hb hby at_240) rfl (pc' := 242) rfl ?_
          refine ow_callV X76 hx hZ rfl hown (hw _ (List.mem_of_getElem? (i := 66) rfl)) (hw _ (List.mem_of_getElem? (i := 67) rfl)) (hw _ (List.mem_of_getElem? (i := 69) rfl)) (hw _ (List.mem_of_getElem? (i := 68) rfl)) (hw _ (List.mem_of_getElem? (i := 4) rfl)) (hw _ (List.mem_of_getElem? (i := 70) rfl)) (by decide) (rm_points l Z a0 hw [] b53 z48 b55 ka_55 z2 (upd (fun j => if (j : Int) < z2.toInt then (-2147483648 : Int32) else (fun _ => 0) j) z48.toInt.toNat z49) oe T56.heap n0 Zs56 P56_1 P56_4 (ow_staKeep S_e K56 all0) (E_e.keep K56) (F_eip.keep K56 nin0) (F_ev.keep K56 nin0) (by first | decide | omega) (by first | decide | omega) (by first | decide | omega)) e76 0 (by decide) (by decide) (by decide) (by decide) [(.int z48)] (by rw [hml]; rfl) pd_4 rfl P56_0 rfl rfl (Nat.le_of_eq rfl) (hb hby at_242) (pc' := 245) rfl (fun v84 T84 L84 hQ84 X84 => ?_)
          obtain ⟨b84, zp_84, zv_84, rfl, Nc84, Kc84, P84_0, P84_1, P84_2, P84_3⟩ := hQ84
          have P84_3 : (((upd (fun j => if (j : Int) < z2.toInt then (-2147483648 : Int32) else (fun _ => 0) j) z48.toInt.toNat z49) z48.toInt.toNat).toInt = -2147483648 ∧ zp_84.toInt = 0) ∨ (¬ ((upd (fun j => if (j : Int) < z2.toInt then (-2147483648 : Int32) else (fun _ => 0) j) z48.toInt.toNat z49) z48.toInt.toNat).toInt = -2147483648 ∧ zp_84.toInt = 1 ∧ zv_84.toInt = ((upd (fun j => if (j : Int) < z2.toInt then (-2147483648 : Int32) else (fun _ => 0) j) z48.toInt.toNat z49) z48.toInt.toNat).toInt) := P84_3
          have E_b53_84 := P56_0.keep Kc84
          have F_b53_points_84 := P56_1.keep Kc84 nin0
          have F_b53_filled_84 := P56_2.keep Kc84 nin0
          have F_b53_total_84 := P56_3.keep Kc84 nin0
          have V_b55_84 := P56_4.keep Kc84 nin0
          have Zs84 : n0 ≤ T84.heap.size := Nat.le_trans Zs56 Kc84.1
          have hks84 : k54 ≤ T84.heap.size := Nat.le_trans hks56 Kc84.1
          have K84 := K56.trans Kc84 all0
          have N84 := Fr.app N56 Nc84
          show Ends _ _ _ _ T84 (mkF m 245 #[.val (.int ps), .val (.int pra), .val (.int psa), .val (.int prb), .val (.int psb), .val (.int pp), .val (.int z2), .val (.int (0 : Int32)), .val (.int z48), .val (.int z49), .val (.int z50), .val (.int (-1 : Int32)), .val (.int z52), .val (.ref b53), .val (.int (1 : Int32)), .val (.int z49), .val (.int z49)] [(.ref b84)])
          refine ow_iconst X84 hx (z := (-1 : Int32)) (hb hby at_245) rfl (pc' := 246) rfl ?_
          refine ow_callVPI X84 hx hZ rfl hown (hw _ (List.mem_of_getElem? (i := 86) rfl)) (hw _ (List.mem_of_getElem? (i := 87) rfl)) (hw _ (List.mem_of_getElem? (i := 89) rfl)) (hw _ (List.mem_of_getElem? (i := 88) rfl)) (hw _ (List.mem_of_getElem? (i := 73) rfl)) (hw _ (List.mem_of_getElem? (i := 90) rfl)) (by decide) (rm_orElse l Z a0 hw [] b84 (-1 : Int32) zp_84 zv_84 T84.heap P84_1 P84_2) rfl 0 (by decide) (by decide) (by decide) (by decide) [(.int (-1 : Int32))] (by rw [hml]; rfl) pd_10 rfl P84_0 rfl rfl (Nat.le_of_eq rfl) (hb hby at_246) (pc' := 249) rfl (fun z85 T85 hz85 X85 e85 => ?_)
          have az85 : (zp_84.toInt = 0 → z85.toInt = (-1 : Int)) ∧ (¬ zp_84.toInt = 0 → z85.toInt = zv_84.toInt) := hz85
          have rz85 := rng32 z85
          refine ow_iload X85 hx (hb hby at_249) rfl (pc' := 251) rfl ?_
          refine ow_icmp_ne X85 hx (z85.toInt) (z49.toInt) (hb hby at_251) rfl rfl (by decide) (pt := 274) (by decide) (pf := 254) rfl (fun c251 => absurd c251 (by omega)) (fun c251 => ?_)
          have hb86 : ((fun j => if (j : Int) < z2.toInt then (-2147483648 : Int32) else (fun _ => 0) j) z52.toInt.toNat).toInt = -2147483648 := by show (if ((z52.toInt.toNat : Nat) : Int) < z2.toInt then (-2147483648 : Int32) else 0).toInt = _; rw [if_pos (by omega)]; rfl
          have hu86 : (z52.toInt.toNat = z48.toInt.toNat → ((upd (fun j => if (j : Int) < z2.toInt then (-2147483648 : Int32) else (fun _ => 0) j) z48.toInt.toNat z49) z52.toInt.toNat).toInt = z49.toInt) ∧ (¬ z52.toInt.toNat = z48.toInt.toNat → ((upd (fun j => if (j : Int) < z2.toInt then (-2147483648 : Int32) else (fun _ => 0) j) z48.toInt.toNat z49) z52.toInt.toNat).toInt = -2147483648) := ⟨(upd_iff (fun j => if (j : Int) < z2.toInt then (-2147483648 : Int32) else (fun _ => 0) j) z48.toInt.toNat z49 z52.toInt.toNat).1, fun q => ((upd_iff (fun j => if (j : Int) < z2.toInt then (-2147483648 : Int32) else (fun _ => 0) j) z48.toInt.toNat z49 z52.toInt.toNat).2 q).trans hb86⟩
          clear hb86
          refine ow_aload X85 hx (hb hby at_254) rfl rfl (pc' := 256) rfl ?_
          refine ow_iload X85 hx (hb hby at_256) rfl (pc' := 258) rfl ?_
          refine ow_callV X85 hx hZ rfl hown (hw _ (List.mem_of_getElem? (i := 66) rfl)) (hw _ (List.mem_of_getElem? (i := 67) rfl)) (hw _ (List.mem_of_getElem? (i := 69) rfl)) (hw _ (List.mem_of_getElem? (i := 68) rfl)) (hw _ (List.mem_of_getElem? (i := 4) rfl)) (hw _ (List.mem_of_getElem? (i := 70) rfl)) (by decide) (rm_points l Z a0 hw [] b53 z52 b55 ka_55 z2 (upd (fun j => if (j : Int) < z2.toInt then (-2147483648 : Int32) else (fun _ => 0) j) z48.toInt.toNat z49) oe T84.heap n0 Zs84 F_b53_points_84 V_b55_84 (ow_staKeep S_e K84 all0) (E_e.keep K84) (F_eip.keep K84 nin0) (F_ev.keep K84 nin0) (by first | decide | omega) (by first | decide | omega) (by first | decide | omega)) e85 0 (by decide) (by decide) (by decide) (by decide) [(.int z52)] (by rw [hml]; rfl) pd_4 rfl E_b53_84 rfl rfl (Nat.le_of_eq rfl) (hb hby at_258) (pc' := 261) rfl (fun v87 T87 L87 hQ87 X87 => ?_)
          obtain ⟨b87, zp_87, zv_87, rfl, Nc87, Kc87, P87_0, P87_1, P87_2, P87_3⟩ := hQ87
          have P87_3 : (((upd (fun j => if (j : Int) < z2.toInt then (-2147483648 : Int32) else (fun _ => 0) j) z48.toInt.toNat z49) z52.toInt.toNat).toInt = -2147483648 ∧ zp_87.toInt = 0) ∨ (¬ ((upd (fun j => if (j : Int) < z2.toInt then (-2147483648 : Int32) else (fun _ => 0) j) z48.toInt.toNat z49) z52.toInt.toNat).toInt = -2147483648 ∧ zp_87.toInt = 1 ∧ zv_87.toInt = ((upd (fun j => if (j : Int) < z2.toInt then (-2147483648 : Int32) else (fun _ => 0) j) z48.toInt.toNat z49) z52.toInt.toNat).toInt) := P87_3
          have E_b53_87 := E_b53_84.keep Kc87
          have F_b53_points_87 := F_b53_points_84.keep Kc87 nin0
          have F_b53_filled_87 := F_b53_filled_84.keep Kc87 nin0
          have F_b53_total_87 := F_b53_total_84.keep Kc87 nin0
          have V_b55_87 := V_b55_84.keep Kc87 nin0
          have E_b84_87 := P84_0.keep Kc87
          have F_b84_isPresent_87 := P84_1.keep Kc87 nin0
          have F_b84_value_87 := P84_2.keep Kc87 nin0
          have Zs87 : n0 ≤ T87.heap.size := Nat.le_trans Zs84 Kc87.1
          have hks87 : k54 ≤ T87.heap.size := Nat.le_trans hks84 Kc87.1
          have K87 := K84.trans Kc87 all0
          have N87 := Fr.app N84 Nc87
          show Ends _ _ _ _ T87 (mkF m 261 #[.val (.int ps), .val (.int pra), .val (.int psa), .val (.int prb), .val (.int psb), .val (.int pp), .val (.int z2), .val (.int (0 : Int32)), .val (.int z48), .val (.int z49), .val (.int z50), .val (.int (-1 : Int32)), .val (.int z52), .val (.ref b53), .val (.int (1 : Int32)), .val (.int z49), .val (.int z49)] [(.ref b87)])
          refine ow_iconst X87 hx (z := (-1 : Int32)) (hb hby at_261) rfl (pc' := 262) rfl ?_
          refine ow_callVPI X87 hx hZ rfl hown (hw _ (List.mem_of_getElem? (i := 86) rfl)) (hw _ (List.mem_of_getElem? (i := 87) rfl)) (hw _ (List.mem_of_getElem? (i := 89) rfl)) (hw _ (List.mem_of_getElem? (i := 88) rfl)) (hw _ (List.mem_of_getElem? (i := 73) rfl)) (hw _ (List.mem_of_getElem? (i := 90) rfl)) (by decide) (rm_orElse l Z a0 hw [] b87 (-1 : Int32) zp_87 zv_87 T87.heap P87_1 P87_2) rfl 0 (by decide) (by decide) (by decide) (by decide) [(.int (-1 : Int32))] (by rw [hml]; rfl) pd_10 rfl P87_0 rfl rfl (Nat.le_of_eq rfl) (hb hby at_262) (pc' := 265) rfl (fun z88 T88 hz88 X88 e88 => ?_)
          have az88 : (zp_87.toInt = 0 → z88.toInt = (-1 : Int)) ∧ (¬ zp_87.toInt = 0 → z88.toInt = zv_87.toInt) := hz88
          have rz88 := rng32 z88
          refine ow_iload X88 hx (hb hby at_265) rfl (pc' := 267) rfl ?_
          refine ow_icmp_ne X88 hx (z88.toInt) (z49.toInt) (hb hby at_267) rfl rfl (by decide) (pt := 274) (by decide) (pf := 270) rfl (fun c267 => absurd c267 (by omega)) (fun c267 => ?_)
          refine ow_iconst X88 hx (z := (1 : Int32)) (hb hby at_270) rfl (pc' := 271) rfl ?_
          refine ow_goto X88 hx (hb hby at_271) (by decide) (pc' := 275) (by decide) ?_
          exact ow_retBW X88 hx hret hlk (hb hby at_275) hS54 (by rw [e88]; exact hks87) (by decide) (by decide) (z' := (1 : Int32)) rfl ⟨rfl, N87⟩
    · refine ow_iconst X0 hx (z := (1 : Int32)) (hb hby at_21) rfl (pc' := 22) rfl ?_
      refine ow_goto X0 hx (hb hby at_22) (by decide) (pc' := 26) (by decide) ?_
      refine ow_istore X0 hx (Ls' := #[.val (.int ps), .val (.int pra), .val (.int psa), .val (.int prb), .val (.int psb), .val (.int pp), .val (.int z2), .val (.int (1 : Int32)), .unset, .unset, .unset, .unset, .unset, .unset, .unset, .unset, .unset]) (hb hby at_26) rfl (pc' := 28) rfl ?_
      refine ow_iloadN X0 hx (hb hby at_28) rfl (pc' := 29) rfl ?_
      refine ow_ldcInt X0 hx hZ hown (hw _ (List.mem_of_getElem? (i := 0) rfl)) (hb hby at_29) (pc' := 31) rfl ?_
      refine ow_iand X0 hx (hb hby at_31) (pc' := 32) rfl (fun z89 hz89 => ?_)
      have az89 : z89.toInt = pra.toInt % 2147483648 := by rw [hz89]; exact c_mask pra (2147483647 : Int32) 31 (by decide) (by decide)
      have rz89 := rng32 z89
      refine ow_iload X0 hx (hb hby at_32) rfl (pc' := 34) rfl ?_
      refine ow_irem X0 hx (hb hby at_34) (fun q => absurd (show z2.toInt = 0 from congrArg Int32.toInt q) (by omega)) (pc' := 35) rfl (fun z90 hz90 => ?_)
      have az90 : 0 ≤ z90.toInt ∧ z90.toInt < z2.toInt ∧ z90.toInt ≤ z89.toInt ∧ (z89.toInt < z2.toInt → z90.toInt = z89.toInt) ∧ (z2.toInt ≤ z89.toInt → z89.toInt < 2 * z2.toInt → z90.toInt = z89.toInt - z2.toInt) := by rw [hz90]; exact (c_iremV z89 z2).1 (by omega) (by omega)
      have rz90 := rng32 z90
      refine ow_istore X0 hx (Ls' := #[.val (.int ps), .val (.int pra), .val (.int psa), .val (.int prb), .val (.int psb), .val (.int pp), .val (.int z2), .val (.int (1 : Int32)), .val (.int z90), .unset, .unset, .unset, .unset, .unset, .unset, .unset, .unset]) (hb hby at_35) rfl (pc' := 37) rfl ?_
      refine ow_iloadN X0 hx (hb hby at_37) rfl (pc' := 38) rfl ?_
      refine ow_ldcInt X0 hx hZ hown (hw _ (List.mem_of_getElem? (i := 1) rfl)) (hb hby at_38) (pc' := 40) rfl ?_
      refine ow_iand X0 hx (hb hby at_40) (pc' := 41) rfl (fun z91 hz91 => ?_)
      have az91 : z91.toInt = psa.toInt % 1073741824 := by rw [hz91]; exact c_mask psa (1073741823 : Int32) 30 (by decide) (by decide)
      have rz91 := rng32 z91
      refine ow_istore X0 hx (Ls' := #[.val (.int ps), .val (.int pra), .val (.int psa), .val (.int prb), .val (.int psb), .val (.int pp), .val (.int z2), .val (.int (1 : Int32)), .val (.int z90), .val (.int z91), .unset, .unset, .unset, .unset, .unset, .unset, .unset]) (hb hby at_41) rfl (pc' := 43) rfl ?_
      refine ow_iload X0 hx (hb hby at_43) rfl (pc' := 45) rfl ?_
      refine ow_ldcInt X0 hx hZ hown (hw _ (List.mem_of_getElem? (i := 1) rfl)) (hb hby at_45) (pc' := 47) rfl ?_
      refine ow_iand X0 hx (hb hby at_47) (pc' := 48) rfl (fun z92 hz92 => ?_)
      have az92 : z92.toInt = psb.toInt % 1073741824 := by rw [hz92]; exact c_mask psb (1073741823 : Int32) 30 (by decide) (by decide)
      have rz92 := rng32 z92
      refine ow_istore X0 hx (Ls' := #[.val (.int ps), .val (.int pra), .val (.int psa), .val (.int prb), .val (.int psb), .val (.int pp), .val (.int z2), .val (.int (1 : Int32)), .val (.int z90), .val (.int z91), .val (.int z92), .unset, .unset, .unset, .unset, .unset, .unset]) (hb hby at_48) rfl (pc' := 50) rfl ?_
      refine ow_iconst X0 hx (z := (-1 : Int32)) (hb hby at_50) rfl (pc' := 51) rfl ?_
      refine ow_istore X0 hx (Ls' := #[.val (.int ps), .val (.int pra), .val (.int psa), .val (.int prb), .val (.int psb), .val (.int pp), .val (.int z2), .val (.int (1 : Int32)), .val (.int z90), .val (.int z91), .val (.int z92), .val (.int (-1 : Int32)), .unset, .unset, .unset, .unset, .unset]) (hb hby at_51) rfl (pc' := 53) rfl ?_
      refine ow_iload X0 hx (hb hby at_53) rfl (pc' := 55) rfl ?_
      refine ow_ifN X0 hx (hb hby at_55) (by decide) (pc' := 58) rfl ?_
      refine ow_iload X0 hx (hb hby at_58) rfl (pc' := 60) rfl ?_
      refine ow_iconst X0 hx (z := (1 : Int32)) (hb hby at_60) rfl (pc' := 61) rfl ?_
      refine ow_iadd X0 hx (hb hby at_61) (pc' := 62) rfl (fun z93 hz93 => ?_)
      have az93 : (z93.toInt - (z90.toInt + (1 : Int))) % 4294967296 = 0 := by rw [hz93]; exact c_iadd z90 (1 : Int32)
      have rz93 := rng32 z93
      refine ow_iloadN X0 hx (hb hby at_62) rfl (pc' := 63) rfl ?_
      refine ow_ldcInt X0 hx hZ hown (hw _ (List.mem_of_getElem? (i := 0) rfl)) (hb hby at_63) (pc' := 65) rfl ?_
      refine ow_iand X0 hx (hb hby at_65) (pc' := 66) rfl (fun z94 hz94 => ?_)
      have az94 : z94.toInt = prb.toInt % 2147483648 := by rw [hz94]; exact c_mask prb (2147483647 : Int32) 31 (by decide) (by decide)
      have rz94 := rng32 z94
      refine ow_iload X0 hx (hb hby at_66) rfl (pc' := 68) rfl ?_
      refine ow_iconst X0 hx (z := (1 : Int32)) (hb hby at_68) rfl (pc' := 69) rfl ?_
      refine ow_isub X0 hx (hb hby at_69) (pc' := 70) rfl (fun z95 hz95 => ?_)
      have az95 : (z95.toInt - (z2.toInt - (1 : Int))) % 4294967296 = 0 := by rw [hz95]; exact c_isub z2 (1 : Int32)
      have rz95 := rng32 z95
      refine ow_irem X0 hx (hb hby at_70) (fun q => absurd (show z95.toInt = 0 from congrArg Int32.toInt q) (by omega)) (pc' := 71) rfl (fun z96 hz96 => ?_)
      have az96 : 0 ≤ z96.toInt ∧ z96.toInt < z95.toInt ∧ z96.toInt ≤ z94.toInt ∧ (z94.toInt < z95.toInt → z96.toInt = z94.toInt) ∧ (z95.toInt ≤ z94.toInt → z94.toInt < 2 * z95.toInt → z96.toInt = z94.toInt - z95.toInt) := by rw [hz96]; exact (c_iremV z94 z95).1 (by omega) (by omega)
      have rz96 := rng32 z96
      refine ow_iadd X0 hx (hb hby at_71) (pc' := 72) rfl (fun z97 hz97 => ?_)
      have az97 : (z97.toInt - (z93.toInt + z96.toInt)) % 4294967296 = 0 := by rw [hz97]; exact c_iadd z93 z96
      have rz97 := rng32 z97
      refine ow_iload X0 hx (hb hby at_72) rfl (pc' := 74) rfl ?_
      refine ow_irem X0 hx (hb hby at_74) (fun q => absurd (show z2.toInt = 0 from congrArg Int32.toInt q) (by omega)) (pc' := 75) rfl (fun z98 hz98 => ?_)
      have az98 : 0 ≤ z98.toInt ∧ z98.toInt < z2.toInt ∧ z98.toInt ≤ z97.toInt ∧ (z97.toInt < z2.toInt → z98.toInt = z97.toInt) ∧ (z2.toInt ≤ z97.toInt → z97.toInt < 2 * z2.toInt → z98.toInt = z97.toInt - z2.toInt) := by rw [hz98]; exact (c_iremV z97 z2).1 (by omega) (by omega)
      have rz98 := rng32 z98
      refine ow_istore X0 hx (Ls' := #[.val (.int ps), .val (.int pra), .val (.int psa), .val (.int prb), .val (.int psb), .val (.int pp), .val (.int z2), .val (.int (1 : Int32)), .val (.int z90), .val (.int z91), .val (.int z92), .val (.int z98), .unset, .unset, .unset, .unset, .unset]) (hb hby at_75) rfl (pc' := 77) rfl ?_
      refine ow_iload X0 hx (hb hby at_77) rfl (pc' := 79) rfl ?_
      refine ow_ldcInt X0 hx hZ hown (hw _ (List.mem_of_getElem? (i := 0) rfl)) (hb hby at_79) (pc' := 81) rfl ?_
      refine ow_iand X0 hx (hb hby at_81) (pc' := 82) rfl (fun z99 hz99 => ?_)
      have az99 : z99.toInt = pp.toInt % 2147483648 := by rw [hz99]; exact c_mask pp (2147483647 : Int32) 31 (by decide) (by decide)
      have rz99 := rng32 z99
      refine ow_iload X0 hx (hb hby at_82) rfl (pc' := 84) rfl ?_
      refine ow_irem X0 hx (hb hby at_84) (fun q => absurd (show z2.toInt = 0 from congrArg Int32.toInt q) (by omega)) (pc' := 85) rfl (fun z100 hz100 => ?_)
      have az100 : 0 ≤ z100.toInt ∧ z100.toInt < z2.toInt ∧ z100.toInt ≤ z99.toInt ∧ (z99.toInt < z2.toInt → z100.toInt = z99.toInt) ∧ (z2.toInt ≤ z99.toInt → z99.toInt < 2 * z2.toInt → z100.toInt = z99.toInt - z2.toInt) := by rw [hz100]; exact (c_iremV z99 z2).1 (by omega) (by omega)
      have rz100 := rng32 z100
      refine ow_istore X0 hx (Ls' := #[.val (.int ps), .val (.int pra), .val (.int psa), .val (.int prb), .val (.int psb), .val (.int pp), .val (.int z2), .val (.int (1 : Int32)), .val (.int z90), .val (.int z91), .val (.int z92), .val (.int z98), .val (.int z100), .unset, .unset, .unset, .unset]) (hb hby at_85) rfl (pc' := 87) rfl ?_
      have sn : 1 ≤ z2.toInt ∧ z2.toInt ≤ 4 := by omega
      have sa : 0 ≤ z90.toInt ∧ z90.toInt < z2.toInt := by omega
      have su : 0 ≤ z91.toInt ∧ z91.toInt ≤ 1073741823 := by omega
      have sv : 0 ≤ z92.toInt ∧ z92.toInt ≤ 1073741823 := by omega
      have sc : 0 ≤ z100.toInt ∧ z100.toInt < z2.toInt := by omega
      have sb : 0 ≤ z98.toInt ∧ z98.toInt < z2.toInt ∧ ¬ z98.toInt = z90.toInt := by omega
      clear az1 rz1 az2 rz2 az45 rz45 az46 rz46 az89 rz89 az90 rz90 az91 rz91 az92 rz92 az93 rz93 az94 rz94 az95 rz95 az96 rz96 az97 rz97 az98 rz98 az99 rz99 az100 rz100 r_ps r_pra r_psa r_prb r_psb r_pp
      refine ow_new X0 hx hZ hown (hw _ (List.mem_of_getElem? (i := 2) rfl)) (hw _ (List.mem_of_getElem? (i := 3) rfl)) (hw _ (List.mem_of_getElem? (i := 4) rfl)) e0 (hb hby at_87) (by decide) (by decide) (pc' := 90) rfl (fun T101 h101 b101 g101 X101 e101 E101 A101 D101 => ?_)
      have g_b101 : n0 ≤ b101 := Nat.le_trans Z0 (Nat.le_of_eq g101.symm)
      have sz_b101 : h0.size ≤ b101 := Nat.le_trans (Keep.refl h0 []).1 (Nat.le_of_eq g101.symm)
      have Zs101 : n0 ≤ h101.size := Nat.le_trans Z0 E101.1
      have K101 := (Keep.refl h0 []).ext E101
      have F_b101_player : Fld Z h101 b101 "com/example/cubilete/cubilete/rules/Sheet" "player" "Ljava/lang/String;" .null := D101 (Or.inr (hw _ (List.mem_of_getElem? (i := 20) rfl))) (ty := (.object "java/lang/String")) (by decide)
      have F_b101_points : Fld Z h101 b101 "com/example/cubilete/cubilete/rules/Sheet" "points" "[I" .null := D101 (Or.inr (hw _ (List.mem_of_getElem? (i := 23) rfl))) (ty := (.array .int)) (by decide)
      have F_b101_filled : Fld Z h101 b101 "com/example/cubilete/cubilete/rules/Sheet" "filled" "I" (.int (0 : Int32)) := D101 (Or.inl (hw _ (List.mem_of_getElem? (i := 43) rfl))) (ty := .int) (by decide)
      have F_b101_total : Fld Z h101 b101 "com/example/cubilete/cubilete/rules/Sheet" "total" "I" (.int (0 : Int32)) := D101 (Or.inl (hw _ (List.mem_of_getElem? (i := 45) rfl))) (ty := .int) (by decide)
      refine ow_dup X101 hx (hb hby at_90) rfl (pc' := 91) rfl ?_
      have wS102 : ∀ a ∈ Bundle.stringAtoms, a.before a0 Z = true := fun a ha => by
        simp only [Bundle.stringAtoms, Bundle.sN, List.mem_cons, List.not_mem_nil, or_false] at ha
        rcases ha with rfl | rfl | rfl | rfl | rfl | rfl | rfl
        · exact (hw _ (List.mem_of_getElem? (i := 6) rfl))
        · exact (hw _ (List.mem_of_getElem? (i := 7) rfl))
        · exact (hw _ (List.mem_of_getElem? (i := 8) rfl))
        · exact (hw _ (List.mem_of_getElem? (i := 9) rfl))
        · exact (hw _ (List.mem_of_getElem? (i := 10) rfl))
        · exact (hw _ (List.mem_of_getElem? (i := 11) rfl))
        · exact (hw _ (List.mem_of_getElem? (i := 12) rfl))
      refine ow_ldcS X101 hx hZ hown (hw _ (List.mem_of_getElem? (i := 5) rfl)) wS102 e101 hS0 (Nat.zero_le _) (hb hby at_91) 1024 (by decide) (by decide) (by decide) (by decide) (pc' := 93) rfl (fun a102 T102 h102 k102 X102 e102 E102 hS102 hk102 hZ hown => ?_)
      have E_b101_102 := A101.ext E102
      have F_b101_player_102 := F_b101_player.ext E102
      have F_b101_points_102 := F_b101_points.ext E102
      have F_b101_filled_102 := F_b101_filled.ext E102
      have F_b101_total_102 := F_b101_total.ext E102
      have Zs102 : n0 ≤ h102.size := Nat.le_trans Zs101 E102.1
      have K102 := K101.ext E102
      refine ow_iload X102 hx (hb hby at_93) rfl (pc' := 95) rfl ?_
      refine ow_callI X102 hx hZ rfl rfl hown (hw _ (List.mem_of_getElem? (i := 13) rfl)) (hw _ (List.mem_of_getElem? (i := 14) rfl)) (hw _ (List.mem_of_getElem? (i := 4) rfl)) (hw _ (List.mem_of_getElem? (i := 15) rfl)) (by decide) (rm_shInit l Z a0 hw [] b101 a102 z2 h102 n0 Zs102 E_b101_102 F_b101_player_102 F_b101_points_102 F_b101_filled_102 F_b101_total_102 g_b101 (by first | decide | omega) (by first | decide | omega)) e102 1 (by decide) (by decide) (by decide) (by decide) [(.ref a102), (.int z2)] (by rw [hml]; rfl) pd_6 rfl rfl rfl (Nat.le_of_eq rfl) (hb hby at_95) (pc' := 98) rfl (fun v103 T103 L103 hQ103 X103 => ?_)
      obtain ⟨b103, ka_103, rfl, Nc103, Kc103, P103_0, P103_1, P103_2, P103_3, P103_4, P103_5, P103_6, P103_7⟩ := hQ103
      have ne_b101_b103 : b101 ≠ b103 := Nat.ne_of_lt (Nat.lt_of_lt_of_le E_b101_102.lt P103_6)
      have sz_b103 : h0.size ≤ b103 := Nat.le_trans K102.1 P103_6
      have Zs103 : n0 ≤ T103.heap.size := Nat.le_trans Zs102 Kc103.1
      have hks103 : k102 ≤ T103.heap.size := Nat.le_trans hk102 Kc103.1
      have K103 := K102.trans Kc103 (allS (Or.inr sz_b101) all0)
      have N103 := Fr.app N0 Nc103
      show Ends _ _ _ _ T103 (mkF m 98 #[.val (.int ps), .val (.int pra), .val (.int psa), .val (.int prb), .val (.int psb), .val (.int pp), .val (.int z2), .val (.int (1 : Int32)), .val (.int z90), .val (.int z91), .val (.int z92), .val (.int z98), .val (.int z100), .unset, .unset, .unset, .unset] [(.ref b101)])
      refine ow_astore X103 hx (Ls' := #[.val (.int ps), .val (.int pra), .val (.int psa), .val (.int prb), .val (.int psb), .val (.int pp), .val (.int z2), .val (.int (1 : Int32)), .val (.int z90), .val (.int z91), .val (.int z92), .val (.int z98), .val (.int z100), .val (.ref b101), .unset, .unset, .unset]) (hb hby at_98) rfl rfl (pc' := 100) rfl ?_
      refine ow_aload X103 hx (hb hby at_100) rfl rfl (pc' := 102) rfl ?_
      refine ow_iload X103 hx (hb hby at_102) rfl (pc' := 104) rfl ?_
      refine ow_iload X103 hx (hb hby at_104) rfl (pc' := 106) rfl ?_
      refine ow_callV X103 hx hZ rfl hown (hw _ (List.mem_of_getElem? (i := 29) rfl)) (hw _ (List.mem_of_getElem? (i := 30) rfl)) (hw _ (List.mem_of_getElem? (i := 32) rfl)) (hw _ (List.mem_of_getElem? (i := 31) rfl)) (hw _ (List.mem_of_getElem? (i := 4) rfl)) (hw _ (List.mem_of_getElem? (i := 33) rfl)) (by decide) (rm_shFill l Z a0 hw [] b101 z90 z91 b103 ka_103 z2 (fun j => if (j : Int) < z2.toInt then (-2147483648 : Int32) else (fun _ => 0) j) (0 : Int32) (0 : Int32) T103.heap n0 Zs103 P103_0 P103_1 P103_2 P103_3 P103_4 g_b101 P103_5 P103_7 (by first | decide | omega) (by first | decide | omega) (by first | decide | omega) (by first | decide | omega) (by first | decide | omega) (by first | decide | omega) (by first | decide | omega) (by first | decide | omega) (by first | decide | omega)) rfl 0 (by decide) (by decide) (by decide) (by decide) [(.int z90), (.int z91)] (by rw [hml]; rfl) pd_7 rfl P103_0 rfl rfl (Nat.le_of_eq rfl) (hb hby at_106) (pc' := 109) rfl (fun v104 T104 L104 hQ104 X104 => ?_)
      obtain ⟨zf_104, zt_104, rfl, Nc104, Kc104, P104_0, P104_1, P104_2, P104_3, P104_4, P104_5⟩ := hQ104
      have P104_5 : zf_104.toInt = (0 : Int) + 1 ∧ zt_104.toInt = (0 : Int) + z91.toInt := P104_5
      have Zs104 : n0 ≤ T104.heap.size := Nat.le_trans Zs103 Kc104.1
      have hks104 : k102 ≤ T104.heap.size := Nat.le_trans hks103 Kc104.1
      have K104 := K103.trans Kc104 (allS (Or.inr sz_b101) (allS (Or.inr sz_b103) all0))
      have N104 := Fr.app N103 Nc104
      show Ends _ _ _ _ T104 (mkF m 109 #[.val (.int ps), .val (.int pra), .val (.int psa), .val (.int prb), .val (.int psb), .val (.int pp), .val (.int z2), .val (.int (1 : Int32)), .val (.int z90), .val (.int z91), .val (.int z92), .val (.int z98), .val (.int z100), .val (.ref b101), .unset, .unset, .unset] [])
      refine ow_iload X104 hx (hb hby at_109) rfl (pc' := 111) rfl ?_
      refine ow_ifN X104 hx (hb hby at_111) (by decide) (pc' := 114) rfl ?_
      refine ow_aload X104 hx (hb hby at_114) rfl rfl (pc' := 116) rfl ?_
      refine ow_iload X104 hx (hb hby at_116) rfl (pc' := 118) rfl ?_
      refine ow_iload X104 hx (hb hby at_118) rfl (pc' := 120) rfl ?_
      refine ow_callV X104 hx hZ rfl hown (hw _ (List.mem_of_getElem? (i := 29) rfl)) (hw _ (List.mem_of_getElem? (i := 30) rfl)) (hw _ (List.mem_of_getElem? (i := 32) rfl)) (hw _ (List.mem_of_getElem? (i := 31) rfl)) (hw _ (List.mem_of_getElem? (i := 4) rfl)) (hw _ (List.mem_of_getElem? (i := 33) rfl)) (by decide) (rm_shFill l Z a0 hw [] b101 z98 z92 b103 ka_103 z2 (upd (fun j => if (j : Int) < z2.toInt then (-2147483648 : Int32) else (fun _ => 0) j) z90.toInt.toNat z91) zf_104 zt_104 T104.heap n0 Zs104 P104_0 P104_1 P104_2 P104_3 P104_4 g_b101 P103_5 P103_7 (by first | decide | omega) (by first | decide | omega) (by first | decide | omega) (by first | decide | omega) (by first | decide | omega) (by first | decide | omega) (by first | decide | omega) (by first | decide | omega) (by first | decide | omega)) rfl 0 (by decide) (by decide) (by decide) (by decide) [(.int z98), (.int z92)] (by rw [hml]; rfl) pd_7 rfl P104_0 rfl rfl (Nat.le_of_eq rfl) (hb hby at_120) (pc' := 123) rfl (fun v105 T105 L105 hQ105 X105 => ?_)
      obtain ⟨zf_105, zt_105, rfl, Nc105, Kc105, P105_0, P105_1, P105_2, P105_3, P105_4, P105_5⟩ := hQ105
      have P105_5 : zf_105.toInt = zf_104.toInt + 1 ∧ zt_105.toInt = zt_104.toInt + z92.toInt := P105_5
      have Zs105 : n0 ≤ T105.heap.size := Nat.le_trans Zs104 Kc105.1
      have hks105 : k102 ≤ T105.heap.size := Nat.le_trans hks104 Kc105.1
      have K105 := K104.trans Kc105 (allS (Or.inr sz_b101) (allS (Or.inr sz_b103) all0))
      have N105 := Fr.app N104 Nc105
      show Ends _ _ _ _ T105 (mkF m 123 #[.val (.int ps), .val (.int pra), .val (.int psa), .val (.int prb), .val (.int psb), .val (.int pp), .val (.int z2), .val (.int (1 : Int32)), .val (.int z90), .val (.int z91), .val (.int z92), .val (.int z98), .val (.int z100), .val (.ref b101), .unset, .unset, .unset] [])
      refine ow_iload X105 hx (hb hby at_123) rfl (pc' := 125) rfl ?_
      refine ow_ifN X105 hx (hb hby at_125) (by decide) (pc' := 128) rfl ?_
      refine ow_iconst X105 hx (z := (2 : Int32)) (hb hby at_128) rfl (pc' := 129) rfl ?_
      refine ow_goto X105 hx (hb hby at_129) (by decide) (pc' := 133) (by decide) ?_
      refine ow_istore X105 hx (Ls' := #[.val (.int ps), .val (.int pra), .val (.int psa), .val (.int prb), .val (.int psb), .val (.int pp), .val (.int z2), .val (.int (1 : Int32)), .val (.int z90), .val (.int z91), .val (.int z92), .val (.int z98), .val (.int z100), .val (.ref b101), .val (.int (2 : Int32)), .unset, .unset]) (hb hby at_133) rfl (pc' := 135) rfl ?_
      refine ow_iload X105 hx (hb hby at_135) rfl (pc' := 137) rfl ?_
      refine ow_ifN X105 hx (hb hby at_137) (by decide) (pc' := 140) rfl ?_
      refine ow_iload X105 hx (hb hby at_140) rfl (pc' := 142) rfl ?_
      refine ow_iload X105 hx (hb hby at_142) rfl (pc' := 144) rfl ?_
      refine ow_iadd X105 hx (hb hby at_144) (pc' := 145) rfl (fun z106 hz106 => ?_)
      have az106 : (z106.toInt - (z91.toInt + z92.toInt)) % 4294967296 = 0 := by rw [hz106]; exact c_iadd z91 z92
      have rz106 := rng32 z106
      refine ow_goto X105 hx (hb hby at_145) (by decide) (pc' := 150) (by decide) ?_
      refine ow_istore X105 hx (Ls' := #[.val (.int ps), .val (.int pra), .val (.int psa), .val (.int prb), .val (.int psb), .val (.int pp), .val (.int z2), .val (.int (1 : Int32)), .val (.int z90), .val (.int z91), .val (.int z92), .val (.int z98), .val (.int z100), .val (.ref b101), .val (.int (2 : Int32)), .val (.int z106), .unset]) (hb hby at_150) rfl (pc' := 152) rfl ?_
      refine ow_iload X105 hx (hb hby at_152) rfl (pc' := 154) rfl ?_
      refine ow_iload X105 hx (hb hby at_154) rfl (pc' := 156) rfl ?_
      refine ow_icmp_ne X105 hx (z100.toInt) (z90.toInt) (hb hby at_156) rfl rfl (by decide) (pt := 166) (by decide) (pf := 159) rfl (fun c156 => ?_) (fun c156 => ?_)
      · refine ow_iload X105 hx (hb hby at_166) rfl (pc' := 168) rfl ?_
        refine ow_ifN X105 hx (hb hby at_168) (by decide) (pc' := 171) rfl ?_
        refine ow_iload X105 hx (hb hby at_171) rfl (pc' := 173) rfl ?_
        refine ow_iload X105 hx (hb hby at_173) rfl (pc' := 175) rfl ?_
        refine ow_icmp_ne X105 hx (z100.toInt) (z98.toInt) (hb hby at_175) rfl rfl (by decide) (pt := 185) (by decide) (pf := 178) rfl (fun c175 => ?_) (fun c175 => ?_)
        · refine ow_iconst X105 hx (z := (-1 : Int32)) (hb hby at_185) rfl (pc' := 186) rfl ?_
          refine ow_istore X105 hx (Ls' := #[.val (.int ps), .val (.int pra), .val (.int psa), .val (.int prb), .val (.int psb), .val (.int pp), .val (.int z2), .val (.int (1 : Int32)), .val (.int z90), .val (.int z91), .val (.int z92), .val (.int z98), .val (.int z100), .val (.ref b101), .val (.int (2 : Int32)), .val (.int z106), .val (.int (-1 : Int32))]) (hb hby at_186) rfl (pc' := 188) rfl ?_
          refine ow_aload X105 hx (hb hby at_188) rfl rfl (pc' := 190) rfl ?_
          refine ow_callVPI X105 hx hZ rfl hown (hw _ (List.mem_of_getElem? (i := 46) rfl)) (hw _ (List.mem_of_getElem? (i := 47) rfl)) (hw _ (List.mem_of_getElem? (i := 49) rfl)) (hw _ (List.mem_of_getElem? (i := 48) rfl)) (hw _ (List.mem_of_getElem? (i := 4) rfl)) (hw _ (List.mem_of_getElem? (i := 50) rfl)) (by decide) (rm_rows l Z a0 hw [] b101 b103 ka_103 z2 (upd (upd (fun j => if (j : Int) < z2.toInt then (-2147483648 : Int32) else (fun _ => 0) j) z90.toInt.toNat z91) z98.toInt.toNat z92) T105.heap P105_1 P105_4) rfl 0 (by decide) (by decide) (by decide) (by decide) [] (by rw [hml]; rfl) pd_8 rfl P105_0 rfl rfl (Nat.le_of_eq rfl) (hb hby at_190) (pc' := 193) rfl (fun z107 T107 hz107 X107 e107 => ?_)
          have az107 : z107.toInt = z2.toInt := hz107
          have rz107 := rng32 z107
          refine ow_iload X107 hx (hb hby at_193) rfl (pc' := 195) rfl ?_
          refine ow_icmp_ne X107 hx (z107.toInt) (z2.toInt) (hb hby at_195) rfl rfl (by decide) (pt := 274) (by decide) (pf := 198) rfl (fun c195 => absurd c195 (by omega)) (fun c195 => ?_)
          refine ow_aload X107 hx (hb hby at_198) rfl rfl (pc' := 200) rfl ?_
          refine ow_callVPI X107 hx hZ rfl hown (hw _ (List.mem_of_getElem? (i := 51) rfl)) (hw _ (List.mem_of_getElem? (i := 52) rfl)) (hw _ (List.mem_of_getElem? (i := 54) rfl)) (hw _ (List.mem_of_getElem? (i := 53) rfl)) (hw _ (List.mem_of_getElem? (i := 4) rfl)) (hw _ (List.mem_of_getElem? (i := 55) rfl)) (by decide) (rm_filled l Z a0 hw [] b101 zf_105 T105.heap P105_2) e107 0 (by decide) (by decide) (by decide) (by decide) [] (by rw [hml]; rfl) pd_8 rfl P105_0 rfl rfl (Nat.le_of_eq rfl) (hb hby at_200) (pc' := 203) rfl (fun z108 T108 hz108 X108 e108 => ?_)
          have az108 : z108.toInt = zf_105.toInt := hz108
          have rz108 := rng32 z108
          refine ow_iload X108 hx (hb hby at_203) rfl (pc' := 205) rfl ?_
          refine ow_icmp_ne X108 hx (z108.toInt) ((2 : Int)) (hb hby at_205) rfl rfl (by decide) (pt := 274) (by decide) (pf := 208) rfl (fun c205 => absurd c205 (by omega)) (fun c205 => ?_)
          refine ow_aload X108 hx (hb hby at_208) rfl rfl (pc' := 210) rfl ?_
          refine ow_callVPI X108 hx hZ rfl hown (hw _ (List.mem_of_getElem? (i := 56) rfl)) (hw _ (List.mem_of_getElem? (i := 57) rfl)) (hw _ (List.mem_of_getElem? (i := 59) rfl)) (hw _ (List.mem_of_getElem? (i := 58) rfl)) (hw _ (List.mem_of_getElem? (i := 4) rfl)) (hw _ (List.mem_of_getElem? (i := 60) rfl)) (by decide) (rm_total l Z a0 hw [] b101 zt_105 T105.heap P105_3) e108 0 (by decide) (by decide) (by decide) (by decide) [] (by rw [hml]; rfl) pd_8 rfl P105_0 rfl rfl (Nat.le_of_eq rfl) (hb hby at_210) (pc' := 213) rfl (fun z109 T109 hz109 X109 e109 => ?_)
          have az109 : z109.toInt = zt_105.toInt := hz109
          have rz109 := rng32 z109
          refine ow_iload X109 hx (hb hby at_213) rfl (pc' := 215) rfl ?_
          refine ow_icmp_ne X109 hx (z109.toInt) (z106.toInt) (hb hby at_215) rfl rfl (by decide) (pt := 274) (by decide) (pf := 218) rfl (fun c215 => absurd c215 (by omega)) (fun c215 => ?_)
          refine ow_aload X109 hx (hb hby at_218) rfl rfl (pc' := 220) rfl ?_
          refine ow_callVPI X109 hx hZ rfl hown (hw _ (List.mem_of_getElem? (i := 61) rfl)) (hw _ (List.mem_of_getElem? (i := 62) rfl)) (hw _ (List.mem_of_getElem? (i := 64) rfl)) (hw _ (List.mem_of_getElem? (i := 63) rfl)) (hw _ (List.mem_of_getElem? (i := 4) rfl)) (hw _ (List.mem_of_getElem? (i := 65) rfl)) (by decide) (rm_isFull l Z a0 hw [] b101 b103 ka_103 z2 (upd (upd (fun j => if (j : Int) < z2.toInt then (-2147483648 : Int32) else (fun _ => 0) j) z90.toInt.toNat z91) z98.toInt.toNat z92) zf_105 T105.heap P105_2 P105_1 P105_4) e109 0 (by decide) (by decide) (by decide) (by decide) [] (by rw [hml]; rfl) pd_9 rfl P105_0 rfl rfl (Nat.le_of_eq rfl) (hb hby at_220) (pc' := 223) rfl (fun z110 T110 hz110 X110 e110 => ?_)
          have az110 : ((zf_105.toInt = z2.toInt) ∧ z110.toInt = 1) ∨ (¬ (zf_105.toInt = z2.toInt) ∧ z110.toInt = 0) := hz110
          have rz110 := rng32 z110
          refine ow_iload X110 hx (hb hby at_223) rfl (pc' := 225) rfl ?_
          refine ow_iload X110 hx (hb hby at_225) rfl (pc' := 227) rfl ?_
          refine ow_icmp_ne X110 hx ((2 : Int)) (z2.toInt) (hb hby at_227) rfl rfl (by decide) (pt := 234) (by decide) (pf := 230) rfl (fun c227 => ?_) (fun c227 => ?_)
          · refine ow_iconst X110 hx (z := (0 : Int32)) (hb hby at_234) rfl (pc' := 235) rfl ?_
            refine ow_icmp_ne X110 hx (z110.toInt) ((0 : Int)) (hb hby at_235) rfl rfl (by decide) (pt := 274) (by decide) (pf := 238) rfl (fun c235 => absurd c235 (by omega)) (fun c235 => ?_)
            have hb111 : ((fun j => if (j : Int) < z2.toInt then (-2147483648 : Int32) else (fun _ => 0) j) z90.toInt.toNat).toInt = -2147483648 := by show (if ((z90.toInt.toNat : Nat) : Int) < z2.toInt then (-2147483648 : Int32) else 0).toInt = _; rw [if_pos (by omega)]; rfl
            have hu111 : (z90.toInt.toNat = z90.toInt.toNat → ((upd (fun j => if (j : Int) < z2.toInt then (-2147483648 : Int32) else (fun _ => 0) j) z90.toInt.toNat z91) z90.toInt.toNat).toInt = z91.toInt) ∧ (¬ z90.toInt.toNat = z90.toInt.toNat → ((upd (fun j => if (j : Int) < z2.toInt then (-2147483648 : Int32) else (fun _ => 0) j) z90.toInt.toNat z91) z90.toInt.toNat).toInt = -2147483648) := ⟨(upd_iff (fun j => if (j : Int) < z2.toInt then (-2147483648 : Int32) else (fun _ => 0) j) z90.toInt.toNat z91 z90.toInt.toNat).1, fun q => ((upd_iff (fun j => if (j : Int) < z2.toInt then (-2147483648 : Int32) else (fun _ => 0) j) z90.toInt.toNat z91 z90.toInt.toNat).2 q).trans hb111⟩
            clear hb111
            have hw111 := upd_iff (upd (fun j => if (j : Int) < z2.toInt then (-2147483648 : Int32) else (fun _ => 0) j) z90.toInt.toNat z91) z98.toInt.toNat z92 z90.toInt.toNat
            refine ow_aload X110 hx (hb hby at_238) rfl rfl (pc' := 240) rfl ?_
            refine ow_iload X110 hx (hb hby at_240) rfl (pc' := 242) rfl ?_
            refine ow_callV X110 hx hZ rfl hown (hw _ (List.mem_of_getElem? (i := 66) rfl)) (hw _ (List.mem_of_getElem? (i := 67) rfl)) (hw _ (List.mem_of_getElem? (i := 69) rfl)) (hw _ (List.mem_of_getElem? (i := 68) rfl)) (hw _ (List.mem_of_getElem? (i := 4) rfl)) (hw _ (List.mem_of_getElem? (i := 70) rfl)) (by decide) (rm_points l Z a0 hw [] b101 z90 b103 ka_103 z2 (upd (upd (fun j => if (j : Int) < z2.toInt then (-2147483648 : Int32) else (fun _ => 0) j) z90.toInt.toNat z91) z98.toInt.toNat z92) oe T105.heap n0 Zs105 P105_1 P105_4 (ow_staKeep S_e K105 all0) (E_e.keep K105) (F_eip.keep K105 nin0) (F_ev.keep K105 nin0) (by first | decide | omega) (by first | decide | omega) (by first | decide | omega)) e110 0 (by decide) (by decide) (by decide) (by decide) [(.int z90)] (by rw [hml]; rfl) pd_4 rfl P105_0 rfl rfl (Nat.le_of_eq rfl) (hb hby at_242) (pc' := 245) rfl (fun v112 T112 L112 hQ112 X112 => ?_)
            obtain ⟨b112, zp_112, zv_112, rfl, Nc112, Kc112, P112_0, P112_1, P112_2, P112_3⟩ := hQ112
            have P112_3 : (((upd (upd (fun j => if (j : Int) < z2.toInt then (-2147483648 : Int32) else (fun _ => 0) j) z90.toInt.toNat z91) z98.toInt.toNat z92) z90.toInt.toNat).toInt = -2147483648 ∧ zp_112.toInt = 0) ∨ (¬ ((upd (upd (fun j => if (j : Int) < z2.toInt then (-2147483648 : Int32) else (fun _ => 0) j) z90.toInt.toNat z91) z98.toInt.toNat z92) z90.toInt.toNat).toInt = -2147483648 ∧ zp_112.toInt = 1 ∧ zv_112.toInt = ((upd (upd (fun j => if (j : Int) < z2.toInt then (-2147483648 : Int32) else (fun _ => 0) j) z90.toInt.toNat z91) z98.toInt.toNat z92) z90.toInt.toNat).toInt) := P112_3
            have E_b101_112 := P105_0.keep Kc112
            have F_b101_points_112 := P105_1.keep Kc112 nin0
            have F_b101_filled_112 := P105_2.keep Kc112 nin0
            have F_b101_total_112 := P105_3.keep Kc112 nin0
            have V_b103_112 := P105_4.keep Kc112 nin0
            have Zs112 : n0 ≤ T112.heap.size := Nat.le_trans Zs105 Kc112.1
            have hks112 : k102 ≤ T112.heap.size := Nat.le_trans hks105 Kc112.1
            have K112 := K105.trans Kc112 all0
            have N112 := Fr.app N105 Nc112
            show Ends _ _ _ _ T112 (mkF m 245 #[.val (.int ps), .val (.int pra), .val (.int psa), .val (.int prb), .val (.int psb), .val (.int pp), .val (.int z2), .val (.int (1 : Int32)), .val (.int z90), .val (.int z91), .val (.int z92), .val (.int z98), .val (.int z100), .val (.ref b101), .val (.int (2 : Int32)), .val (.int z106), .val (.int (-1 : Int32))] [(.ref b112)])
            refine ow_iconst X112 hx (z := (-1 : Int32)) (hb hby at_245) rfl (pc' := 246) rfl ?_
            refine ow_callVPI X112 hx hZ rfl hown (hw _ (List.mem_of_getElem? (i := 86) rfl)) (hw _ (List.mem_of_getElem? (i := 87) rfl)) (hw _ (List.mem_of_getElem? (i := 89) rfl)) (hw _ (List.mem_of_getElem? (i := 88) rfl)) (hw _ (List.mem_of_getElem? (i := 73) rfl)) (hw _ (List.mem_of_getElem? (i := 90) rfl)) (by decide) (rm_orElse l Z a0 hw [] b112 (-1 : Int32) zp_112 zv_112 T112.heap P112_1 P112_2) rfl 0 (by decide) (by decide) (by decide) (by decide) [(.int (-1 : Int32))] (by rw [hml]; rfl) pd_10 rfl P112_0 rfl rfl (Nat.le_of_eq rfl) (hb hby at_246) (pc' := 249) rfl (fun z113 T113 hz113 X113 e113 => ?_)
            have az113 : (zp_112.toInt = 0 → z113.toInt = (-1 : Int)) ∧ (¬ zp_112.toInt = 0 → z113.toInt = zv_112.toInt) := hz113
            have rz113 := rng32 z113
            refine ow_iload X113 hx (hb hby at_249) rfl (pc' := 251) rfl ?_
            refine ow_icmp_ne X113 hx (z113.toInt) (z91.toInt) (hb hby at_251) rfl rfl (by decide) (pt := 274) (by decide) (pf := 254) rfl (fun c251 => absurd c251 (by omega)) (fun c251 => ?_)
            have hb114 : ((fun j => if (j : Int) < z2.toInt then (-2147483648 : Int32) else (fun _ => 0) j) z100.toInt.toNat).toInt = -2147483648 := by show (if ((z100.toInt.toNat : Nat) : Int) < z2.toInt then (-2147483648 : Int32) else 0).toInt = _; rw [if_pos (by omega)]; rfl
            have hu114 : (z100.toInt.toNat = z90.toInt.toNat → ((upd (fun j => if (j : Int) < z2.toInt then (-2147483648 : Int32) else (fun _ => 0) j) z90.toInt.toNat z91) z100.toInt.toNat).toInt = z91.toInt) ∧ (¬ z100.toInt.toNat = z90.toInt.toNat → ((upd (fun j => if (j : Int) < z2.toInt then (-2147483648 : Int32) else (fun _ => 0) j) z90.toInt.toNat z91) z100.toInt.toNat).toInt = -2147483648) := ⟨(upd_iff (fun j => if (j : Int) < z2.toInt then (-2147483648 : Int32) else (fun _ => 0) j) z90.toInt.toNat z91 z100.toInt.toNat).1, fun q => ((upd_iff (fun j => if (j : Int) < z2.toInt then (-2147483648 : Int32) else (fun _ => 0) j) z90.toInt.toNat z91 z100.toInt.toNat).2 q).trans hb114⟩
            clear hb114
            have hw114 := upd_iff (upd (fun j => if (j : Int) < z2.toInt then (-2147483648 : Int32) else (fun _ => 0) j) z90.toInt.toNat z91) z98.toInt.toNat z92 z100.toInt.toNat
            refine ow_aload X113 hx (hb hby at_254) rfl rfl (pc' := 256) rfl ?_
            refine ow_iload X113 hx (hb hby at_256) rfl (pc' := 258) rfl ?_
            refine ow_callV X113 hx hZ rfl hown (hw _ (List.mem_of_getElem? (i := 66) rfl)) (hw _ (List.mem_of_getElem? (i := 67) rfl)) (hw _ (List.mem_of_getElem? (i := 69) rfl)) (hw _ (List.mem_of_getElem? (i := 68) rfl)) (hw _ (List.mem_of_getElem? (i := 4) rfl)) (hw _ (List.mem_of_getElem? (i := 70) rfl)) (by decide) (rm_points l Z a0 hw [] b101 z100 b103 ka_103 z2 (upd (upd (fun j => if (j : Int) < z2.toInt then (-2147483648 : Int32) else (fun _ => 0) j) z90.toInt.toNat z91) z98.toInt.toNat z92) oe T112.heap n0 Zs112 F_b101_points_112 V_b103_112 (ow_staKeep S_e K112 all0) (E_e.keep K112) (F_eip.keep K112 nin0) (F_ev.keep K112 nin0) (by first | decide | omega) (by first | decide | omega) (by first | decide | omega)) e113 0 (by decide) (by decide) (by decide) (by decide) [(.int z100)] (by rw [hml]; rfl) pd_4 rfl E_b101_112 rfl rfl (Nat.le_of_eq rfl) (hb hby at_258) (pc' := 261) rfl (fun v115 T115 L115 hQ115 X115 => ?_)
            obtain ⟨b115, zp_115, zv_115, rfl, Nc115, Kc115, P115_0, P115_1, P115_2, P115_3⟩ := hQ115
            have P115_3 : (((upd (upd (fun j => if (j : Int) < z2.toInt then (-2147483648 : Int32) else (fun _ => 0) j) z90.toInt.toNat z91) z98.toInt.toNat z92) z100.toInt.toNat).toInt = -2147483648 ∧ zp_115.toInt = 0) ∨ (¬ ((upd (upd (fun j => if (j : Int) < z2.toInt then (-2147483648 : Int32) else (fun _ => 0) j) z90.toInt.toNat z91) z98.toInt.toNat z92) z100.toInt.toNat).toInt = -2147483648 ∧ zp_115.toInt = 1 ∧ zv_115.toInt = ((upd (upd (fun j => if (j : Int) < z2.toInt then (-2147483648 : Int32) else (fun _ => 0) j) z90.toInt.toNat z91) z98.toInt.toNat z92) z100.toInt.toNat).toInt) := P115_3
            have E_b101_115 := E_b101_112.keep Kc115
            have F_b101_points_115 := F_b101_points_112.keep Kc115 nin0
            have F_b101_filled_115 := F_b101_filled_112.keep Kc115 nin0
            have F_b101_total_115 := F_b101_total_112.keep Kc115 nin0
            have V_b103_115 := V_b103_112.keep Kc115 nin0
            have E_b112_115 := P112_0.keep Kc115
            have F_b112_isPresent_115 := P112_1.keep Kc115 nin0
            have F_b112_value_115 := P112_2.keep Kc115 nin0
            have Zs115 : n0 ≤ T115.heap.size := Nat.le_trans Zs112 Kc115.1
            have hks115 : k102 ≤ T115.heap.size := Nat.le_trans hks112 Kc115.1
            have K115 := K112.trans Kc115 all0
            have N115 := Fr.app N112 Nc115
            show Ends _ _ _ _ T115 (mkF m 261 #[.val (.int ps), .val (.int pra), .val (.int psa), .val (.int prb), .val (.int psb), .val (.int pp), .val (.int z2), .val (.int (1 : Int32)), .val (.int z90), .val (.int z91), .val (.int z92), .val (.int z98), .val (.int z100), .val (.ref b101), .val (.int (2 : Int32)), .val (.int z106), .val (.int (-1 : Int32))] [(.ref b115)])
            refine ow_iconst X115 hx (z := (-1 : Int32)) (hb hby at_261) rfl (pc' := 262) rfl ?_
            refine ow_callVPI X115 hx hZ rfl hown (hw _ (List.mem_of_getElem? (i := 86) rfl)) (hw _ (List.mem_of_getElem? (i := 87) rfl)) (hw _ (List.mem_of_getElem? (i := 89) rfl)) (hw _ (List.mem_of_getElem? (i := 88) rfl)) (hw _ (List.mem_of_getElem? (i := 73) rfl)) (hw _ (List.mem_of_getElem? (i := 90) rfl)) (by decide) (rm_orElse l Z a0 hw [] b115 (-1 : Int32) zp_115 zv_115 T115.heap P115_1 P115_2) rfl 0 (by decide) (by decide) (by decide) (by decide) [(.int (-1 : Int32))] (by rw [hml]; rfl) pd_10 rfl P115_0 rfl rfl (Nat.le_of_eq rfl) (hb hby at_262) (pc' := 265) rfl (fun z116 T116 hz116 X116 e116 => ?_)
            have az116 : (zp_115.toInt = 0 → z116.toInt = (-1 : Int)) ∧ (¬ zp_115.toInt = 0 → z116.toInt = zv_115.toInt) := hz116
            have rz116 := rng32 z116
            refine ow_iload X116 hx (hb hby at_265) rfl (pc' := 267) rfl ?_
            refine ow_icmp_ne X116 hx (z116.toInt) ((-1 : Int)) (hb hby at_267) rfl rfl (by decide) (pt := 274) (by decide) (pf := 270) rfl (fun c267 => absurd c267 (by omega)) (fun c267 => ?_)
            refine ow_iconst X116 hx (z := (1 : Int32)) (hb hby at_270) rfl (pc' := 271) rfl ?_
            refine ow_goto X116 hx (hb hby at_271) (by decide) (pc' := 275) (by decide) ?_
            exact ow_retBW X116 hx hret hlk (hb hby at_275) hS102 (by rw [e116]; exact hks115) (by decide) (by decide) (z' := (1 : Int32)) rfl ⟨rfl, N115⟩
          · refine ow_iconst X110 hx (z := (1 : Int32)) (hb hby at_230) rfl (pc' := 231) rfl ?_
            refine ow_goto X110 hx (hb hby at_231) (by decide) (pc' := 235) (by decide) ?_
            refine ow_icmp_ne X110 hx (z110.toInt) ((1 : Int)) (hb hby at_235) rfl rfl (by decide) (pt := 274) (by decide) (pf := 238) rfl (fun c235 => absurd c235 (by omega)) (fun c235 => ?_)
            have hb117 : ((fun j => if (j : Int) < z2.toInt then (-2147483648 : Int32) else (fun _ => 0) j) z90.toInt.toNat).toInt = -2147483648 := by show (if ((z90.toInt.toNat : Nat) : Int) < z2.toInt then (-2147483648 : Int32) else 0).toInt = _; rw [if_pos (by omega)]; rfl
            have hu117 : (z90.toInt.toNat = z90.toInt.toNat → ((upd (fun j => if (j : Int) < z2.toInt then (-2147483648 : Int32) else (fun _ => 0) j) z90.toInt.toNat z91) z90.toInt.toNat).toInt = z91.toInt) ∧ (¬ z90.toInt.toNat = z90.toInt.toNat → ((upd (fun j => if (j : Int) < z2.toInt then (-2147483648 : Int32) else (fun _ => 0) j) z90.toInt.toNat z91) z90.toInt.toNat).toInt = -2147483648) := ⟨(upd_iff (fun j => if (j : Int) < z2.toInt then (-2147483648 : Int32) else (fun _ => 0) j) z90.toInt.toNat z91 z90.toInt.toNat).1, fun q => ((upd_iff (fun j => if (j : Int) < z2.toInt then (-2147483648 : Int32) else (fun _ => 0) j) z90.toInt.toNat z91 z90.toInt.toNat).2 q).trans hb117⟩
            clear hb117
            have hw117 := upd_iff (upd (fun j => if (j : Int) < z2.toInt then (-2147483648 : Int32) else (fun _ => 0) j) z90.toInt.toNat z91) z98.toInt.toNat z92 z90.toInt.toNat
            refine ow_aload X110 hx (hb hby at_238) rfl rfl (pc' := 240) rfl ?_
            refine ow_iload X110 hx (hb hby at_240) rfl (pc' := 242) rfl ?_
            refine ow_callV X110 hx hZ rfl hown (hw _ (List.mem_of_getElem? (i := 66) rfl)) (hw _ (List.mem_of_getElem? (i := 67) rfl)) (hw _ (List.mem_of_getElem? (i := 69) rfl)) (hw _ (List.mem_of_getElem? (i := 68) rfl)) (hw _ (List.mem_of_getElem? (i := 4) rfl)) (hw _ (List.mem_of_getElem? (i := 70) rfl)) (by decide) (rm_points l Z a0 hw [] b101 z90 b103 ka_103 z2 (upd (upd (fun j => if (j : Int) < z2.toInt then (-2147483648 : Int32) else (fun _ => 0) j) z90.toInt.toNat z91) z98.toInt.toNat z92) oe T105.heap n0 Zs105 P105_1 P105_4 (ow_staKeep S_e K105 all0) (E_e.keep K105) (F_eip.keep K105 nin0) (F_ev.keep K105 nin0) (by first | decide | omega) (by first | decide | omega) (by first | decide | omega)) e110 0 (by decide) (by decide) (by decide) (by decide) [(.int z90)] (by rw [hml]; rfl) pd_4 rfl P105_0 rfl rfl (Nat.le_of_eq rfl) (hb hby at_242) (pc' := 245) rfl (fun v118 T118 L118 hQ118 X118 => ?_)
            obtain ⟨b118, zp_118, zv_118, rfl, Nc118, Kc118, P118_0, P118_1, P118_2, P118_3⟩ := hQ118
            have P118_3 : (((upd (upd (fun j => if (j : Int) < z2.toInt then (-2147483648 : Int32) else (fun _ => 0) j) z90.toInt.toNat z91) z98.toInt.toNat z92) z90.toInt.toNat).toInt = -2147483648 ∧ zp_118.toInt = 0) ∨ (¬ ((upd (upd (fun j => if (j : Int) < z2.toInt then (-2147483648 : Int32) else (fun _ => 0) j) z90.toInt.toNat z91) z98.toInt.toNat z92) z90.toInt.toNat).toInt = -2147483648 ∧ zp_118.toInt = 1 ∧ zv_118.toInt = ((upd (upd (fun j => if (j : Int) < z2.toInt then (-2147483648 : Int32) else (fun _ => 0) j) z90.toInt.toNat z91) z98.toInt.toNat z92) z90.toInt.toNat).toInt) := P118_3
            have E_b101_118 := P105_0.keep Kc118
            have F_b101_points_118 := P105_1.keep Kc118 nin0
            have F_b101_filled_118 := P105_2.keep Kc118 nin0
            have F_b101_total_118 := P105_3.keep Kc118 nin0
            have V_b103_118 := P105_4.keep Kc118 nin0
            have Zs118 : n0 ≤ T118.heap.size := Nat.le_trans Zs105 Kc118.1
            have hks118 : k102 ≤ T118.heap.size := Nat.le_trans hks105 Kc118.1
            have K118 := K105.trans Kc118 all0
            have N118 := Fr.app N105 Nc118
            show Ends _ _ _ _ T118 (mkF m 245 #[.val (.int ps), .val (.int pra), .val (.int psa), .val (.int prb), .val (.int psb), .val (.int pp), .val (.int z2), .val (.int (1 : Int32)), .val (.int z90), .val (.int z91), .val (.int z92), .val (.int z98), .val (.int z100), .val (.ref b101), .val (.int (2 : Int32)), .val (.int z106), .val (.int (-1 : Int32))] [(.ref b118)])
            refine ow_iconst X118 hx (z := (-1 : Int32)) (hb hby at_245) rfl (pc' := 246) rfl ?_
            refine ow_callVPI X118 hx hZ rfl hown (hw _ (List.mem_of_getElem? (i := 86) rfl)) (hw _ (List.mem_of_getElem? (i := 87) rfl)) (hw _ (List.mem_of_getElem? (i := 89) rfl)) (hw _ (List.mem_of_getElem? (i := 88) rfl)) (hw _ (List.mem_of_getElem? (i := 73) rfl)) (hw _ (List.mem_of_getElem? (i := 90) rfl)) (by decide) (rm_orElse l Z a0 hw [] b118 (-1 : Int32) zp_118 zv_118 T118.heap P118_1 P118_2) rfl 0 (by decide) (by decide) (by decide) (by decide) [(.int (-1 : Int32))] (by rw [hml]; rfl) pd_10 rfl P118_0 rfl rfl (Nat.le_of_eq rfl) (hb hby at_246) (pc' := 249) rfl (fun z119 T119 hz119 X119 e119 => ?_)
            have az119 : (zp_118.toInt = 0 → z119.toInt = (-1 : Int)) ∧ (¬ zp_118.toInt = 0 → z119.toInt = zv_118.toInt) := hz119
            have rz119 := rng32 z119
            refine ow_iload X119 hx (hb hby at_249) rfl (pc' := 251) rfl ?_
            refine ow_icmp_ne X119 hx (z119.toInt) (z91.toInt) (hb hby at_251) rfl rfl (by decide) (pt := 274) (by decide) (pf := 254) rfl (fun c251 => absurd c251 (by omega)) (fun c251 => ?_)
            have hb120 : ((fun j => if (j : Int) < z2.toInt then (-2147483648 : Int32) else (fun _ => 0) j) z100.toInt.toNat).toInt = -2147483648 := by show (if ((z100.toInt.toNat : Nat) : Int) < z2.toInt then (-2147483648 : Int32) else 0).toInt = _; rw [if_pos (by omega)]; rfl
            have hu120 : (z100.toInt.toNat = z90.toInt.toNat → ((upd (fun j => if (j : Int) < z2.toInt then (-2147483648 : Int32) else (fun _ => 0) j) z90.toInt.toNat z91) z100.toInt.toNat).toInt = z91.toInt) ∧ (¬ z100.toInt.toNat = z90.toInt.toNat → ((upd (fun j => if (j : Int) < z2.toInt then (-2147483648 : Int32) else (fun _ => 0) j) z90.toInt.toNat z91) z100.toInt.toNat).toInt = -2147483648) := ⟨(upd_iff (fun j => if (j : Int) < z2.toInt then (-2147483648 : Int32) else (fun _ => 0) j) z90.toInt.toNat z91 z100.toInt.toNat).1, fun q => ((upd_iff (fun j => if (j : Int) < z2.toInt then (-2147483648 : Int32) else (fun _ => 0) j) z90.toInt.toNat z91 z100.toInt.toNat).2 q).trans hb120⟩
            clear hb120
            have hw120 := upd_iff (upd (fun j => if (j : Int) < z2.toInt then (-2147483648 : Int32) else (fun _ => 0) j) z90.toInt.toNat z91) z98.toInt.toNat z92 z100.toInt.toNat
            refine ow_aload X119 hx (hb hby at_254) rfl rfl (pc' := 256) rfl ?_
            refine ow_iload X119 hx (hb hby at_256) rfl (pc' := 258) rfl ?_
            refine ow_callV X119 hx hZ rfl hown (hw _ (List.mem_of_getElem? (i := 66) rfl)) (hw _ (List.mem_of_getElem? (i := 67) rfl)) (hw _ (List.mem_of_getElem? (i := 69) rfl)) (hw _ (List.mem_of_getElem? (i := 68) rfl)) (hw _ (List.mem_of_getElem? (i := 4) rfl)) (hw _ (List.mem_of_getElem? (i := 70) rfl)) (by decide) (rm_points l Z a0 hw [] b101 z100 b103 ka_103 z2 (upd (upd (fun j => if (j : Int) < z2.toInt then (-2147483648 : Int32) else (fun _ => 0) j) z90.toInt.toNat z91) z98.toInt.toNat z92) oe T118.heap n0 Zs118 F_b101_points_118 V_b103_118 (ow_staKeep S_e K118 all0) (E_e.keep K118) (F_eip.keep K118 nin0) (F_ev.keep K118 nin0) (by first | decide | omega) (by first | decide | omega) (by first | decide | omega)) e119 0 (by decide) (by decide) (by decide) (by decide) [(.int z100)] (by rw [hml]; rfl) pd_4 rfl E_b101_118 rfl rfl (Nat.le_of_eq rfl) (hb hby at_258) (pc' := 261) rfl (fun v121 T121 L121 hQ121 X121 => ?_)
            obtain ⟨b121, zp_121, zv_121, rfl, Nc121, Kc121, P121_0, P121_1, P121_2, P121_3⟩ := hQ121
            have P121_3 : (((upd (upd (fun j => if (j : Int) < z2.toInt then (-2147483648 : Int32) else (fun _ => 0) j) z90.toInt.toNat z91) z98.toInt.toNat z92) z100.toInt.toNat).toInt = -2147483648 ∧ zp_121.toInt = 0) ∨ (¬ ((upd (upd (fun j => if (j : Int) < z2.toInt then (-2147483648 : Int32) else (fun _ => 0) j) z90.toInt.toNat z91) z98.toInt.toNat z92) z100.toInt.toNat).toInt = -2147483648 ∧ zp_121.toInt = 1 ∧ zv_121.toInt = ((upd (upd (fun j => if (j : Int) < z2.toInt then (-2147483648 : Int32) else (fun _ => 0) j) z90.toInt.toNat z91) z98.toInt.toNat z92) z100.toInt.toNat).toInt) := P121_3
            have E_b101_121 := E_b101_118.keep Kc121
            have F_b101_points_121 := F_b101_points_118.keep Kc121 nin0
            have F_b101_filled_121 := F_b101_filled_118.keep Kc121 nin0
            have F_b101_total_121 := F_b101_total_118.keep Kc121 nin0
            have V_b103_121 := V_b103_118.keep Kc121 nin0
            have E_b118_121 := P118_0.keep Kc121
            have F_b118_isPresent_121 := P118_1.keep Kc121 nin0
            have F_b118_value_121 := P118_2.keep Kc121 nin0
            have Zs121 : n0 ≤ T121.heap.size := Nat.le_trans Zs118 Kc121.1
            have hks121 : k102 ≤ T121.heap.size := Nat.le_trans hks118 Kc121.1
            have K121 := K118.trans Kc121 all0
            have N121 := Fr.app N118 Nc121
            show Ends _ _ _ _ T121 (mkF m 261 #[.val (.int ps), .val (.int pra), .val (.int psa), .val (.int prb), .val (.int psb), .val (.int pp), .val (.int z2), .val (.int (1 : Int32)), .val (.int z90), .val (.int z91), .val (.int z92), .val (.int z98), .val (.int z100), .val (.ref b101), .val (.int (2 : Int32)), .val (.int z106), .val (.int (-1 : Int32))] [(.ref b121)])
            refine ow_iconst X121 hx (z := (-1 : Int32)) (hb hby at_261) rfl (pc' := 262) rfl ?_
            refine ow_callVPI X121 hx hZ rfl hown (hw _ (List.mem_of_getElem? (i := 86) rfl)) (hw _ (List.mem_of_getElem? (i := 87) rfl)) (hw _ (List.mem_of_getElem? (i := 89) rfl)) (hw _ (List.mem_of_getElem? (i := 88) rfl)) (hw _ (List.mem_of_getElem? (i := 73) rfl)) (hw _ (List.mem_of_getElem? (i := 90) rfl)) (by decide) (rm_orElse l Z a0 hw [] b121 (-1 : Int32) zp_121 zv_121 T121.heap P121_1 P121_2) rfl 0 (by decide) (by decide) (by decide) (by decide) [(.int (-1 : Int32))] (by rw [hml]; rfl) pd_10 rfl P121_0 rfl rfl (Nat.le_of_eq rfl) (hb hby at_262) (pc' := 265) rfl (fun z122 T122 hz122 X122 e122 => ?_)
            have az122 : (zp_121.toInt = 0 → z122.toInt = (-1 : Int)) ∧ (¬ zp_121.toInt = 0 → z122.toInt = zv_121.toInt) := hz122
            have rz122 := rng32 z122
            refine ow_iload X122 hx (hb hby at_265) rfl (pc' := 267) rfl ?_
            refine ow_icmp_ne X122 hx (z122.toInt) ((-1 : Int)) (hb hby at_267) rfl rfl (by decide) (pt := 274) (by decide) (pf := 270) rfl (fun c267 => absurd c267 (by omega)) (fun c267 => ?_)
            refine ow_iconst X122 hx (z := (1 : Int32)) (hb hby at_270) rfl (pc' := 271) rfl ?_
            refine ow_goto X122 hx (hb hby at_271) (by decide) (pc' := 275) (by decide) ?_
            exact ow_retBW X122 hx hret hlk (hb hby at_275) hS102 (by rw [e122]; exact hks121) (by decide) (by decide) (z' := (1 : Int32)) rfl ⟨rfl, N121⟩
        · refine ow_iload X105 hx (hb hby at_178) rfl (pc' := 180) rfl ?_
          refine ow_istore X105 hx (Ls' := #[.val (.int ps), .val (.int pra), .val (.int psa), .val (.int prb), .val (.int psb), .val (.int pp), .val (.int z2), .val (.int (1 : Int32)), .val (.int z90), .val (.int z91), .val (.int z92), .val (.int z98), .val (.int z100), .val (.ref b101), .val (.int (2 : Int32)), .val (.int z106), .val (.int z92)]) (hb hby at_180) rfl (pc' := 182) rfl ?_
          refine ow_goto X105 hx (hb hby at_182) (by decide) (pc' := 188) (by decide) ?_
          refine ow_aload X105 hx (hb hby at_188) rfl rfl (pc' := 190) rfl ?_
          refine ow_callVPI X105 hx hZ rfl hown (hw _ (List.mem_of_getElem? (i := 46) rfl)) (hw _ (List.mem_of_getElem? (i := 47) rfl)) (hw _ (List.mem_of_getElem? (i := 49) rfl)) (hw _ (List.mem_of_getElem? (i := 48) rfl)) (hw _ (List.mem_of_getElem? (i := 4) rfl)) (hw _ (List.mem_of_getElem? (i := 50) rfl)) (by decide) (rm_rows l Z a0 hw [] b101 b103 ka_103 z2 (upd (upd (fun j => if (j : Int) < z2.toInt then (-2147483648 : Int32) else (fun _ => 0) j) z90.toInt.toNat z91) z98.toInt.toNat z92) T105.heap P105_1 P105_4) rfl 0 (by decide) (by decide) (by decide) (by decide) [] (by rw [hml]; rfl) pd_8 rfl P105_0 rfl rfl (Nat.le_of_eq rfl) (hb hby at_190) (pc' := 193) rfl (fun z123 T123 hz123 X123 e123 => ?_)
          have az123 : z123.toInt = z2.toInt := hz123
          have rz123 := rng32 z123
          refine ow_iload X123 hx (hb hby at_193) rfl (pc' := 195) rfl ?_
          refine ow_icmp_ne X123 hx (z123.toInt) (z2.toInt) (hb hby at_195) rfl rfl (by decide) (pt := 274) (by decide) (pf := 198) rfl (fun c195 => absurd c195 (by omega)) (fun c195 => ?_)
          refine ow_aload X123 hx (hb hby at_198) rfl rfl (pc' := 200) rfl ?_
          refine ow_callVPI X123 hx hZ rfl hown (hw _ (List.mem_of_getElem? (i := 51) rfl)) (hw _ (List.mem_of_getElem? (i := 52) rfl)) (hw _ (List.mem_of_getElem? (i := 54) rfl)) (hw _ (List.mem_of_getElem? (i := 53) rfl)) (hw _ (List.mem_of_getElem? (i := 4) rfl)) (hw _ (List.mem_of_getElem? (i := 55) rfl)) (by decide) (rm_filled l Z a0 hw [] b101 zf_105 T105.heap P105_2) e123 0 (by decide) (by decide) (by decide) (by decide) [] (by rw [hml]; rfl) pd_8 rfl P105_0 rfl rfl (Nat.le_of_eq rfl) (hb hby at_200) (pc' := 203) rfl (fun z124 T124 hz124 X124 e124 => ?_)
          have az124 : z124.toInt = zf_105.toInt := hz124
          have rz124 := rng32 z124
          refine ow_iload X124 hx (hb hby at_203) rfl (pc' := 205) rfl ?_
          refine ow_icmp_ne X124 hx (z124.toInt) ((2 : Int)) (hb hby at_205) rfl rfl (by decide) (pt := 274) (by decide) (pf := 208) rfl (fun c205 => absurd c205 (by omega)) (fun c205 => ?_)
          refine ow_aload X124 hx (hb hby at_208) rfl rfl (pc' := 210) rfl ?_
          refine ow_callVPI X124 hx hZ rfl hown (hw _ (List.mem_of_getElem? (i := 56) rfl)) (hw _ (List.mem_of_getElem? (i := 57) rfl)) (hw _ (List.mem_of_getElem? (i := 59) rfl)) (hw _ (List.mem_of_getElem? (i := 58) rfl)) (hw _ (List.mem_of_getElem? (i := 4) rfl)) (hw _ (List.mem_of_getElem? (i := 60) rfl)) (by decide) (rm_total l Z a0 hw [] b101 zt_105 T105.heap P105_3) e124 0 (by decide) (by decide) (by decide) (by decide) [] (by rw [hml]; rfl) pd_8 rfl P105_0 rfl rfl (Nat.le_of_eq rfl) (hb hby at_210) (pc' := 213) rfl (fun z125 T125 hz125 X125 e125 => ?_)
          have az125 : z125.toInt = zt_105.toInt := hz125
          have rz125 := rng32 z125
          refine ow_iload X125 hx (hb hby at_213) rfl (pc' := 215) rfl ?_
          refine ow_icmp_ne X125 hx (z125.toInt) (z106.toInt) (hb hby at_215) rfl rfl (by decide) (pt := 274) (by decide) (pf := 218) rfl (fun c215 => absurd c215 (by omega)) (fun c215 => ?_)
          refine ow_aload X125 hx (hb hby at_218) rfl rfl (pc' := 220) rfl ?_
          refine ow_callVPI X125 hx hZ rfl hown (hw _ (List.mem_of_getElem? (i := 61) rfl)) (hw _ (List.mem_of_getElem? (i := 62) rfl)) (hw _ (List.mem_of_getElem? (i := 64) rfl)) (hw _ (List.mem_of_getElem? (i := 63) rfl)) (hw _ (List.mem_of_getElem? (i := 4) rfl)) (hw _ (List.mem_of_getElem? (i := 65) rfl)) (by decide) (rm_isFull l Z a0 hw [] b101 b103 ka_103 z2 (upd (upd (fun j => if (j : Int) < z2.toInt then (-2147483648 : Int32) else (fun _ => 0) j) z90.toInt.toNat z91) z98.toInt.toNat z92) zf_105 T105.heap P105_2 P105_1 P105_4) e125 0 (by decide) (by decide) (by decide) (by decide) [] (by rw [hml]; rfl) pd_9 rfl P105_0 rfl rfl (Nat.le_of_eq rfl) (hb hby at_220) (pc' := 223) rfl (fun z126 T126 hz126 X126 e126 => ?_)
          have az126 : ((zf_105.toInt = z2.toInt) ∧ z126.toInt = 1) ∨ (¬ (zf_105.toInt = z2.toInt) ∧ z126.toInt = 0) := hz126
          have rz126 := rng32 z126
          refine ow_iload X126 hx (hb hby at_223) rfl (pc' := 225) rfl ?_
          refine ow_iload X126 hx (hb hby at_225) rfl (pc' := 227) rfl ?_
          refine ow_icmp_ne X126 hx ((2 : Int)) (z2.toInt) (hb hby at_227) rfl rfl (by decide) (pt := 234) (by decide) (pf := 230) rfl (fun c227 => ?_) (fun c227 => ?_)
          · refine ow_iconst X126 hx (z := (0 : Int32)) (hb hby at_234) rfl (pc' := 235) rfl ?_
            refine ow_icmp_ne X126 hx (z126.toInt) ((0 : Int)) (hb hby at_235) rfl rfl (by decide) (pt := 274) (by decide) (pf := 238) rfl (fun c235 => absurd c235 (by omega)) (fun c235 => ?_)
            have hb127 : ((fun j => if (j : Int) < z2.toInt then (-2147483648 : Int32) else (fun _ => 0) j) z90.toInt.toNat).toInt = -2147483648 := by show (if ((z90.toInt.toNat : Nat) : Int) < z2.toInt then (-2147483648 : Int32) else 0).toInt = _; rw [if_pos (by omega)]; rfl
            have hu127 : (z90.toInt.toNat = z90.toInt.toNat → ((upd (fun j => if (j : Int) < z2.toInt then (-2147483648 : Int32) else (fun _ => 0) j) z90.toInt.toNat z91) z90.toInt.toNat).toInt = z91.toInt) ∧ (¬ z90.toInt.toNat = z90.toInt.toNat → ((upd (fun j => if (j : Int) < z2.toInt then (-2147483648 : Int32) else (fun _ => 0) j) z90.toInt.toNat z91) z90.toInt.toNat).toInt = -2147483648) := ⟨(upd_iff (fun j => if (j : Int) < z2.toInt then (-2147483648 : Int32) else (fun _ => 0) j) z90.toInt.toNat z91 z90.toInt.toNat).1, fun q => ((upd_iff (fun j => if (j : Int) < z2.toInt then (-2147483648 : Int32) else (fun _ => 0) j) z90.toInt.toNat z91 z90.toInt.toNat).2 q).trans hb127⟩
            clear hb127
            have hw127 := upd_iff (upd (fun j => if (j : Int) < z2.toInt then (-2147483648 : Int32) else (fun _ => 0) j) z90.toInt.toNat z91) z98.toInt.toNat z92 z90.toInt.toNat
            refine ow_aload X126 hx (hb hby at_238) rfl rfl (pc' := 240) rfl ?_
            refine ow_iload X126 hx (hb hby at_240) rfl (pc' := 242) rfl ?_
            refine ow_callV X126 hx hZ rfl hown (hw _ (List.mem_of_getElem? (i := 66) rfl)) (hw _ (List.mem_of_getElem? (i := 67) rfl)) (hw _ (List.mem_of_getElem? (i := 69) rfl)) (hw _ (List.mem_of_getElem? (i := 68) rfl)) (hw _ (List.mem_of_getElem? (i := 4) rfl)) (hw _ (List.mem_of_getElem? (i := 70) rfl)) (by decide) (rm_points l Z a0 hw [] b101 z90 b103 ka_103 z2 (upd (upd (fun j => if (j : Int) < z2.toInt then (-2147483648 : Int32) else (fun _ => 0) j) z90.toInt.toNat z91) z98.toInt.toNat z92) oe T105.heap n0 Zs105 P105_1 P105_4 (ow_staKeep S_e K105 all0) (E_e.keep K105) (F_eip.keep K105 nin0) (F_ev.keep K105 nin0) (by first | decide | omega) (by first | decide | omega) (by first | decide | omega)) e126 0 (by decide) (by decide) (by decide) (by decide) [(.int z90)] (by rw [hml]; rfl) pd_4 rfl P105_0 rfl rfl (Nat.le_of_eq rfl) (hb hby at_242) (pc' := 245) rfl (fun v128 T128 L128 hQ128 X128 => ?_)
            obtain ⟨b128, zp_128, zv_128, rfl, Nc128, Kc128, P128_0, P128_1, P128_2, P128_3⟩ := hQ128
            have P128_3 : (((upd (upd (fun j => if (j : Int) < z2.toInt then (-2147483648 : Int32) else (fun _ => 0) j) z90.toInt.toNat z91) z98.toInt.toNat z92) z90.toInt.toNat).toInt = -2147483648 ∧ zp_128.toInt = 0) ∨ (¬ ((upd (upd (fun j => if (j : Int) < z2.toInt then (-2147483648 : Int32) else (fun _ => 0) j) z90.toInt.toNat z91) z98.toInt.toNat z92) z90.toInt.toNat).toInt = -2147483648 ∧ zp_128.toInt = 1 ∧ zv_128.toInt = ((upd (upd (fun j => if (j : Int) < z2.toInt then (-2147483648 : Int32) else (fun _ => 0) j) z90.toInt.toNat z91) z98.toInt.toNat z92) z90.toInt.toNat).toInt) := P128_3
            have E_b101_128 := P105_0.keep Kc128
            have F_b101_points_128 := P105_1.keep Kc128 nin0
            have F_b101_filled_128 := P105_2.keep Kc128 nin0
            have F_b101_total_128 := P105_3.keep Kc128 nin0
            have V_b103_128 := P105_4.keep Kc128 nin0
            have Zs128 : n0 ≤ T128.heap.size := Nat.le_trans Zs105 Kc128.1
            have hks128 : k102 ≤ T128.heap.size := Nat.le_trans hks105 Kc128.1
            have K128 := K105.trans Kc128 all0
            have N128 := Fr.app N105 Nc128
            show Ends _ _ _ _ T128 (mkF m 245 #[.val (.int ps), .val (.int pra), .val (.int psa), .val (.int prb), .val (.int psb), .val (.int pp), .val (.int z2), .val (.int (1 : Int32)), .val (.int z90), .val (.int z91), .val (.int z92), .val (.int z98), .val (.int z100), .val (.ref b101), .val (.int (2 : Int32)), .val (.int z106), .val (.int z92)] [(.ref b128)])
            refine ow_iconst X128 hx (z := (-1 : Int32)) (hb hby at_245) rfl (pc' := 246) rfl ?_
            refine ow_callVPI X128 hx hZ rfl hown (hw _ (List.mem_of_getElem? (i := 86) rfl)) (hw _ (List.mem_of_getElem? (i := 87) rfl)) (hw _ (List.mem_of_getElem? (i := 89) rfl)) (hw _ (List.mem_of_getElem? (i := 88) rfl)) (hw _ (List.mem_of_getElem? (i := 73) rfl)) (hw _ (List.mem_of_getElem? (i := 90) rfl)) (by decide) (rm_orElse l Z a0 hw [] b128 (-1 : Int32) zp_128 zv_128 T128.heap P128_1 P128_2) rfl 0 (by decide) (by decide) (by decide) (by decide) [(.int (-1 : Int32))] (by rw [hml]; rfl) pd_10 rfl P128_0 rfl rfl (Nat.le_of_eq rfl) (hb hby at_246) (pc' := 249) rfl (fun z129 T129 hz129 X129 e129 => ?_)
            have az129 : (zp_128.toInt = 0 → z129.toInt = (-1 : Int)) ∧ (¬ zp_128.toInt = 0 → z129.toInt = zv_128.toInt) := hz129
            have rz129 := rng32 z129
            refine ow_iload X129 hx (hb hby at_249) rfl (pc' := 251) rfl ?_
            refine ow_icmp_ne X129 hx (z129.toInt) (z91.toInt) (hb hby at_251) rfl rfl (by decide) (pt := 274) (by decide) (pf := 254) rfl (fun c251 => absurd c251 (by omega)) (fun c251 => ?_)
            have hb130 : ((fun j => if (j : Int) < z2.toInt then (-2147483648 : Int32) else (fun _ => 0) j) z100.toInt.toNat).toInt = -2147483648 := by show (if ((z100.toInt.toNat : Nat) : Int) < z2.toInt then (-2147483648 : Int32) else 0).toInt = _; rw [if_pos (by omega)]; rfl
            have hu130 : (z100.toInt.toNat = z90.toInt.toNat → ((upd (fun j => if (j : Int) < z2.toInt then (-2147483648 : Int32) else (fun _ => 0) j) z90.toInt.toNat z91) z100.toInt.toNat).toInt = z91.toInt) ∧ (¬ z100.toInt.toNat = z90.toInt.toNat → ((upd (fun j => if (j : Int) < z2.toInt then (-2147483648 : Int32) else (fun _ => 0) j) z90.toInt.toNat z91) z100.toInt.toNat).toInt = -2147483648) := ⟨(upd_iff (fun j => if (j : Int) < z2.toInt then (-2147483648 : Int32) else (fun _ => 0) j) z90.toInt.toNat z91 z100.toInt.toNat).1, fun q => ((upd_iff (fun j => if (j : Int) < z2.toInt then (-2147483648 : Int32) else (fun _ => 0) j) z90.toInt.toNat z91 z100.toInt.toNat).2 q).trans hb130⟩
            clear hb130
            have hw130 := upd_iff (upd (fun j => if (j : Int) < z2.toInt then (-2147483648 : Int32) else (fun _ => 0) j) z90.toInt.toNat z91) z98.toInt.toNat z92 z100.toInt.toNat
            refine ow_aload X129 hx (hb hby at_254) rfl rfl (pc' := 256) rfl ?_
            refine ow_iload X129 hx (hb hby at_256) rfl (pc' := 258) rfl ?_
            refine ow_callV X129 hx hZ rfl hown (hw _ (List.mem_of_getElem? (i := 66) rfl)) (hw _ (List.mem_of_getElem? (i := 67) rfl)) (hw _ (List.mem_of_getElem? (i := 69) rfl)) (hw _ (List.mem_of_getElem? (i := 68) rfl)) (hw _ (List.mem_of_getElem? (i := 4) rfl)) (hw _ (List.mem_of_getElem? (i := 70) rfl)) (by decide) (rm_points l Z a0 hw [] b101 z100 b103 ka_103 z2 (upd (upd (fun j => if (j : Int) < z2.toInt then (-2147483648 : Int32) else (fun _ => 0) j) z90.toInt.toNat z91) z98.toInt.toNat z92) oe T128.heap n0 Zs128 F_b101_points_128 V_b103_128 (ow_staKeep S_e K128 all0) (E_e.keep K128) (F_eip.keep K128 nin0) (F_ev.keep K128 nin0) (by first | decide | omega) (by first | decide | omega) (by first | decide | omega)) e129 0 (by decide) (by decide) (by decide) (by decide) [(.int z100)] (by rw [hml]; rfl) pd_4 rfl E_b101_128 rfl rfl (Nat.le_of_eq rfl) (hb hby at_258) (pc' := 261) rfl (fun v131 T131 L131 hQ131 X131 => ?_)
            obtain ⟨b131, zp_131, zv_131, rfl, Nc131, Kc131, P131_0, P131_1, P131_2, P131_3⟩ := hQ131
            have P131_3 : (((upd (upd (fun j => if (j : Int) < z2.toInt then (-2147483648 : Int32) else (fun _ => 0) j) z90.toInt.toNat z91) z98.toInt.toNat z92) z100.toInt.toNat).toInt = -2147483648 ∧ zp_131.toInt = 0) ∨ (¬ ((upd (upd (fun j => if (j : Int) < z2.toInt then (-2147483648 : Int32) else (fun _ => 0) j) z90.toInt.toNat z91) z98.toInt.toNat z92) z100.toInt.toNat).toInt = -2147483648 ∧ zp_131.toInt = 1 ∧ zv_131.toInt = ((upd (upd (fun j => if (j : Int) < z2.toInt then (-2147483648 : Int32) else (fun _ => 0) j) z90.toInt.toNat z91) z98.toInt.toNat z92) z100.toInt.toNat).toInt) := P131_3
            have E_b101_131 := E_b101_128.keep Kc131
            have F_b101_points_131 := F_b101_points_128.keep Kc131 nin0
            have F_b101_filled_131 := F_b101_filled_128.keep Kc131 nin0
            have F_b101_total_131 := F_b101_total_128.keep Kc131 nin0
            have V_b103_131 := V_b103_128.keep Kc131 nin0
            have E_b128_131 := P128_0.keep Kc131
            have F_b128_isPresent_131 := P128_1.keep Kc131 nin0
            have F_b128_value_131 := P128_2.keep Kc131 nin0
            have Zs131 : n0 ≤ T131.heap.size := Nat.le_trans Zs128 Kc131.1
            have hks131 : k102 ≤ T131.heap.size := Nat.le_trans hks128 Kc131.1
            have K131 := K128.trans Kc131 all0
            have N131 := Fr.app N128 Nc131
            show Ends _ _ _ _ T131 (mkF m 261 #[.val (.int ps), .val (.int pra), .val (.int psa), .val (.int prb), .val (.int psb), .val (.int pp), .val (.int z2), .val (.int (1 : Int32)), .val (.int z90), .val (.int z91), .val (.int z92), .val (.int z98), .val (.int z100), .val (.ref b101), .val (.int (2 : Int32)), .val (.int z106), .val (.int z92)] [(.ref b131)])
            refine ow_iconst X131 hx (z := (-1 : Int32)) (hb hby at_261) rfl (pc' := 262) rfl ?_
            refine ow_callVPI X131 hx hZ rfl hown (hw _ (List.mem_of_getElem? (i := 86) rfl)) (hw _ (List.mem_of_getElem? (i := 87) rfl)) (hw _ (List.mem_of_getElem? (i := 89) rfl)) (hw _ (List.mem_of_getElem? (i := 88) rfl)) (hw _ (List.mem_of_getElem? (i := 73) rfl)) (hw _ (List.mem_of_getElem? (i := 90) rfl)) (by decide) (rm_orElse l Z a0 hw [] b131 (-1 : Int32) zp_131 zv_131 T131.heap P131_1 P131_2) rfl 0 (by decide) (by decide) (by decide) (by decide) [(.int (-1 : Int32))] (by rw [hml]; rfl) pd_10 rfl P131_0 rfl rfl (Nat.le_of_eq rfl) (hb hby at_262) (pc' := 265) rfl (fun z132 T132 hz132 X132 e132 => ?_)
            have az132 : (zp_131.toInt = 0 → z132.toInt = (-1 : Int)) ∧ (¬ zp_131.toInt = 0 → z132.toInt = zv_131.toInt) := hz132
            have rz132 := rng32 z132
            refine ow_iload X132 hx (hb hby at_265) rfl (pc' := 267) rfl ?_
            refine ow_icmp_ne X132 hx (z132.toInt) (z92.toInt) (hb hby at_267) rfl rfl (by decide) (pt := 274) (by decide) (pf := 270) rfl (fun c267 => absurd c267 (by omega)) (fun c267 => ?_)
            refine ow_iconst X132 hx (z := (1 : Int32)) (hb hby at_270) rfl (pc' := 271) rfl ?_
            refine ow_goto X132 hx (hb hby at_271) (by decide) (pc' := 275) (by decide) ?_
            exact ow_retBW X132 hx hret hlk (hb hby at_275) hS102 (by rw [e132]; exact hks131) (by decide) (by decide) (z' := (1 : Int32)) rfl ⟨rfl, N131⟩
          · refine ow_iconst X126 hx (z := (1 : Int32)) (hb hby at_230) rfl (pc' := 231) rfl ?_
            refine ow_goto X126 hx (hb hby at_231) (by decide) (pc' := 235) (by decide) ?_
            refine ow_icmp_ne X126 hx (z126.toInt) ((1 : Int)) (hb hby at_235) rfl rfl (by decide) (pt := 274) (by decide) (pf := 238) rfl (fun c235 => absurd c235 (by omega)) (fun c235 => ?_)
            have hb133 : ((fun j => if (j : Int) < z2.toInt then (-2147483648 : Int32) else (fun _ => 0) j) z90.toInt.toNat).toInt = -2147483648 := by show (if ((z90.toInt.toNat : Nat) : Int) < z2.toInt then (-2147483648 : Int32) else 0).toInt = _; rw [if_pos (by omega)]; rfl
            have hu133 : (z90.toInt.toNat = z90.toInt.toNat → ((upd (fun j => if (j : Int) < z2.toInt then (-2147483648 : Int32) else (fun _ => 0) j) z90.toInt.toNat z91) z90.toInt.toNat).toInt = z91.toInt) ∧ (¬ z90.toInt.toNat = z90.toInt.toNat → ((upd (fun j => if (j : Int) < z2.toInt then (-2147483648 : Int32) else (fun _ => 0) j) z90.toInt.toNat z91) z90.toInt.toNat).toInt = -2147483648) := ⟨(upd_iff (fun j => if (j : Int) < z2.toInt then (-2147483648 : Int32) else (fun _ => 0) j) z90.toInt.toNat z91 z90.toInt.toNat).1, fun q => ((upd_iff (fun j => if (j : Int) < z2.toInt then (-2147483648 : Int32) else (fun _ => 0) j) z90.toInt.toNat z91 z90.toInt.toNat).2 q).trans hb133⟩
            clear hb133
            have hw133 := upd_iff (upd (fun j => if (j : Int) < z2.toInt then (-2147483648 : Int32) else (fun _ => 0) j) z90.toInt.toNat z91) z98.toInt.toNat z92 z90.toInt.toNat
            refine ow_aload X126 hx (hb hby at_238) rfl rfl (pc' := 240) rfl ?_
            refine ow_iload X126 hx (hb hby at_240) rfl (pc' := 242) rfl ?_
            refine ow_callV X126 hx hZ rfl hown (hw _ (List.mem_of_getElem? (i := 66) rfl)) (hw _ (List.mem_of_getElem? (i := 67) rfl)) (hw _ (List.mem_of_getElem? (i := 69) rfl)) (hw _ (List.mem_of_getElem? (i := 68) rfl)) (hw _ (List.mem_of_getElem? (i := 4) rfl)) (hw _ (List.mem_of_getElem? (i := 70) rfl)) (by decide) (rm_points l Z a0 hw [] b101 z90 b103 ka_103 z2 (upd (upd (fun j => if (j : Int) < z2.toInt then (-2147483648 : Int32) else (fun _ => 0) j) z90.toInt.toNat z91) z98.toInt.toNat z92) oe T105.heap n0 Zs105 P105_1 P105_4 (ow_staKeep S_e K105 all0) (E_e.keep K105) (F_eip.keep K105 nin0) (F_ev.keep K105 nin0) (by first | decide | omega) (by first | decide | omega) (by first | decide | omega)) e126 0 (by decide) (by decide) (by decide) (by decide) [(.int z90)] (by rw [hml]; rfl) pd_4 rfl P105_0 rfl rfl (Nat.le_of_eq rfl) (hb hby at_242) (pc' := 245) rfl (fun v134 T134 L134 hQ134 X134 => ?_)
            obtain ⟨b134, zp_134, zv_134, rfl, Nc134, Kc134, P134_0, P134_1, P134_2, P134_3⟩ := hQ134
            have P134_3 : (((upd (upd (fun j => if (j : Int) < z2.toInt then (-2147483648 : Int32) else (fun _ => 0) j) z90.toInt.toNat z91) z98.toInt.toNat z92) z90.toInt.toNat).toInt = -2147483648 ∧ zp_134.toInt = 0) ∨ (¬ ((upd (upd (fun j => if (j : Int) < z2.toInt then (-2147483648 : Int32) else (fun _ => 0) j) z90.toInt.toNat z91) z98.toInt.toNat z92) z90.toInt.toNat).toInt = -2147483648 ∧ zp_134.toInt = 1 ∧ zv_134.toInt = ((upd (upd (fun j => if (j : Int) < z2.toInt then (-2147483648 : Int32) else (fun _ => 0) j) z90.toInt.toNat z91) z98.toInt.toNat z92) z90.toInt.toNat).toInt) := P134_3
            have E_b101_134 := P105_0.keep Kc134
            have F_b101_points_134 := P105_1.keep Kc134 nin0
            have F_b101_filled_134 := P105_2.keep Kc134 nin0
            have F_b101_total_134 := P105_3.keep Kc134 nin0
            have V_b103_134 := P105_4.keep Kc134 nin0
            have Zs134 : n0 ≤ T134.heap.size := Nat.le_trans Zs105 Kc134.1
            have hks134 : k102 ≤ T134.heap.size := Nat.le_trans hks105 Kc134.1
            have K134 := K105.trans Kc134 all0
            have N134 := Fr.app N105 Nc134
            show Ends _ _ _ _ T134 (mkF m 245 #[.val (.int ps), .val (.int pra), .val (.int psa), .val (.int prb), .val (.int psb), .val (.int pp), .val (.int z2), .val (.int (1 : Int32)), .val (.int z90), .val (.int z91), .val (.int z92), .val (.int z98), .val (.int z100), .val (.ref b101), .val (.int (2 : Int32)), .val (.int z106), .val (.int z92)] [(.ref b134)])
            refine ow_iconst X134 hx (z := (-1 : Int32)) (hb hby at_245) rfl (pc' := 246) rfl ?_
            refine ow_callVPI X134 hx hZ rfl hown (hw _ (List.mem_of_getElem? (i := 86) rfl)) (hw _ (List.mem_of_getElem? (i := 87) rfl)) (hw _ (List.mem_of_getElem? (i := 89) rfl)) (hw _ (List.mem_of_getElem? (i := 88) rfl)) (hw _ (List.mem_of_getElem? (i := 73) rfl)) (hw _ (List.mem_of_getElem? (i := 90) rfl)) (by decide) (rm_orElse l Z a0 hw [] b134 (-1 : Int32) zp_134 zv_134 T134.heap P134_1 P134_2) rfl 0 (by decide) (by decide) (by decide) (by decide) [(.int (-1 : Int32))] (by rw [hml]; rfl) pd_10 rfl P134_0 rfl rfl (Nat.le_of_eq rfl) (hb hby at_246) (pc' := 249) rfl (fun z135 T135 hz135 X135 e135 => ?_)
            have az135 : (zp_134.toInt = 0 → z135.toInt = (-1 : Int)) ∧ (¬ zp_134.toInt = 0 → z135.toInt = zv_134.toInt) := hz135
            have rz135 := rng32 z135
            refine ow_iload X135 hx (hb hby at_249) rfl (pc' := 251) rfl ?_
            refine ow_icmp_ne X135 hx (z135.toInt) (z91.toInt) (hb hby at_251) rfl rfl (by decide) (pt := 274) (by decide) (pf := 254) rfl (fun c251 => absurd c251 (by omega)) (fun c251 => ?_)
            have hb136 : ((fun j => if (j : Int) < z2.toInt then (-2147483648 : Int32) else (fun _ => 0) j) z100.toInt.toNat).toInt = -2147483648 := by show (if ((z100.toInt.toNat : Nat) : Int) < z2.toInt then (-2147483648 : Int32) else 0).toInt = _; rw [if_pos (by omega)]; rfl
            have hu136 : (z100.toInt.toNat = z90.toInt.toNat → ((upd (fun j => if (j : Int) < z2.toInt then (-2147483648 : Int32) else (fun _ => 0) j) z90.toInt.toNat z91) z100.toInt.toNat).toInt = z91.toInt) ∧ (¬ z100.toInt.toNat = z90.toInt.toNat → ((upd (fun j => if (j : Int) < z2.toInt then (-2147483648 : Int32) else (fun _ => 0) j) z90.toInt.toNat z91) z100.toInt.toNat).toInt = -2147483648) := ⟨(upd_iff (fun j => if (j : Int) < z2.toInt then (-2147483648 : Int32) else (fun _ => 0) j) z90.toInt.toNat z91 z100.toInt.toNat).1, fun q => ((upd_iff (fun j => if (j : Int) < z2.toInt then (-2147483648 : Int32) else (fun _ => 0) j) z90.toInt.toNat z91 z100.toInt.toNat).2 q).trans hb136⟩
            clear hb136
            have hw136 := upd_iff (upd (fun j => if (j : Int) < z2.toInt then (-2147483648 : Int32) else (fun _ => 0) j) z90.toInt.toNat z91) z98.toInt.toNat z92 z100.toInt.toNat
            refine ow_aload X135 hx (hb hby at_254) rfl rfl (pc' := 256) rfl ?_
            refine ow_iload X135 hx (hb hby at_256) rfl (pc' := 258) rfl ?_
            refine ow_callV X135 hx hZ rfl hown (hw _ (List.mem_of_getElem? (i := 66) rfl)) (hw _ (List.mem_of_getElem? (i := 67) rfl)) (hw _ (List.mem_of_getElem? (i := 69) rfl)) (hw _ (List.mem_of_getElem? (i := 68) rfl)) (hw _ (List.mem_of_getElem? (i := 4) rfl)) (hw _ (List.mem_of_getElem? (i := 70) rfl)) (by decide) (rm_points l Z a0 hw [] b101 z100 b103 ka_103 z2 (upd (upd (fun j => if (j : Int) < z2.toInt then (-2147483648 : Int32) else (fun _ => 0) j) z90.toInt.toNat z91) z98.toInt.toNat z92) oe T134.heap n0 Zs134 F_b101_points_134 V_b103_134 (ow_staKeep S_e K134 all0) (E_e.keep K134) (F_eip.keep K134 nin0) (F_ev.keep K134 nin0) (by first | decide | omega) (by first | decide | omega) (by first | decide | omega)) e135 0 (by decide) (by decide) (by decide) (by decide) [(.int z100)] (by rw [hml]; rfl) pd_4 rfl E_b101_134 rfl rfl (Nat.le_of_eq rfl) (hb hby at_258) (pc' := 261) rfl (fun v137 T137 L137 hQ137 X137 => ?_)
            obtain ⟨b137, zp_137, zv_137, rfl, Nc137, Kc137, P137_0, P137_1, P137_2, P137_3⟩ := hQ137
            have P137_3 : (((upd (upd (fun j => if (j : Int) < z2.toInt then (-2147483648 : Int32) else (fun _ => 0) j) z90.toInt.toNat z91) z98.toInt.toNat z92) z100.toInt.toNat).toInt = -2147483648 ∧ zp_137.toInt = 0) ∨ (¬ ((upd (upd (fun j => if (j : Int) < z2.toInt then (-2147483648 : Int32) else (fun _ => 0) j) z90.toInt.toNat z91) z98.toInt.toNat z92) z100.toInt.toNat).toInt = -2147483648 ∧ zp_137.toInt = 1 ∧ zv_137.toInt = ((upd (upd (fun j => if (j : Int) < z2.toInt then (-2147483648 : Int32) else (fun _ => 0) j) z90.toInt.toNat z91) z98.toInt.toNat z92) z100.toInt.toNat).toInt) := P137_3
            have E_b101_137 := E_b101_134.keep Kc137
            have F_b101_points_137 := F_b101_points_134.keep Kc137 nin0
            have F_b101_filled_137 := F_b101_filled_134.keep Kc137 nin0
            have F_b101_total_137 := F_b101_total_134.keep Kc137 nin0
            have V_b103_137 := V_b103_134.keep Kc137 nin0
            have E_b134_137 := P134_0.keep Kc137
            have F_b134_isPresent_137 := P134_1.keep Kc137 nin0
            have F_b134_value_137 := P134_2.keep Kc137 nin0
            have Zs137 : n0 ≤ T137.heap.size := Nat.le_trans Zs134 Kc137.1
            have hks137 : k102 ≤ T137.heap.size := Nat.le_trans hks134 Kc137.1
            have K137 := K134.trans Kc137 all0
            have N137 := Fr.app N134 Nc137
            show Ends _ _ _ _ T137 (mkF m 261 #[.val (.int ps), .val (.int pra), .val (.int psa), .val (.int prb), .val (.int psb), .val (.int pp), .val (.int z2), .val (.int (1 : Int32)), .val (.int z90), .val (.int z91), .val (.int z92), .val (.int z98), .val (.int z100), .val (.ref b101), .val (.int (2 : Int32)), .val (.int z106), .val (.int z92)] [(.ref b137)])
            refine ow_iconst X137 hx (z := (-1 : Int32)) (hb hby at_261) rfl (pc' := 262) rfl ?_
            refine ow_callVPI X137 hx hZ rfl hown (hw _ (List.mem_of_getElem? (i := 86) rfl)) (hw _ (List.mem_of_getElem? (i := 87) rfl)) (hw _ (List.mem_of_getElem? (i := 89) rfl)) (hw _ (List.mem_of_getElem? (i := 88) rfl)) (hw _ (List.mem_of_getElem? (i := 73) rfl)) (hw _ (List.mem_of_getElem? (i := 90) rfl)) (by decide) (rm_orElse l Z a0 hw [] b137 (-1 : Int32) zp_137 zv_137 T137.heap P137_1 P137_2) rfl 0 (by decide) (by decide) (by decide) (by decide) [(.int (-1 : Int32))] (by rw [hml]; rfl) pd_10 rfl P137_0 rfl rfl (Nat.le_of_eq rfl) (hb hby at_262) (pc' := 265) rfl (fun z138 T138 hz138 X138 e138 => ?_)
            have az138 : (zp_137.toInt = 0 → z138.toInt = (-1 : Int)) ∧ (¬ zp_137.toInt = 0 → z138.toInt = zv_137.toInt) := hz138
            have rz138 := rng32 z138
            refine ow_iload X138 hx (hb hby at_265) rfl (pc' := 267) rfl ?_
            refine ow_icmp_ne X138 hx (z138.toInt) (z92.toInt) (hb hby at_267) rfl rfl (by decide) (pt := 274) (by decide) (pf := 270) rfl (fun c267 => absurd c267 (by omega)) (fun c267 => ?_)
            refine ow_iconst X138 hx (z := (1 : Int32)) (hb hby at_270) rfl (pc' := 271) rfl ?_
            refine ow_goto X138 hx (hb hby at_271) (by decide) (pc' := 275) (by decide) ?_
            exact ow_retBW X138 hx hret hlk (hb hby at_275) hS102 (by rw [e138]; exact hks137) (by decide) (by decide) (z' := (1 : Int32)) rfl ⟨rfl, N137⟩
      · refine ow_iload X105 hx (hb hby at_159) rfl (pc' := 161) rfl ?_
        refine ow_istore X105 hx (Ls' := #[.val (.int ps), .val (.int pra), .val (.int psa), .val (.int prb), .val (.int psb), .val (.int pp), .val (.int z2), .val (.int (1 : Int32)), .val (.int z90), .val (.int z91), .val (.int z92), .val (.int z98), .val (.int z100), .val (.ref b101), .val (.int (2 : Int32)), .val (.int z106), .val (.int z91)]) (hb hby at_161) rfl (pc' := 163) rfl ?_
        refine ow_goto X105 hx (hb hby at_163) (by decide) (pc' := 188) (by decide) ?_
        refine ow_aload X105 hx (hb hby at_188) rfl rfl (pc' := 190) rfl ?_
        refine ow_callVPI X105 hx hZ rfl hown (hw _ (List.mem_of_getElem? (i := 46) rfl)) (hw _ (List.mem_of_getElem? (i := 47) rfl)) (hw _ (List.mem_of_getElem? (i := 49) rfl)) (hw _ (List.mem_of_getElem? (i := 48) rfl)) (hw _ (List.mem_of_getElem? (i := 4) rfl)) (hw _ (List.mem_of_getElem? (i := 50) rfl)) (by decide) (rm_rows l Z a0 hw [] b101 b103 ka_103 z2 (upd (upd (fun j => if (j : Int) < z2.toInt then (-2147483648 : Int32) else (fun _ => 0) j) z90.toInt.toNat z91) z98.toInt.toNat z92) T105.heap P105_1 P105_4) rfl 0 (by decide) (by decide) (by decide) (by decide) [] (by rw [hml]; rfl) pd_8 rfl P105_0 rfl rfl (Nat.le_of_eq rfl) (hb hby at_190) (pc' := 193) rfl (fun z139 T139 hz139 X139 e139 => ?_)
        have az139 : z139.toInt = z2.toInt := hz139
        have rz139 := rng32 z139
        refine ow_iload X139 hx (hb hby at_193) rfl (pc' := 195) rfl ?_
        refine ow_icmp_ne X139 hx (z139.toInt) (z2.toInt) (hb hby at_195) rfl rfl (by decide) (pt := 274) (by decide) (pf := 198) rfl (fun c195 => absurd c195 (by omega)) (fun c195 => ?_)
        refine ow_aload X139 hx (hb hby at_198) rfl rfl (pc' := 200) rfl ?_
        refine ow_callVPI X139 hx hZ rfl hown (hw _ (List.mem_of_getElem? (i := 51) rfl)) (hw _ (List.mem_of_getElem? (i := 52) rfl)) (hw _ (List.mem_of_getElem? (i := 54) rfl)) (hw _ (List.mem_of_getElem? (i := 53) rfl)) (hw _ (List.mem_of_getElem? (i := 4) rfl)) (hw _ (List.mem_of_getElem? (i := 55) rfl)) (by decide) (rm_filled l Z a0 hw [] b101 zf_105 T105.heap P105_2) e139 0 (by decide) (by decide) (by decide) (by decide) [] (by rw [hml]; rfl) pd_8 rfl P105_0 rfl rfl (Nat.le_of_eq rfl) (hb hby at_200) (pc' := 203) rfl (fun z140 T140 hz140 X140 e140 => ?_)
        have az140 : z140.toInt = zf_105.toInt := hz140
        have rz140 := rng32 z140
        refine ow_iload X140 hx (hb hby at_203) rfl (pc' := 205) rfl ?_
        refine ow_icmp_ne X140 hx (z140.toInt) ((2 : Int)) (hb hby at_205) rfl rfl (by decide) (pt := 274) (by decide) (pf := 208) rfl (fun c205 => absurd c205 (by omega)) (fun c205 => ?_)
        refine ow_aload X140 hx (hb hby at_208) rfl rfl (pc' := 210) rfl ?_
        refine ow_callVPI X140 hx hZ rfl hown (hw _ (List.mem_of_getElem? (i := 56) rfl)) (hw _ (List.mem_of_getElem? (i := 57) rfl)) (hw _ (List.mem_of_getElem? (i := 59) rfl)) (hw _ (List.mem_of_getElem? (i := 58) rfl)) (hw _ (List.mem_of_getElem? (i := 4) rfl)) (hw _ (List.mem_of_getElem? (i := 60) rfl)) (by decide) (rm_total l Z a0 hw [] b101 zt_105 T105.heap P105_3) e140 0 (by decide) (by decide) (by decide) (by decide) [] (by rw [hml]; rfl) pd_8 rfl P105_0 rfl rfl (Nat.le_of_eq rfl) (hb hby at_210) (pc' := 213) rfl (fun z141 T141 hz141 X141 e141 => ?_)
        have az141 : z141.toInt = zt_105.toInt := hz141
        have rz141 := rng32 z141
        refine ow_iload X141 hx (hb hby at_213) rfl (pc' := 215) rfl ?_
        refine ow_icmp_ne X141 hx (z141.toInt) (z106.toInt) (hb hby at_215) rfl rfl (by decide) (pt := 274) (by decide) (pf := 218) rfl (fun c215 => absurd c215 (by omega)) (fun c215 => ?_)
        refine ow_aload X141 hx (hb hby at_218) rfl rfl (pc' := 220) rfl ?_
        refine ow_callVPI X141 hx hZ rfl hown (hw _ (List.mem_of_getElem? (i := 61) rfl)) (hw _ (List.mem_of_getElem? (i := 62) rfl)) (hw _ (List.mem_of_getElem? (i := 64) rfl)) (hw _ (List.mem_of_getElem? (i := 63) rfl)) (hw _ (List.mem_of_getElem? (i := 4) rfl)) (hw _ (List.mem_of_getElem? (i := 65) rfl)) (by decide) (rm_isFull l Z a0 hw [] b101 b103 ka_103 z2 (upd (upd (fun j => if (j : Int) < z2.toInt then (-2147483648 : Int32) else (fun _ => 0) j) z90.toInt.toNat z91) z98.toInt.toNat z92) zf_105 T105.heap P105_2 P105_1 P105_4) e141 0 (by decide) (by decide) (by decide) (by decide) [] (by rw [hml]; rfl) pd_9 rfl P105_0 rfl rfl (Nat.le_of_eq rfl) (hb hby at_220) (pc' := 223) rfl (fun z142 T142 hz142 X142 e142 => ?_)
        have az142 : ((zf_105.toInt = z2.toInt) ∧ z142.toInt = 1) ∨ (¬ (zf_105.toInt = z2.toInt) ∧ z142.toInt = 0) := hz142
        have rz142 := rng32 z142
        refine ow_iload X142 hx (hb hby at_223) rfl (pc' := 225) rfl ?_
        refine ow_iload X142 hx (hb hby at_225) rfl (pc' := 227) rfl ?_
        refine ow_icmp_ne X142 hx ((2 : Int)) (z2.toInt) (hb hby at_227) rfl rfl (by decide) (pt := 234) (by decide) (pf := 230) rfl (fun c227 => ?_) (fun c227 => ?_)
        · refine ow_iconst X142 hx (z := (0 : Int32)) (hb hby at_234) rfl (pc' := 235) rfl ?_
          refine ow_icmp_ne X142 hx (z142.toInt) ((0 : Int)) (hb hby at_235) rfl rfl (by decide) (pt := 274) (by decide) (pf := 238) rfl (fun c235 => absurd c235 (by omega)) (fun c235 => ?_)
          have hb143 : ((fun j => if (j : Int) < z2.toInt then (-2147483648 : Int32) else (fun _ => 0) j) z90.toInt.toNat).toInt = -2147483648 := by show (if ((z90.toInt.toNat : Nat) : Int) < z2.toInt then (-2147483648 : Int32) else 0).toInt = _; rw [if_pos (by omega)]; rfl
          have hu143 : (z90.toInt.toNat = z90.toInt.toNat → ((upd (fun j => if (j : Int) < z2.toInt then (-2147483648 : Int32) else (fun _ => 0) j) z90.toInt.toNat z91) z90.toInt.toNat).toInt = z91.toInt) ∧ (¬ z90.toInt.toNat = z90.toInt.toNat → ((upd (fun j => if (j : Int) < z2.toInt then (-2147483648 : Int32) else (fun _ => 0) j) z90.toInt.toNat z91) z90.toInt.toNat).toInt = -2147483648) := ⟨(upd_iff (fun j => if (j : Int) < z2.toInt then (-2147483648 : Int32) else (fun _ => 0) j) z90.toInt.toNat z91 z90.toInt.toNat).1, fun q => ((upd_iff (fun j => if (j : Int) < z2.toInt then (-2147483648 : Int32) else (fun _ => 0) j) z90.toInt.toNat z91 z90.toInt.toNat).2 q).trans hb143⟩
          clear hb143
          have hw143 := upd_iff (upd (fun j => if (j : Int) < z2.toInt then (-2147483648 : Int32) else (fun _ => 0) j) z90.toInt.toNat z91) z98.toInt.toNat z92 z90.toInt.toNat
          refine ow_aload X142 hx (hb hby at_238) rfl rfl (pc' := 240) rfl ?_
          refine ow_iload X142 hx (hb hby at_240) rfl (pc' := 242) rfl ?_
          refine ow_callV X142 hx hZ rfl hown (hw _ (List.mem_of_getElem? (i := 66) rfl)) (hw _ (List.mem_of_getElem? (i := 67) rfl)) (hw _ (List.mem_of_getElem? (i := 69) rfl)) (hw _ (List.mem_of_getElem? (i := 68) rfl)) (hw _ (List.mem_of_getElem? (i := 4) rfl)) (hw _ (List.mem_of_getElem? (i := 70) rfl)) (by decide) (rm_points l Z a0 hw [] b101 z90 b103 ka_103 z2 (upd (upd (fun j => if (j : Int) < z2.toInt then (-2147483648 : Int32) else (fun _ => 0) j) z90.toInt.toNat z91) z98.toInt.toNat z92) oe T105.heap n0 Zs105 P105_1 P105_4 (ow_staKeep S_e K105 all0) (E_e.keep K105) (F_eip.keep K105 nin0) (F_ev.keep K105 nin0) (by first | decide | omega) (by first | decide | omega) (by first | decide | omega)) e142 0 (by decide) (by decide) (by decide) (by decide) [(.int z90)] (by rw [hml]; rfl) pd_4 rfl P105_0 rfl rfl (Nat.le_of_eq rfl) (hb hby at_242) (pc' := 245) rfl (fun v144 T144 L144 hQ144 X144 => ?_)
          obtain ⟨b144, zp_144, zv_144, rfl, Nc144, Kc144, P144_0, P144_1, P144_2, P144_3⟩ := hQ144
          have P144_3 : (((upd (upd (fun j => if (j : Int) < z2.toInt then (-2147483648 : Int32) else (fun _ => 0) j) z90.toInt.toNat z91) z98.toInt.toNat z92) z90.toInt.toNat).toInt = -2147483648 ∧ zp_144.toInt = 0) ∨ (¬ ((upd (upd (fun j => if (j : Int) < z2.toInt then (-2147483648 : Int32) else (fun _ => 0) j) z90.toInt.toNat z91) z98.toInt.toNat z92) z90.toInt.toNat).toInt = -2147483648 ∧ zp_144.toInt = 1 ∧ zv_144.toInt = ((upd (upd (fun j => if (j : Int) < z2.toInt then (-2147483648 : Int32) else (fun _ => 0) j) z90.toInt.toNat z91) z98.toInt.toNat z92) z90.toInt.toNat).toInt) := P144_3
          have E_b101_144 := P105_0.keep Kc144
          have F_b101_points_144 := P105_1.keep Kc144 nin0
          have F_b101_filled_144 := P105_2.keep Kc144 nin0
          have F_b101_total_144 := P105_3.keep Kc144 nin0
          have V_b103_144 := P105_4.keep Kc144 nin0
          have Zs144 : n0 ≤ T144.heap.size := Nat.le_trans Zs105 Kc144.1
          have hks144 : k102 ≤ T144.heap.size := Nat.le_trans hks105 Kc144.1
          have K144 := K105.trans Kc144 all0
          have N144 := Fr.app N105 Nc144
          show Ends _ _ _ _ T144 (mkF m 245 #[.val (.int ps), .val (.int pra), .val (.int psa), .val (.int prb), .val (.int psb), .val (.int pp), .val (.int z2), .val (.int (1 : Int32)), .val (.int z90), .val (.int z91), .val (.int z92), .val (.int z98), .val (.int z100), .val (.ref b101), .val (.int (2 : Int32)), .val (.int z106), .val (.int z91)] [(.ref b144)])
          refine ow_iconst X144 hx (z := (-1 : Int32)) (hb hby at_245) rfl (pc' := 246) rfl ?_
          refine ow_callVPI X144 hx hZ rfl hown (hw _ (List.mem_of_getElem? (i := 86) rfl)) (hw _ (List.mem_of_getElem? (i := 87) rfl)) (hw _ (List.mem_of_getElem? (i := 89) rfl)) (hw _ (List.mem_of_getElem? (i := 88) rfl)) (hw _ (List.mem_of_getElem? (i := 73) rfl)) (hw _ (List.mem_of_getElem? (i := 90) rfl)) (by decide) (rm_orElse l Z a0 hw [] b144 (-1 : Int32) zp_144 zv_144 T144.heap P144_1 P144_2) rfl 0 (by decide) (by decide) (by decide) (by decide) [(.int (-1 : Int32))] (by rw [hml]; rfl) pd_10 rfl P144_0 rfl rfl (Nat.le_of_eq rfl) (hb hby at_246) (pc' := 249) rfl (fun z145 T145 hz145 X145 e145 => ?_)
          have az145 : (zp_144.toInt = 0 → z145.toInt = (-1 : Int)) ∧ (¬ zp_144.toInt = 0 → z145.toInt = zv_144.toInt) := hz145
          have rz145 := rng32 z145
          refine ow_iload X145 hx (hb hby at_249) rfl (pc' := 251) rfl ?_
          refine ow_icmp_ne X145 hx (z145.toInt) (z91.toInt) (hb hby at_251) rfl rfl (by decide) (pt := 274) (by decide) (pf := 254) rfl (fun c251 => absurd c251 (by omega)) (fun c251 => ?_)
          have hb146 : ((fun j => if (j : Int) < z2.toInt then (-2147483648 : Int32) else (fun _ => 0) j) z100.toInt.toNat).toInt = -2147483648 := by show (if ((z100.toInt.toNat : Nat) : Int) < z2.toInt then (-2147483648 : Int32) else 0).toInt = _; rw [if_pos (by omega)]; rfl
          have hu146 : (z100.toInt.toNat = z90.toInt.toNat → ((upd (fun j => if (j : Int) < z2.toInt then (-2147483648 : Int32) else (fun _ => 0) j) z90.toInt.toNat z91) z100.toInt.toNat).toInt = z91.toInt) ∧ (¬ z100.toInt.toNat = z90.toInt.toNat → ((upd (fun j => if (j : Int) < z2.toInt then (-2147483648 : Int32) else (fun _ => 0) j) z90.toInt.toNat z91) z100.toInt.toNat).toInt = -2147483648) := ⟨(upd_iff (fun j => if (j : Int) < z2.toInt then (-2147483648 : Int32) else (fun _ => 0) j) z90.toInt.toNat z91 z100.toInt.toNat).1, fun q => ((upd_iff (fun j => if (j : Int) < z2.toInt then (-2147483648 : Int32) else (fun _ => 0) j) z90.toInt.toNat z91 z100.toInt.toNat).2 q).trans hb146⟩
          clear hb146
          have hw146 := upd_iff (upd (fun j => if (j : Int) < z2.toInt then (-2147483648 : Int32) else (fun _ => 0) j) z90.toInt.toNat z91) z98.toInt.toNat z92 z100.toInt.toNat
          refine ow_aload X145 hx (hb hby at_254) rfl rfl (pc' := 256) rfl ?_
          refine ow_iload X145 hx (hb hby at_256) rfl (pc' := 258) rfl ?_
          refine ow_callV X145 hx hZ rfl hown (hw _ (List.mem_of_getElem? (i := 66) rfl)) (hw _ (List.mem_of_getElem? (i := 67) rfl)) (hw _ (List.mem_of_getElem? (i := 69) rfl)) (hw _ (List.mem_of_getElem? (i := 68) rfl)) (hw _ (List.mem_of_getElem? (i := 4) rfl)) (hw _ (List.mem_of_getElem? (i := 70) rfl)) (by decide) (rm_points l Z a0 hw [] b101 z100 b103 ka_103 z2 (upd (upd (fun j => if (j : Int) < z2.toInt then (-2147483648 : Int32) else (fun _ => 0) j) z90.toInt.toNat z91) z98.toInt.toNat z92) oe T144.heap n0 Zs144 F_b101_points_144 V_b103_144 (ow_staKeep S_e K144 all0) (E_e.keep K144) (F_eip.keep K144 nin0) (F_ev.keep K144 nin0) (by first | decide | omega) (by first | decide | omega) (by first | decide | omega)) e145 0 (by decide) (by decide) (by decide) (by decide) [(.int z100)] (by rw [hml]; rfl) pd_4 rfl E_b101_144 rfl rfl (Nat.le_of_eq rfl) (hb hby at_258) (pc' := 261) rfl (fun v147 T147 L147 hQ147 X147 => ?_)
          obtain ⟨b147, zp_147, zv_147, rfl, Nc147, Kc147, P147_0, P147_1, P147_2, P147_3⟩ := hQ147
          have P147_3 : (((upd (upd (fun j => if (j : Int) < z2.toInt then (-2147483648 : Int32) else (fun _ => 0) j) z90.toInt.toNat z91) z98.toInt.toNat z92) z100.toInt.toNat).toInt = -2147483648 ∧ zp_147.toInt = 0) ∨ (¬ ((upd (upd (fun j => if (j : Int) < z2.toInt then (-2147483648 : Int32) else (fun _ => 0) j) z90.toInt.toNat z91) z98.toInt.toNat z92) z100.toInt.toNat).toInt = -2147483648 ∧ zp_147.toInt = 1 ∧ zv_147.toInt = ((upd (upd (fun j => if (j : Int) < z2.toInt then (-2147483648 : Int32) else (fun _ => 0) j) z90.toInt.toNat z91) z98.toInt.toNat z92) z100.toInt.toNat).toInt) := P147_3
          have E_b101_147 := E_b101_144.keep Kc147
          have F_b101_points_147 := F_b101_points_144.keep Kc147 nin0
          have F_b101_filled_147 := F_b101_filled_144.keep Kc147 nin0
          have F_b101_total_147 := F_b101_total_144.keep Kc147 nin0
          have V_b103_147 := V_b103_144.keep Kc147 nin0
          have E_b144_147 := P144_0.keep Kc147
          have F_b144_isPresent_147 := P144_1.keep Kc147 nin0
          have F_b144_value_147 := P144_2.keep Kc147 nin0
          have Zs147 : n0 ≤ T147.heap.size := Nat.le_trans Zs144 Kc147.1
          have hks147 : k102 ≤ T147.heap.size := Nat.le_trans hks144 Kc147.1
          have K147 := K144.trans Kc147 all0
          have N147 := Fr.app N144 Nc147
          show Ends _ _ _ _ T147 (mkF m 261 #[.val (.int ps), .val (.int pra), .val (.int psa), .val (.int prb), .val (.int psb), .val (.int pp), .val (.int z2), .val (.int (1 : Int32)), .val (.int z90), .val (.int z91), .val (.int z92), .val (.int z98), .val (.int z100), .val (.ref b101), .val (.int (2 : Int32)), .val (.int z106), .val (.int z91)] [(.ref b147)])
          refine ow_iconst X147 hx (z := (-1 : Int32)) (hb hby at_261) rfl (pc' := 262) rfl ?_
          refine ow_callVPI X147 hx hZ rfl hown (hw _ (List.mem_of_getElem? (i := 86) rfl)) (hw _ (List.mem_of_getElem? (i := 87) rfl)) (hw _ (List.mem_of_getElem? (i := 89) rfl)) (hw _ (List.mem_of_getElem? (i := 88) rfl)) (hw _ (List.mem_of_getElem? (i := 73) rfl)) (hw _ (List.mem_of_getElem? (i := 90) rfl)) (by decide) (rm_orElse l Z a0 hw [] b147 (-1 : Int32) zp_147 zv_147 T147.heap P147_1 P147_2) rfl 0 (by decide) (by decide) (by decide) (by decide) [(.int (-1 : Int32))] (by rw [hml]; rfl) pd_10 rfl P147_0 rfl rfl (Nat.le_of_eq rfl) (hb hby at_262) (pc' := 265) rfl (fun z148 T148 hz148 X148 e148 => ?_)
          have az148 : (zp_147.toInt = 0 → z148.toInt = (-1 : Int)) ∧ (¬ zp_147.toInt = 0 → z148.toInt = zv_147.toInt) := hz148
          have rz148 := rng32 z148
          refine ow_iload X148 hx (hb hby at_265) rfl (pc' := 267) rfl ?_
          refine ow_icmp_ne X148 hx (z148.toInt) (z91.toInt) (hb hby at_267) rfl rfl (by decide) (pt := 274) (by decide) (pf := 270) rfl (fun c267 => absurd c267 (by omega)) (fun c267 => ?_)
          refine ow_iconst X148 hx (z := (1 : Int32)) (hb hby at_270) rfl (pc' := 271) rfl ?_
          refine ow_goto X148 hx (hb hby at_271) (by decide) (pc' := 275) (by decide) ?_
          exact ow_retBW X148 hx hret hlk (hb hby at_275) hS102 (by rw [e148]; exact hks147) (by decide) (by decide) (z' := (1 : Int32)) rfl ⟨rfl, N147⟩
        · refine ow_iconst X142 hx (z := (1 : Int32)) (hb hby at_230) rfl (pc' := 231) rfl ?_
          refine ow_goto X142 hx (hb hby at_231) (by decide) (pc' := 235) (by decide) ?_
          refine ow_icmp_ne X142 hx (z142.toInt) ((1 : Int)) (hb hby at_235) rfl rfl (by decide) (pt := 274) (by decide) (pf := 238) rfl (fun c235 => absurd c235 (by omega)) (fun c235 => ?_)
          have hb149 : ((fun j => if (j : Int) < z2.toInt then (-2147483648 : Int32) else (fun _ => 0) j) z90.toInt.toNat).toInt = -2147483648 := by show (if ((z90.toInt.toNat : Nat) : Int) < z2.toInt then (-2147483648 : Int32) else 0).toInt = _; rw [if_pos (by omega)]; rfl
          have hu149 : (z90.toInt.toNat = z90.toInt.toNat → ((upd (fun j => if (j : Int) < z2.toInt then (-2147483648 : Int32) else (fun _ => 0) j) z90.toInt.toNat z91) z90.toInt.toNat).toInt = z91.toInt) ∧ (¬ z90.toInt.toNat = z90.toInt.toNat → ((upd (fun j => if (j : Int) < z2.toInt then (-2147483648 : Int32) else (fun _ => 0) j) z90.toInt.toNat z91) z90.toInt.toNat).toInt = -2147483648) := ⟨(upd_iff (fun j => if (j : Int) < z2.toInt then (-2147483648 : Int32) else (fun _ => 0) j) z90.toInt.toNat z91 z90.toInt.toNat).1, fun q => ((upd_iff (fun j => if (j : Int) < z2.toInt then (-2147483648 : Int32) else (fun _ => 0) j) z90.toInt.toNat z91 z90.toInt.toNat).2 q).trans hb149⟩
          clear hb149
          have hw149 := upd_iff (upd (fun j => if (j : Int) < z2.toInt then (-2147483648 : Int32) else (fun _ => 0) j) z90.toInt.toNat z91) z98.toInt.toNat z92 z90.toInt.toNat
          refine ow_aload X142 hx (hb hby at_238) rfl rfl (pc' := 240) rfl ?_
          refine ow_iload X142 hx (hb hby at_240) rfl (pc' := 242) rfl ?_
          refine ow_callV X142 hx hZ rfl hown (hw _ (List.mem_of_getElem? (i := 66) rfl)) (hw _ (List.mem_of_getElem? (i := 67) rfl)) (hw _ (List.mem_of_getElem? (i := 69) rfl)) (hw _ (List.mem_of_getElem? (i := 68) rfl)) (hw _ (List.mem_of_getElem? (i := 4) rfl)) (hw _ (List.mem_of_getElem? (i := 70) rfl)) (by decide) (rm_points l Z a0 hw [] b101 z90 b103 ka_103 z2 (upd (upd (fun j => if (j : Int) < z2.toInt then (-2147483648 : Int32) else (fun _ => 0) j) z90.toInt.toNat z91) z98.toInt.toNat z92) oe T105.heap n0 Zs105 P105_1 P105_4 (ow_staKeep S_e K105 all0) (E_e.keep K105) (F_eip.keep K105 nin0) (F_ev.keep K105 nin0) (by first | decide | omega) (by first | decide | omega) (by first | decide | omega)) e142 0 (by decide) (by decide) (by decide) (by decide) [(.int z90)] (by rw [hml]; rfl) pd_4 rfl P105_0 rfl rfl (Nat.le_of_eq rfl) (hb hby at_242) (pc' := 245) rfl (fun v150 T150 L150 hQ150 X150 => ?_)
          obtain ⟨b150, zp_150, zv_150, rfl, Nc150, Kc150, P150_0, P150_1, P150_2, P150_3⟩ := hQ150
          have P150_3 : (((upd (upd (fun j => if (j : Int) < z2.toInt then (-2147483648 : Int32) else (fun _ => 0) j) z90.toInt.toNat z91) z98.toInt.toNat z92) z90.toInt.toNat).toInt = -2147483648 ∧ zp_150.toInt = 0) ∨ (¬ ((upd (upd (fun j => if (j : Int) < z2.toInt then (-2147483648 : Int32) else (fun _ => 0) j) z90.toInt.toNat z91) z98.toInt.toNat z92) z90.toInt.toNat).toInt = -2147483648 ∧ zp_150.toInt = 1 ∧ zv_150.toInt = ((upd (upd (fun j => if (j : Int) < z2.toInt then (-2147483648 : Int32) else (fun _ => 0) j) z90.toInt.toNat z91) z98.toInt.toNat z92) z90.toInt.toNat).toInt) := P150_3
          have E_b101_150 := P105_0.keep Kc150
          have F_b101_points_150 := P105_1.keep Kc150 nin0
          have F_b101_filled_150 := P105_2.keep Kc150 nin0
          have F_b101_total_150 := P105_3.keep Kc150 nin0
          have V_b103_150 := P105_4.keep Kc150 nin0
          have Zs150 : n0 ≤ T150.heap.size := Nat.le_trans Zs105 Kc150.1
          have hks150 : k102 ≤ T150.heap.size := Nat.le_trans hks105 Kc150.1
          have K150 := K105.trans Kc150 all0
          have N150 := Fr.app N105 Nc150
          show Ends _ _ _ _ T150 (mkF m 245 #[.val (.int ps), .val (.int pra), .val (.int psa), .val (.int prb), .val (.int psb), .val (.int pp), .val (.int z2), .val (.int (1 : Int32)), .val (.int z90), .val (.int z91), .val (.int z92), .val (.int z98), .val (.int z100), .val (.ref b101), .val (.int (2 : Int32)), .val (.int z106), .val (.int z91)] [(.ref b150)])
          refine ow_iconst X150 hx (z := (-1 : Int32)) (hb hby at_245) rfl (pc' := 246) rfl ?_
          refine ow_callVPI X150 hx hZ rfl hown (hw _ (List.mem_of_getElem? (i := 86) rfl)) (hw _ (List.mem_of_getElem? (i := 87) rfl)) (hw _ (List.mem_of_getElem? (i := 89) rfl)) (hw _ (List.mem_of_getElem? (i := 88) rfl)) (hw _ (List.mem_of_getElem? (i := 73) rfl)) (hw _ (List.mem_of_getElem? (i := 90) rfl)) (by decide) (rm_orElse l Z a0 hw [] b150 (-1 : Int32) zp_150 zv_150 T150.heap P150_1 P150_2) rfl 0 (by decide) (by decide) (by decide) (by decide) [(.int (-1 : Int32))] (by rw [hml]; rfl) pd_10 rfl P150_0 rfl rfl (Nat.le_of_eq rfl) (hb hby at_246) (pc' := 249) rfl (fun z151 T151 hz151 X151 e151 => ?_)
          have az151 : (zp_150.toInt = 0 → z151.toInt = (-1 : Int)) ∧ (¬ zp_150.toInt = 0 → z151.toInt = zv_150.toInt) := hz151
          have rz151 := rng32 z151
          refine ow_iload X151 hx (hb hby at_249) rfl (pc' := 251) rfl ?_
          refine ow_icmp_ne X151 hx (z151.toInt) (z91.toInt) (hb hby at_251) rfl rfl (by decide) (pt := 274) (by decide) (pf := 254) rfl (fun c251 => absurd c251 (by omega)) (fun c251 => ?_)
          have hb152 : ((fun j => if (j : Int) < z2.toInt then (-2147483648 : Int32) else (fun _ => 0) j) z100.toInt.toNat).toInt = -2147483648 := by show (if ((z100.toInt.toNat : Nat) : Int) < z2.toInt then (-2147483648 : Int32) else 0).toInt = _; rw [if_pos (by omega)]; rfl
          have hu152 : (z100.toInt.toNat = z90.toInt.toNat → ((upd (fun j => if (j : Int) < z2.toInt then (-2147483648 : Int32) else (fun _ => 0) j) z90.toInt.toNat z91) z100.toInt.toNat).toInt = z91.toInt) ∧ (¬ z100.toInt.toNat = z90.toInt.toNat → ((upd (fun j => if (j : Int) < z2.toInt then (-2147483648 : Int32) else (fun _ => 0) j) z90.toInt.toNat z91) z100.toInt.toNat).toInt = -2147483648) := ⟨(upd_iff (fun j => if (j : Int) < z2.toInt then (-2147483648 : Int32) else (fun _ => 0) j) z90.toInt.toNat z91 z100.toInt.toNat).1, fun q => ((upd_iff (fun j => if (j : Int) < z2.toInt then (-2147483648 : Int32) else (fun _ => 0) j) z90.toInt.toNat z91 z100.toInt.toNat).2 q).trans hb152⟩
          clear hb152
          have hw152 := upd_iff (upd (fun j => if (j : Int) < z2.toInt then (-2147483648 : Int32) else (fun _ => 0) j) z90.toInt.toNat z91) z98.toInt.toNat z92 z100.toInt.toNat
          refine ow_aload X151 hx (hb hby at_254) rfl rfl (pc' := 256) rfl ?_
          refine ow_iload X151 hx (hb hby at_256) rfl (pc' := 258) rfl ?_
          refine ow_callV X151 hx hZ rfl hown (hw _ (List.mem_of_getElem? (i := 66) rfl)) (hw _ (List.mem_of_getElem? (i := 67) rfl)) (hw _ (List.mem_of_getElem? (i := 69) rfl)) (hw _ (List.mem_of_getElem? (i := 68) rfl)) (hw _ (List.mem_of_getElem? (i := 4) rfl)) (hw _ (List.mem_of_getElem? (i := 70) rfl)) (by decide) (rm_points l Z a0 hw [] b101 z100 b103 ka_103 z2 (upd (upd (fun j => if (j : Int) < z2.toInt then (-2147483648 : Int32) else (fun _ => 0) j) z90.toInt.toNat z91) z98.toInt.toNat z92) oe T150.heap n0 Zs150 F_b101_points_150 V_b103_150 (ow_staKeep S_e K150 all0) (E_e.keep K150) (F_eip.keep K150 nin0) (F_ev.keep K150 nin0) (by first | decide | omega) (by first | decide | omega) (by first | decide | omega)) e151 0 (by decide) (by decide) (by decide) (by decide) [(.int z100)] (by rw [hml]; rfl) pd_4 rfl E_b101_150 rfl rfl (Nat.le_of_eq rfl) (hb hby at_258) (pc' := 261) rfl (fun v153 T153 L153 hQ153 X153 => ?_)
          obtain ⟨b153, zp_153, zv_153, rfl, Nc153, Kc153, P153_0, P153_1, P153_2, P153_3⟩ := hQ153
          have P153_3 : (((upd (upd (fun j => if (j : Int) < z2.toInt then (-2147483648 : Int32) else (fun _ => 0) j) z90.toInt.toNat z91) z98.toInt.toNat z92) z100.toInt.toNat).toInt = -2147483648 ∧ zp_153.toInt = 0) ∨ (¬ ((upd (upd (fun j => if (j : Int) < z2.toInt then (-2147483648 : Int32) else (fun _ => 0) j) z90.toInt.toNat z91) z98.toInt.toNat z92) z100.toInt.toNat).toInt = -2147483648 ∧ zp_153.toInt = 1 ∧ zv_153.toInt = ((upd (upd (fun j => if (j : Int) < z2.toInt then (-2147483648 : Int32) else (fun _ => 0) j) z90.toInt.toNat z91) z98.toInt.toNat z92) z100.toInt.toNat).toInt) := P153_3
          have E_b101_153 := E_b101_150.keep Kc153
          have F_b101_points_153 := F_b101_points_150.keep Kc153 nin0
          have F_b101_filled_153 := F_b101_filled_150.keep Kc153 nin0
          have F_b101_total_153 := F_b101_total_150.keep Kc153 nin0
          have V_b103_153 := V_b103_150.keep Kc153 nin0
          have E_b150_153 := P150_0.keep Kc153
          have F_b150_isPresent_153 := P150_1.keep Kc153 nin0
          have F_b150_value_153 := P150_2.keep Kc153 nin0
          have Zs153 : n0 ≤ T153.heap.size := Nat.le_trans Zs150 Kc153.1
          have hks153 : k102 ≤ T153.heap.size := Nat.le_trans hks150 Kc153.1
          have K153 := K150.trans Kc153 all0
          have N153 := Fr.app N150 Nc153
          show Ends _ _ _ _ T153 (mkF m 261 #[.val (.int ps), .val (.int pra), .val (.int psa), .val (.int prb), .val (.int psb), .val (.int pp), .val (.int z2), .val (.int (1 : Int32)), .val (.int z90), .val (.int z91), .val (.int z92), .val (.int z98), .val (.int z100), .val (.ref b101), .val (.int (2 : Int32)), .val (.int z106), .val (.int z91)] [(.ref b153)])
          refine ow_iconst X153 hx (z := (-1 : Int32)) (hb hby at_261) rfl (pc' := 262) rfl ?_
          refine ow_callVPI X153 hx hZ rfl hown (hw _ (List.mem_of_getElem? (i := 86) rfl)) (hw _ (List.mem_of_getElem? (i := 87) rfl)) (hw _ (List.mem_of_getElem? (i := 89) rfl)) (hw _ (List.mem_of_getElem? (i := 88) rfl)) (hw _ (List.mem_of_getElem? (i := 73) rfl)) (hw _ (List.mem_of_getElem? (i := 90) rfl)) (by decide) (rm_orElse l Z a0 hw [] b153 (-1 : Int32) zp_153 zv_153 T153.heap P153_1 P153_2) rfl 0 (by decide) (by decide) (by decide) (by decide) [(.int (-1 : Int32))] (by rw [hml]; rfl) pd_10 rfl P153_0 rfl rfl (Nat.le_of_eq rfl) (hb hby at_262) (pc' := 265) rfl (fun z154 T154 hz154 X154 e154 => ?_)
          have az154 : (zp_153.toInt = 0 → z154.toInt = (-1 : Int)) ∧ (¬ zp_153.toInt = 0 → z154.toInt = zv_153.toInt) := hz154
          have rz154 := rng32 z154
          refine ow_iload X154 hx (hb hby at_265) rfl (pc' := 267) rfl ?_
          refine ow_icmp_ne X154 hx (z154.toInt) (z91.toInt) (hb hby at_267) rfl rfl (by decide) (pt := 274) (by decide) (pf := 270) rfl (fun c267 => absurd c267 (by omega)) (fun c267 => ?_)
          refine ow_iconst X154 hx (z := (1 : Int32)) (hb hby at_270) rfl (pc' := 271) rfl ?_
          refine ow_goto X154 hx (hb hby at_271) (by decide) (pc' := 275) (by decide) ?_
          exact ow_retBW X154 hx hret hlk (hb hby at_275) hS102 (by rw [e154]; exact hks153) (by decide) (by decide) (z' := (1 : Int32)) rfl ⟨rfl, N153⟩
theorem fld_is {s : State} {args : Array Value} {t : Term} {C n d : String} {z : Int32} {a : Addr} (h : (Jvm.Cond.eq (Jvm.Term.field t C n d) (Jvm.Term.int z)).value args s none s [] = some true) (ht : t.eval args s none [] s = some (.ref a)) : s.fieldOf? a C n d = some (.int z) := by
  obtain ⟨x, y, e1, e2, k1, k2⟩ := cmp_v (Or.inl h)
  cases (Option.some.inj ((Term.int_eval z).symm.trans e2))
  obtain ⟨w, rfl⟩ : ∃ w, x = .int w := k2
  have q := gotT (Cond.eq_ints e1 (Term.int_eval z)) h
  rw [← fld_at ht, e1, q]
theorem empty_start {s : State} {args : Array Value} (hs : ∀ d ∈ jdkStatics_1, d.before args s = true) :
    ∃ oe : Addr, Sta s s.heap "java/util/OptionalInt" "EMPTY" "Ljava/util/OptionalInt;" (.ref oe) ∧ Exa s s.heap oe "java/util/OptionalInt" ∧ Fld s s.heap oe "java/util/OptionalInt" "isPresent" "Z" (.int (0 : Int32)) ∧ Fld s s.heap oe "java/util/OptionalInt" "value" "I" (.int (0 : Int32)) := by
  have n1 := hs _ (List.mem_of_getElem? (i := 1) rfl)
  have n2 := Cond.before_iff.mp (hs _ (List.mem_of_getElem? (i := 2) rfl))
  have n3 := Cond.before_iff.mp (hs _ (List.mem_of_getElem? (i := 3) rfl))
  have n4 := Cond.before_iff.mp (hs _ (List.mem_of_getElem? (i := 4) rfl))
  obtain ⟨oe, ev⟩ := exa_v n2
  exact ⟨oe, Sta.start ev (Or.inl n1), Exa.start ev n2, Fld.start (fld_is n3 ev), Fld.start (fld_is n4 ev)⟩
set_option maxRecDepth 65536 in
set_option maxHeartbeats 40000000 in
theorem comes_1 {Post : Tables → Env → Array Value → State → Outcome → State → Prop} (hpost : ∀ tb e args s v u, (limb_1_1.after args s (.returned v) u = true ∧ limb_1_2.after args s (.returned v) u = true ∧ True) → ReturnedEndW s (.returned v) u (Jvm.fieldLocs frame_1_writes args s ++ Jvm.arrayLocs frame_1_arrays args s ++ Jvm.staticLocs frame_1_statics s) 24 1152 → Post tb e args s (.returned v) u) :
    ArmFor flags0 classFile x code maxLocals ret World_1 tables_1 room_1 Calls_1 rest_1 Pre_1 Post := by
  intro l hfl _ _ p e ha hc hk s m args below hf hA hF happ hP
  obtain ⟨hcalls, hrest, hpre⟩ := hP
  obtain ⟨-, -, -, hnamed, -, -, -, hat⟩ := (Spec.applies_iff hf).mp happ
  obtain ⟨hg, hn⟩ := and_e (Cond.before_iff.mp (show (Jvm.Cond.and given_1 narrow_1).before args s = true from hpre))
  obtain ⟨gc, gr0⟩ := and_e hg
  obtain ⟨ga0, gr1⟩ := and_e gr0
  obtain ⟨ga1, gr2⟩ := and_e gr1
  obtain ⟨ga2, gr3⟩ := and_e gr2
  obtain ⟨ga3, gr4⟩ := and_e gr3
  obtain ⟨ga4, ga5⟩ := and_e gr4
  obtain ⟨w0, w1, w2, w3, w4, w5, rfl⟩ : ∃ w0 w1 w2 w3 w4 w5 : Value, args = #[w0, w1, w2, w3, w4, w5] := by
    have hs : args.size = 6 := by simpa [Cond.value, given_1] using gc
    obtain ⟨L⟩ := args
    match L, hs with
    | [w0, w1, w2, w3, w4, w5], _ => exact ⟨w0, w1, w2, w3, w4, w5, rfl⟩
  have hw := fun d (hd : d ∈ tables_1) => atoms_spec (ws := Jvm.Cond.code x code maxLocals ret :: tables_1) hat d (List.mem_cons_of_mem _ hd)
  have hfit : Fit s := fun {y c} hc i hi => by
    obtain ⟨ha, rfl⟩ := Array.getElem?_eq_some_iff.mp hc
    have q := List.all_eq_true.mp ((Array.all_eq_true_iff_forall_mem.mp hF) _ (Array.getElem_mem ha)) i (List.mem_range.mpr hi)
    simpa [Array.getElem?_eq_getElem hi] using q
  obtain ⟨hsets, hown0⟩ := atoms_of _ (rest_1_c_eq ▸ (show rest_1_c.before _ s = true from hrest))
  have hr0 := Cond.before_iff.mp hown0
  obtain ⟨i0, ei0⟩ := is_v ga0
  obtain rfl : w0 = (.int i0) := Option.some.inj ei0
  obtain ⟨i1, ei1⟩ := is_v ga1
  obtain rfl : w1 = (.int i1) := Option.some.inj ei1
  obtain ⟨i2, ei2⟩ := is_v ga2
  obtain rfl : w2 = (.int i2) := Option.some.inj ei2
  obtain ⟨i3, ei3⟩ := is_v ga3
  obtain rfl : w3 = (.int i3) := Option.some.inj ei3
  obtain ⟨i4, ei4⟩ := is_v ga4
  obtain rfl : w4 = (.int i4) := Option.some.inj ei4
  obtain ⟨i5, ei5⟩ := is_v ga5
  obtain rfl : w5 = (.int i5) := Option.some.inj ei5
  obtain ⟨oe, Se, Ee, Fe1, Fe2⟩ := empty_start hsets
  obtain ⟨n, o, h1, h2, h3, _, L, rfl, ⟨rfl, N⟩, hq⟩ := rm_law l s _ hw tables_1 i0 i1 i2 i3 i4 i5 oe s.heap s.heap.size (Nat.le_refl _) Se Ee Fe1 Fe2 p e ha hc hk s m _ below hf ((Spec.applies_iff_loose hf).mp happ).1 ⟨rfl, State.Warmed39.refl s, rfl⟩ trivial
  refine ⟨n, _, h1, h2, h3, hpost _ _ _ _ _ _ ⟨Cond.after_iff.mpr rfl, Cond.after_iff.mpr (eq_i res_at (Term.int_eval (1)) rfl), trivial⟩ ⟨hq.1, hq.2.1, hq.2.2.1, (hq.2.2.2.sift fun y hy => Or.inr (N y hy)).mono (by decide) (by decide)⟩⟩
theorem main_1_1 : Claimed_1_1 := comes_1 fun _ _ _ _ _ _ h hF => ⟨h.1, hF⟩
theorem main_1_2 : Claimed_1_2 := comes_1 fun _ _ _ _ _ _ h hF => ⟨h.2.1, hF⟩
end Jvm.Pilot.@@N@@
namespace Jvm.Pilot.@@N@@
open Jvm Jvm.ClassFile Sem Op Lib Jvm.Free Jvm.Stand Jvm.Pilot.@@N@@.Jvm.D
/-! MADE BY PROGRAM (witnessworld.py) out of the Statement's table words and the real class files: 18 classes; the members and pool entries that the words name. The judged class is class 1, her method 1. -/
namespace start1
open Jvm.ClassFile
def u (s : String) : CpInfo := .utf8 (stringToUtf16 s)
/-- a pool by its gaps: so many unusable entries, then the entry; so many at the end -/
def gap : Nat → List CpInfo → List CpInfo
  | 0, r => r
  | n + 1, r => .unusable :: gap n r
def poolList (es : List (Nat × CpInfo)) (last : Nat) : List CpInfo := es.foldr (fun e r => gap e.1 (e.2 :: r)) (gap last [])
def pool (es : List (Nat × CpInfo)) (last : Nat) : Array CpInfo := ⟨poolList es last⟩
def fileOf (pool : Array CpInfo) (this : Nat) (attrs : Array Attribute := #[]) (ms : Array MethodInfo := #[]) (fl : Nat := 33) (sup : Nat := 0) (ifs : Array Nat := #[]) (fds : Array FieldInfo := #[]) : ClassFile where
  minorVersion := 0
  majorVersion := 65
  constantPool := pool
  accessFlags := fl
  thisClass := this
  superClass := sup
  interfaces := ifs
  fields := fds
  methods := ms
  attributes := attrs
def plain (name : String) (sup : Option ClassId) : Class where
  name := name
  kind := .ordinary
  loader := none
  accessFlags := 33
  super := sup
  interfaces := #[]
  cf := none
  fields := #[]
  methods := #[]
  instanceTypes := #[]
  staticTypes := #[]
  resolved := #[]
  callSites := []
  init := .initialized
  statics := none
  mirror := none

def pool0 : Array CpInfo := pool [(5, u "<init>"), (0, u "()V"), (1, .class_ 10), (1, u "java/lang/Object")] 113

def k0c0 : Code := { maxStack := 0, maxLocals := 1, code := object_method_1_code, exceptionTable := #[], attributes := #[] }
def k0m0 : Method := { name := "<init>", desc := "()V", sig := { parameters := [], returnType := none }, accessFlags := 1, code := some k0c0 }
/-- java/lang/Object -/
def k0 : Class := { plain "java/lang/Object" none with
  accessFlags := 33
  interfaces := #[]
  cf := some (fileOf pool0 8 #[] #[{ accessFlags := 1, nameIndex := 5, descriptorIndex := 6, attributes := #[] }] 33 0 #[] #[])
  fields := #[]
  methods := #[k0m0]
  instanceTypes := #[]
  staticTypes := #[]
  resolved := Array.replicate 124 none
  statics := none }

def pool1 : Array CpInfo := pool [(2, .class_ 4), (1, u "java/lang/Object"), (0, u "<init>"), (0, u "()V"), (0, .integer 2147483647), (0, .integer 1073741823), (0, .class_ 10), (0, u "com/example/cubilete/cubilete/rules/Sheet"), (0, .string 12), (0, u "p"), (0, .methodref 9 14), (0, .nameAndType 5 15), (0, u "(Ljava/lang/String;I)V"), (0, .methodref 9 17), (0, .nameAndType 18 19), (0, u "fill"), (0, u "(II)V"), (0, .methodref 9 21), (0, .nameAndType 22 23), (0, u "rows"), (0, u "()I"), (0, .methodref 9 25), (0, .nameAndType 26 23), (0, u "filled"), (0, .methodref 9 28), (0, .nameAndType 29 23), (0, u "total"), (0, .methodref 9 31), (0, .nameAndType 32 33), (0, u "isFull"), (0, u "()Z"), (0, .methodref 9 35), (0, .nameAndType 36 37), (0, u "points"), (0, u "(I)Ljava/util/OptionalInt;"), (0, .methodref 39 40), (0, .class_ 41), (0, .nameAndType 42 43), (0, u "java/util/OptionalInt"), (0, u "orElse"), (0, u "(I)I"), (0, .class_ 45), (0, u "com/example/cubilete/cubilete/rules/SheetFillPinLaw"), (2, u "law"), (0, u "(IIIIII)Z")] 3

def k1m0 : Method := { name := "<init>", desc := "()V", sig := { parameters := [], returnType := none }, accessFlags := 1, code := none }
def k1c1 : Code := { maxStack := 4, maxLocals := 17, code := code, exceptionTable := #[], attributes := #[] }
def k1m1 : Method := { name := "law", desc := "(IIIIII)Z", sig := { parameters := [.int, .int, .int, .int, .int, .int], returnType := some .boolean }, accessFlags := 9, code := some k1c1 }
/-- com/example/cubilete/cubilete/rules/SheetFillPinLaw -/
def k1 : Class := { plain "com/example/cubilete/cubilete/rules/SheetFillPinLaw" (some 0) with
  accessFlags := 49
  interfaces := #[]
  cf := some (fileOf pool1 44 #[] #[{ accessFlags := 1, nameIndex := 5, descriptorIndex := 6, attributes := #[] }, { accessFlags := 9, nameIndex := 48, descriptorIndex := 49, attributes := #[] }] 49 2 #[] #[])
  fields := #[]
  methods := #[k1m0, k1m1]
  instanceTypes := #[]
  staticTypes := #[]
  resolved := Array.replicate 53 none
  statics := none }

def pool2 : Array CpInfo := pool [(3, .methodref 4 5), (0, .class_ 6), (0, .nameAndType 7 8), (0, u "java/lang/Object"), (0, u "<init>"), (0, u "()V"), (0, .fieldref 10 11), (0, .class_ 12), (0, .nameAndType 13 14), (0, u "com/example/cubilete/cubilete/rules/Sheet"), (0, u "player"), (0, u "Ljava/lang/String;"), (0, .fieldref 10 16), (0, .nameAndType 17 18), (0, u "points"), (0, u "[I"), (0, .integer 2147483648), (0, .methodref 21 22), (0, .class_ 23), (0, .nameAndType 24 25), (0, u "java/util/Arrays"), (0, u "fill"), (0, u "([II)V"), (0, .methodref 27 28), (0, .class_ 29), (0, .nameAndType 30 31), (0, u "java/util/Objects"), (0, u "checkIndex"), (0, u "(II)I"), (0, .methodref 33 34), (0, .class_ 35), (0, .nameAndType 36 37), (0, u "java/util/OptionalInt"), (0, u "empty"), (0, u "()Ljava/util/OptionalInt;"), (0, .methodref 33 39), (0, .nameAndType 40 41), (0, u "of"), (0, u "(I)Ljava/util/OptionalInt;"), (0, .fieldref 10 43), (0, .nameAndType 44 45), (0, u "filled"), (0, u "I"), (0, .fieldref 10 47), (0, .nameAndType 48 45), (0, u "total"), (11, u "()Z"), (6, u "isFull"), (2, u "()I"), (23, u "OPEN"), (1, u "(Ljava/lang/String;I)V"), (3, u "rows"), (1, u "(II)V")] 9

def k2c0 : Code := { maxStack := 2, maxLocals := 3, code := prog_57_method_1_code, exceptionTable := #[], attributes := #[] }
def k2m0 : Method := { name := "<init>", desc := "(Ljava/lang/String;I)V", sig := { parameters := [(.object "java/lang/String"), .int], returnType := none }, accessFlags := 1, code := some k2c0 }
def k2c1 : Code := { maxStack := 1, maxLocals := 1, code := prog_57_method_3_code, exceptionTable := #[], attributes := #[] }
def k2m1 : Method := { name := "rows", desc := "()I", sig := { parameters := [], returnType := some .int }, accessFlags := 1, code := some k2c1 }
def k2c2 : Code := { maxStack := 3, maxLocals := 3, code := prog_57_method_4_code, exceptionTable := #[], attributes := #[] }
def k2m2 : Method := { name := "points", desc := "(I)Ljava/util/OptionalInt;", sig := { parameters := [.int], returnType := some (.object "java/util/OptionalInt") }, accessFlags := 1, code := some k2c2 }
def k2c3 : Code := { maxStack := 1, maxLocals := 1, code := prog_57_method_5_code, exceptionTable := #[], attributes := #[] }
def k2m3 : Method := { name := "filled", desc := "()I", sig := { parameters := [], returnType := some .int }, accessFlags := 1, code := some k2c3 }
def k2c4 : Code := { maxStack := 2, maxLocals := 1, code := prog_57_method_6_code, exceptionTable := #[], attributes := #[] }
def k2m4 : Method := { name := "isFull", desc := "()Z", sig := { parameters := [], returnType := some .boolean }, accessFlags := 1, code := some k2c4 }
def k2c5 : Code := { maxStack := 1, maxLocals := 1, code := prog_57_method_7_code, exceptionTable := #[], attributes := #[] }
def k2m5 : Method := { name := "total", desc := "()I", sig := { parameters := [], returnType := some .int }, accessFlags := 1, code := some k2c5 }
def k2c6 : Code := { maxStack := 3, maxLocals := 3, code := prog_57_method_8_code, exceptionTable := #[], attributes := #[] }
def k2m6 : Method := { name := "fill", desc := "(II)V", sig := { parameters := [.int, .int], returnType := none }, accessFlags := 1, code := some k2c6 }
/-- com/example/cubilete/cubilete/rules/Sheet -/
def k2 : Class := { plain "com/example/cubilete/cubilete/rules/Sheet" (some 0) with
  accessFlags := 49
  interfaces := #[]
  cf := some (fileOf pool2 10 #[] #[{ accessFlags := 1, nameIndex := 7, descriptorIndex := 96, attributes := #[] }, { accessFlags := 1, nameIndex := 100, descriptorIndex := 70, attributes := #[] }, { accessFlags := 1, nameIndex := 17, descriptorIndex := 41, attributes := #[] }, { accessFlags := 1, nameIndex := 44, descriptorIndex := 70, attributes := #[] }, { accessFlags := 1, nameIndex := 67, descriptorIndex := 60, attributes := #[] }, { accessFlags := 1, nameIndex := 48, descriptorIndex := 70, attributes := #[] }, { accessFlags := 1, nameIndex := 24, descriptorIndex := 102, attributes := #[] }] 49 4 #[] #[{ accessFlags := 26, nameIndex := 94, descriptorIndex := 45, attributes := #[] }, { accessFlags := 18, nameIndex := 13, descriptorIndex := 14, attributes := #[] }, { accessFlags := 18, nameIndex := 17, descriptorIndex := 18, attributes := #[] }, { accessFlags := 2, nameIndex := 44, descriptorIndex := 45, attributes := #[] }, { accessFlags := 2, nameIndex := 48, descriptorIndex := 45, attributes := #[] }])
  fields := #[{ name := "OPEN", type := .int, accessFlags := 26, slot := 0, constantValue := 0 }, { name := "player", type := (.object "java/lang/String"), accessFlags := 18, slot := 0, constantValue := 0 }, { name := "points", type := (.array .int), accessFlags := 18, slot := 1, constantValue := 0 }, { name := "filled", type := .int, accessFlags := 2, slot := 2, constantValue := 0 }, { name := "total", type := .int, accessFlags := 2, slot := 3, constantValue := 0 }]
  methods := #[k2m0, k2m1, k2m2, k2m3, k2m4, k2m5, k2m6]
  instanceTypes := #[(.object "java/lang/String"), (.array .int), .int, .int]
  staticTypes := #[.int]
  resolved := Array.replicate 112 none
  statics := none }

def pool3 : Array CpInfo := pool [(1, .class_ 2), (0, u "java/io/Serializable"), (0, .class_ 4), (0, u "java/lang/Object")] 2

/-- java/io/Serializable -/
def k3 : Class := { plain "java/io/Serializable" (some 0) with
  accessFlags := 1537
  interfaces := #[]
  cf := some (fileOf pool3 1 #[] #[] 1537 3 #[] #[])
  fields := #[]
  methods := #[]
  instanceTypes := #[]
  staticTypes := #[]
  resolved := Array.replicate 7 none
  statics := none }

def pool4 : Array CpInfo := pool [(1, .class_ 2), (0, u "java/lang/Comparable"), (0, .class_ 4), (0, u "java/lang/Object")] 7

/-- java/lang/Comparable -/
def k4 : Class := { plain "java/lang/Comparable" (some 0) with
  accessFlags := 1537
  interfaces := #[]
  cf := some (fileOf pool4 1 #[] #[] 1537 3 #[] #[])
  fields := #[]
  methods := #[]
  instanceTypes := #[]
  staticTypes := #[]
  resolved := Array.replicate 12 none
  statics := none }

def pool5 : Array CpInfo := pool [(2, .class_ 4), (1, u "java/lang/CharSequence"), (42, .class_ 48), (0, u "java/lang/CharSequence$1CodePointIterator"), (10, .class_ 60), (0, u "java/lang/CharSequence$1CharIterator"), (5, .class_ 67), (0, u "java/lang/Object")] 63

/-- java/lang/CharSequence -/
def k5 : Class := { plain "java/lang/CharSequence" (some 0) with
  accessFlags := 1537
  interfaces := #[]
  cf := some (fileOf pool5 2 #[.nestMembers #[47, 59]] #[] 1537 66 #[] #[])
  fields := #[]
  methods := #[]
  instanceTypes := #[]
  staticTypes := #[]
  resolved := Array.replicate 131 none
  statics := none }

def pool6 : Array CpInfo := pool [(1, .class_ 2), (0, u "java/lang/constant/Constable"), (0, .class_ 4), (0, u "java/lang/Object")] 6

/-- java/lang/constant/Constable -/
def k6 : Class := { plain "java/lang/constant/Constable" (some 0) with
  accessFlags := 1537
  interfaces := #[]
  cf := some (fileOf pool6 1 #[] #[] 1537 3 #[] #[])
  fields := #[]
  methods := #[]
  instanceTypes := #[]
  staticTypes := #[]
  resolved := Array.replicate 11 none
  statics := none }

def pool7 : Array CpInfo := pool [(1, .class_ 2), (0, u "java/lang/constant/ConstantDesc"), (0, .class_ 4), (0, u "java/lang/Object")] 32

/-- java/lang/constant/ConstantDesc -/
def k7 : Class := { plain "java/lang/constant/ConstantDesc" (some 0) with
  accessFlags := 1537
  interfaces := #[]
  cf := some (fileOf pool7 1 #[] #[] 1537 3 #[] #[])
  fields := #[]
  methods := #[]
  instanceTypes := #[]
  staticTypes := #[]
  resolved := Array.replicate 37 none
  statics := none }

def pool8 : Array CpInfo := pool [(2, .class_ 4), (1, u "java/lang/Object"), (0, u "<init>"), (0, u "()V"), (3, .class_ 12), (1, u "java/lang/String"), (0, u "value"), (0, u "[B"), (2, u "coder"), (0, u "B"), (2, u "hash"), (0, u "I"), (2, u "hashIsZero"), (0, u "Z"), (13, u "COMPACT_STRINGS"), (534, .class_ 576), (0, u "java/lang/CharSequence"), (22, u "CASE_INSENSITIVE_ORDER"), (0, u "Ljava/util/Comparator;"), (500, u "serialPersistentFields"), (0, u "[Ljava/io/ObjectStreamField;"), (0, .class_ 1104), (0, u "java/lang/String$CaseInsensitiveComparator"), (1, .class_ 1107), (0, u "java/io/Serializable"), (0, .class_ 1109), (0, u "java/lang/Comparable"), (0, .class_ 1111), (0, u "java/lang/constant/Constable"), (0, .class_ 1113), (0, u "java/lang/constant/ConstantDesc"), (2, u "serialVersionUID"), (0, u "J"), (3, u "REPL"), (0, u "C"), (2, u "LATIN1"), (1, u "UTF16")] 323

def k8m0 : Method := { name := "<init>", desc := "()V", sig := { parameters := [], returnType := none }, accessFlags := 1, code := none }
/-- java/lang/String -/
def k8 : Class := { plain "java/lang/String" (some 0) with
  accessFlags := 49
  interfaces := #[3, 4, 5, 6, 7]
  cf := some (fileOf pool8 10 #[.nestMembers #[1103]] #[{ accessFlags := 1, nameIndex := 5, descriptorIndex := 6, attributes := #[] }] 49 2 #[1106, 1108, 575, 1110, 1112] #[{ accessFlags := 18, nameIndex := 13, descriptorIndex := 14, attributes := #[] }, { accessFlags := 18, nameIndex := 17, descriptorIndex := 18, attributes := #[] }, { accessFlags := 2, nameIndex := 21, descriptorIndex := 22, attributes := #[] }, { accessFlags := 2, nameIndex := 25, descriptorIndex := 26, attributes := #[] }, { accessFlags := 26, nameIndex := 1116, descriptorIndex := 1117, attributes := #[] }, { accessFlags := 24, nameIndex := 40, descriptorIndex := 26, attributes := #[] }, { accessFlags := 26, nameIndex := 1101, descriptorIndex := 1102, attributes := #[] }, { accessFlags := 26, nameIndex := 1121, descriptorIndex := 1122, attributes := #[] }, { accessFlags := 25, nameIndex := 599, descriptorIndex := 600, attributes := #[] }, { accessFlags := 24, nameIndex := 1125, descriptorIndex := 18, attributes := #[] }, { accessFlags := 24, nameIndex := 1127, descriptorIndex := 18, attributes := #[] }])
  fields := #[{ name := "value", type := (.array .byte), accessFlags := 18, slot := 0, constantValue := 0 }, { name := "coder", type := .byte, accessFlags := 18, slot := 1, constantValue := 0 }, { name := "hash", type := .int, accessFlags := 2, slot := 2, constantValue := 0 }, { name := "hashIsZero", type := .boolean, accessFlags := 2, slot := 3, constantValue := 0 }, { name := "serialVersionUID", type := .long, accessFlags := 26, slot := 0, constantValue := 0 }, { name := "COMPACT_STRINGS", type := .boolean, accessFlags := 24, slot := 1, constantValue := 0 }, { name := "serialPersistentFields", type := (.array (.object "java/io/ObjectStreamField")), accessFlags := 26, slot := 2, constantValue := 0 }, { name := "REPL", type := .char, accessFlags := 26, slot := 3, constantValue := 0 }, { name := "CASE_INSENSITIVE_ORDER", type := (.object "java/util/Comparator"), accessFlags := 25, slot := 4, constantValue := 0 }, { name := "LATIN1", type := .byte, accessFlags := 24, slot := 5, constantValue := 0 }, { name := "UTF16", type := .byte, accessFlags := 24, slot := 6, constantValue := 0 }]
  methods := #[k8m0]
  instanceTypes := #[(.array .byte), .byte, .int, .boolean]
  staticTypes := #[.long, .boolean, (.array (.object "java/io/ObjectStreamField")), .char, (.object "java/util/Comparator"), .byte, .byte]
  resolved := Array.replicate 1451 none
  statics := none }

def pool9 : Array CpInfo := pool [(2, .class_ 4), (1, u "java/lang/Object"), (0, u "<init>"), (0, u "()V"), (7, .class_ 16), (1, u "java/util/Arrays"), (57, .class_ 76), (1, u "java/util/Arrays$NaturalOrder"), (36, .class_ 115), (1, u "java/util/Arrays$LegacyMergeSort"), (1, u "Z"), (257, .class_ 376), (0, u "java/util/Arrays$ArrayList"), (68, u "$assertionsDisabled"), (269, u "MIN_ARRAY_SORT_GRAN"), (0, u "I"), (2, u "INSERTIONSORT_THRESHOLD"), (120, u "fill"), (4, u "([II)V"), (129, .class_ 976), (0, u "java/util/Arrays$ArrayItr")] 52

def k9m0 : Method := { name := "<init>", desc := "()V", sig := { parameters := [], returnType := none }, accessFlags := 2, code := none }
def k9c1 : Code := { maxStack := 3, maxLocals := 4, code := jdk_65_method_103_code, exceptionTable := #[], attributes := #[] }
def k9m1 : Method := { name := "fill", desc := "([II)V", sig := { parameters := [(.array .int), .int], returnType := none }, accessFlags := 9, code := some k9c1 }
/-- java/util/Arrays -/
def k9 : Class := { plain "java/util/Arrays" (some 0) with
  accessFlags := 49
  interfaces := #[]
  cf := some (fileOf pool9 14 #[.nestMembers #[975, 375, 113, 74]] #[{ accessFlags := 2, nameIndex := 5, descriptorIndex := 6, attributes := #[] }, { accessFlags := 9, nameIndex := 840, descriptorIndex := 845, attributes := #[] }] 49 2 #[] #[{ accessFlags := 26, nameIndex := 715, descriptorIndex := 716, attributes := #[] }, { accessFlags := 26, nameIndex := 719, descriptorIndex := 716, attributes := #[] }, { accessFlags := 4120, nameIndex := 445, descriptorIndex := 117, attributes := #[] }])
  fields := #[{ name := "MIN_ARRAY_SORT_GRAN", type := .int, accessFlags := 26, slot := 0, constantValue := 0 }, { name := "INSERTIONSORT_THRESHOLD", type := .int, accessFlags := 26, slot := 1, constantValue := 0 }, { name := "$assertionsDisabled", type := .boolean, accessFlags := 4120, slot := 2, constantValue := 0 }]
  methods := #[k9m0, k9m1]
  instanceTypes := #[]
  staticTypes := #[.int, .int, .boolean]
  resolved := Array.replicate 1029 none
  statics := none }

def pool10 : Array CpInfo := pool [(2, .class_ 4), (1, u "java/lang/Object"), (0, u "<init>"), (0, u "()V"), (35, .class_ 44), (1, u "java/util/Objects"), (60, .methodref 106 107), (0, .class_ 108), (0, .nameAndType 109 110), (0, u "jdk/internal/util/Preconditions"), (0, u "checkIndex"), (0, u "(IILjava/util/function/BiFunction;)I"), (60, u "(II)I")] 12

def k10m0 : Method := { name := "<init>", desc := "()V", sig := { parameters := [], returnType := none }, accessFlags := 2, code := none }
def k10c1 : Code := { maxStack := 3, maxLocals := 2, code := jdk_31_method_17_code, exceptionTable := #[], attributes := #[] }
def k10m1 : Method := { name := "checkIndex", desc := "(II)I", sig := { parameters := [.int, .int], returnType := some .int }, accessFlags := 9, code := some k10c1 }
/-- java/util/Objects -/
def k10 : Class := { plain "java/util/Objects" (some 0) with
  accessFlags := 49
  interfaces := #[]
  cf := some (fileOf pool10 42 #[] #[{ accessFlags := 2, nameIndex := 5, descriptorIndex := 6, attributes := #[] }, { accessFlags := 9, nameIndex := 109, descriptorIndex := 171, attributes := #[] }] 49 2 #[] #[])
  fields := #[]
  methods := #[k10m0, k10m1]
  instanceTypes := #[]
  staticTypes := #[]
  resolved := Array.replicate 184 none
  statics := none }

def pool11 : Array CpInfo := pool [(2, .class_ 4), (1, u "java/lang/Object"), (0, u "<init>"), (0, u "()V"), (17, .class_ 26), (1, u "jdk/internal/util/Preconditions"), (6, u "checkIndex"), (21, .class_ 56), (0, u "jdk/internal/util/Preconditions$4"), (57, .class_ 115), (0, u "jdk/internal/util/Preconditions$1"), (7, u "SIOOBE_FORMATTER"), (0, u "Ljava/util/function/BiFunction;"), (0, .class_ 126), (0, u "jdk/internal/util/Preconditions$2"), (3, u "AIOOBE_FORMATTER"), (0, .class_ 132), (0, u "jdk/internal/util/Preconditions$3"), (3, u "IOOBE_FORMATTER"), (41, u "(IILjava/util/function/BiFunction;)I")] 15

def k11m0 : Method := { name := "<init>", desc := "()V", sig := { parameters := [], returnType := none }, accessFlags := 1, code := none }
def k11c1 : Code := { maxStack := 3, maxLocals := 3, code := jdk_41_method_11_code, exceptionTable := #[], attributes := #[] }
def k11m1 : Method := { name := "checkIndex", desc := "(IILjava/util/function/BiFunction;)I", sig := { parameters := [.int, .int, (.object "java/util/function/BiFunction")], returnType := some .int }, accessFlags := 9, code := some k11c1 }
/-- jdk/internal/util/Preconditions -/
def k11 : Class := { plain "jdk/internal/util/Preconditions" (some 0) with
  accessFlags := 33
  interfaces := #[]
  cf := some (fileOf pool11 24 #[.nestMembers #[55, 131, 125, 114]] #[{ accessFlags := 1, nameIndex := 5, descriptorIndex := 6, attributes := #[] }, { accessFlags := 9, nameIndex := 33, descriptorIndex := 178, attributes := #[] }] 33 2 #[] #[{ accessFlags := 25, nameIndex := 123, descriptorIndex := 124, attributes := #[] }, { accessFlags := 25, nameIndex := 130, descriptorIndex := 124, attributes := #[] }, { accessFlags := 25, nameIndex := 136, descriptorIndex := 124, attributes := #[] }])
  fields := #[{ name := "SIOOBE_FORMATTER", type := (.object "java/util/function/BiFunction"), accessFlags := 25, slot := 0, constantValue := 0 }, { name := "AIOOBE_FORMATTER", type := (.object "java/util/function/BiFunction"), accessFlags := 25, slot := 1, constantValue := 0 }, { name := "IOOBE_FORMATTER", type := (.object "java/util/function/BiFunction"), accessFlags := 25, slot := 2, constantValue := 0 }]
  methods := #[k11m0, k11m1]
  instanceTypes := #[]
  staticTypes := #[(.object "java/util/function/BiFunction"), (.object "java/util/function/BiFunction"), (.object "java/util/function/BiFunction")]
  resolved := Array.replicate 194 none
  statics := none }

def pool12 : Array CpInfo := pool [(1, .methodref 2 3), (0, .class_ 4), (0, .nameAndType 5 6), (0, u "java/lang/Object"), (0, u "<init>"), (0, u "()V"), (0, .fieldref 8 9), (0, .class_ 10), (0, .nameAndType 11 12), (0, u "java/util/OptionalInt"), (0, u "isPresent"), (0, u "Z"), (0, .fieldref 8 14), (0, .nameAndType 15 16), (0, u "value"), (0, u "I"), (0, .fieldref 8 18), (0, .nameAndType 19 20), (0, u "EMPTY"), (0, u "Ljava/util/OptionalInt;"), (0, .methodref 8 22), (0, .nameAndType 5 23), (0, u "(I)V"), (21, u "of"), (3, u "empty"), (20, u "(I)I"), (25, u "()Ljava/util/OptionalInt;"), (0, u "(I)Ljava/util/OptionalInt;"), (12, u "orElse")] 25

def k12m0 : Method := { name := "<init>", desc := "()V", sig := { parameters := [], returnType := none }, accessFlags := 2, code := none }
def k12c1 : Code := { maxStack := 1, maxLocals := 0, code := jdk_2649_method_2_code, exceptionTable := #[], attributes := #[] }
def k12m1 : Method := { name := "empty", desc := "()Ljava/util/OptionalInt;", sig := { parameters := [], returnType := some (.object "java/util/OptionalInt") }, accessFlags := 9, code := some k12c1 }
def k12c2 : Code := { maxStack := 2, maxLocals := 2, code := jdk_2649_method_3_code, exceptionTable := #[], attributes := #[] }
def k12m2 : Method := { name := "<init>", desc := "(I)V", sig := { parameters := [.int], returnType := none }, accessFlags := 2, code := some k12c2 }
def k12c3 : Code := { maxStack := 3, maxLocals := 1, code := jdk_2649_method_4_code, exceptionTable := #[], attributes := #[] }
def k12m3 : Method := { name := "of", desc := "(I)Ljava/util/OptionalInt;", sig := { parameters := [.int], returnType := some (.object "java/util/OptionalInt") }, accessFlags := 9, code := some k12c3 }
def k12c4 : Code := { maxStack := 1, maxLocals := 2, code := jdk_2649_method_11_code, exceptionTable := #[], attributes := #[] }
def k12m4 : Method := { name := "orElse", desc := "(I)I", sig := { parameters := [.int], returnType := some .int }, accessFlags := 1, code := some k12c4 }
/-- java/util/OptionalInt -/
def k12 : Class := { plain "java/util/OptionalInt" (some 0) with
  accessFlags := 49
  interfaces := #[]
  cf := some (fileOf pool12 8 #[] #[{ accessFlags := 2, nameIndex := 5, descriptorIndex := 6, attributes := #[] }, { accessFlags := 9, nameIndex := 49, descriptorIndex := 96, attributes := #[] }, { accessFlags := 2, nameIndex := 5, descriptorIndex := 23, attributes := #[] }, { accessFlags := 9, nameIndex := 45, descriptorIndex := 97, attributes := #[] }, { accessFlags := 1, nameIndex := 110, descriptorIndex := 70, attributes := #[] }] 49 2 #[] #[{ accessFlags := 26, nameIndex := 19, descriptorIndex := 20, attributes := #[] }, { accessFlags := 18, nameIndex := 11, descriptorIndex := 12, attributes := #[] }, { accessFlags := 18, nameIndex := 15, descriptorIndex := 16, attributes := #[] }])
  fields := #[{ name := "EMPTY", type := (.object "java/util/OptionalInt"), accessFlags := 26, slot := 0, constantValue := 0 }, { name := "isPresent", type := .boolean, accessFlags := 18, slot := 0, constantValue := 0 }, { name := "value", type := .int, accessFlags := 18, slot := 1, constantValue := 0 }]
  methods := #[k12m0, k12m1, k12m2, k12m3, k12m4]
  instanceTypes := #[.boolean, .int]
  staticTypes := #[(.object "java/util/OptionalInt")]
  resolved := Array.replicate 136 none
  statics := some 0 }

def pool13 : Array CpInfo := pool [(1, u "java/lang/Cloneable"), (0, .class_ 1), (0, u "java/lang/Object"), (0, .class_ 3)] 3

/-- java/lang/Cloneable -/
def k13 : Class := { plain "java/lang/Cloneable" (some 0) with
  accessFlags := 1537
  interfaces := #[]
  cf := some (fileOf pool13 2 #[] #[] 1537 4 #[] #[])
  fields := #[]
  methods := #[]
  instanceTypes := #[]
  staticTypes := #[]
  resolved := Array.replicate 8 none
  statics := none }

/-- the primitive byte -/
def k14 : Class := { plain "byte" none with kind := .primitive 'B', accessFlags := 0x411 }
/-- [B -/
def k15 : Class := { plain "[B" (some 0) with kind := .array 14 .byte, interfaces := #[13, 3], accessFlags := 1041 }

/-- the primitive int -/
def k16 : Class := { plain "int" none with kind := .primitive 'I', accessFlags := 0x411 }
/-- [I -/
def k17 : Class := { plain "[I" (some 0) with kind := .array 16 .int, interfaces := #[13, 3], accessFlags := 1041 }

def heap : Heap := #[{ cls := 12, slots := #[.ref 1], vm := .statics 12 },
  { cls := 12, slots := #[.int 0, .int 0], vm := .none }]
def classes : Array Class := #[k0, k1, k2, k3, k4, k5, k6, k7, k8, k9, k10, k11, k12, k13, k14, k15, k16, k17]
def interned : List (Array UInt16 × Addr) := []
def slotsUsed : Nat := 3
def theMethod : MethodId := ⟨1, 1⟩
def args0 : Array Value := #[.int 5, .int 7, .int 3, .int 2, .int 1, .int 4]
def aboutOver (below : List Frame) : State where
  vm := { classes := classes, interned := interned.toArray }
  heap := heap
  slotsUsed := slotsUsed
  threads := #[{ frames := .invoking theMethod args0 :: below }]
def below0 : List Frame := [.native { method := ⟨0, 0⟩, args := #[] }]
def about1 : State := aboutOver below0
def p0 : Program := .bare "" "" ""
def e0 : Env := launch0.env 0 0 0
theorem w_frames : about1.frames = Frame.invoking theMethod args0 :: below0 := rfl
set_option maxRecDepth 65536 in
theorem w_args : argsFit about1.vm theMethod args0 = true := by decide +kernel
set_option maxRecDepth 65536 in
theorem w_heap : heapFits about1 = true := by decide +kernel
set_option maxRecDepth 65536 in
theorem w_runnable : about1.curStatus? = some .runnable := by decide +kernel
set_option maxRecDepth 65536 in
theorem w_alone : about1.alone = true := by decide +kernel
set_option maxRecDepth 65536 in
theorem w_named : about1.methodNamed? x = some theMethod := by decide +kernel
set_option maxRecDepth 65536 in
theorem w_hears : about1.hears theMethod below0 = true := by decide +kernel
set_option maxRecDepth 65536 in
theorem w_ripe : about1.ripe theMethod args0 below0 = true := by decide +kernel
theorem w_running : about1.status = .running := rfl
set_option maxRecDepth 65536 in
theorem w_room : about1.hasRoom e0.platform room_1 = true :=
  launch0.hasRoom_least _ room_1 (by decide +kernel) (by decide +kernel) (by decide +kernel) (by decide +kernel) (by decide +kernel) (by decide +kernel)
theorem allAtoms_all (ts : List Jvm.Cond) (a : Array Jvm.Value) (st : Jvm.State) : (allAtoms ts).before a st = ts.all (fun c => c.before a st) := by
  induction ts with
  | nil => rfl
  | cons c t ih =>
    show (Jvm.Cond.and c (allAtoms t)).before a st = _
    rw [Jvm.Cond.before_and, ih, List.all_cons]
def words1 : List Jvm.Cond := Jvm.Cond.code x code maxLocals ret :: tables_1
/-- a 'code' word, met by the world's own term for the bytes: nothing is compared byte by byte -/
theorem code_word {y : MethodName} {bytes : ByteArray} {mx : Nat} {rt : Option FieldType} {a : Array Value} {s : State} {m : MethodId} {meth : Method} {c : Code} (h1 : s.methodNamed? y = some m) (h2 : s.vm.method? m = some meth) (h3 : meth.code = some c) (h4 : c.code = bytes)
    (h5 : (c.maxLocals == mx && c.exceptionTable.isEmpty && decide (c.maxStack ≤ mostOperands) && decide (meth.sig.returnType = rt) && !meth.locks && decide (parseMethodDescriptor y.desc = some meth.sig)) = true) : (Jvm.Cond.code y bytes mx rt).before a s = true := by
  simp only [Bool.and_eq_true, beq_iff_eq, Bool.not_eq_true', decide_eq_true_eq] at h5
  obtain ⟨⟨⟨⟨⟨g1, g2⟩, g3⟩, g4⟩, g5⟩, g6⟩ := h5
  simp [Cond.before, Cond.holds, Cond.value, h1, h2, h3, h4, g1, g2, g3, g4, g5, g6]
def isCode : Jvm.Cond → Bool
  | .code _ _ _ _ => true
  | _ => false
theorem all_split {L : List Jvm.Cond} {P : Jvm.Cond → Bool} (h1 : L.all (fun c => isCode c || P c) = true) (h2 : ∀ c ∈ L.filter isCode, P c = true) : L.all P = true := by
  refine List.all_eq_true.mpr fun c hc => ?_
  have h := List.all_eq_true.mp h1 c hc
  rcases Bool.eq_false_or_eq_true (isCode c) with hi | hi
  · exact h2 c (List.mem_filter.mpr ⟨hc, hi⟩)
  · simpa [hi] using h
set_option maxRecDepth 65536 in
theorem w_c0 : (Jvm.Cond.code x code maxLocals ret).before args0 about1 = true := code_word (m := ⟨1, 1⟩) (meth := k1m1) (c := k1c1) (by decide +kernel) rfl rfl rfl (by decide +kernel)
set_option maxRecDepth 65536 in
theorem w_c1 : (Jvm.Cond.code ({ cls := "com/example/cubilete/cubilete/rules/Sheet", name := "<init>", desc := "(Ljava/lang/String;I)V" } : Jvm.MethodName) prog_57_method_1_code (3 : Nat) (Option.none : Option Jvm.ClassFile.FieldType)).before args0 about1 = true := code_word (m := ⟨2, 0⟩) (meth := k2m0) (c := k2c0) (by decide +kernel) rfl rfl rfl (by decide +kernel)
set_option maxRecDepth 65536 in
theorem w_c2 : (Jvm.Cond.code ({ cls := "java/lang/Object", name := "<init>", desc := "()V" } : Jvm.MethodName) object_method_1_code (1 : Nat) (Option.none : Option Jvm.ClassFile.FieldType)).before args0 about1 = true := code_word (m := ⟨0, 0⟩) (meth := k0m0) (c := k0c0) (by decide +kernel) rfl rfl rfl (by decide +kernel)
set_option maxRecDepth 65536 in
theorem w_c3 : (Jvm.Cond.code ({ cls := "java/util/Arrays", name := "fill", desc := "([II)V" } : Jvm.MethodName) jdk_65_method_103_code (4 : Nat) (Option.none : Option Jvm.ClassFile.FieldType)).before args0 about1 = true := code_word (m := ⟨9, 1⟩) (meth := k9m1) (c := k9c1) (by decide +kernel) rfl rfl rfl (by decide +kernel)
set_option maxRecDepth 65536 in
theorem w_c4 : (Jvm.Cond.code ({ cls := "com/example/cubilete/cubilete/rules/Sheet", name := "fill", desc := "(II)V" } : Jvm.MethodName) prog_57_method_8_code (3 : Nat) (Option.none : Option Jvm.ClassFile.FieldType)).before args0 about1 = true := code_word (m := ⟨2, 6⟩) (meth := k2m6) (c := k2c6) (by decide +kernel) rfl rfl rfl (by decide +kernel)
set_option maxRecDepth 65536 in
theorem w_c5 : (Jvm.Cond.code ({ cls := "java/util/Objects", name := "checkIndex", desc := "(II)I" } : Jvm.MethodName) jdk_31_method_17_code (2 : Nat) (Option.some Jvm.ClassFile.FieldType.int)).before args0 about1 = true := code_word (m := ⟨10, 1⟩) (meth := k10m1) (c := k10c1) (by decide +kernel) rfl rfl rfl (by decide +kernel)
set_option maxRecDepth 65536 in
theorem w_c6 : (Jvm.Cond.code ({ cls := "jdk/internal/util/Preconditions", name := "checkIndex", desc := "(IILjava/util/function/BiFunction;)I" } : Jvm.MethodName) jdk_41_method_11_code (3 : Nat) (Option.some Jvm.ClassFile.FieldType.int)).before args0 about1 = true := code_word (m := ⟨11, 1⟩) (meth := k11m1) (c := k11c1) (by decide +kernel) rfl rfl rfl (by decide +kernel)
set_option maxRecDepth 65536 in
theorem w_c7 : (Jvm.Cond.code ({ cls := "com/example/cubilete/cubilete/rules/Sheet", name := "rows", desc := "()I" } : Jvm.MethodName) prog_57_method_3_code (1 : Nat) (Option.some Jvm.ClassFile.FieldType.int)).before args0 about1 = true := code_word (m := ⟨2, 1⟩) (meth := k2m1) (c := k2c1) (by decide +kernel) rfl rfl rfl (by decide +kernel)
set_option maxRecDepth 65536 in
theorem w_c8 : (Jvm.Cond.code ({ cls := "com/example/cubilete/cubilete/rules/Sheet", name := "filled", desc := "()I" } : Jvm.MethodName) prog_57_method_5_code (1 : Nat) (Option.some Jvm.ClassFile.FieldType.int)).before args0 about1 = true := code_word (m := ⟨2, 3⟩) (meth := k2m3) (c := k2c3) (by decide +kernel) rfl rfl rfl (by decide +kernel)
set_option maxRecDepth 65536 in
theorem w_c9 : (Jvm.Cond.code ({ cls := "com/example/cubilete/cubilete/rules/Sheet", name := "total", desc := "()I" } : Jvm.MethodName) prog_57_method_7_code (1 : Nat) (Option.some Jvm.ClassFile.FieldType.int)).before args0 about1 = true := code_word (m := ⟨2, 5⟩) (meth := k2m5) (c := k2c5) (by decide +kernel) rfl rfl rfl (by decide +kernel)
set_option maxRecDepth 65536 in
theorem w_c10 : (Jvm.Cond.code ({ cls := "com/example/cubilete/cubilete/rules/Sheet", name := "isFull", desc := "()Z" } : Jvm.MethodName) prog_57_method_6_code (1 : Nat) (Option.some Jvm.ClassFile.FieldType.boolean)).before args0 about1 = true := code_word (m := ⟨2, 4⟩) (meth := k2m4) (c := k2c4) (by decide +kernel) rfl rfl rfl (by decide +kernel)
set_option maxRecDepth 65536 in
theorem w_c11 : (Jvm.Cond.code ({ cls := "com/example/cubilete/cubilete/rules/Sheet", name := "points", desc := "(I)Ljava/util/OptionalInt;" } : Jvm.MethodName) prog_57_method_4_code (3 : Nat) (Option.some (Jvm.ClassFile.FieldType.object "java/util/OptionalInt"))).before args0 about1 = true := code_word (m := ⟨2, 2⟩) (meth := k2m2) (c := k2c2) (by decide +kernel) rfl rfl rfl (by decide +kernel)
set_option maxRecDepth 65536 in
theorem w_c12 : (Jvm.Cond.code ({ cls := "java/util/OptionalInt", name := "of", desc := "(I)Ljava/util/OptionalInt;" } : Jvm.MethodName) jdk_2649_method_4_code (1 : Nat) (Option.some (Jvm.ClassFile.FieldType.object "java/util/OptionalInt"))).before args0 about1 = true := code_word (m := ⟨12, 3⟩) (meth := k12m3) (c := k12c3) (by decide +kernel) rfl rfl rfl (by decide +kernel)
set_option maxRecDepth 65536 in
theorem w_c13 : (Jvm.Cond.code ({ cls := "java/util/OptionalInt", name := "<init>", desc := "(I)V" } : Jvm.MethodName) jdk_2649_method_3_code (2 : Nat) (Option.none : Option Jvm.ClassFile.FieldType)).before args0 about1 = true := code_word (m := ⟨12, 2⟩) (meth := k12m2) (c := k12c2) (by decide +kernel) rfl rfl rfl (by decide +kernel)
set_option maxRecDepth 65536 in
theorem w_c14 : (Jvm.Cond.code ({ cls := "java/util/OptionalInt", name := "orElse", desc := "(I)I" } : Jvm.MethodName) jdk_2649_method_11_code (2 : Nat) (Option.some Jvm.ClassFile.FieldType.int)).before args0 about1 = true := code_word (m := ⟨12, 4⟩) (meth := k12m4) (c := k12c4) (by decide +kernel) rfl rfl rfl (by decide +kernel)
set_option maxRecDepth 65536 in
theorem w_c15 : (Jvm.Cond.code ({ cls := "java/util/OptionalInt", name := "empty", desc := "()Ljava/util/OptionalInt;" } : Jvm.MethodName) jdk_2649_method_2_code (0 : Nat) (Option.some (Jvm.ClassFile.FieldType.object "java/util/OptionalInt"))).before args0 about1 = true := code_word (m := ⟨12, 1⟩) (meth := k12m1) (c := k12c1) (by decide +kernel) rfl rfl rfl (by decide +kernel)
def codes1 : List Jvm.Cond := [Jvm.Cond.code x code maxLocals ret, Jvm.Cond.code ({ cls := "com/example/cubilete/cubilete/rules/Sheet", name := "<init>", desc := "(Ljava/lang/String;I)V" } : Jvm.MethodName) prog_57_method_1_code (3 : Nat) (Option.none : Option Jvm.ClassFile.FieldType), Jvm.Cond.code ({ cls := "java/lang/Object", name := "<init>", desc := "()V" } : Jvm.MethodName) object_method_1_code (1 : Nat) (Option.none : Option Jvm.ClassFile.FieldType), Jvm.Cond.code ({ cls := "java/util/Arrays", name := "fill", desc := "([II)V" } : Jvm.MethodName) jdk_65_method_103_code (4 : Nat) (Option.none : Option Jvm.ClassFile.FieldType), Jvm.Cond.code ({ cls := "com/example/cubilete/cubilete/rules/Sheet", name := "fill", desc := "(II)V" } : Jvm.MethodName) prog_57_method_8_code (3 : Nat) (Option.none : Option Jvm.ClassFile.FieldType), Jvm.Cond.code ({ cls := "java/util/Objects", name := "checkIndex", desc := "(II)I" } : Jvm.MethodName) jdk_31_method_17_code (2 : Nat) (Option.some Jvm.ClassFile.FieldType.int), Jvm.Cond.code ({ cls := "jdk/internal/util/Preconditions", name := "checkIndex", desc := "(IILjava/util/function/BiFunction;)I" } : Jvm.MethodName) jdk_41_method_11_code (3 : Nat) (Option.some Jvm.ClassFile.FieldType.int), Jvm.Cond.code ({ cls := "com/example/cubilete/cubilete/rules/Sheet", name := "rows", desc := "()I" } : Jvm.MethodName) prog_57_method_3_code (1 : Nat) (Option.some Jvm.ClassFile.FieldType.int), Jvm.Cond.code ({ cls := "com/example/cubilete/cubilete/rules/Sheet", name := "filled", desc := "()I" } : Jvm.MethodName) prog_57_method_5_code (1 : Nat) (Option.some Jvm.ClassFile.FieldType.int), Jvm.Cond.code ({ cls := "com/example/cubilete/cubilete/rules/Sheet", name := "total", desc := "()I" } : Jvm.MethodName) prog_57_method_7_code (1 : Nat) (Option.some Jvm.ClassFile.FieldType.int), Jvm.Cond.code ({ cls := "com/example/cubilete/cubilete/rules/Sheet", name := "isFull", desc := "()Z" } : Jvm.MethodName) prog_57_method_6_code (1 : Nat) (Option.some Jvm.ClassFile.FieldType.boolean), Jvm.Cond.code ({ cls := "com/example/cubilete/cubilete/rules/Sheet", name := "points", desc := "(I)Ljava/util/OptionalInt;" } : Jvm.MethodName) prog_57_method_4_code (3 : Nat) (Option.some (Jvm.ClassFile.FieldType.object "java/util/OptionalInt")), Jvm.Cond.code ({ cls := "java/util/OptionalInt", name := "of", desc := "(I)Ljava/util/OptionalInt;" } : Jvm.MethodName) jdk_2649_method_4_code (1 : Nat) (Option.some (Jvm.ClassFile.FieldType.object "java/util/OptionalInt")), Jvm.Cond.code ({ cls := "java/util/OptionalInt", name := "<init>", desc := "(I)V" } : Jvm.MethodName) jdk_2649_method_3_code (2 : Nat) (Option.none : Option Jvm.ClassFile.FieldType), Jvm.Cond.code ({ cls := "java/util/OptionalInt", name := "orElse", desc := "(I)I" } : Jvm.MethodName) jdk_2649_method_11_code (2 : Nat) (Option.some Jvm.ClassFile.FieldType.int), Jvm.Cond.code ({ cls := "java/util/OptionalInt", name := "empty", desc := "()Ljava/util/OptionalInt;" } : Jvm.MethodName) jdk_2649_method_2_code (0 : Nat) (Option.some (Jvm.ClassFile.FieldType.object "java/util/OptionalInt"))]
set_option maxRecDepth 65536 in
theorem codes_eq : words1.filter isCode = codes1 := rfl
theorem w_codes : ∀ c ∈ words1.filter isCode, c.before args0 about1 = true := by
  rw [codes_eq]
  intro c hc
  simp only [codes1, List.mem_cons, List.not_mem_nil, or_false] at hc
  rcases hc with rfl | rfl | rfl | rfl | rfl | rfl | rfl | rfl | rfl | rfl | rfl | rfl | rfl | rfl | rfl | rfl
  · exact w_c0
  · exact w_c1
  · exact w_c2
  · exact w_c3
  · exact w_c4
  · exact w_c5
  · exact w_c6
  · exact w_c7
  · exact w_c8
  · exact w_c9
  · exact w_c10
  · exact w_c11
  · exact w_c12
  · exact w_c13
  · exact w_c14
  · exact w_c15
set_option maxRecDepth 65536 in
theorem w_t1 : (words1.take 24).all (fun c => isCode c || c.before args0 about1) = true := by decide +kernel
set_option maxRecDepth 65536 in
theorem w_t2 : ((words1.drop 24).take 24).all (fun c => isCode c || c.before args0 about1) = true := by decide +kernel
set_option maxRecDepth 65536 in
theorem w_t3 : (((words1.drop 24).drop 24).take 24).all (fun c => isCode c || c.before args0 about1) = true := by decide +kernel
set_option maxRecDepth 65536 in
theorem w_t4 : (((words1.drop 24).drop 24).drop 24).all (fun c => isCode c || c.before args0 about1) = true := by decide +kernel
theorem w_tables : (allAtoms (Jvm.Cond.code x code maxLocals ret :: tables_1)).before args0 about1 = true := by
  rw [allAtoms_all]
  show words1.all (fun c => c.before args0 about1) = true
  refine all_split ?_ w_codes
  rw [← List.take_append_drop 24 words1, List.all_append, w_t1, ← List.take_append_drop 24 (words1.drop 24), List.all_append, w_t2, ← List.take_append_drop 24 ((words1.drop 24).drop 24), List.all_append, w_t3, w_t4]
  rfl
set_option maxRecDepth 65536 in
theorem w_rest : rest_1_c.before args0 about1 = true := by decide +kernel
set_option maxRecDepth 65536 in
theorem w_case : (Jvm.Cond.and given_1 narrow_1).before args0 about1 = true := by decide +kernel
theorem w_applies : (headSpec (Jvm.Cond.code x code maxLocals ret :: tables_1) room_1).applies x e0.platform about1 = true :=
  (Spec.applies_iff w_frames).mpr ⟨w_running, w_runnable, w_alone, w_named, w_hears, w_ripe, w_room, w_tables⟩
theorem atStart : AtStart classFile x code maxLocals ret World_1 tables_1 room_1 Calls_1 rest_1 Pre_1 launch0 p0 e0 about1 theMethod args0 below0 :=
  ⟨lists_1, trivial, launch0.admits_env _ _ _, launch0.least_env, fairChoices_fair.cas, fairChoices_fair.clock, w_frames, w_args, w_heap, w_applies, trivial, w_rest, w_case⟩
end start1
theorem witness_1 : WitnessClaimed_1 := ⟨start1.p0, start1.e0, start1.about1, start1.theMethod, start1.args0, start1.below0, start1.atStart⟩
end Jvm.Pilot.@@N@@
