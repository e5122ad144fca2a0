import JvmDerived
import JvmDerived.Pilot.@@N@@Statement
import JvmDerived.Pilot.@@N@@Code
set_option linter.unusedVariables false
set_option linter.unusedSimpArgs false
namespace Jvm.Pilot.@@N@@
open Jvm Jvm.ClassFile Sem Op Lib Jvm.Free Jvm.Stand Jvm.LawKit Jvm.RoadKit Bundle Jvm.Pilot.@@N@@.Jvm.D
section Own
variable {p : Program} {l : Launch} {e : Env} {R : Room} {s : State} {m : MethodId} {args : Array Value} {below : List Frame} {meth : Method} {c : Code} {T : State} {locs : List Loc} {cells slots : Nat} {Q : Outcome → State → Prop} {Z : State} {a0 : Array Value} {h : Heap}
/-- from T, with g on top, the run ends as Q says -/
def Ends (p : Program) (e : Env) (below : List Frame) (Q : Outcome → State → Prop) (T : State) (g : JFrame) : Prop :=
  ∃ s₂ o, Steps p.tables e below (T.setTop g) s₂ ∧ s₂.status = .running ∧ Ended s₂ below o ∧ Q o s₂
theorem Ends.go {T' : State} {g g' : JFrame} (st : ∀ t, Steps p.tables e below (T'.setTop g') t → Steps p.tables e below (T.setTop g) t) (k : Ends p e below Q T' g') : Ends p e below Q T g := by
  obtain ⟨s₂, o, h1, r⟩ := k
  exact ⟨s₂, o, st _ h1, r⟩
theorem Ends.thru {T' : State} {g g' : JFrame} (st : Steps p.tables e below (T.setTop g) (T'.setTop g')) (k : Ends p e below Q T' g') : Ends p e below Q T g := by
  obtain ⟨s₂, o, h1, r⟩ := k
  exact ⟨s₂, o, st.trans h1, r⟩
theorem Ends.cast {g g' : JFrame} (q : g = g') (k : Ends p e below Q T g') : Ends p e below Q T g := q ▸ k
/-- what a body that returns leaves -/
def Out (s : State) (ce sl : Nat) (Qv : Option Value → Heap → List Loc → Prop) (o : Outcome) (U : State) : Prop := ∃ v L, o = .returned v ∧ Qv v U.heap L ∧ FrameEnd s o U L ce sl
theorem ow_body {y : MethodName} {bytes : ByteArray} {ml : Nat} {ret : Option FieldType} {ws : List Jvm.Cond} {rm : Room} {as : Array Value} {ce sl : Nat} {Qv : Option Value → Heap → List Loc → Prop} (hp : plainFor y = true)
    (body : ∀ (p : Program) (e : Env) (s : State) (m : MethodId) (below : List Frame) (meth : Method) (c : Code) (T : State), Stand p l e rm s m as below meth c T [] 0 0 → p.tables.exec = Jvm.exec → Z.Warmed39 s.vm → c.code = bytes → c.maxLocals = ml → s.vm.findClass y.cls = some m.cls → meth.name = y.name → meth.sig.returnType = ret → meth.locks = false → T.heap = h → Ends p e below (Out s ce sl Qv) T (entryFrame m as ml)) :
    MetFree l y (head1 (Jvm.Cond.code y bytes ml ret :: ws) rm) (fun a U => a = as ∧ Z.Warmed39 U.vm ∧ U.heap = h) (fun _ _ _ _ _ => True) (fun _ U o U' => ∃ v L, o = .returned v ∧ Qv v U'.heap L ∧ FrameEnd U o U' L ce sl) := by
  refine MetFree.of_bodySF hp hisR ?_
  intro p e s m args below meth c s₁ Bd hml0 hP hK
  obtain ⟨rfl, hZ, hh⟩ := hP
  exact body p e s m below meth c s₁ (Stand.of_body Bd) Bd.exec hZ Bd.bytes hml0 (findClass_of_methodNamed Bd.named) (name_of_methodNamed Bd.named Bd.method).1 Bd.returns Bd.notSynchronized (by rw [← hh, Bd.state]; rfl)
theorem ow_iload (X : Stand p l e R s m args below meth c T locs cells slots) (hx : p.tables.exec = Jvm.exec) {pc pc' : Nat} {Ls : Array Slot} {St : List Value} {k : Nat} {v : Int32} (hd : decode c.code pc = .ok (.iload k, 2)) (hl : Ls[k]? = some (.val (.int v))) (hp : pc + 2 = pc') (kk : Ends p e below Q T (mkF m pc' Ls (.int v :: St))) : Ends p e below Q T (mkF m pc Ls St) := by subst hp; exact Ends.go (fun _ q => XS.iload X.here hx rfl hd hl q) kk
theorem ow_iloadN (X : Stand p l e R s m args below meth c T locs cells slots) (hx : p.tables.exec = Jvm.exec) {pc pc' : Nat} {Ls : Array Slot} {St : List Value} {k : Fin 4} {v : Int32} (hd : decode c.code pc = .ok (.iload_n k, 1)) (hl : Ls[k.val]? = some (.val (.int v))) (hp : pc + 1 = pc') (kk : Ends p e below Q T (mkF m pc' Ls (.int v :: St))) : Ends p e below Q T (mkF m pc Ls St) := by subst hp; exact Ends.go (fun _ q => XS.iloadN X.here hx rfl hd hl q) kk
theorem ow_aloadN (X : Stand p l e R s m args below meth c T locs cells slots) (hx : p.tables.exec = Jvm.exec) {pc pc' : Nat} {Ls : Array Slot} {St : List Value} {k : Fin 4} {v : Value} (hd : decode c.code pc = .ok (.aload_n k, 1)) (hl : Ls[k.val]? = some (.val v)) (hv : v.isRef = true) (hp : pc + 1 = pc') (kk : Ends p e below Q T (mkF m pc' Ls (v :: St))) : Ends p e below Q T (mkF m pc Ls St) := by subst hp; exact Ends.go (fun _ q => XS.aloadN X.here hx rfl hd hl hv q) kk
theorem ow_istore (X : Stand p l e R s m args below meth c T locs cells slots) (hx : p.tables.exec = Jvm.exec) {pc pc' : Nat} {Ls : Array Slot} {Ls' : Array Slot} {St : List Value} {k : Nat} {v : Int32} (hd : decode c.code pc = .ok (.istore k, 2)) (hl : storeLocals Ls k (.int v) = some Ls') (hp : pc + 2 = pc') (kk : Ends p e below Q T (mkF m pc' Ls' St)) : Ends p e below Q T (mkF m pc Ls (.int v :: St)) := by subst hp; exact Ends.go (fun _ q => XS.istore X.here hx rfl hd rfl hl q) kk
theorem ow_istoreN (X : Stand p l e R s m args below meth c T locs cells slots) (hx : p.tables.exec = Jvm.exec) {pc pc' : Nat} {Ls : Array Slot} {Ls' : Array Slot} {St : List Value} {k : Fin 4} {v : Int32} (hd : decode c.code pc = .ok (.istore_n k, 1)) (hl : storeLocals Ls k.val (.int v) = some Ls') (hp : pc + 1 = pc') (kk : Ends p e below Q T (mkF m pc' Ls' St)) : Ends p e below Q T (mkF m pc Ls (.int v :: St)) := by subst hp; exact Ends.go (fun _ q => XS.istoreN X.here hx rfl hd rfl hl q) kk
theorem ow_iconst (X : Stand p l e R s m args below meth c T locs cells slots) (hx : p.tables.exec = Jvm.exec) {pc pc' : Nat} {Ls : Array Slot} {St : List Value} {i : Int} {z : Int32} (hd : decode c.code pc = .ok (.iconst i, 1)) (hz : Int32.ofInt i = z) (hp : pc + 1 = pc') (kk : Ends p e below Q T (mkF m pc' Ls (.int z :: St))) : Ends p e below Q T (mkF m pc Ls St) := by subst hp hz; exact Ends.go (fun _ q => XS.iconst X.here hx rfl hd q) kk
theorem ow_bipush (X : Stand p l e R s m args below meth c T locs cells slots) (hx : p.tables.exec = Jvm.exec) {pc pc' : Nat} {Ls : Array Slot} {St : List Value} {i : Int} {z : Int32} (hd : decode c.code pc = .ok (.bipush i, 2)) (hz : (Int8.ofInt i).toInt32 = z) (hp : pc + 2 = pc') (kk : Ends p e below Q T (mkF m pc' Ls (.int z :: St))) : Ends p e below Q T (mkF m pc Ls St) := by subst hp hz; exact Ends.go (fun _ q => XS.bipush X.here hx rfl hd q) kk
theorem ow_sipush (X : Stand p l e R s m args below meth c T locs cells slots) (hx : p.tables.exec = Jvm.exec) {pc pc' : Nat} {Ls : Array Slot} {St : List Value} {i : Int} {z : Int32} (hd : decode c.code pc = .ok (.sipush i, 3)) (hz : (Int16.ofInt i).toInt32 = z) (hp : pc + 3 = pc') (kk : Ends p e below Q T (mkF m pc' Ls (.int z :: St))) : Ends p e below Q T (mkF m pc Ls St) := by subst hp hz; exact Ends.go (fun _ q => XS.sipush X.here hx rfl hd q) kk
theorem ow_ishr (X : Stand p l e R s m args below meth c T locs cells slots) (hx : p.tables.exec = Jvm.exec) {pc pc' : Nat} {Ls : Array Slot} {St : List Value} {x : Int32} {y : Int32} (hd : decode c.code pc = .ok (.ishr, 1)) (hp : pc + 1 = pc') (kk : ∀ z : Int32, z = x >>> (y &&& 31) → Ends p e below Q T (mkF m pc' Ls (.int z :: St))) : Ends p e below Q T (mkF m pc Ls (.int y :: .int x :: St)) := by subst hp; exact Ends.go (fun _ q => XS.ishr X.here hx rfl hd rfl q) (kk _ rfl)
theorem ow_i2b (X : Stand p l e R s m args below meth c T locs cells slots) (hx : p.tables.exec = Jvm.exec) {pc pc' : Nat} {Ls : Array Slot} {St : List Value} {x : Int32} (hd : decode c.code pc = .ok (.i2b, 1)) (hp : pc + 1 = pc') (kk : ∀ z : Int32, z = x.toInt8.toInt32 → Ends p e below Q T (mkF m pc' Ls (.int z :: St))) : Ends p e below Q T (mkF m pc Ls (.int x :: St)) := by subst hp; exact Ends.go (fun _ q => XS.i2b X.here hx rfl hd rfl q) (kk _ rfl)
theorem ow_i2c (X : Stand p l e R s m args below meth c T locs cells slots) (hx : p.tables.exec = Jvm.exec) {pc pc' : Nat} {Ls : Array Slot} {St : List Value} {x : Int32} (hd : decode c.code pc = .ok (.i2c, 1)) (hp : pc + 1 = pc') (kk : ∀ z : Int32, z = x.toUInt32.toUInt16.toUInt32.toInt32 → Ends p e below Q T (mkF m pc' Ls (.int z :: St))) : Ends p e below Q T (mkF m pc Ls (.int x :: St)) := by subst hp; exact Ends.go (fun _ q => XS.i2c X.here hx rfl hd rfl q) (kk _ rfl)
theorem ow_iinc (X : Stand p l e R s m args below meth c T locs cells slots) (hx : p.tables.exec = Jvm.exec) {pc pc' : Nat} {Ls : Array Slot} {Ls' : Array Slot} {St : List Value} {k : Nat} {i : Int} {x : Int32} (hd : decode c.code pc = .ok (.iinc k i, 3)) (hl : Ls[k]? = some (.val (.int x))) (hl' : ∀ z, storeLocals Ls k (.int z) = some (Ls'.setIfInBounds k (.val (.int z)))) (hp : pc + 3 = pc') (kk : ∀ z : Int32, z = x + Int32.ofInt i → Ends p e below Q T (mkF m pc' (Ls'.setIfInBounds k (.val (.int z))) St)) : Ends p e below Q T (mkF m pc Ls St) := by subst hp; exact Ends.go (fun _ q => XS.iinc X.here hx rfl hd hl (hl' _) q) (kk _ rfl)
theorem ow_goto (X : Stand p l e R s m args below meth c T locs cells slots) (hx : p.tables.exec = Jvm.exec) {pc pc' : Nat} {Ls : Array Slot} {St : List Value} {o : Int} (hd : decode c.code pc = .ok (.goto o, 3)) (ho : 0 ≤ (pc : Int) + o) (hp : ((pc : Int) + o).toNat = pc') (kk : Ends p e below Q T (mkF m pc' Ls St)) : Ends p e below Q T (mkF m pc Ls St) := Ends.go (fun _ q => XS.goto X.here hx rfl (pc0 := pc) (pc' := pc') rfl hd ho hp q) kk
theorem ow_icmpY (X : Stand p l e R s m args below meth c T locs cells slots) (hx : p.tables.exec = Jvm.exec) {pc pc' : Nat} {Ls : Array Slot} {St : List Value} {cd : ClassFile.Cond} {x y : Int32} {o : Int} (hd : decode c.code pc = .ok (.if_icmp cd o, 3)) (hc : if_icmp.holds cd x y = true) (ho : 0 ≤ (pc : Int) + o) (hp : ((pc : Int) + o).toNat = pc') (kk : Ends p e below Q T (mkF m pc' Ls St)) : Ends p e below Q T (mkF m pc Ls (.int y :: .int x :: St)) := Ends.go (fun _ q => XS.icmpYes X.here hx rfl (pc0 := pc) (pc' := pc') rfl hd rfl hc ho hp q) kk
theorem ow_icmpN (X : Stand p l e R s m args below meth c T locs cells slots) (hx : p.tables.exec = Jvm.exec) {pc pc' : Nat} {Ls : Array Slot} {St : List Value} {cd : ClassFile.Cond} {x y : Int32} {o : Int} (hd : decode c.code pc = .ok (.if_icmp cd o, 3)) (hc : if_icmp.holds cd x y = false) (hp : pc + 3 = pc') (kk : Ends p e below Q T (mkF m pc' Ls St)) : Ends p e below Q T (mkF m pc Ls (.int y :: .int x :: St)) := by subst hp; exact Ends.go (fun _ q => XS.icmpNo X.here hx rfl hd rfl hc q) kk
theorem ow_ifY (X : Stand p l e R s m args below meth c T locs cells slots) (hx : p.tables.exec = Jvm.exec) {pc pc' : Nat} {Ls : Array Slot} {St : List Value} {cd : ClassFile.Cond} {x : Int32} {o : Int} (hd : decode c.code pc = .ok (.ifCond cd o, 3)) (hc : if_icmp.holds cd x 0 = true) (ho : 0 ≤ (pc : Int) + o) (hp : ((pc : Int) + o).toNat = pc') (kk : Ends p e below Q T (mkF m pc' Ls St)) : Ends p e below Q T (mkF m pc Ls (.int x :: St)) := Ends.go (fun _ q => XS.ifYes X.here hx rfl (pc0 := pc) (pc' := pc') rfl hd rfl ((if0 _ _).trans hc) ho hp q) kk
theorem ow_ifN (X : Stand p l e R s m args below meth c T locs cells slots) (hx : p.tables.exec = Jvm.exec) {pc pc' : Nat} {Ls : Array Slot} {St : List Value} {cd : ClassFile.Cond} {x : Int32} {o : Int} (hd : decode c.code pc = .ok (.ifCond cd o, 3)) (hc : if_icmp.holds cd x 0 = false) (hp : pc + 3 = pc') (kk : Ends p e below Q T (mkF m pc' Ls St)) : Ends p e below Q T (mkF m pc Ls (.int x :: St)) := by subst hp; exact Ends.go (fun _ q => XS.ifNo X.here hx rfl hd rfl ((if0 _ _).trans hc) q) kk
/-- the six comparisons, said of the signed worth -/
def cmpI : ClassFile.Cond → Int → Int → Prop
  | .eq, a, b => a = b
  | .ne, a, b => ¬ a = b
  | .lt, a, b => a < b
  | .ge, a, b => ¬ a < b
  | .gt, a, b => b < a
  | .le, a, b => ¬ b < a
theorem cmpI_y {cd : ClassFile.Cond} {x y : Int32} (q : cmpI cd x.toInt y.toInt) : if_icmp.holds cd x y = true := by
  cases cd <;> simp only [cmpI] at q <;> simp [if_icmp.holds, ← Int32.toInt_inj, Int32.lt_iff_toInt_lt, Int32.le_iff_toInt_le] <;> omega
theorem cmpI_n {cd : ClassFile.Cond} {x y : Int32} (q : ¬ cmpI cd x.toInt y.toInt) : if_icmp.holds cd x y = false := by
  cases cd <;> simp only [cmpI] at q <;> simp [if_icmp.holds, ← Int32.toInt_inj, Int32.lt_iff_toInt_lt, Int32.le_iff_toInt_le] <;> omega
theorem ow_icmp_eq (X : Stand p l e R s m args below meth c T locs cells slots) (hx : p.tables.exec = Jvm.exec) {pc pt pf : Nat} {Ls : Array Slot} {St : List Value} {x y : Int32} {o : Int} (xi yi : Int) (hd : decode c.code pc = .ok (.if_icmp .eq o, 3)) (hxi : x.toInt = xi) (hyi : y.toInt = yi) (ho : 0 ≤ (pc : Int) + o) (hp : ((pc : Int) + o).toNat = pt) (hq : pc + 3 = pf) (kt : xi = yi → Ends p e below Q T (mkF m pt Ls St)) (kf : ¬ xi = yi → Ends p e below Q T (mkF m pf Ls St)) : Ends p e below Q T (mkF m pc Ls (.int y :: .int x :: St)) := by
  subst hxi hyi
  rcases Classical.em (cmpI .eq x.toInt y.toInt) with w | w
  · exact ow_icmpY X hx hd (cmpI_y w) ho hp (kt w)
  · exact ow_icmpN X hx hd (cmpI_n w) hq (kf (by simp only [cmpI] at w; omega))
theorem ow_if_eq (X : Stand p l e R s m args below meth c T locs cells slots) (hx : p.tables.exec = Jvm.exec) {pc pt pf : Nat} {Ls : Array Slot} {St : List Value} {x : Int32} {o : Int} (xi : Int) (hd : decode c.code pc = .ok (.ifCond .eq o, 3)) (hxi : x.toInt = xi) (ho : 0 ≤ (pc : Int) + o) (hp : ((pc : Int) + o).toNat = pt) (hq : pc + 3 = pf) (kt : xi = 0 → Ends p e below Q T (mkF m pt Ls St)) (kf : ¬ xi = 0 → Ends p e below Q T (mkF m pf Ls St)) : Ends p e below Q T (mkF m pc Ls (.int x :: St)) := by
  subst hxi
  have z0 : (0 : Int32).toInt = 0 := rfl
  rcases Classical.em (cmpI .eq x.toInt (0 : Int32).toInt) with w | w
  · exact ow_ifY X hx hd (cmpI_y w) ho hp (kt (by simp only [cmpI, z0] at w; omega))
  · exact ow_ifN X hx hd (cmpI_n w) hq (kf (by simp only [cmpI, z0] at w; omega))
theorem ow_icmp_ne (X : Stand p l e R s m args below meth c T locs cells slots) (hx : p.tables.exec = Jvm.exec) {pc pt pf : Nat} {Ls : Array Slot} {St : List Value} {x y : Int32} {o : Int} (xi yi : Int) (hd : decode c.code pc = .ok (.if_icmp .ne o, 3)) (hxi : x.toInt = xi) (hyi : y.toInt = yi) (ho : 0 ≤ (pc : Int) + o) (hp : ((pc : Int) + o).toNat = pt) (hq : pc + 3 = pf) (kt : ¬ xi = yi → Ends p e below Q T (mkF m pt Ls St)) (kf : xi = yi → Ends p e below Q T (mkF m pf Ls St)) : Ends p e below Q T (mkF m pc Ls (.int y :: .int x :: St)) := by
  subst hxi hyi
  rcases Classical.em (cmpI .ne x.toInt y.toInt) with w | w
  · exact ow_icmpY X hx hd (cmpI_y w) ho hp (kt w)
  · exact ow_icmpN X hx hd (cmpI_n w) hq (kf (by simp only [cmpI] at w; omega))
theorem ow_if_ne (X : Stand p l e R s m args below meth c T locs cells slots) (hx : p.tables.exec = Jvm.exec) {pc pt pf : Nat} {Ls : Array Slot} {St : List Value} {x : Int32} {o : Int} (xi : Int) (hd : decode c.code pc = .ok (.ifCond .ne o, 3)) (hxi : x.toInt = xi) (ho : 0 ≤ (pc : Int) + o) (hp : ((pc : Int) + o).toNat = pt) (hq : pc + 3 = pf) (kt : ¬ xi = 0 → Ends p e below Q T (mkF m pt Ls St)) (kf : xi = 0 → Ends p e below Q T (mkF m pf Ls St)) : Ends p e below Q T (mkF m pc Ls (.int x :: St)) := by
  subst hxi
  have z0 : (0 : Int32).toInt = 0 := rfl
  rcases Classical.em (cmpI .ne x.toInt (0 : Int32).toInt) with w | w
  · exact ow_ifY X hx hd (cmpI_y w) ho hp (kt (by simp only [cmpI, z0] at w; omega))
  · exact ow_ifN X hx hd (cmpI_n w) hq (kf (by simp only [cmpI, z0] at w; omega))
theorem ow_icmp_lt (X : Stand p l e R s m args below meth c T locs cells slots) (hx : p.tables.exec = Jvm.exec) {pc pt pf : Nat} {Ls : Array Slot} {St : List Value} {x y : Int32} {o : Int} (xi yi : Int) (hd : decode c.code pc = .ok (.if_icmp .lt o, 3)) (hxi : x.toInt = xi) (hyi : y.toInt = yi) (ho : 0 ≤ (pc : Int) + o) (hp : ((pc : Int) + o).toNat = pt) (hq : pc + 3 = pf) (kt : xi < yi → Ends p e below Q T (mkF m pt Ls St)) (kf : ¬ xi < yi → Ends p e below Q T (mkF m pf Ls St)) : Ends p e below Q T (mkF m pc Ls (.int y :: .int x :: St)) := by
  subst hxi hyi
  rcases Classical.em (cmpI .lt x.toInt y.toInt) with w | w
  · exact ow_icmpY X hx hd (cmpI_y w) ho hp (kt w)
  · exact ow_icmpN X hx hd (cmpI_n w) hq (kf (by simp only [cmpI] at w; omega))
theorem ow_if_lt (X : Stand p l e R s m args below meth c T locs cells slots) (hx : p.tables.exec = Jvm.exec) {pc pt pf : Nat} {Ls : Array Slot} {St : List Value} {x : Int32} {o : Int} (xi : Int) (hd : decode c.code pc = .ok (.ifCond .lt o, 3)) (hxi : x.toInt = xi) (ho : 0 ≤ (pc : Int) + o) (hp : ((pc : Int) + o).toNat = pt) (hq : pc + 3 = pf) (kt : xi < 0 → Ends p e below Q T (mkF m pt Ls St)) (kf : ¬ xi < 0 → Ends p e below Q T (mkF m pf Ls St)) : Ends p e below Q T (mkF m pc Ls (.int x :: St)) := by
  subst hxi
  have z0 : (0 : Int32).toInt = 0 := rfl
  rcases Classical.em (cmpI .lt x.toInt (0 : Int32).toInt) with w | w
  · exact ow_ifY X hx hd (cmpI_y w) ho hp (kt (by simp only [cmpI, z0] at w; omega))
  · exact ow_ifN X hx hd (cmpI_n w) hq (kf (by simp only [cmpI, z0] at w; omega))
theorem ow_icmp_gt (X : Stand p l e R s m args below meth c T locs cells slots) (hx : p.tables.exec = Jvm.exec) {pc pt pf : Nat} {Ls : Array Slot} {St : List Value} {x y : Int32} {o : Int} (xi yi : Int) (hd : decode c.code pc = .ok (.if_icmp .gt o, 3)) (hxi : x.toInt = xi) (hyi : y.toInt = yi) (ho : 0 ≤ (pc : Int) + o) (hp : ((pc : Int) + o).toNat = pt) (hq : pc + 3 = pf) (kt : yi < xi → Ends p e below Q T (mkF m pt Ls St)) (kf : ¬ yi < xi → Ends p e below Q T (mkF m pf Ls St)) : Ends p e below Q T (mkF m pc Ls (.int y :: .int x :: St)) := by
  subst hxi hyi
  rcases Classical.em (cmpI .gt x.toInt y.toInt) with w | w
  · exact ow_icmpY X hx hd (cmpI_y w) ho hp (kt w)
  · exact ow_icmpN X hx hd (cmpI_n w) hq (kf (by simp only [cmpI] at w; omega))
theorem ow_icmp_le (X : Stand p l e R s m args below meth c T locs cells slots) (hx : p.tables.exec = Jvm.exec) {pc pt pf : Nat} {Ls : Array Slot} {St : List Value} {x y : Int32} {o : Int} (xi yi : Int) (hd : decode c.code pc = .ok (.if_icmp .le o, 3)) (hxi : x.toInt = xi) (hyi : y.toInt = yi) (ho : 0 ≤ (pc : Int) + o) (hp : ((pc : Int) + o).toNat = pt) (hq : pc + 3 = pf) (kt : ¬ yi < xi → Ends p e below Q T (mkF m pt Ls St)) (kf : yi < xi → Ends p e below Q T (mkF m pf Ls St)) : Ends p e below Q T (mkF m pc Ls (.int y :: .int x :: St)) := by
  subst hxi hyi
  rcases Classical.em (cmpI .le x.toInt y.toInt) with w | w
  · exact ow_icmpY X hx hd (cmpI_y w) ho hp (kt w)
  · exact ow_icmpN X hx hd (cmpI_n w) hq (kf (by simp only [cmpI] at w; omega))
theorem ow_retB (X : Stand p l e R s m args below meth c T locs cells slots) (hx : p.tables.exec = Jvm.exec) {pc : Nat} {Ls : Array Slot} {rest : List Value} {z z' : Int32} (hret : meth.sig.returnType = some .boolean) (hlk : meth.locks = false) (hd : decode c.code pc = .ok (.ireturn, 1)) {ce sl : Nat} (hc : cells ≤ ce) (hs : slots ≤ sl) {Qv : Option Value → Heap → List Loc → Prop} (hz : nar .boolean z = z') (q : Qv (some (.int z')) T.heap locs) : Ends p e below (Out s ce sl Qv) T (mkF m pc Ls (.int z :: rest)) := by
  subst hz
  obtain ⟨fs, hr, hrun, hended, hW, hsame⟩ := X.leave (v := some (.int (nar .boolean z))) (fun h => by rw [hret] at h; cases h) hlk
  exact ⟨_, _, retN X hx (t := .boolean) hret (by simp) hd hr, hrun, hended, _, _, rfl, q, ⟨_, rfl⟩, hW, hsame.mono hc hs⟩
theorem ow_retY (X : Stand p l e R s m args below meth c T locs cells slots) (hx : p.tables.exec = Jvm.exec) {pc : Nat} {Ls : Array Slot} {rest : List Value} {z z' : Int32} (hret : meth.sig.returnType = some .byte) (hlk : meth.locks = false) (hd : decode c.code pc = .ok (.ireturn, 1)) {ce sl : Nat} (hc : cells ≤ ce) (hs : slots ≤ sl) {Qv : Option Value → Heap → List Loc → Prop} (hz : nar .byte z = z') (q : Qv (some (.int z')) T.heap locs) : Ends p e below (Out s ce sl Qv) T (mkF m pc Ls (.int z :: rest)) := by
  subst hz
  obtain ⟨fs, hr, hrun, hended, hW, hsame⟩ := X.leave (v := some (.int (nar .byte z))) (fun h => by rw [hret] at h; cases h) hlk
  exact ⟨_, _, retN X hx (t := .byte) hret (by simp) hd hr, hrun, hended, _, _, rfl, q, ⟨_, rfl⟩, hW, hsame.mono hc hs⟩
theorem ow_retI (X : Stand p l e R s m args below meth c T locs cells slots) (hx : p.tables.exec = Jvm.exec) {pc : Nat} {Ls : Array Slot} {z : Int32} (hret : meth.sig.returnType = some .int) (hlk : meth.locks = false) (hd : decode c.code pc = .ok (.ireturn, 1)) {ce sl : Nat} (hc : cells ≤ ce) (hs : slots ≤ sl) {Qv : Option Value → Heap → List Loc → Prop} (q : Qv (some (.int z)) T.heap locs) : Ends p e below (Out s ce sl Qv) T (mkF m pc Ls [.int z]) := by
  obtain ⟨fs, hr, hrun, hended, hW, hsame⟩ := X.leave (v := some (.int z)) (fun h => by rw [hret] at h; cases h) hlk
  exact ⟨_, _, X.ireturnOut hx hret rfl (Or.inl rfl) hd hr, hrun, hended, _, _, rfl, q, ⟨_, rfl⟩, hW, hsame.mono hc hs⟩
theorem ow_callS (X : Stand p l e R s m args below meth c T locs cells slots) (hx : p.tables.exec = Jvm.exec) (hZ : Z.Warmed39 s.vm) {own : String} {index : Nat} {y : MethodName} {bytes : ByteArray} {maxL : Nat} {ret : Option FieldType} (hown : s.vm.findClass own = some m.cls)
    (wl : (Jvm.Cond.methodLink own index y).before a0 Z = true) (wst : (Jvm.Cond.static y).before a0 Z = true) (wi : (Jvm.Cond.initialized y.cls).before a0 Z = true) (wc : (Jvm.Cond.code y bytes maxL ret).before a0 Z = true) (hy : y.cls ≠ "java/lang/invoke/MethodHandle" ∧ y.cls ≠ "java/lang/invoke/VarHandle")
    {rm : Room} {as' : Array Value} {Qc : Option Value → Heap → List Loc → Prop} (hM : MetFree l y (head1 [Jvm.Cond.code y bytes maxL ret] rm) (fun a U => a = as' ∧ Z.Warmed39 U.vm ∧ U.heap = h) (fun _ _ _ _ _ => True) (fun _ U o U' => ∃ v L, o = .returned v ∧ Qc v U'.heap L ∧ FrameEnd U o U' L rm.cells rm.slots))
    (eT : T.heap = h) (W : Nat) (hf : rm.frames + 1 ≤ R.frames) (hl : W + (maxL + 11) + rm.locals ≤ R.locals) (hce : cells + rm.cells ≤ R.cells) (hsl : slots + rm.slots ≤ R.slots) {pc pc' : Nat} {Ls : Array Slot} {St rest : List Value} (argsL : List Value) {ps : List FieldType} {rt : Option FieldType} (hsize : Ls.size = c.maxLocals) (hdesc : parseMethodDescriptor y.desc = some ⟨ps, rt⟩) (hlen : argsL.length = ps.length) (hst : St = argsL.reverse ++ rest) (has : argsL.toArray = as') (hW : (rest.map fun v => v.category).sum ≤ W)
    (hd : decode c.code pc = .ok (.invokestatic index, 3)) (hp : pc + 3 = pc')
    (kk : ∀ (v : Option Value) (T' : State) (L' : List Loc), Qc v T'.heap L' → Stand p l e R s m args below meth c T' (locs ++ L') (cells + rm.cells) (slots + rm.slots) → Ends p e below Q T' (mkF m pc' Ls (v.toList ++ rest))) : Ends p e below Q T (mkF m pc Ls St) := by
  subst hst has hp
  obtain ⟨v, vm₁, ⟨T', L, k2, n2⟩, -, X', ⟨Lc, hQ, l1, y1, z1⟩, st⟩ := Jvm.LawKit.callS X hx hown (mvT hZ wl) (mvT hZ wst) (mvT hZ wi) (mvT hZ wc) hy (backOf (W := W) hM hZ wc wi hf hl) (g := mkF m pc Ls (argsL.reverse ++ rest)) rfl hsize (argsL := argsL) (rest := rest) (lenOf hdesc hlen) rfl (by show 2 * 0 + _ ≤ _; omega) hd (fun _ _ => ⟨rfl, eT, hce, hsl⟩)
  dsimp only [Pt.U, Pt.locs, Pt.cells, Pt.slots] at X' l1 y1 z1 st hQ
  subst l1 y1 z1
  exact Ends.go st (kk v T' Lc hQ X')
theorem ow_callV (X : Stand p l e R s m args below meth c T locs cells slots) (hx : p.tables.exec = Jvm.exec) (hZ : Z.Warmed39 s.vm) {own C : String} {index : Nat} {y y' : MethodName} (hyy : y = y') {bytes : ByteArray} {maxL : Nat} {ret : Option FieldType} (hown : s.vm.findClass own = some m.cls)
    (wl : (Jvm.Cond.methodLink own index y).before a0 Z = true) (wd : (Jvm.Cond.declares y).before a0 Z = true) (wsel : (Jvm.Cond.selects C y y').before a0 Z = true) (wst : (Jvm.Cond.instanceMethod y').before a0 Z = true) (wi : (Jvm.Cond.initialized y'.cls).before a0 Z = true) (wc : (Jvm.Cond.code y' bytes maxL ret).before a0 Z = true) (hy : y.cls ≠ "java/lang/invoke/MethodHandle" ∧ y.cls ≠ "java/lang/invoke/VarHandle")
    {rm : Room} {as' : Array Value} {Qc : Option Value → Heap → List Loc → Prop} (hM : MetFree l y' (head1 [Jvm.Cond.code y' bytes maxL ret] rm) (fun a U => a = as' ∧ Z.Warmed39 U.vm ∧ U.heap = h) (fun _ _ _ _ _ => True) (fun _ U o U' => ∃ v L, o = .returned v ∧ Qc v U'.heap L ∧ FrameEnd U o U' L rm.cells rm.slots))
    (eT : T.heap = h) (W : Nat) (hf : rm.frames + 1 ≤ R.frames) (hl : W + (maxL + 11) + rm.locals ≤ R.locals) (hce : cells + rm.cells ≤ R.cells) (hsl : slots + rm.slots ≤ R.slots) {pc pc' : Nat} {Ls : Array Slot} {St rest : List Value} (argsL : List Value) {ps : List FieldType} {rt : Option FieldType} (hsize : Ls.size = c.maxLocals) (hdesc : parseMethodDescriptor y.desc = some ⟨ps, rt⟩) (hlen : argsL.length = ps.length) {a : Addr} (E : Exa Z h a C) (hst : St = argsL.reverse ++ .ref a :: rest) (has : (Value.ref a :: argsL).toArray = as') (hW : (rest.map fun v => v.category).sum ≤ W)
    (hd : decode c.code pc = .ok (.invokevirtual index, 3)) (hp : pc + 3 = pc')
    (kk : ∀ (v : Option Value) (T' : State) (L' : List Loc), Qc v T'.heap L' → Stand p l e R s m args below meth c T' (locs ++ L') (cells + rm.cells) (slots + rm.slots) → Ends p e below Q T' (mkF m pc' Ls (v.toList ++ rest))) : Ends p e below Q T (mkF m pc Ls St) := by
  subst hst has hp hyy
  obtain ⟨cq, kq, qa, qb, qc⟩ := isOf hZ eT E
  obtain ⟨v, vm₁, ⟨T', L, k2, n2⟩, -, X', ⟨Lc, hQ, l1, y1, z1⟩, st⟩ := X.virtualBack hx hown (mvT hZ wl) (mvT hZ wd) (notFace_of_selects (args := #[]) (mvT hZ wsel)) (mvT hZ wsel) (mvT hZ wst) hy (backOf (W := W) hM hZ wc wi hf hl) qa qc (g := mkF m pc Ls (argsL.reverse ++ .ref a :: rest)) rfl hsize (Steps.refl _) (argsL := argsL) (rest := rest) (lenOf hdesc hlen) rfl (by show 2 * 0 + _ ≤ _; omega) hd (fun _ _ => ⟨rfl, eT, hce, hsl⟩)
  dsimp only [Pt.U, Pt.locs, Pt.cells, Pt.slots] at X' l1 y1 z1 st hQ
  subst l1 y1 z1
  exact Ends.thru st (kk v T' Lc hQ X')
theorem ow_getF (X : Stand p l e R s m args below meth c T locs cells slots) (hx : p.tables.exec = Jvm.exec) (hZ : Z.Warmed39 s.vm) {own R0 O n d host : String} {index : Nat} (hown : s.vm.findClass own = some m.cls) (w : (Jvm.Cond.fieldLink own index R0 n d).before a0 Z = true ∨ (Jvm.Cond.fieldLinkNest own index R0 n d host).before a0 Z = true) (via : Via Z R0 O n d) (eT : T.heap = h) {a : Addr} {v : Value} (F : Fld Z h a O n d v) {pc pc' : Nat} {Ls : Array Slot} {St : List Value} (hd : decode c.code pc = .ok (.getfield index, 3)) (hp : pc + 3 = pc')
    (kk : ∀ T' : State, Stand p l e R s m args below meth c T' locs cells slots → T'.heap = h → Ends p e below Q T' (mkF m pc' Ls (v :: St))) : Ends p e below Q T (mkF m pc Ls (.ref a :: St)) := by
  subst hp
  obtain ⟨T', X', e', st⟩ := getF X hx hZ hown w via eT F (g := mkF m pc Ls (.ref a :: St)) rfl rfl hd
  exact Ends.go st (kk T' X' e')
theorem ow_getS (X : Stand p l e R s m args below meth c T locs cells slots) (hx : p.tables.exec = Jvm.exec) (hZ : Z.Warmed39 s.vm) {own R0 O n d host : String} {index : Nat} (hown : s.vm.findClass own = some m.cls) (w : (Jvm.Cond.fieldLink own index R0 n d).before a0 Z = true ∨ (Jvm.Cond.fieldLinkNest own index R0 n d host).before a0 Z = true) (via : Via Z R0 O n d) (eT : T.heap = h) {v : Value} (F : Sta Z h O n d v) {pc pc' : Nat} {Ls : Array Slot} {St : List Value} (hd : decode c.code pc = .ok (.getstatic index, 3)) (hp : pc + 3 = pc')
    (kk : ∀ T' : State, Stand p l e R s m args below meth c T' locs cells slots → T'.heap = h → Ends p e below Q T' (mkF m pc' Ls (v :: St))) : Ends p e below Q T (mkF m pc Ls St) := by
  subst hp
  obtain ⟨T', X', e', st⟩ := getS2 X hx hZ hown w via eT F (g := mkF m pc Ls St) rfl hd
  exact Ends.go st (kk T' X' e')
theorem ow_ldB (X : Stand p l e R s m args below meth c T locs cells slots) (hx : p.tables.exec = Jvm.exec) (hZ : Z.Warmed39 s.vm) (eT : T.heap = h) {a : Addr} {k : ClassId} {z : Int32} {vs : List Value} {dv : Value} (V : Arv Z h a k .byte z vs dv) {pc pc' : Nat} {Ls : Array Slot} {St : List Value} {j : Int32} {v : Value} (hj0 : ¬ j < 0) (hjz : j < z) (hv : vs.getD j.toNatClampNeg dv = v) (hd : decode c.code pc = .ok (.baload, 1)) (hp : pc + 1 = pc')
    (kk : Ends p e below Q T (mkF m pc' Ls (v :: St))) : Ends p e below Q T (mkF m pc Ls (.int j :: .ref a :: St)) := by
  subst hp
  obtain ⟨cl, A, q1, S, N, H, G⟩ := V
  have hin := inb_of S ⟨hj0, hjz⟩
  exact Ends.go (X.baloadBytes hx (by rw [eT]; exact A.1) (State.isArrayOf_alike hZ.alike A.2.1) A.2.2 hin (H.at hin hv) (g := mkF m pc Ls (.int j :: .ref a :: St)) rfl rfl hd) kk
theorem ow_len (X : Stand p l e R s m args below meth c T locs cells slots) (hx : p.tables.exec = Jvm.exec) (hZ : Z.Warmed39 s.vm) (eT : T.heap = h) {a : Addr} {k : ClassId} {ty : FieldType} {z : Int32} {vs : List Value} {dv : Value} (V : Arv Z h a k ty z vs dv) {pc pc' : Nat} {Ls : Array Slot} {St : List Value} (hd : decode c.code pc = .ok (.arraylength, 1)) (hp : pc + 1 = pc')
    (kk : Ends p e below Q T (mkF m pc' Ls (.int z :: St))) : Ends p e below Q T (mkF m pc Ls (.ref a :: St)) := by
  subst hp
  obtain ⟨cl, A, q1, S, N, H, G⟩ := V
  refine Ends.go (X.arraylength hx (by rw [eT]; exact A.1) (State.isArrayOf_alike hZ.alike A.2.1) (g := mkF m pc Ls (.ref a :: St)) rfl rfl hd) ?_
  rw [len_of S N]
  exact kk
/-- a body that returns a number and leaves the heap as it is -/
def QI (P : Int32 → Prop) (h0 : Heap) (v : Option Value) (h : Heap) (L : List Loc) : Prop := ∃ z, v = some (.int z) ∧ P z ∧ L = [] ∧ h = h0
theorem ow_callPI (X : Stand p l e R s m args below meth c T locs cells slots) (hx : p.tables.exec = Jvm.exec) (hZ : Z.Warmed39 s.vm) {own : String} {index : Nat} {y : MethodName} {bytes : ByteArray} {maxL : Nat} {ret : Option FieldType} (hown : s.vm.findClass own = some m.cls)
    (wl : (Jvm.Cond.methodLink own index y).before a0 Z = true) (wst : (Jvm.Cond.static y).before a0 Z = true) (wi : (Jvm.Cond.initialized y.cls).before a0 Z = true) (wc : (Jvm.Cond.code y bytes maxL ret).before a0 Z = true) (hy : y.cls ≠ "java/lang/invoke/MethodHandle" ∧ y.cls ≠ "java/lang/invoke/VarHandle")
    {fr lo : Nat} {as' : Array Value} {P : Int32 → Prop} (hM : MetFree l y (head1 [Jvm.Cond.code y bytes maxL ret] ({ frames := fr, cells := 0, slots := 0, locals := lo } : Room)) (fun a U => a = as' ∧ Z.Warmed39 U.vm ∧ U.heap = h) (fun _ _ _ _ _ => True) (fun _ U o U' => ∃ v L, o = .returned v ∧ QI P h v U'.heap L ∧ FrameEnd U o U' L 0 0))
    (eT : T.heap = h) (W : Nat) (hf : fr + 1 ≤ R.frames) (hl : W + (maxL + 11) + lo ≤ R.locals) (hce : cells ≤ R.cells) (hsl : slots ≤ R.slots) {pc pc' : Nat} {Ls : Array Slot} {St rest : List Value} (argsL : List Value) {ps : List FieldType} {rt : Option FieldType} (hsize : Ls.size = c.maxLocals) (hdesc : parseMethodDescriptor y.desc = some ⟨ps, rt⟩) (hlen : argsL.length = ps.length) (hst : St = argsL.reverse ++ rest) (has : argsL.toArray = as') (hW : (rest.map fun v => v.category).sum ≤ W)
    (hd : decode c.code pc = .ok (.invokestatic index, 3)) (hp : pc + 3 = pc')
    (kk : ∀ (z : Int32) (T' : State), P z → Stand p l e R s m args below meth c T' locs cells slots → T'.heap = h → Ends p e below Q T' (mkF m pc' Ls (.int z :: rest))) : Ends p e below Q T (mkF m pc Ls St) := by
  refine ow_callS X hx hZ hown wl wst wi wc hy hM eT W hf hl hce hsl argsL hsize hdesc hlen hst has hW hd hp ?_
  rintro v T' L' ⟨z, rfl, hP, rfl, hh⟩ X'
  rw [List.append_nil] at X'
  exact kk z T' hP X' hh
theorem ow_callVPI (X : Stand p l e R s m args below meth c T locs cells slots) (hx : p.tables.exec = Jvm.exec) (hZ : Z.Warmed39 s.vm) {own C : String} {index : Nat} {y y' : MethodName} (hyy : y = y') {bytes : ByteArray} {maxL : Nat} {ret : Option FieldType} (hown : s.vm.findClass own = some m.cls)
    (wl : (Jvm.Cond.methodLink own index y).before a0 Z = true) (wd : (Jvm.Cond.declares y).before a0 Z = true) (wsel : (Jvm.Cond.selects C y y').before a0 Z = true) (wst : (Jvm.Cond.instanceMethod y').before a0 Z = true) (wi : (Jvm.Cond.initialized y'.cls).before a0 Z = true) (wc : (Jvm.Cond.code y' bytes maxL ret).before a0 Z = true) (hy : y.cls ≠ "java/lang/invoke/MethodHandle" ∧ y.cls ≠ "java/lang/invoke/VarHandle")
    {fr lo : Nat} {as' : Array Value} {P : Int32 → Prop} (hM : MetFree l y' (head1 [Jvm.Cond.code y' bytes maxL ret] ({ frames := fr, cells := 0, slots := 0, locals := lo } : Room)) (fun a U => a = as' ∧ Z.Warmed39 U.vm ∧ U.heap = h) (fun _ _ _ _ _ => True) (fun _ U o U' => ∃ v L, o = .returned v ∧ QI P h v U'.heap L ∧ FrameEnd U o U' L 0 0))
    (eT : T.heap = h) (W : Nat) (hf : fr + 1 ≤ R.frames) (hl : W + (maxL + 11) + lo ≤ R.locals) (hce : cells ≤ R.cells) (hsl : slots ≤ R.slots) {pc pc' : Nat} {Ls : Array Slot} {St rest : List Value} (argsL : List Value) {ps : List FieldType} {rt : Option FieldType} (hsize : Ls.size = c.maxLocals) (hdesc : parseMethodDescriptor y.desc = some ⟨ps, rt⟩) (hlen : argsL.length = ps.length) {a : Addr} (E : Exa Z h a C) (hst : St = argsL.reverse ++ .ref a :: rest) (has : (Value.ref a :: argsL).toArray = as') (hW : (rest.map fun v => v.category).sum ≤ W)
    (hd : decode c.code pc = .ok (.invokevirtual index, 3)) (hp : pc + 3 = pc')
    (kk : ∀ (z : Int32) (T' : State), P z → Stand p l e R s m args below meth c T' locs cells slots → T'.heap = h → Ends p e below Q T' (mkF m pc' Ls (.int z :: rest))) : Ends p e below Q T (mkF m pc Ls St) := by
  refine ow_callV X hx hZ hyy hown wl wd wsel wst wi wc hy hM eT W hf hl hce hsl argsL hsize hdesc hlen E hst has hW hd hp ?_
  rintro v T' L' ⟨z, rfl, hP, rfl, hh⟩ X'
  rw [List.append_nil] at X'
  exact kk z T' hP X' hh
def OutI (s : State) (ce sl : Nat) (Qv : Option Value → Heap → List Loc → Vm → Prop) (o : Outcome) (U : State) : Prop := ∃ v L, o = .returned v ∧ Qv v U.heap L U.vm ∧ ReturnedEndW s o U L ce sl
theorem ow_bodyI {y : MethodName} {bytes : ByteArray} {ml : Nat} {ret : Option FieldType} {ws : List Jvm.Cond} {rm : Room} {as : Array Value} {ce sl : Nat} {Iv : Vm → Prop} {Qv : Option Value → Heap → List Loc → Vm → Prop} (hp : plainFor y = true)
    (body : ∀ (p : Program) (e : Env) (s : State) (m : MethodId) (below : List Frame) (meth : Method) (c : Code) (T : State), Stand p l e rm (s.setVm s.vm) m as below meth c T [] 0 0 → p.tables.exec = Jvm.exec → Z.Warmed39 (s.setVm s.vm).vm → c.code = bytes → c.maxLocals = ml → (s.setVm s.vm).vm.findClass y.cls = some m.cls → meth.name = y.name → meth.sig.returnType = ret → meth.locks = false → T.heap = h → s.heap = h → s.Since s.vm 0 → Iv (s.setVm s.vm).vm → Ends p e below (OutI s ce sl Qv) T (entryFrame m as ml)) :
    MetFree l y (head1 (Jvm.Cond.code y bytes ml ret :: ws) rm) (fun a U => a = as ∧ Z.Warmed39 U.vm ∧ U.heap = h ∧ Iv U.vm) (fun _ _ _ _ _ => True) (fun _ U o U' => ∃ v L, o = .returned v ∧ Qv v U'.heap L U'.vm ∧ ReturnedEndW U o U' L ce sl) := by
  refine MetFree.of_bodySF hp hisR ?_
  intro p e s m args below meth c s₁ Bd hml0 hP hK
  obtain ⟨rfl, hZ, hh, hI⟩ := hP
  exact body p e s m below meth c s₁ (Stand.of_body Bd) Bd.exec hZ Bd.bytes hml0 (findClass_of_methodNamed Bd.named) (name_of_methodNamed Bd.named Bd.method).1 Bd.returns Bd.notSynchronized (by rw [← hh, Bd.state]; rfl) hh ((State.WarmedH.refl s).since 0) hI
theorem ow_retBI {vm0 : Vm} (X : Stand p l e R (s.setVm vm0) m args below meth c T locs cells slots) (hx : p.tables.exec = Jvm.exec) {pc : Nat} {Ls : Array Slot} {rest : List Value} {z z' : Int32} (hret : meth.sig.returnType = some .boolean) (hlk : meth.locks = false) (hd : decode c.code pc = .ok (.ireturn, 1)) {k1 : Nat} (hS : s.Since vm0 k1) (hk : k1 ≤ T.heap.size) {ce sl : Nat} (hc : cells ≤ ce) (hs : slots ≤ sl) {Qv : Option Value → Heap → List Loc → Vm → Prop} (hz : nar .boolean z = z') (q : Qv (some (.int z')) T.heap locs T.vm) : Ends p e below (OutI s ce sl Qv) T (mkF m pc Ls (.int z :: rest)) := by
  subst hz
  obtain ⟨fs, hr, hrun, hended, h1, h2, h3, h4⟩ := X.leaveW hS hk (v := some (.int (nar .boolean z))) (fun h => by rw [hret] at h; cases h) hlk
  exact ⟨_, _, retN X hx (t := .boolean) hret (by simp) hd hr, hrun, hended, _, _, rfl, q, ⟨_, rfl⟩, h2, h3, h4.mono hc hs⟩
theorem ow_backI {y : MethodName} {bytes : ByteArray} {maxL : Nat} {ret : Option FieldType} {len W : Nat} {rm : Room} {as' : Array Value} {Iv : Vm → Prop} {Qc : Option Value → Heap → List Loc → Vm → Prop} (hM : MetFree l y (head1 [Jvm.Cond.code y bytes maxL ret] rm) (fun a U => a = as' ∧ Z.Warmed39 U.vm ∧ U.heap = h ∧ Iv U.vm) (fun _ _ _ _ _ => True) (fun _ U o U' => ∃ v L, o = .returned v ∧ Qc v U'.heap L U'.vm ∧ ReturnedEndW U o U' L rm.cells rm.slots)) (hZ : Z.Warmed39 s.vm) (hI : ∀ vm₁, s.WarmedH vm₁ → Iv vm₁) (wc : (Jvm.Cond.code y bytes maxL ret).before a0 Z = true) (wz : (Jvm.Cond.initialized y.cls).before a0 Z = true) (hf : rm.frames + 1 ≤ R.frames) (hl : W + (maxL + 11) + rm.locals ≤ R.locals) :
    BackS l R p e below s args y len W (fun A a => a = as' ∧ A.U.heap = h ∧ A.cells + rm.cells ≤ R.cells ∧ A.slots + rm.slots ≤ R.slots) (fun A _ v B => ∃ L, Qc v B.U.heap L B.U.vm ∧ B.locs = A.locs ++ L ∧ B.cells = A.cells + rm.cells ∧ B.slots = A.slots + rm.slots) := by
  refine BackS.of_freeW (bytes := bytes) (maxL := maxL) (ret := ret) (E := fun _ _ o t L k n => k = rm.cells ∧ n = rm.slots ∧ ∃ v, o = .returned v ∧ Qc v t.heap L t.vm) hM hf hl ?_ ?_ (fun _ _ _ _ _ _ _ _ _ => trivial) ?_ ?_
  · intro m meth c A a Y q
    have hU : Z.Warmed39 A.U.vm := wtrans hZ Y.warmed
    refine ⟨?_, mv hU wc, mv hU wz, q.2.2.1, q.2.2.2⟩
    show (Jvm.Cond.and _ .tt).before a A.U = true
    rw [Cond.before_and, mv hU wc]
    rfl
  · intro m meth c A a g mk Y q
    exact ⟨q.1, wtrans hZ Y.warmed, q.2.1, hI _ Y.warmed⟩
  · rintro a f o t ⟨v, L, h1, h2, h3⟩
    exact ⟨L, _, _, h3, rfl, rfl, v, h1, h2⟩
  · rintro m meth c A a g mk v t L k n Y q - - ⟨e1, e2, v', e3, e4⟩
    cases e3
    subst e1 e2
    exact ⟨L, e4, rfl, rfl, rfl⟩
theorem ow_callSI {vm0 : Vm} (X : Stand p l e R (s.setVm vm0) m args below meth c T locs cells slots) (hx : p.tables.exec = Jvm.exec) (hZ : Z.Warmed39 (s.setVm vm0).vm) {own : String} {index : Nat} {y : MethodName} {bytes : ByteArray} {maxL : Nat} {ret : Option FieldType} (hown : (s.setVm vm0).vm.findClass own = some m.cls)
    (wl : (Jvm.Cond.methodLink own index y).before a0 Z = true) (wst : (Jvm.Cond.static y).before a0 Z = true) (wi : (Jvm.Cond.initialized y.cls).before a0 Z = true) (wc : (Jvm.Cond.code y bytes maxL ret).before a0 Z = true) (hy : y.cls ≠ "java/lang/invoke/MethodHandle" ∧ y.cls ≠ "java/lang/invoke/VarHandle")
    {rm : Room} {as' : Array Value} {Iv : Vm → Prop} {Qc : Option Value → Heap → List Loc → Vm → Prop} (hM : MetFree l y (head1 [Jvm.Cond.code y bytes maxL ret] rm) (fun a U => a = as' ∧ Z.Warmed39 U.vm ∧ U.heap = h ∧ Iv U.vm) (fun _ _ _ _ _ => True) (fun _ U o U' => ∃ v L, o = .returned v ∧ Qc v U'.heap L U'.vm ∧ ReturnedEndW U o U' L rm.cells rm.slots)) (hI : ∀ vm₁, (s.setVm vm0).WarmedH vm₁ → Iv vm₁) {k0 : Nat} (hS : s.Since vm0 k0) (hk : k0 ≤ h.size)
    (eT : T.heap = h) (W : Nat) (hf : rm.frames + 1 ≤ R.frames) (hl : W + (maxL + 11) + rm.locals ≤ R.locals) (hce : cells + rm.cells ≤ R.cells) (hsl : slots + rm.slots ≤ R.slots) {pc pc' : Nat} {Ls : Array Slot} {St rest : List Value} (argsL : List Value) {ps : List FieldType} {rt : Option FieldType} (hsize : Ls.size = c.maxLocals) (hdesc : parseMethodDescriptor y.desc = some ⟨ps, rt⟩) (hlen : argsL.length = ps.length) (hst : St = argsL.reverse ++ rest) (has : argsL.toArray = as') (hW : (rest.map fun v => v.category).sum ≤ W)
    (hd : decode c.code pc = .ok (.invokestatic index, 3)) (hp : pc + 3 = pc')
    (kk : ∀ (v : Option Value) (T' : State) (L' : List Loc), Qc v T'.heap L' T'.vm → Stand p l e R (s.setVm T'.vm) m args below meth c T' (locs ++ L') (cells + rm.cells) (slots + rm.slots) → s.Since T'.vm T'.heap.size → Z.Warmed39 (s.setVm T'.vm).vm → (s.setVm T'.vm).vm.findClass own = some m.cls → Ends p e below Q T' (mkF m pc' Ls (v.toList ++ rest))) : Ends p e below Q T (mkF m pc Ls St) := by
  subst hst has hp
  obtain ⟨v, vm₁, ⟨T', L, k2, n2⟩, -, X', hS', hgr, ⟨Lc, hQ, l1, y1, z1⟩, st⟩ := callSS X hx hown (mvT hZ wl) (mvT hZ wst) (mvT hZ wi) (mvT hZ wc) hy (ow_backI (W := W) hM hZ hI wc wi hf hl) (g := mkF m pc Ls (argsL.reverse ++ rest)) rfl hsize (argsL := argsL) (rest := rest) (lenOf hdesc hlen) rfl (by show 2 * 0 + _ ≤ _; omega) hd (fun _ _ => ⟨rfl, eT, hce, hsl⟩)
  dsimp only [Pt.U, Pt.locs, Pt.cells, Pt.slots] at X' l1 y1 z1 st hQ hS' hgr
  subst l1 y1 z1
  obtain ⟨X2, S2, Z2, o2⟩ := rebS hS (eT ▸ hk) X' hS' hgr hZ hown
  exact Ends.thru st (kk v T' Lc hQ X2 S2 Z2 o2)
/-- the table of literals: what has been interned since the start bears one of the texts Ts; the entries Bs are booked -/
def LT (Z : State) (Ts : List String) (Bs : List (String × Nat × Addr)) (vm : Vm) : Prop := IB Z vm Ts ∧ ∀ x ∈ Bs, Lit (Z.setVm vm) x.1 x.2.1 x.2.2
theorem LT.start : LT Z [] [] Z.vm := ⟨IB.start, fun x hx => by simp at hx⟩
theorem LT.warm {Ts : List String} {Bs : List (String × Nat × Addr)} (I : LT Z Ts Bs s.vm) : ∀ vm₁, s.WarmedH vm₁ → LT Z Ts Bs vm₁ := fun vm₁ hW => by
  obtain ⟨⟨more, e1, e2⟩, hb⟩ := I
  refine ⟨⟨more, hW.interned_eq.trans e1, e2⟩, fun x hx => ?_⟩
  have q : Lit ((Z.setVm s.vm).setVm vm₁) x.1 x.2.1 x.2.2 := Lit.stays (s := Z.setVm s.vm) (vm0 := s.vm) (hb x hx) hW.wide
  exact q
theorem ow_ldcI {vm0 : Vm} (X : Stand p l e R (s.setVm vm0) m args below meth c T locs cells slots) (hx : p.tables.exec = Jvm.exec) (hZ : Z.Warmed39 (s.setVm vm0).vm) {own text : String} {index : Nat} (hown : (s.setVm vm0).vm.findClass own = some m.cls) (w : (Jvm.Cond.stringLink own index text).before a0 Z = true) (wS : ∀ a ∈ Bundle.stringAtoms, a.before a0 Z = true) (eT : T.heap = h) {k0 : Nat} (hS : s.Since vm0 k0) (hk : k0 ≤ h.size)
    (N : Fr s.heap.size locs) (hkeep : ∀ (b : Addr) (cl : Cell), Z.heap[b]? = some cl → s.heap[b]? = some cl) {Ts : List String} {Bs : List (String × Nat × Addr)} (I : LT Z Ts Bs (s.setVm vm0).vm) (hnot : text ∉ Ts) (hh : Jvm.Lit.constHeld Z own index) (hcw : Jvm.Lit.compactW.before a0 Z = true)
    {vs : List Value} {z : Int32} (ht : (∀ c ∈ text.toList, c.toNat < 256) ∧ text.toList.map (fun c => Value.int (Jvm.Lit.byteI c.toNat.toUInt16)) = vs) (hz : ¬ z < 0) (hl0 : z.toNatClampNeg = vs.length)
    {pc pc' : Nat} {Ls : Array Slot} {St : List Value} (hd : decode c.code pc = .ok (.ldc index, 2)) (n : Nat) (hn : 4 * text.toList.length ≤ n) (hbig : n ≤ 536870912) (hc : cells + 2 ≤ R.cells) (hl : slots + (n + 4) ≤ R.slots) (hp : pc + 2 = pc')
    (kk : ∀ (a : Addr) (T' : State) (h' : Heap) (k1 : Nat) (b : Addr) (k : ClassId), Stand p l e R (s.setVm T'.vm) m args below meth c T' locs (cells + 2) (slots + (n + 4)) → T'.heap = h' → Ext h h' → s.Since T'.vm k1 → k1 ≤ h'.size → Z.Warmed39 (s.setVm T'.vm).vm → (s.setVm T'.vm).vm.findClass own = some m.cls → Exa Z h' a "java/lang/String" → Fld Z h' a "java/lang/String" "coder" "B" (.int (0 : Int32)) → Fld Z h' a "java/lang/String" "value" "[B" (.ref b) → Arv Z h' b k .byte z vs (.int (0 : Int32)) → LT Z (text :: Ts) [(own, index, a)] (s.setVm T'.vm).vm → Ends p e below Q T' (mkF m pc' Ls (.ref a :: St))) : Ends p e below Q T (mkF m pc Ls St) := by
  subst hp
  obtain ⟨a, T', h', k1, b, k, X', e', E', S', hk', Z', o', r1, r2, r3, r4, -, -, I', L', st⟩ := ldcSVL X hx hZ hown w wS eT hS hk N hkeep I.1 hnot hh hcw ht hz hl0 (g := mkF m pc Ls St) rfl hd hn hbig hc hl
  refine Ends.go st (kk a T' h' k1 b k X' e' E' S' hk' Z' o' r1 r2 r3 r4 ⟨I', fun x hx => ?_⟩)
  rw [List.mem_singleton.mp hx]
  exact L'
theorem ow_zk {n0 : Nat} {h' : Heap} {ws : List Addr} (hzk : ∀ (b : Addr) (cl : Cell), Z.heap[b]? = some cl → h[b]? = some cl) (hzn : Z.heap.size ≤ n0) (K : Keep h h' ws) (g : ∀ x ∈ ws, n0 ≤ x) : ∀ (b : Addr) (cl : Cell), Z.heap[b]? = some cl → h'[b]? = some cl := fun b cl q => K.2.1 b cl (hzk b cl q) (fun w => by
  have h1 := g b w
  have h2 := (Array.getElem?_eq_some_iff.mp q).1
  exact absurd (Nat.lt_of_lt_of_le h2 (Nat.le_trans hzn h1)) (Nat.lt_irrefl _))
theorem ow_staKeep {C n d : String} {v : Value} {h' : Heap} {ws : List Addr} (F : Sta Z h C n d v) (K : Keep h h' ws) (q : ∀ x ∈ ws, ∀ c : Cell, h[x]? = some c → c.vm.isStatics = false) : Sta Z h' C n d v := by
  obtain ⟨cf, i, k, f, st, cell, h1, h2, h3, h4, h5, h6, h7⟩ := F
  exact ⟨cf, i, k, f, st, cell, h1, h2, h3, h4, K.2.1 st cell h5 (fun w => by rw [q st w cell h5] at h6; cases h6), h6, h7⟩
theorem ow_eq {x y : Int32} (q : x.toInt = y.toInt) : x = y := Int32.toInt_inj.mp q
end Own

theorem d_jdk_43m23_0 : decode jdk_43_method_23_code 0 = .ok (.iload_n 1, 1) := by decide +kernel
theorem d_jdk_43m23_1 : decode jdk_43_method_23_code 1 = .ok (.i2b, 1) := by decide +kernel
theorem d_jdk_43m23_2 : decode jdk_43_method_23_code 2 = .ok (.istore 4, 2) := by decide +kernel
theorem d_jdk_43m23_4 : decode jdk_43_method_23_code 4 = .ok (.iload_n 2, 1) := by decide +kernel
theorem d_jdk_43m23_5 : decode jdk_43_method_23_code 5 = .ok (.istore 5, 2) := by decide +kernel
theorem d_jdk_43m23_7 : decode jdk_43_method_23_code 7 = .ok (.iload 5, 2) := by decide +kernel
theorem d_jdk_43m23_9 : decode jdk_43_method_23_code 9 = .ok (.iload_n 3, 1) := by decide +kernel
theorem d_jdk_43m23_10 : decode jdk_43_method_23_code 10 = .ok (.if_icmp .ge 21, 3) := by decide +kernel
theorem d_jdk_43m23_13 : decode jdk_43_method_23_code 13 = .ok (.aload_n 0, 1) := by decide +kernel
theorem d_jdk_43m23_14 : decode jdk_43_method_23_code 14 = .ok (.iload 5, 2) := by decide +kernel
theorem d_jdk_43m23_16 : decode jdk_43_method_23_code 16 = .ok (.baload, 1) := by decide +kernel
theorem d_jdk_43m23_17 : decode jdk_43_method_23_code 17 = .ok (.iload 4, 2) := by decide +kernel
theorem d_jdk_43m23_19 : decode jdk_43_method_23_code 19 = .ok (.if_icmp .ne 6, 3) := by decide +kernel
theorem d_jdk_43m23_22 : decode jdk_43_method_23_code 22 = .ok (.iload 5, 2) := by decide +kernel
theorem d_jdk_43m23_24 : decode jdk_43_method_23_code 24 = .ok (.ireturn, 1) := by decide +kernel
theorem d_jdk_43m23_25 : decode jdk_43_method_23_code 25 = .ok (.iinc 5 1, 3) := by decide +kernel
theorem d_jdk_43m23_28 : decode jdk_43_method_23_code 28 = .ok (.goto (-21), 3) := by decide +kernel
theorem d_jdk_43m23_31 : decode jdk_43_method_23_code 31 = .ok (.iconst (-1), 1) := by decide +kernel
theorem d_jdk_43m23_32 : decode jdk_43_method_23_code 32 = .ok (.ireturn, 1) := by decide +kernel
theorem ef_ixChar (m : MethodId) (x0 : Addr) (x1 : Int32) (x2 : Int32) (x3 : Int32) : entryFrame m #[(.ref x0), (.int x1), (.int x2), (.int x3)] 6 = mkF m 0 #[.val (.ref x0), .val (.int x1), .val (.int x2), .val (.int x3), .unset, .unset] [] := by first | (simp [entryFrame, mkF, argsToLocals, Value.category]; done) | rfl
theorem pn_0 : plainName "java/lang/StringLatin1" = true := by first | (simp [plainName, overriddenIn]; done) | decide +kernel
set_option maxRecDepth 65536 in
set_option maxHeartbeats 40000000 in
theorem rm_ixChar (l : Launch) (Z : State) (a0 : Array Value) (hw : ∀ d ∈ tables_1, d.before a0 Z = true) (ws : List Jvm.Cond) (oa : Addr) (pc : Int32) (pf : Int32) (pm : Int32) (ka : ClassId) (h0 : Heap) (V_a : Arv Z h0 oa ka (.byte) (15 : Int32) [(.int (33 : Int32)), (.int (35 : Int32)), (.int (36 : Int32)), (.int (37 : Int32)), (.int (38 : Int32)), (.int (39 : Int32)), (.int (42 : Int32)), (.int (43 : Int32)), (.int (45 : Int32)), (.int (46 : Int32)), (.int (94 : Int32)), (.int (95 : Int32)), (.int (96 : Int32)), (.int (124 : Int32)), (.int (126 : Int32))] (.int (0 : Int32))) (hpf : pf.toInt = 0) (hpm : pm.toInt = 15) (hc0 : 0 ≤ pc.toInt) (hc1 : pc.toInt ≤ 255) :
    MetFree l (⟨"java/lang/StringLatin1", "indexOfChar", "([BIII)I"⟩ : MethodName) (head1 (Jvm.Cond.code (⟨"java/lang/StringLatin1", "indexOfChar", "([BIII)I"⟩ : MethodName) jdk_43_method_23_code 6 (some .int) :: ws) ({ frames := 0, cells := 0, slots := 0, locals := 0 } : Room)) (fun a_ U_ => a_ = #[(.ref oa), (.int pc), (.int pf), (.int pm)] ∧ Z.Warmed39 U_.vm ∧ U_.heap = h0) (fun _ _ _ _ _ => True) (fun _ U_ o_ U_' => ∃ v_ L_, o_ = .returned v_ ∧ (QI (fun z => ((pc.toInt = 33 ∨ pc.toInt = 35 ∨ pc.toInt = 36 ∨ pc.toInt = 37 ∨ pc.toInt = 38 ∨ pc.toInt = 39 ∨ pc.toInt = 42 ∨ pc.toInt = 43 ∨ pc.toInt = 45 ∨ pc.toInt = 46 ∨ pc.toInt = 94 ∨ pc.toInt = 95 ∨ pc.toInt = 96 ∨ pc.toInt = 124 ∨ pc.toInt = 126) ∧ 0 ≤ z.toInt) ∨ (¬ (pc.toInt = 33 ∨ pc.toInt = 35 ∨ pc.toInt = 36 ∨ pc.toInt = 37 ∨ pc.toInt = 38 ∨ pc.toInt = 39 ∨ pc.toInt = 42 ∨ pc.toInt = 43 ∨ pc.toInt = 45 ∨ pc.toInt = 46 ∨ pc.toInt = 94 ∨ pc.toInt = 95 ∨ pc.toInt = 96 ∨ pc.toInt = 124 ∨ pc.toInt = 126) ∧ z.toInt = -1)) h0) v_ U_'.heap L_ ∧ FrameEnd U_ o_ U_' L_ 0 0) := by
  refine ow_body (plainFor_of_name pn_0) ?_
  intro p e s m below meth c T0 X0 hx hZ hby hml hown hnm hret hlk e0
  refine Ends.cast (ef_ixChar m oa pc pf pm) ?_
  have r_pc := rng32 pc
  have r_pf := rng32 pf
  have r_pm := rng32 pm
  obtain rfl : pf = (0 : Int32) := ow_eq hpf
  obtain rfl : pm = (15 : Int32) := ow_eq hpm
  clear r_pf r_pm
  refine ow_iloadN X0 hx (hb hby d_jdk_43m23_0) rfl (pc' := 1) rfl ?_
  refine ow_i2b X0 hx (hb hby d_jdk_43m23_1) (pc' := 2) rfl (fun z1 hz1 => ?_)
  have az1 : (z1.toInt - pc.toInt) % 256 = 0 ∧ -128 ≤ z1.toInt ∧ z1.toInt < 128 := by rw [hz1]; exact c_i2b pc
  have rz1 := rng32 z1
  refine ow_istore X0 hx (Ls' := #[.val (.ref oa), .val (.int pc), .val (.int (0 : Int32)), .val (.int (15 : Int32)), .val (.int z1), .unset]) (hb hby d_jdk_43m23_2) rfl (pc' := 4) rfl ?_
  refine ow_iloadN X0 hx (hb hby d_jdk_43m23_4) rfl (pc' := 5) rfl ?_
  refine ow_istore X0 hx (Ls' := #[.val (.ref oa), .val (.int pc), .val (.int (0 : Int32)), .val (.int (15 : Int32)), .val (.int z1), .val (.int (0 : Int32))]) (hb hby d_jdk_43m23_5) rfl (pc' := 7) rfl ?_
  refine ow_iload X0 hx (hb hby d_jdk_43m23_7) rfl (pc' := 9) rfl ?_
  refine ow_iloadN X0 hx (hb hby d_jdk_43m23_9) rfl (pc' := 10) rfl ?_
  refine ow_icmpN X0 hx (hb hby d_jdk_43m23_10) (by decide) (pc' := 13) rfl ?_
  refine ow_aloadN X0 hx (hb hby d_jdk_43m23_13) rfl rfl (pc' := 14) rfl ?_
  refine ow_iload X0 hx (hb hby d_jdk_43m23_14) rfl (pc' := 16) rfl ?_
  refine ow_ldB X0 hx hZ e0 V_a (by decide) (by decide) rfl (hb hby d_jdk_43m23_16) (pc' := 17) rfl ?_
  refine ow_iload X0 hx (hb hby d_jdk_43m23_17) rfl (pc' := 19) rfl ?_
  refine ow_icmp_ne X0 hx ((33 : Int)) (z1.toInt) (hb hby d_jdk_43m23_19) rfl rfl (by decide) (pt := 25) (by decide) (pf := 22) rfl (fun c19 => ?_) (fun c19 => ?_)
  · refine ow_iinc X0 hx (Ls' := #[.val (.ref oa), .val (.int pc), .val (.int (0 : Int32)), .val (.int (15 : Int32)), .val (.int z1), .val (.int (0 : Int32))]) (hb hby d_jdk_43m23_25) rfl (fun z => rfl) (pc' := 28) rfl (fun z2 hz2 => ?_)
    obtain rfl : z2 = (1 : Int32) := hz2.trans (by decide)
    show Ends _ _ _ _ T0 (mkF m 28 #[.val (.ref oa), .val (.int pc), .val (.int (0 : Int32)), .val (.int (15 : Int32)), .val (.int z1), .val (.int (1 : Int32))] [])
    refine ow_goto X0 hx (hb hby d_jdk_43m23_28) (by decide) (pc' := 7) (by decide) ?_
    refine ow_iload X0 hx (hb hby d_jdk_43m23_7) rfl (pc' := 9) rfl ?_
    refine ow_iloadN X0 hx (hb hby d_jdk_43m23_9) rfl (pc' := 10) rfl ?_
    refine ow_icmpN X0 hx (hb hby d_jdk_43m23_10) (by decide) (pc' := 13) rfl ?_
    refine ow_aloadN X0 hx (hb hby d_jdk_43m23_13) rfl rfl (pc' := 14) rfl ?_
    refine ow_iload X0 hx (hb hby d_jdk_43m23_14) rfl (pc' := 16) rfl ?_
    refine ow_ldB X0 hx hZ e0 V_a (by decide) (by decide) rfl (hb hby d_jdk_43m23_16) (pc' := 17) rfl ?_
    refine ow_iload X0 hx (hb hby d_jdk_43m23_17) rfl (pc' := 19) rfl ?_
    refine ow_icmp_ne X0 hx ((35 : Int)) (z1.toInt) (hb hby d_jdk_43m23_19) rfl rfl (by decide) (pt := 25) (by decide) (pf := 22) rfl (fun c19 => ?_) (fun c19 => ?_)
    · refine ow_iinc X0 hx (Ls' := #[.val (.ref oa), .val (.int pc), .val (.int (0 : Int32)), .val (.int (15 : Int32)), .val (.int z1), .val (.int (1 : Int32))]) (hb hby d_jdk_43m23_25) rfl (fun z => rfl) (pc' := 28) rfl (fun z3 hz3 => ?_)
      obtain rfl : z3 = (2 : Int32) := hz3.trans (by decide)
      show Ends _ _ _ _ T0 (mkF m 28 #[.val (.ref oa), .val (.int pc), .val (.int (0 : Int32)), .val (.int (15 : Int32)), .val (.int z1), .val (.int (2 : Int32))] [])
      refine ow_goto X0 hx (hb hby d_jdk_43m23_28) (by decide) (pc' := 7) (by decide) ?_
      refine ow_iload X0 hx (hb hby d_jdk_43m23_7) rfl (pc' := 9) rfl ?_
      refine ow_iloadN X0 hx (hb hby d_jdk_43m23_9) rfl (pc' := 10) rfl ?_
      refine ow_icmpN X0 hx (hb hby d_jdk_43m23_10) (by decide) (pc' := 13) rfl ?_
      refine ow_aloadN X0 hx (hb hby d_jdk_43m23_13) rfl rfl (pc' := 14) rfl ?_
      refine ow_iload X0 hx (hb hby d_jdk_43m23_14) rfl (pc' := 16) rfl ?_
      refine ow_ldB X0 hx hZ e0 V_a (by decide) (by decide) rfl (hb hby d_jdk_43m23_16) (pc' := 17) rfl ?_
      refine ow_iload X0 hx (hb hby d_jdk_43m23_17) rfl (pc' := 19) rfl ?_
      refine ow_icmp_ne X0 hx ((36 : Int)) (z1.toInt) (hb hby d_jdk_43m23_19) rfl rfl (by decide) (pt := 25) (by decide) (pf := 22) rfl (fun c19 => ?_) (fun c19 => ?_)
      · refine ow_iinc X0 hx (Ls' := #[.val (.ref oa), .val (.int pc), .val (.int (0 : Int32)), .val (.int (15 : Int32)), .val (.int z1), .val (.int (2 : Int32))]) (hb hby d_jdk_43m23_25) rfl (fun z => rfl) (pc' := 28) rfl (fun z4 hz4 => ?_)
        obtain rfl : z4 = (3 : Int32) := hz4.trans (by decide)
        show Ends _ _ _ _ T0 (mkF m 28 #[.val (.ref oa), .val (.int pc), .val (.int (0 : Int32)), .val (.int (15 : Int32)), .val (.int z1), .val (.int (3 : Int32))] [])
        refine ow_goto X0 hx (hb hby d_jdk_43m23_28) (by decide) (pc' := 7) (by decide) ?_
        refine ow_iload X0 hx (hb hby d_jdk_43m23_7) rfl (pc' := 9) rfl ?_
        refine ow_iloadN X0 hx (hb hby d_jdk_43m23_9) rfl (pc' := 10) rfl ?_
        refine ow_icmpN X0 hx (hb hby d_jdk_43m23_10) (by decide) (pc' := 13) rfl ?_
        refine ow_aloadN X0 hx (hb hby d_jdk_43m23_13) rfl rfl (pc' := 14) rfl ?_
        refine ow_iload X0 hx (hb hby d_jdk_43m23_14) rfl (pc' := 16) rfl ?_
        refine ow_ldB X0 hx hZ e0 V_a (by decide) (by decide) rfl (hb hby d_jdk_43m23_16) (pc' := 17) rfl ?_
        refine ow_iload X0 hx (hb hby d_jdk_43m23_17) rfl (pc' := 19) rfl ?_
        refine ow_icmp_ne X0 hx ((37 : Int)) (z1.toInt) (hb hby d_jdk_43m23_19) rfl rfl (by decide) (pt := 25) (by decide) (pf := 22) rfl (fun c19 => ?_) (fun c19 => ?_)
        · refine ow_iinc X0 hx (Ls' := #[.val (.ref oa), .val (.int pc), .val (.int (0 : Int32)), .val (.int (15 : Int32)), .val (.int z1), .val (.int (3 : Int32))]) (hb hby d_jdk_43m23_25) rfl (fun z => rfl) (pc' := 28) rfl (fun z5 hz5 => ?_)
          obtain rfl : z5 = (4 : Int32) := hz5.trans (by decide)
          show Ends _ _ _ _ T0 (mkF m 28 #[.val (.ref oa), .val (.int pc), .val (.int (0 : Int32)), .val (.int (15 : Int32)), .val (.int z1), .val (.int (4 : Int32))] [])
          refine ow_goto X0 hx (hb hby d_jdk_43m23_28) (by decide) (pc' := 7) (by decide) ?_
          refine ow_iload X0 hx (hb hby d_jdk_43m23_7) rfl (pc' := 9) rfl ?_
          refine ow_iloadN X0 hx (hb hby d_jdk_43m23_9) rfl (pc' := 10) rfl ?_
          refine ow_icmpN X0 hx (hb hby d_jdk_43m23_10) (by decide) (pc' := 13) rfl ?_
          refine ow_aloadN X0 hx (hb hby d_jdk_43m23_13) rfl rfl (pc' := 14) rfl ?_
          refine ow_iload X0 hx (hb hby d_jdk_43m23_14) rfl (pc' := 16) rfl ?_
          refine ow_ldB X0 hx hZ e0 V_a (by decide) (by decide) rfl (hb hby d_jdk_43m23_16) (pc' := 17) rfl ?_
          refine ow_iload X0 hx (hb hby d_jdk_43m23_17) rfl (pc' := 19) rfl ?_
          refine ow_icmp_ne X0 hx ((38 : Int)) (z1.toInt) (hb hby d_jdk_43m23_19) rfl rfl (by decide) (pt := 25) (by decide) (pf := 22) rfl (fun c19 => ?_) (fun c19 => ?_)
          · refine ow_iinc X0 hx (Ls' := #[.val (.ref oa), .val (.int pc), .val (.int (0 : Int32)), .val (.int (15 : Int32)), .val (.int z1), .val (.int (4 : Int32))]) (hb hby d_jdk_43m23_25) rfl (fun z => rfl) (pc' := 28) rfl (fun z6 hz6 => ?_)
            obtain rfl : z6 = (5 : Int32) := hz6.trans (by decide)
            show Ends _ _ _ _ T0 (mkF m 28 #[.val (.ref oa), .val (.int pc), .val (.int (0 : Int32)), .val (.int (15 : Int32)), .val (.int z1), .val (.int (5 : Int32))] [])
            refine ow_goto X0 hx (hb hby d_jdk_43m23_28) (by decide) (pc' := 7) (by decide) ?_
            refine ow_iload X0 hx (hb hby d_jdk_43m23_7) rfl (pc' := 9) rfl ?_
            refine ow_iloadN X0 hx (hb hby d_jdk_43m23_9) rfl (pc' := 10) rfl ?_
            refine ow_icmpN X0 hx (hb hby d_jdk_43m23_10) (by decide) (pc' := 13) rfl ?_
            refine ow_aloadN X0 hx (hb hby d_jdk_43m23_13) rfl rfl (pc' := 14) rfl ?_
            refine ow_iload X0 hx (hb hby d_jdk_43m23_14) rfl (pc' := 16) rfl ?_
            refine ow_ldB X0 hx hZ e0 V_a (by decide) (by decide) rfl (hb hby d_jdk_43m23_16) (pc' := 17) rfl ?_
            refine ow_iload X0 hx (hb hby d_jdk_43m23_17) rfl (pc' := 19) rfl ?_
            refine ow_icmp_ne X0 hx ((39 : Int)) (z1.toInt) (hb hby d_jdk_43m23_19) rfl rfl (by decide) (pt := 25) (by decide) (pf := 22) rfl (fun c19 => ?_) (fun c19 => ?_)
            · refine ow_iinc X0 hx (Ls' := #[.val (.ref oa), .val (.int pc), .val (.int (0 : Int32)), .val (.int (15 : Int32)), .val (.int z1), .val (.int (5 : Int32))]) (hb hby d_jdk_43m23_25) rfl (fun z => rfl) (pc' := 28) rfl (fun z7 hz7 => ?_)
              obtain rfl : z7 = (6 : Int32) := hz7.trans (by decide)
              show Ends _ _ _ _ T0 (mkF m 28 #[.val (.ref oa), .val (.int pc), .val (.int (0 : Int32)), .val (.int (15 : Int32)), .val (.int z1), .val (.int (6 : Int32))] [])
              refine ow_goto X0 hx (hb hby d_jdk_43m23_28) (by decide) (pc' := 7) (by decide) ?_
              refine ow_iload X0 hx (hb hby d_jdk_43m23_7) rfl (pc' := 9) rfl ?_
              refine ow_iloadN X0 hx (hb hby d_jdk_43m23_9) rfl (pc' := 10) rfl ?_
              refine ow_icmpN X0 hx (hb hby d_jdk_43m23_10) (by decide) (pc' := 13) rfl ?_
              refine ow_aloadN X0 hx (hb hby d_jdk_43m23_13) rfl rfl (pc' := 14) rfl ?_
              refine ow_iload X0 hx (hb hby d_jdk_43m23_14) rfl (pc' := 16) rfl ?_
              refine ow_ldB X0 hx hZ e0 V_a (by decide) (by decide) rfl (hb hby d_jdk_43m23_16) (pc' := 17) rfl ?_
              refine ow_iload X0 hx (hb hby d_jdk_43m23_17) rfl (pc' := 19) rfl ?_
              refine ow_icmp_ne X0 hx ((42 : Int)) (z1.toInt) (hb hby d_jdk_43m23_19) rfl rfl (by decide) (pt := 25) (by decide) (pf := 22) rfl (fun c19 => ?_) (fun c19 => ?_)
              · refine ow_iinc X0 hx (Ls' := #[.val (.ref oa), .val (.int pc), .val (.int (0 : Int32)), .val (.int (15 : Int32)), .val (.int z1), .val (.int (6 : Int32))]) (hb hby d_jdk_43m23_25) rfl (fun z => rfl) (pc' := 28) rfl (fun z8 hz8 => ?_)
                obtain rfl : z8 = (7 : Int32) := hz8.trans (by decide)
                show Ends _ _ _ _ T0 (mkF m 28 #[.val (.ref oa), .val (.int pc), .val (.int (0 : Int32)), .val (.int (15 : Int32)), .val (.int z1), .val (.int (7 : Int32))] [])
                refine ow_goto X0 hx (hb hby d_jdk_43m23_28) (by decide) (pc' := 7) (by decide) ?_
                refine ow_iload X0 hx (hb hby d_jdk_43m23_7) rfl (pc' := 9) rfl ?_
                refine ow_iloadN X0 hx (hb hby d_jdk_43m23_9) rfl (pc' := 10) rfl ?_
                refine ow_icmpN X0 hx (hb hby d_jdk_43m23_10) (by decide) (pc' := 13) rfl ?_
                refine ow_aloadN X0 hx (hb hby d_jdk_43m23_13) rfl rfl (pc' := 14) rfl ?_
                refine ow_iload X0 hx (hb hby d_jdk_43m23_14) rfl (pc' := 16) rfl ?_
                refine ow_ldB X0 hx hZ e0 V_a (by decide) (by decide) rfl (hb hby d_jdk_43m23_16) (pc' := 17) rfl ?_
                refine ow_iload X0 hx (hb hby d_jdk_43m23_17) rfl (pc' := 19) rfl ?_
                refine ow_icmp_ne X0 hx ((43 : Int)) (z1.toInt) (hb hby d_jdk_43m23_19) rfl rfl (by decide) (pt := 25) (by decide) (pf := 22) rfl (fun c19 => ?_) (fun c19 => ?_)
                · refine ow_iinc X0 hx (Ls' := #[.val (.ref oa), .val (.int pc), .val (.int (0 : Int32)), .val (.int (15 : Int32)), .val (.int z1), .val (.int (7 : Int32))]) (hb hby d_jdk_43m23_25) rfl (fun z => rfl) (pc' := 28) rfl (fun z9 hz9 => ?_)
                  obtain rfl : z9 = (8 : Int32) := hz9.trans (by decide)
                  show Ends _ _ _ _ T0 (mkF m 28 #[.val (.ref oa), .val (.int pc), .val (.int (0 : Int32)), .val (.int (15 : Int32)), .val (.int z1), .val (.int (8 : Int32))] [])
                  refine ow_goto X0 hx (hb hby d_jdk_43m23_28) (by decide) (pc' := 7) (by decide) ?_
                  refine ow_iload X0 hx (hb hby d_jdk_43m23_7) rfl (pc' := 9) rfl ?_
                  refine ow_iloadN X0 hx (hb hby d_jdk_43m23_9) rfl (pc' := 10) rfl ?_
                  refine ow_icmpN X0 hx (hb hby d_jdk_43m23_10) (by decide) (pc' := 13) rfl ?_
                  refine ow_aloadN X0 hx (hb hby d_jdk_43m23_13) rfl rfl (pc' := 14) rfl ?_
                  refine ow_iload X0 hx (hb hby d_jdk_43m23_14) rfl (pc' := 16) rfl ?_
                  refine ow_ldB X0 hx hZ e0 V_a (by decide) (by decide) rfl (hb hby d_jdk_43m23_16) (pc' := 17) rfl ?_
                  refine ow_iload X0 hx (hb hby d_jdk_43m23_17) rfl (pc' := 19) rfl ?_
                  refine ow_icmp_ne X0 hx ((45 : Int)) (z1.toInt) (hb hby d_jdk_43m23_19) rfl rfl (by decide) (pt := 25) (by decide) (pf := 22) rfl (fun c19 => ?_) (fun c19 => ?_)
                  · refine ow_iinc X0 hx (Ls' := #[.val (.ref oa), .val (.int pc), .val (.int (0 : Int32)), .val (.int (15 : Int32)), .val (.int z1), .val (.int (8 : Int32))]) (hb hby d_jdk_43m23_25) rfl (fun z => rfl) (pc' := 28) rfl (fun z10 hz10 => ?_)
                    obtain rfl : z10 = (9 : Int32) := hz10.trans (by decide)
                    show Ends _ _ _ _ T0 (mkF m 28 #[.val (.ref oa), .val (.int pc), .val (.int (0 : Int32)), .val (.int (15 : Int32)), .val (.int z1), .val (.int (9 : Int32))] [])
                    refine ow_goto X0 hx (hb hby d_jdk_43m23_28) (by decide) (pc' := 7) (by decide) ?_
                    refine ow_iload X0 hx (hb hby d_jdk_43m23_7) rfl (pc' := 9) rfl ?_
                    refine ow_iloadN X0 hx (hb hby d_jdk_43m23_9) rfl (pc' := 10) rfl ?_
                    refine ow_icmpN X0 hx (hb hby d_jdk_43m23_10) (by decide) (pc' := 13) rfl ?_
                    refine ow_aloadN X0 hx (hb hby d_jdk_43m23_13) rfl rfl (pc' := 14) rfl ?_
                    refine ow_iload X0 hx (hb hby d_jdk_43m23_14) rfl (pc' := 16) rfl ?_
                    refine ow_ldB X0 hx hZ e0 V_a (by decide) (by decide) rfl (hb hby d_jdk_43m23_16) (pc' := 17) rfl ?_
                    refine ow_iload X0 hx (hb hby d_jdk_43m23_17) rfl (pc' := 19) rfl ?_
                    refine ow_icmp_ne X0 hx ((46 : Int)) (z1.toInt) (hb hby d_jdk_43m23_19) rfl rfl (by decide) (pt := 25) (by decide) (pf := 22) rfl (fun c19 => ?_) (fun c19 => ?_)
                    · refine ow_iinc X0 hx (Ls' := #[.val (.ref oa), .val (.int pc), .val (.int (0 : Int32)), .val (.int (15 : Int32)), .val (.int z1), .val (.int (9 : Int32))]) (hb hby d_jdk_43m23_25) rfl (fun z => rfl) (pc' := 28) rfl (fun z11 hz11 => ?_)
                      obtain rfl : z11 = (10 : Int32) := hz11.trans (by decide)
                      show Ends _ _ _ _ T0 (mkF m 28 #[.val (.ref oa), .val (.int pc), .val (.int (0 : Int32)), .val (.int (15 : Int32)), .val (.int z1), .val (.int (10 : Int32))] [])
                      refine ow_goto X0 hx (hb hby d_jdk_43m23_28) (by decide) (pc' := 7) (by decide) ?_
                      refine ow_iload X0 hx (hb hby d_jdk_43m23_7) rfl (pc' := 9) rfl ?_
                      refine ow_iloadN X0 hx (hb hby d_jdk_43m23_9) rfl (pc' := 10) rfl ?_
                      refine ow_icmpN X0 hx (hb hby d_jdk_43m23_10) (by decide) (pc' := 13) rfl ?_
                      refine ow_aloadN X0 hx (hb hby d_jdk_43m23_13) rfl rfl (pc' := 14) rfl ?_
                      refine ow_iload X0 hx (hb hby d_jdk_43m23_14) rfl (pc' := 16) rfl ?_
                      refine ow_ldB X0 hx hZ e0 V_a (by decide) (by decide) rfl (hb hby d_jdk_43m23_16) (pc' := 17) rfl ?_
                      refine ow_iload X0 hx (hb hby d_jdk_43m23_17) rfl (pc' := 19) rfl ?_
                      refine ow_icmp_ne X0 hx ((94 : Int)) (z1.toInt) (hb hby d_jdk_43m23_19) rfl rfl (by decide) (pt := 25) (by decide) (pf := 22) rfl (fun c19 => ?_) (fun c19 => ?_)
                      · refine ow_iinc X0 hx (Ls' := #[.val (.ref oa), .val (.int pc), .val (.int (0 : Int32)), .val (.int (15 : Int32)), .val (.int z1), .val (.int (10 : Int32))]) (hb hby d_jdk_43m23_25) rfl (fun z => rfl) (pc' := 28) rfl (fun z12 hz12 => ?_)
                        obtain rfl : z12 = (11 : Int32) := hz12.trans (by decide)
                        show Ends _ _ _ _ T0 (mkF m 28 #[.val (.ref oa), .val (.int pc), .val (.int (0 : Int32)), .val (.int (15 : Int32)), .val (.int z1), .val (.int (11 : Int32))] [])
                        refine ow_goto X0 hx (hb hby d_jdk_43m23_28) (by decide) (pc' := 7) (by decide) ?_
                        refine ow_iload X0 hx (hb hby d_jdk_43m23_7) rfl (pc' := 9) rfl ?_
                        refine ow_iloadN X0 hx (hb hby d_jdk_43m23_9) rfl (pc' := 10) rfl ?_
                        refine ow_icmpN X0 hx (hb hby d_jdk_43m23_10) (by decide) (pc' := 13) rfl ?_
                        refine ow_aloadN X0 hx (hb hby d_jdk_43m23_13) rfl rfl (pc' := 14) rfl ?_
                        refine ow_iload X0 hx (hb hby d_jdk_43m23_14) rfl (pc' := 16) rfl ?_
                        refine ow_ldB X0 hx hZ e0 V_a (by decide) (by decide) rfl (hb hby d_jdk_43m23_16) (pc' := 17) rfl ?_
                        refine ow_iload X0 hx (hb hby d_jdk_43m23_17) rfl (pc' := 19) rfl ?_
                        refine ow_icmp_ne X0 hx ((95 : Int)) (z1.toInt) (hb hby d_jdk_43m23_19) rfl rfl (by decide) (pt := 25) (by decide) (pf := 22) rfl (fun c19 => ?_) (fun c19 => ?_)
                        · refine ow_iinc X0 hx (Ls' := #[.val (.ref oa), .val (.int pc), .val (.int (0 : Int32)), .val (.int (15 : Int32)), .val (.int z1), .val (.int (11 : Int32))]) (hb hby d_jdk_43m23_25) rfl (fun z => rfl) (pc' := 28) rfl (fun z13 hz13 => ?_)
                          obtain rfl : z13 = (12 : Int32) := hz13.trans (by decide)
                          show Ends _ _ _ _ T0 (mkF m 28 #[.val (.ref oa), .val (.int pc), .val (.int (0 : Int32)), .val (.int (15 : Int32)), .val (.int z1), .val (.int (12 : Int32))] [])
                          refine ow_goto X0 hx (hb hby d_jdk_43m23_28) (by decide) (pc' := 7) (by decide) ?_
                          refine ow_iload X0 hx (hb hby d_jdk_43m23_7) rfl (pc' := 9) rfl ?_
                          refine ow_iloadN X0 hx (hb hby d_jdk_43m23_9) rfl (pc' := 10) rfl ?_
                          refine ow_icmpN X0 hx (hb hby d_jdk_43m23_10) (by decide) (pc' := 13) rfl ?_
                          refine ow_aloadN X0 hx (hb hby d_jdk_43m23_13) rfl rfl (pc' := 14) rfl ?_
                          refine ow_iload X0 hx (hb hby d_jdk_43m23_14) rfl (pc' := 16) rfl ?_
                          refine ow_ldB X0 hx hZ e0 V_a (by decide) (by decide) rfl (hb hby d_jdk_43m23_16) (pc' := 17) rfl ?_
                          refine ow_iload X0 hx (hb hby d_jdk_43m23_17) rfl (pc' := 19) rfl ?_
                          refine ow_icmp_ne X0 hx ((96 : Int)) (z1.toInt) (hb hby d_jdk_43m23_19) rfl rfl (by decide) (pt := 25) (by decide) (pf := 22) rfl (fun c19 => ?_) (fun c19 => ?_)
                          · refine ow_iinc X0 hx (Ls' := #[.val (.ref oa), .val (.int pc), .val (.int (0 : Int32)), .val (.int (15 : Int32)), .val (.int z1), .val (.int (12 : Int32))]) (hb hby d_jdk_43m23_25) rfl (fun z => rfl) (pc' := 28) rfl (fun z14 hz14 => ?_)
                            obtain rfl : z14 = (13 : Int32) := hz14.trans (by decide)
                            show Ends _ _ _ _ T0 (mkF m 28 #[.val (.ref oa), .val (.int pc), .val (.int (0 : Int32)), .val (.int (15 : Int32)), .val (.int z1), .val (.int (13 : Int32))] [])
                            refine ow_goto X0 hx (hb hby d_jdk_43m23_28) (by decide) (pc' := 7) (by decide) ?_
                            refine ow_iload X0 hx (hb hby d_jdk_43m23_7) rfl (pc' := 9) rfl ?_
                            refine ow_iloadN X0 hx (hb hby d_jdk_43m23_9) rfl (pc' := 10) rfl ?_
                            refine ow_icmpN X0 hx (hb hby d_jdk_43m23_10) (by decide) (pc' := 13) rfl ?_
                            refine ow_aloadN X0 hx (hb hby d_jdk_43m23_13) rfl rfl (pc' := 14) rfl ?_
                            refine ow_iload X0 hx (hb hby d_jdk_43m23_14) rfl (pc' := 16) rfl ?_
                            refine ow_ldB X0 hx hZ e0 V_a (by decide) (by decide) rfl (hb hby d_jdk_43m23_16) (pc' := 17) rfl ?_
                            refine ow_iload X0 hx (hb hby d_jdk_43m23_17) rfl (pc' := 19) rfl ?_
                            refine ow_icmp_ne X0 hx ((124 : Int)) (z1.toInt) (hb hby d_jdk_43m23_19) rfl rfl (by decide) (pt := 25) (by decide) (pf := 22) rfl (fun c19 => ?_) (fun c19 => ?_)
                            · refine ow_iinc X0 hx (Ls' := #[.val (.ref oa), .val (.int pc), .val (.int (0 : Int32)), .val (.int (15 : Int32)), .val (.int z1), .val (.int (13 : Int32))]) (hb hby d_jdk_43m23_25) rfl (fun z => rfl) (pc' := 28) rfl (fun z15 hz15 => ?_)
                              obtain rfl : z15 = (14 : Int32) := hz15.trans (by decide)
                              show Ends _ _ _ _ T0 (mkF m 28 #[.val (.ref oa), .val (.int pc), .val (.int (0 : Int32)), .val (.int (15 : Int32)), .val (.int z1), .val (.int (14 : Int32))] [])
                              refine ow_goto X0 hx (hb hby d_jdk_43m23_28) (by decide) (pc' := 7) (by decide) ?_
                              refine ow_iload X0 hx (hb hby d_jdk_43m23_7) rfl (pc' := 9) rfl ?_
                              refine ow_iloadN X0 hx (hb hby d_jdk_43m23_9) rfl (pc' := 10) rfl ?_
                              refine ow_icmpN X0 hx (hb hby d_jdk_43m23_10) (by decide) (pc' := 13) rfl ?_
                              refine ow_aloadN X0 hx (hb hby d_jdk_43m23_13) rfl rfl (pc' := 14) rfl ?_
                              refine ow_iload X0 hx (hb hby d_jdk_43m23_14) rfl (pc' := 16) rfl ?_
                              refine ow_ldB X0 hx hZ e0 V_a (by decide) (by decide) rfl (hb hby d_jdk_43m23_16) (pc' := 17) rfl ?_
                              refine ow_iload X0 hx (hb hby d_jdk_43m23_17) rfl (pc' := 19) rfl ?_
                              refine ow_icmp_ne X0 hx ((126 : Int)) (z1.toInt) (hb hby d_jdk_43m23_19) rfl rfl (by decide) (pt := 25) (by decide) (pf := 22) rfl (fun c19 => ?_) (fun c19 => ?_)
                              · refine ow_iinc X0 hx (Ls' := #[.val (.ref oa), .val (.int pc), .val (.int (0 : Int32)), .val (.int (15 : Int32)), .val (.int z1), .val (.int (14 : Int32))]) (hb hby d_jdk_43m23_25) rfl (fun z => rfl) (pc' := 28) rfl (fun z16 hz16 => ?_)
                                obtain rfl : z16 = (15 : Int32) := hz16.trans (by decide)
                                show Ends _ _ _ _ T0 (mkF m 28 #[.val (.ref oa), .val (.int pc), .val (.int (0 : Int32)), .val (.int (15 : Int32)), .val (.int z1), .val (.int (15 : Int32))] [])
                                refine ow_goto X0 hx (hb hby d_jdk_43m23_28) (by decide) (pc' := 7) (by decide) ?_
                                refine ow_iload X0 hx (hb hby d_jdk_43m23_7) rfl (pc' := 9) rfl ?_
                                refine ow_iloadN X0 hx (hb hby d_jdk_43m23_9) rfl (pc' := 10) rfl ?_
                                refine ow_icmpY X0 hx (hb hby d_jdk_43m23_10) (by decide) (by decide) (pc' := 31) (by decide) ?_
                                refine ow_iconst X0 hx (z := (-1 : Int32)) (hb hby d_jdk_43m23_31) rfl (pc' := 32) rfl ?_
                                exact ow_retI X0 hx hret hlk (hb hby d_jdk_43m23_32) (by decide) (by decide) ⟨(-1 : Int32), rfl, (show ((pc.toInt = 33 ∨ pc.toInt = 35 ∨ pc.toInt = 36 ∨ pc.toInt = 37 ∨ pc.toInt = 38 ∨ pc.toInt = 39 ∨ pc.toInt = 42 ∨ pc.toInt = 43 ∨ pc.toInt = 45 ∨ pc.toInt = 46 ∨ pc.toInt = 94 ∨ pc.toInt = 95 ∨ pc.toInt = 96 ∨ pc.toInt = 124 ∨ pc.toInt = 126) ∧ 0 ≤ (-1 : Int)) ∨ (¬ (pc.toInt = 33 ∨ pc.toInt = 35 ∨ pc.toInt = 36 ∨ pc.toInt = 37 ∨ pc.toInt = 38 ∨ pc.toInt = 39 ∨ pc.toInt = 42 ∨ pc.toInt = 43 ∨ pc.toInt = 45 ∨ pc.toInt = 46 ∨ pc.toInt = 94 ∨ pc.toInt = 95 ∨ pc.toInt = 96 ∨ pc.toInt = 124 ∨ pc.toInt = 126) ∧ (-1 : Int) = -1) from by omega), rfl, e0⟩
                              · refine ow_iload X0 hx (hb hby d_jdk_43m23_22) rfl (pc' := 24) rfl ?_
                                exact ow_retI X0 hx hret hlk (hb hby d_jdk_43m23_24) (by decide) (by decide) ⟨(14 : Int32), rfl, (show ((pc.toInt = 33 ∨ pc.toInt = 35 ∨ pc.toInt = 36 ∨ pc.toInt = 37 ∨ pc.toInt = 38 ∨ pc.toInt = 39 ∨ pc.toInt = 42 ∨ pc.toInt = 43 ∨ pc.toInt = 45 ∨ pc.toInt = 46 ∨ pc.toInt = 94 ∨ pc.toInt = 95 ∨ pc.toInt = 96 ∨ pc.toInt = 124 ∨ pc.toInt = 126) ∧ 0 ≤ (14 : Int)) ∨ (¬ (pc.toInt = 33 ∨ pc.toInt = 35 ∨ pc.toInt = 36 ∨ pc.toInt = 37 ∨ pc.toInt = 38 ∨ pc.toInt = 39 ∨ pc.toInt = 42 ∨ pc.toInt = 43 ∨ pc.toInt = 45 ∨ pc.toInt = 46 ∨ pc.toInt = 94 ∨ pc.toInt = 95 ∨ pc.toInt = 96 ∨ pc.toInt = 124 ∨ pc.toInt = 126) ∧ (14 : Int) = -1) from by omega), rfl, e0⟩
                            · refine ow_iload X0 hx (hb hby d_jdk_43m23_22) rfl (pc' := 24) rfl ?_
                              exact ow_retI X0 hx hret hlk (hb hby d_jdk_43m23_24) (by decide) (by decide) ⟨(13 : Int32), rfl, (show ((pc.toInt = 33 ∨ pc.toInt = 35 ∨ pc.toInt = 36 ∨ pc.toInt = 37 ∨ pc.toInt = 38 ∨ pc.toInt = 39 ∨ pc.toInt = 42 ∨ pc.toInt = 43 ∨ pc.toInt = 45 ∨ pc.toInt = 46 ∨ pc.toInt = 94 ∨ pc.toInt = 95 ∨ pc.toInt = 96 ∨ pc.toInt = 124 ∨ pc.toInt = 126) ∧ 0 ≤ (13 : Int)) ∨ (¬ (pc.toInt = 33 ∨ pc.toInt = 35 ∨ pc.toInt = 36 ∨ pc.toInt = 37 ∨ pc.toInt = 38 ∨ pc.toInt = 39 ∨ pc.toInt = 42 ∨ pc.toInt = 43 ∨ pc.toInt = 45 ∨ pc.toInt = 46 ∨ pc.toInt = 94 ∨ pc.toInt = 95 ∨ pc.toInt = 96 ∨ pc.toInt = 124 ∨ pc.toInt = 126) ∧ (13 : Int) = -1) from by omega), rfl, e0⟩
                          · refine ow_iload X0 hx (hb hby d_jdk_43m23_22) rfl (pc' := 24) rfl ?_
                            exact ow_retI X0 hx hret hlk (hb hby d_jdk_43m23_24) (by decide) (by decide) ⟨(12 : Int32), rfl, (show ((pc.toInt = 33 ∨ pc.toInt = 35 ∨ pc.toInt = 36 ∨ pc.toInt = 37 ∨ pc.toInt = 38 ∨ pc.toInt = 39 ∨ pc.toInt = 42 ∨ pc.toInt = 43 ∨ pc.toInt = 45 ∨ pc.toInt = 46 ∨ pc.toInt = 94 ∨ pc.toInt = 95 ∨ pc.toInt = 96 ∨ pc.toInt = 124 ∨ pc.toInt = 126) ∧ 0 ≤ (12 : Int)) ∨ (¬ (pc.toInt = 33 ∨ pc.toInt = 35 ∨ pc.toInt = 36 ∨ pc.toInt = 37 ∨ pc.toInt = 38 ∨ pc.toInt = 39 ∨ pc.toInt = 42 ∨ pc.toInt = 43 ∨ pc.toInt = 45 ∨ pc.toInt = 46 ∨ pc.toInt = 94 ∨ pc.toInt = 95 ∨ pc.toInt = 96 ∨ pc.toInt = 124 ∨ pc.toInt = 126) ∧ (12 : Int) = -1) from by omega), rfl, e0⟩
                        · refine ow_iload X0 hx (hb hby d_jdk_43m23_22) rfl (pc' := 24) rfl ?_
                          exact ow_retI X0 hx hret hlk (hb hby d_jdk_43m23_24) (by decide) (by decide) ⟨(11 : Int32), rfl, (show ((pc.toInt = 33 ∨ pc.toInt = 35 ∨ pc.toInt = 36 ∨ pc.toInt = 37 ∨ pc.toInt = 38 ∨ pc.toInt = 39 ∨ pc.toInt = 42 ∨ pc.toInt = 43 ∨ pc.toInt = 45 ∨ pc.toInt = 46 ∨ pc.toInt = 94 ∨ pc.toInt = 95 ∨ pc.toInt = 96 ∨ pc.toInt = 124 ∨ pc.toInt = 126) ∧ 0 ≤ (11 : Int)) ∨ (¬ (pc.toInt = 33 ∨ pc.toInt = 35 ∨ pc.toInt = 36 ∨ pc.toInt = 37 ∨ pc.toInt = 38 ∨ pc.toInt = 39 ∨ pc.toInt = 42 ∨ pc.toInt = 43 ∨ pc.toInt = 45 ∨ pc.toInt = 46 ∨ pc.toInt = 94 ∨ pc.toInt = 95 ∨ pc.toInt = 96 ∨ pc.toInt = 124 ∨ pc.toInt = 126) ∧ (11 : Int) = -1) from by omega), rfl, e0⟩
                      · refine ow_iload X0 hx (hb hby d_jdk_43m23_22) rfl (pc' := 24) rfl ?_
                        exact ow_retI X0 hx hret hlk (hb hby d_jdk_43m23_24) (by decide) (by decide) ⟨(10 : Int32), rfl, (show ((pc.toInt = 33 ∨ pc.toInt = 35 ∨ pc.toInt = 36 ∨ pc.toInt = 37 ∨ pc.toInt = 38 ∨ pc.toInt = 39 ∨ pc.toInt = 42 ∨ pc.toInt = 43 ∨ pc.toInt = 45 ∨ pc.toInt = 46 ∨ pc.toInt = 94 ∨ pc.toInt = 95 ∨ pc.toInt = 96 ∨ pc.toInt = 124 ∨ pc.toInt = 126) ∧ 0 ≤ (10 : Int)) ∨ (¬ (pc.toInt = 33 ∨ pc.toInt = 35 ∨ pc.toInt = 36 ∨ pc.toInt = 37 ∨ pc.toInt = 38 ∨ pc.toInt = 39 ∨ pc.toInt = 42 ∨ pc.toInt = 43 ∨ pc.toInt = 45 ∨ pc.toInt = 46 ∨ pc.toInt = 94 ∨ pc.toInt = 95 ∨ pc.toInt = 96 ∨ pc.toInt = 124 ∨ pc.toInt = 126) ∧ (10 : Int) = -1) from by omega), rfl, e0⟩
                    · refine ow_iload X0 hx (hb hby d_jdk_43m23_22) rfl (pc' := 24) rfl ?_
                      exact ow_retI X0 hx hret hlk (hb hby d_jdk_43m23_24) (by decide) (by decide) ⟨(9 : Int32), rfl, (show ((pc.toInt = 33 ∨ pc.toInt = 35 ∨ pc.toInt = 36 ∨ pc.toInt = 37 ∨ pc.toInt = 38 ∨ pc.toInt = 39 ∨ pc.toInt = 42 ∨ pc.toInt = 43 ∨ pc.toInt = 45 ∨ pc.toInt = 46 ∨ pc.toInt = 94 ∨ pc.toInt = 95 ∨ pc.toInt = 96 ∨ pc.toInt = 124 ∨ pc.toInt = 126) ∧ 0 ≤ (9 : Int)) ∨ (¬ (pc.toInt = 33 ∨ pc.toInt = 35 ∨ pc.toInt = 36 ∨ pc.toInt = 37 ∨ pc.toInt = 38 ∨ pc.toInt = 39 ∨ pc.toInt = 42 ∨ pc.toInt = 43 ∨ pc.toInt = 45 ∨ pc.toInt = 46 ∨ pc.toInt = 94 ∨ pc.toInt = 95 ∨ pc.toInt = 96 ∨ pc.toInt = 124 ∨ pc.toInt = 126) ∧ (9 : Int) = -1) from by omega), rfl, e0⟩
                  · refine ow_iload X0 hx (hb hby d_jdk_43m23_22) rfl (pc' := 24) rfl ?_
                    exact ow_retI X0 hx hret hlk (hb hby d_jdk_43m23_24) (by decide) (by decide) ⟨(8 : Int32), rfl, (show ((pc.toInt = 33 ∨ pc.toInt = 35 ∨ pc.toInt = 36 ∨ pc.toInt = 37 ∨ pc.toInt = 38 ∨ pc.toInt = 39 ∨ pc.toInt = 42 ∨ pc.toInt = 43 ∨ pc.toInt = 45 ∨ pc.toInt = 46 ∨ pc.toInt = 94 ∨ pc.toInt = 95 ∨ pc.toInt = 96 ∨ pc.toInt = 124 ∨ pc.toInt = 126) ∧ 0 ≤ (8 : Int)) ∨ (¬ (pc.toInt = 33 ∨ pc.toInt = 35 ∨ pc.toInt = 36 ∨ pc.toInt = 37 ∨ pc.toInt = 38 ∨ pc.toInt = 39 ∨ pc.toInt = 42 ∨ pc.toInt = 43 ∨ pc.toInt = 45 ∨ pc.toInt = 46 ∨ pc.toInt = 94 ∨ pc.toInt = 95 ∨ pc.toInt = 96 ∨ pc.toInt = 124 ∨ pc.toInt = 126) ∧ (8 : Int) = -1) from by omega), rfl, e0⟩
                · refine ow_iload X0 hx (hb hby d_jdk_43m23_22) rfl (pc' := 24) rfl ?_
                  exact ow_retI X0 hx hret hlk (hb hby d_jdk_43m23_24) (by decide) (by decide) ⟨(7 : Int32), rfl, (show ((pc.toInt = 33 ∨ pc.toInt = 35 ∨ pc.toInt = 36 ∨ pc.toInt = 37 ∨ pc.toInt = 38 ∨ pc.toInt = 39 ∨ pc.toInt = 42 ∨ pc.toInt = 43 ∨ pc.toInt = 45 ∨ pc.toInt = 46 ∨ pc.toInt = 94 ∨ pc.toInt = 95 ∨ pc.toInt = 96 ∨ pc.toInt = 124 ∨ pc.toInt = 126) ∧ 0 ≤ (7 : Int)) ∨ (¬ (pc.toInt = 33 ∨ pc.toInt = 35 ∨ pc.toInt = 36 ∨ pc.toInt = 37 ∨ pc.toInt = 38 ∨ pc.toInt = 39 ∨ pc.toInt = 42 ∨ pc.toInt = 43 ∨ pc.toInt = 45 ∨ pc.toInt = 46 ∨ pc.toInt = 94 ∨ pc.toInt = 95 ∨ pc.toInt = 96 ∨ pc.toInt = 124 ∨ pc.toInt = 126) ∧ (7 : Int) = -1) from by omega), rfl, e0⟩
              · refine ow_iload X0 hx (hb hby d_jdk_43m23_22) rfl (pc' := 24) rfl ?_
                exact ow_retI X0 hx hret hlk (hb hby d_jdk_43m23_24) (by decide) (by decide) ⟨(6 : Int32), rfl, (show ((pc.toInt = 33 ∨ pc.toInt = 35 ∨ pc.toInt = 36 ∨ pc.toInt = 37 ∨ pc.toInt = 38 ∨ pc.toInt = 39 ∨ pc.toInt = 42 ∨ pc.toInt = 43 ∨ pc.toInt = 45 ∨ pc.toInt = 46 ∨ pc.toInt = 94 ∨ pc.toInt = 95 ∨ pc.toInt = 96 ∨ pc.toInt = 124 ∨ pc.toInt = 126) ∧ 0 ≤ (6 : Int)) ∨ (¬ (pc.toInt = 33 ∨ pc.toInt = 35 ∨ pc.toInt = 36 ∨ pc.toInt = 37 ∨ pc.toInt = 38 ∨ pc.toInt = 39 ∨ pc.toInt = 42 ∨ pc.toInt = 43 ∨ pc.toInt = 45 ∨ pc.toInt = 46 ∨ pc.toInt = 94 ∨ pc.toInt = 95 ∨ pc.toInt = 96 ∨ pc.toInt = 124 ∨ pc.toInt = 126) ∧ (6 : Int) = -1) from by omega), rfl, e0⟩
            · refine ow_iload X0 hx (hb hby d_jdk_43m23_22) rfl (pc' := 24) rfl ?_
              exact ow_retI X0 hx hret hlk (hb hby d_jdk_43m23_24) (by decide) (by decide) ⟨(5 : Int32), rfl, (show ((pc.toInt = 33 ∨ pc.toInt = 35 ∨ pc.toInt = 36 ∨ pc.toInt = 37 ∨ pc.toInt = 38 ∨ pc.toInt = 39 ∨ pc.toInt = 42 ∨ pc.toInt = 43 ∨ pc.toInt = 45 ∨ pc.toInt = 46 ∨ pc.toInt = 94 ∨ pc.toInt = 95 ∨ pc.toInt = 96 ∨ pc.toInt = 124 ∨ pc.toInt = 126) ∧ 0 ≤ (5 : Int)) ∨ (¬ (pc.toInt = 33 ∨ pc.toInt = 35 ∨ pc.toInt = 36 ∨ pc.toInt = 37 ∨ pc.toInt = 38 ∨ pc.toInt = 39 ∨ pc.toInt = 42 ∨ pc.toInt = 43 ∨ pc.toInt = 45 ∨ pc.toInt = 46 ∨ pc.toInt = 94 ∨ pc.toInt = 95 ∨ pc.toInt = 96 ∨ pc.toInt = 124 ∨ pc.toInt = 126) ∧ (5 : Int) = -1) from by omega), rfl, e0⟩
          · refine ow_iload X0 hx (hb hby d_jdk_43m23_22) rfl (pc' := 24) rfl ?_
            exact ow_retI X0 hx hret hlk (hb hby d_jdk_43m23_24) (by decide) (by decide) ⟨(4 : Int32), rfl, (show ((pc.toInt = 33 ∨ pc.toInt = 35 ∨ pc.toInt = 36 ∨ pc.toInt = 37 ∨ pc.toInt = 38 ∨ pc.toInt = 39 ∨ pc.toInt = 42 ∨ pc.toInt = 43 ∨ pc.toInt = 45 ∨ pc.toInt = 46 ∨ pc.toInt = 94 ∨ pc.toInt = 95 ∨ pc.toInt = 96 ∨ pc.toInt = 124 ∨ pc.toInt = 126) ∧ 0 ≤ (4 : Int)) ∨ (¬ (pc.toInt = 33 ∨ pc.toInt = 35 ∨ pc.toInt = 36 ∨ pc.toInt = 37 ∨ pc.toInt = 38 ∨ pc.toInt = 39 ∨ pc.toInt = 42 ∨ pc.toInt = 43 ∨ pc.toInt = 45 ∨ pc.toInt = 46 ∨ pc.toInt = 94 ∨ pc.toInt = 95 ∨ pc.toInt = 96 ∨ pc.toInt = 124 ∨ pc.toInt = 126) ∧ (4 : Int) = -1) from by omega), rfl, e0⟩
        · refine ow_iload X0 hx (hb hby d_jdk_43m23_22) rfl (pc' := 24) rfl ?_
          exact ow_retI X0 hx hret hlk (hb hby d_jdk_43m23_24) (by decide) (by decide) ⟨(3 : Int32), rfl, (show ((pc.toInt = 33 ∨ pc.toInt = 35 ∨ pc.toInt = 36 ∨ pc.toInt = 37 ∨ pc.toInt = 38 ∨ pc.toInt = 39 ∨ pc.toInt = 42 ∨ pc.toInt = 43 ∨ pc.toInt = 45 ∨ pc.toInt = 46 ∨ pc.toInt = 94 ∨ pc.toInt = 95 ∨ pc.toInt = 96 ∨ pc.toInt = 124 ∨ pc.toInt = 126) ∧ 0 ≤ (3 : Int)) ∨ (¬ (pc.toInt = 33 ∨ pc.toInt = 35 ∨ pc.toInt = 36 ∨ pc.toInt = 37 ∨ pc.toInt = 38 ∨ pc.toInt = 39 ∨ pc.toInt = 42 ∨ pc.toInt = 43 ∨ pc.toInt = 45 ∨ pc.toInt = 46 ∨ pc.toInt = 94 ∨ pc.toInt = 95 ∨ pc.toInt = 96 ∨ pc.toInt = 124 ∨ pc.toInt = 126) ∧ (3 : Int) = -1) from by omega), rfl, e0⟩
      · refine ow_iload X0 hx (hb hby d_jdk_43m23_22) rfl (pc' := 24) rfl ?_
        exact ow_retI X0 hx hret hlk (hb hby d_jdk_43m23_24) (by decide) (by decide) ⟨(2 : Int32), rfl, (show ((pc.toInt = 33 ∨ pc.toInt = 35 ∨ pc.toInt = 36 ∨ pc.toInt = 37 ∨ pc.toInt = 38 ∨ pc.toInt = 39 ∨ pc.toInt = 42 ∨ pc.toInt = 43 ∨ pc.toInt = 45 ∨ pc.toInt = 46 ∨ pc.toInt = 94 ∨ pc.toInt = 95 ∨ pc.toInt = 96 ∨ pc.toInt = 124 ∨ pc.toInt = 126) ∧ 0 ≤ (2 : Int)) ∨ (¬ (pc.toInt = 33 ∨ pc.toInt = 35 ∨ pc.toInt = 36 ∨ pc.toInt = 37 ∨ pc.toInt = 38 ∨ pc.toInt = 39 ∨ pc.toInt = 42 ∨ pc.toInt = 43 ∨ pc.toInt = 45 ∨ pc.toInt = 46 ∨ pc.toInt = 94 ∨ pc.toInt = 95 ∨ pc.toInt = 96 ∨ pc.toInt = 124 ∨ pc.toInt = 126) ∧ (2 : Int) = -1) from by omega), rfl, e0⟩
    · refine ow_iload X0 hx (hb hby d_jdk_43m23_22) rfl (pc' := 24) rfl ?_
      exact ow_retI X0 hx hret hlk (hb hby d_jdk_43m23_24) (by decide) (by decide) ⟨(1 : Int32), rfl, (show ((pc.toInt = 33 ∨ pc.toInt = 35 ∨ pc.toInt = 36 ∨ pc.toInt = 37 ∨ pc.toInt = 38 ∨ pc.toInt = 39 ∨ pc.toInt = 42 ∨ pc.toInt = 43 ∨ pc.toInt = 45 ∨ pc.toInt = 46 ∨ pc.toInt = 94 ∨ pc.toInt = 95 ∨ pc.toInt = 96 ∨ pc.toInt = 124 ∨ pc.toInt = 126) ∧ 0 ≤ (1 : Int)) ∨ (¬ (pc.toInt = 33 ∨ pc.toInt = 35 ∨ pc.toInt = 36 ∨ pc.toInt = 37 ∨ pc.toInt = 38 ∨ pc.toInt = 39 ∨ pc.toInt = 42 ∨ pc.toInt = 43 ∨ pc.toInt = 45 ∨ pc.toInt = 46 ∨ pc.toInt = 94 ∨ pc.toInt = 95 ∨ pc.toInt = 96 ∨ pc.toInt = 124 ∨ pc.toInt = 126) ∧ (1 : Int) = -1) from by omega), rfl, e0⟩
  · refine ow_iload X0 hx (hb hby d_jdk_43m23_22) rfl (pc' := 24) rfl ?_
    exact ow_retI X0 hx hret hlk (hb hby d_jdk_43m23_24) (by decide) (by decide) ⟨(0 : Int32), rfl, (show ((pc.toInt = 33 ∨ pc.toInt = 35 ∨ pc.toInt = 36 ∨ pc.toInt = 37 ∨ pc.toInt = 38 ∨ pc.toInt = 39 ∨ pc.toInt = 42 ∨ pc.toInt = 43 ∨ pc.toInt = 45 ∨ pc.toInt = 46 ∨ pc.toInt = 94 ∨ pc.toInt = 95 ∨ pc.toInt = 96 ∨ pc.toInt = 124 ∨ pc.toInt = 126) ∧ 0 ≤ (0 : Int)) ∨ (¬ (pc.toInt = 33 ∨ pc.toInt = 35 ∨ pc.toInt = 36 ∨ pc.toInt = 37 ∨ pc.toInt = 38 ∨ pc.toInt = 39 ∨ pc.toInt = 42 ∨ pc.toInt = 43 ∨ pc.toInt = 45 ∨ pc.toInt = 46 ∨ pc.toInt = 94 ∨ pc.toInt = 95 ∨ pc.toInt = 96 ∨ pc.toInt = 124 ∨ pc.toInt = 126) ∧ (0 : Int) = -1) from by omega), rfl, e0⟩
theorem d_jdk_43m4_0 : decode jdk_43_method_4_code 0 = .ok (.iload_n 0, 1) := by decide +kernel
theorem d_jdk_43m4_1 : decode jdk_43_method_4_code 1 = .ok (.ifCond .lt 14, 3) := by decide +kernel
theorem d_jdk_43m4_4 : decode jdk_43_method_4_code 4 = .ok (.iload_n 0, 1) := by decide +kernel
theorem d_jdk_43m4_5 : decode jdk_43_method_4_code 5 = .ok (.sipush 255, 3) := by decide +kernel
theorem d_jdk_43m4_8 : decode jdk_43_method_4_code 8 = .ok (.if_icmp .gt 7, 3) := by decide +kernel
theorem d_jdk_43m4_11 : decode jdk_43_method_4_code 11 = .ok (.iconst 1, 1) := by decide +kernel
theorem d_jdk_43m4_12 : decode jdk_43_method_4_code 12 = .ok (.goto 4, 3) := by decide +kernel
theorem d_jdk_43m4_15 : decode jdk_43_method_4_code 15 = .ok (.iconst 0, 1) := by decide +kernel
theorem d_jdk_43m4_16 : decode jdk_43_method_4_code 16 = .ok (.ireturn, 1) := by decide +kernel
theorem ef_canEnc (m : MethodId) (x0 : Int32) : entryFrame m #[(.int x0)] 1 = mkF m 0 #[.val (.int x0)] [] := by first | (simp [entryFrame, mkF, argsToLocals, Value.category]; done) | rfl
set_option maxRecDepth 65536 in
set_option maxHeartbeats 40000000 in
theorem rm_canEnc (l : Launch) (Z : State) (a0 : Array Value) (hw : ∀ d ∈ tables_1, d.before a0 Z = true) (ws : List Jvm.Cond) (pc : Int32) (h0 : Heap) :
    MetFree l (⟨"java/lang/StringLatin1", "canEncode", "(I)Z"⟩ : MethodName) (head1 (Jvm.Cond.code (⟨"java/lang/StringLatin1", "canEncode", "(I)Z"⟩ : MethodName) jdk_43_method_4_code 1 (some .boolean) :: ws) ({ frames := 0, cells := 0, slots := 0, locals := 0 } : Room)) (fun a_ U_ => a_ = #[(.int pc)] ∧ Z.Warmed39 U_.vm ∧ U_.heap = h0) (fun _ _ _ _ _ => True) (fun _ U_ o_ U_' => ∃ v_ L_, o_ = .returned v_ ∧ (QI (fun z => ((0 ≤ pc.toInt ∧ pc.toInt ≤ 255) ∧ z.toInt = 1) ∨ (¬ (0 ≤ pc.toInt ∧ pc.toInt ≤ 255) ∧ z.toInt = 0)) h0) v_ U_'.heap L_ ∧ FrameEnd U_ o_ U_' L_ 0 0) := by
  refine ow_body (plainFor_of_name pn_0) ?_
  intro p e s m below meth c T0 X0 hx hZ hby hml hown hnm hret hlk e0
  refine Ends.cast (ef_canEnc m pc) ?_
  have r_pc := rng32 pc
  refine ow_iloadN X0 hx (hb hby d_jdk_43m4_0) rfl (pc' := 1) rfl ?_
  refine ow_if_lt X0 hx (pc.toInt) (hb hby d_jdk_43m4_1) rfl (by decide) (pt := 15) (by decide) (pf := 4) rfl (fun c1 => ?_) (fun c1 => ?_)
  · refine ow_iconst X0 hx (z := (0 : Int32)) (hb hby d_jdk_43m4_15) rfl (pc' := 16) rfl ?_
    exact ow_retB X0 hx hret hlk (hb hby d_jdk_43m4_16) (by decide) (by decide) (z' := (0 : Int32)) rfl ⟨(0 : Int32), rfl, (show ((0 ≤ pc.toInt ∧ pc.toInt ≤ 255) ∧ (0 : Int) = 1) ∨ (¬ (0 ≤ pc.toInt ∧ pc.toInt ≤ 255) ∧ (0 : Int) = 0) from by omega), rfl, e0⟩
  · refine ow_iloadN X0 hx (hb hby d_jdk_43m4_4) rfl (pc' := 5) rfl ?_
    refine ow_sipush X0 hx (z := (255 : Int32)) (hb hby d_jdk_43m4_5) rfl (pc' := 8) rfl ?_
    refine ow_icmp_gt X0 hx (pc.toInt) ((255 : Int)) (hb hby d_jdk_43m4_8) rfl rfl (by decide) (pt := 15) (by decide) (pf := 11) rfl (fun c8 => ?_) (fun c8 => ?_)
    · refine ow_iconst X0 hx (z := (0 : Int32)) (hb hby d_jdk_43m4_15) rfl (pc' := 16) rfl ?_
      exact ow_retB X0 hx hret hlk (hb hby d_jdk_43m4_16) (by decide) (by decide) (z' := (0 : Int32)) rfl ⟨(0 : Int32), rfl, (show ((0 ≤ pc.toInt ∧ pc.toInt ≤ 255) ∧ (0 : Int) = 1) ∨ (¬ (0 ≤ pc.toInt ∧ pc.toInt ≤ 255) ∧ (0 : Int) = 0) from by omega), rfl, e0⟩
    · refine ow_iconst X0 hx (z := (1 : Int32)) (hb hby d_jdk_43m4_11) rfl (pc' := 12) rfl ?_
      refine ow_goto X0 hx (hb hby d_jdk_43m4_12) (by decide) (pc' := 16) (by decide) ?_
      exact ow_retB X0 hx hret hlk (hb hby d_jdk_43m4_16) (by decide) (by decide) (z' := (1 : Int32)) rfl ⟨(1 : Int32), rfl, (show ((0 ≤ pc.toInt ∧ pc.toInt ≤ 255) ∧ (1 : Int) = 1) ∨ (¬ (0 ≤ pc.toInt ∧ pc.toInt ≤ 255) ∧ (1 : Int) = 0) from by omega), rfl, e0⟩
theorem d_jdk_29m65_0 : decode jdk_29_method_65_code 0 = .ok (.iload_n 0, 1) := by decide +kernel
theorem d_jdk_29m65_1 : decode jdk_29_method_65_code 1 = .ok (.iload_n 1, 1) := by decide +kernel
theorem d_jdk_29m65_2 : decode jdk_29_method_65_code 2 = .ok (.if_icmp .lt 7, 3) := by decide +kernel
theorem d_jdk_29m65_5 : decode jdk_29_method_65_code 5 = .ok (.iload_n 0, 1) := by decide +kernel
theorem d_jdk_29m65_6 : decode jdk_29_method_65_code 6 = .ok (.goto 4, 3) := by decide +kernel
theorem d_jdk_29m65_9 : decode jdk_29_method_65_code 9 = .ok (.iload_n 1, 1) := by decide +kernel
theorem d_jdk_29m65_10 : decode jdk_29_method_65_code 10 = .ok (.ireturn, 1) := by decide +kernel
theorem ef_maxI (m : MethodId) (x0 : Int32) (x1 : Int32) : entryFrame m #[(.int x0), (.int x1)] 2 = mkF m 0 #[.val (.int x0), .val (.int x1)] [] := by first | (simp [entryFrame, mkF, argsToLocals, Value.category]; done) | rfl
set_option maxRecDepth 65536 in
set_option maxHeartbeats 40000000 in
theorem rm_maxI (l : Launch) (Z : State) (a0 : Array Value) (hw : ∀ d ∈ tables_1, d.before a0 Z = true) (ws : List Jvm.Cond) (pa : Int32) (pb : Int32) (h0 : Heap) :
    MetFree l (⟨"java/lang/Math", "max", "(II)I"⟩ : MethodName) (head1 (Jvm.Cond.code (⟨"java/lang/Math", "max", "(II)I"⟩ : MethodName) jdk_29_method_65_code 2 (some .int) :: ws) ({ frames := 0, cells := 0, slots := 0, locals := 0 } : Room)) (fun a_ U_ => a_ = #[(.int pa), (.int pb)] ∧ Z.Warmed39 U_.vm ∧ U_.heap = h0) (fun _ _ _ _ _ => True) (fun _ U_ o_ U_' => ∃ v_ L_, o_ = .returned v_ ∧ (QI (fun z => (pa.toInt ≥ pb.toInt → z.toInt = pa.toInt) ∧ (pb.toInt ≥ pa.toInt → z.toInt = pb.toInt)) h0) v_ U_'.heap L_ ∧ FrameEnd U_ o_ U_' L_ 0 0) := by
  refine ow_body (Jvm.Free.JP.mathPlain rfl (by decide +kernel)) ?_
  intro p e s m below meth c T0 X0 hx hZ hby hml hown hnm hret hlk e0
  refine Ends.cast (ef_maxI m pa pb) ?_
  have r_pa := rng32 pa
  have r_pb := rng32 pb
  refine ow_iloadN X0 hx (hb hby d_jdk_29m65_0) rfl (pc' := 1) rfl ?_
  refine ow_iloadN X0 hx (hb hby d_jdk_29m65_1) rfl (pc' := 2) rfl ?_
  refine ow_icmp_lt X0 hx (pa.toInt) (pb.toInt) (hb hby d_jdk_29m65_2) rfl rfl (by decide) (pt := 9) (by decide) (pf := 5) rfl (fun c2 => ?_) (fun c2 => ?_)
  · refine ow_iloadN X0 hx (hb hby d_jdk_29m65_9) rfl (pc' := 10) rfl ?_
    exact ow_retI X0 hx hret hlk (hb hby d_jdk_29m65_10) (by decide) (by decide) ⟨pb, rfl, (show (pa.toInt ≥ pb.toInt → pb.toInt = pa.toInt) ∧ (pb.toInt ≥ pa.toInt → pb.toInt = pb.toInt) from by omega), rfl, e0⟩
  · refine ow_iloadN X0 hx (hb hby d_jdk_29m65_5) rfl (pc' := 6) rfl ?_
    refine ow_goto X0 hx (hb hby d_jdk_29m65_6) (by decide) (pc' := 10) (by decide) ?_
    exact ow_retI X0 hx hret hlk (hb hby d_jdk_29m65_10) (by decide) (by decide) ⟨pa, rfl, (show (pa.toInt ≥ pb.toInt → pa.toInt = pa.toInt) ∧ (pb.toInt ≥ pa.toInt → pa.toInt = pb.toInt) from by omega), rfl, e0⟩
theorem d_jdk_29m69_0 : decode jdk_29_method_69_code 0 = .ok (.iload_n 0, 1) := by decide +kernel
theorem d_jdk_29m69_1 : decode jdk_29_method_69_code 1 = .ok (.iload_n 1, 1) := by decide +kernel
theorem d_jdk_29m69_2 : decode jdk_29_method_69_code 2 = .ok (.if_icmp .gt 7, 3) := by decide +kernel
theorem d_jdk_29m69_5 : decode jdk_29_method_69_code 5 = .ok (.iload_n 0, 1) := by decide +kernel
theorem d_jdk_29m69_6 : decode jdk_29_method_69_code 6 = .ok (.goto 4, 3) := by decide +kernel
theorem d_jdk_29m69_9 : decode jdk_29_method_69_code 9 = .ok (.iload_n 1, 1) := by decide +kernel
theorem d_jdk_29m69_10 : decode jdk_29_method_69_code 10 = .ok (.ireturn, 1) := by decide +kernel
theorem ef_minI (m : MethodId) (x0 : Int32) (x1 : Int32) : entryFrame m #[(.int x0), (.int x1)] 2 = mkF m 0 #[.val (.int x0), .val (.int x1)] [] := by first | (simp [entryFrame, mkF, argsToLocals, Value.category]; done) | rfl
set_option maxRecDepth 65536 in
set_option maxHeartbeats 40000000 in
theorem rm_minI (l : Launch) (Z : State) (a0 : Array Value) (hw : ∀ d ∈ tables_1, d.before a0 Z = true) (ws : List Jvm.Cond) (pa : Int32) (pb : Int32) (h0 : Heap) :
    MetFree l (⟨"java/lang/Math", "min", "(II)I"⟩ : MethodName) (head1 (Jvm.Cond.code (⟨"java/lang/Math", "min", "(II)I"⟩ : MethodName) jdk_29_method_69_code 2 (some .int) :: ws) ({ frames := 0, cells := 0, slots := 0, locals := 0 } : Room)) (fun a_ U_ => a_ = #[(.int pa), (.int pb)] ∧ Z.Warmed39 U_.vm ∧ U_.heap = h0) (fun _ _ _ _ _ => True) (fun _ U_ o_ U_' => ∃ v_ L_, o_ = .returned v_ ∧ (QI (fun z => (pa.toInt ≤ pb.toInt → z.toInt = pa.toInt) ∧ (pb.toInt ≤ pa.toInt → z.toInt = pb.toInt)) h0) v_ U_'.heap L_ ∧ FrameEnd U_ o_ U_' L_ 0 0) := by
  refine ow_body (Jvm.Free.JP.mathPlain rfl (by decide +kernel)) ?_
  intro p e s m below meth c T0 X0 hx hZ hby hml hown hnm hret hlk e0
  refine Ends.cast (ef_minI m pa pb) ?_
  have r_pa := rng32 pa
  have r_pb := rng32 pb
  refine ow_iloadN X0 hx (hb hby d_jdk_29m69_0) rfl (pc' := 1) rfl ?_
  refine ow_iloadN X0 hx (hb hby d_jdk_29m69_1) rfl (pc' := 2) rfl ?_
  refine ow_icmp_gt X0 hx (pa.toInt) (pb.toInt) (hb hby d_jdk_29m69_2) rfl rfl (by decide) (pt := 9) (by decide) (pf := 5) rfl (fun c2 => ?_) (fun c2 => ?_)
  · refine ow_iloadN X0 hx (hb hby d_jdk_29m69_9) rfl (pc' := 10) rfl ?_
    exact ow_retI X0 hx hret hlk (hb hby d_jdk_29m69_10) (by decide) (by decide) ⟨pb, rfl, (show (pa.toInt ≤ pb.toInt → pb.toInt = pa.toInt) ∧ (pb.toInt ≤ pa.toInt → pb.toInt = pb.toInt) from by omega), rfl, e0⟩
  · refine ow_iloadN X0 hx (hb hby d_jdk_29m69_5) rfl (pc' := 6) rfl ?_
    refine ow_goto X0 hx (hb hby d_jdk_29m69_6) (by decide) (pc' := 10) (by decide) ?_
    exact ow_retI X0 hx hret hlk (hb hby d_jdk_29m69_10) (by decide) (by decide) ⟨pa, rfl, (show (pa.toInt ≤ pb.toInt → pa.toInt = pa.toInt) ∧ (pb.toInt ≤ pa.toInt → pa.toInt = pb.toInt) from by omega), rfl, e0⟩
theorem pd_0 : parseMethodDescriptor "(I)Z" = some ⟨[.int], some .boolean⟩ := by decide +kernel
theorem pd_1 : parseMethodDescriptor "(II)I" = some ⟨[.int, .int], some .int⟩ := by decide +kernel
theorem pd_2 : parseMethodDescriptor "([BIII)I" = some ⟨[(.array .byte), .int, .int, .int], some .int⟩ := by decide +kernel
theorem d_jdk_43m22_0 : decode jdk_43_method_22_code 0 = .ok (.iload_n 1, 1) := by decide +kernel
theorem d_jdk_43m22_1 : decode jdk_43_method_22_code 1 = .ok (.invokestatic 88, 3) := by decide +kernel
theorem d_jdk_43m22_4 : decode jdk_43_method_22_code 4 = .ok (.ifCond .ne 5, 3) := by decide +kernel
theorem d_jdk_43m22_7 : decode jdk_43_method_22_code 7 = .ok (.iconst (-1), 1) := by decide +kernel
theorem d_jdk_43m22_8 : decode jdk_43_method_22_code 8 = .ok (.ireturn, 1) := by decide +kernel
theorem d_jdk_43m22_9 : decode jdk_43_method_22_code 9 = .ok (.iload_n 2, 1) := by decide +kernel
theorem d_jdk_43m22_10 : decode jdk_43_method_22_code 10 = .ok (.iconst 0, 1) := by decide +kernel
theorem d_jdk_43m22_11 : decode jdk_43_method_22_code 11 = .ok (.invokestatic 92, 3) := by decide +kernel
theorem d_jdk_43m22_14 : decode jdk_43_method_22_code 14 = .ok (.istore_n 2, 1) := by decide +kernel
theorem d_jdk_43m22_15 : decode jdk_43_method_22_code 15 = .ok (.iload_n 3, 1) := by decide +kernel
theorem d_jdk_43m22_16 : decode jdk_43_method_22_code 16 = .ok (.aload_n 0, 1) := by decide +kernel
theorem d_jdk_43m22_17 : decode jdk_43_method_22_code 17 = .ok (.arraylength, 1) := by decide +kernel
theorem d_jdk_43m22_18 : decode jdk_43_method_22_code 18 = .ok (.invokestatic 38, 3) := by decide +kernel
theorem d_jdk_43m22_21 : decode jdk_43_method_22_code 21 = .ok (.istore_n 3, 1) := by decide +kernel
theorem d_jdk_43m22_22 : decode jdk_43_method_22_code 22 = .ok (.iload_n 2, 1) := by decide +kernel
theorem d_jdk_43m22_23 : decode jdk_43_method_22_code 23 = .ok (.iload_n 3, 1) := by decide +kernel
theorem d_jdk_43m22_24 : decode jdk_43_method_22_code 24 = .ok (.if_icmp .lt 5, 3) := by decide +kernel
theorem d_jdk_43m22_29 : decode jdk_43_method_22_code 29 = .ok (.aload_n 0, 1) := by decide +kernel
theorem d_jdk_43m22_30 : decode jdk_43_method_22_code 30 = .ok (.iload_n 1, 1) := by decide +kernel
theorem d_jdk_43m22_31 : decode jdk_43_method_22_code 31 = .ok (.iload_n 2, 1) := by decide +kernel
theorem d_jdk_43m22_32 : decode jdk_43_method_22_code 32 = .ok (.iload_n 3, 1) := by decide +kernel
theorem d_jdk_43m22_33 : decode jdk_43_method_22_code 33 = .ok (.invokestatic 95, 3) := by decide +kernel
theorem d_jdk_43m22_36 : decode jdk_43_method_22_code 36 = .ok (.ireturn, 1) := by decide +kernel
theorem ef_ixLat (m : MethodId) (x0 : Addr) (x1 : Int32) (x2 : Int32) (x3 : Int32) : entryFrame m #[(.ref x0), (.int x1), (.int x2), (.int x3)] 4 = mkF m 0 #[.val (.ref x0), .val (.int x1), .val (.int x2), .val (.int x3)] [] := by first | (simp [entryFrame, mkF, argsToLocals, Value.category]; done) | rfl
set_option maxRecDepth 65536 in
set_option maxHeartbeats 40000000 in
theorem rm_ixLat (l : Launch) (Z : State) (a0 : Array Value) (hw : ∀ d ∈ tables_1, d.before a0 Z = true) (ws : List Jvm.Cond) (oa : Addr) (pc : Int32) (pf : Int32) (pm : Int32) (ka : ClassId) (h0 : Heap) (V_a : Arv Z h0 oa ka (.byte) (15 : Int32) [(.int (33 : Int32)), (.int (35 : Int32)), (.int (36 : Int32)), (.int (37 : Int32)), (.int (38 : Int32)), (.int (39 : Int32)), (.int (42 : Int32)), (.int (43 : Int32)), (.int (45 : Int32)), (.int (46 : Int32)), (.int (94 : Int32)), (.int (95 : Int32)), (.int (96 : Int32)), (.int (124 : Int32)), (.int (126 : Int32))] (.int (0 : Int32))) (hpf : pf.toInt = 0) (hpm : pm.toInt = 15) (hc0 : 0 ≤ pc.toInt) :
    MetFree l (⟨"java/lang/StringLatin1", "indexOf", "([BIII)I"⟩ : MethodName) (head1 (Jvm.Cond.code (⟨"java/lang/StringLatin1", "indexOf", "([BIII)I"⟩ : MethodName) jdk_43_method_22_code 4 (some .int) :: ws) ({ frames := 1, cells := 0, slots := 0, locals := 17 } : Room)) (fun a_ U_ => a_ = #[(.ref oa), (.int pc), (.int pf), (.int pm)] ∧ Z.Warmed39 U_.vm ∧ U_.heap = h0) (fun _ _ _ _ _ => True) (fun _ U_ o_ U_' => ∃ v_ L_, o_ = .returned v_ ∧ (QI (fun z => ((pc.toInt = 33 ∨ pc.toInt = 35 ∨ pc.toInt = 36 ∨ pc.toInt = 37 ∨ pc.toInt = 38 ∨ pc.toInt = 39 ∨ pc.toInt = 42 ∨ pc.toInt = 43 ∨ pc.toInt = 45 ∨ pc.toInt = 46 ∨ pc.toInt = 94 ∨ pc.toInt = 95 ∨ pc.toInt = 96 ∨ pc.toInt = 124 ∨ pc.toInt = 126) ∧ 0 ≤ z.toInt) ∨ (¬ (pc.toInt = 33 ∨ pc.toInt = 35 ∨ pc.toInt = 36 ∨ pc.toInt = 37 ∨ pc.toInt = 38 ∨ pc.toInt = 39 ∨ pc.toInt = 42 ∨ pc.toInt = 43 ∨ pc.toInt = 45 ∨ pc.toInt = 46 ∨ pc.toInt = 94 ∨ pc.toInt = 95 ∨ pc.toInt = 96 ∨ pc.toInt = 124 ∨ pc.toInt = 126) ∧ z.toInt = -1)) h0) v_ U_'.heap L_ ∧ FrameEnd U_ o_ U_' L_ 0 0) := by
  refine ow_body (plainFor_of_name pn_0) ?_
  intro p e s m below meth c T0 X0 hx hZ hby hml hown hnm hret hlk e0
  refine Ends.cast (ef_ixLat m oa pc pf pm) ?_
  have r_pc := rng32 pc
  have r_pf := rng32 pf
  have r_pm := rng32 pm
  refine ow_iloadN X0 hx (hb hby d_jdk_43m22_0) rfl (pc' := 1) rfl ?_
  refine ow_callPI X0 hx hZ hown (hw _ (List.mem_of_getElem? (i := 47) rfl)) (hw _ (List.mem_of_getElem? (i := 48) rfl)) (hw _ (List.mem_of_getElem? (i := 45) rfl)) (hw _ (List.mem_of_getElem? (i := 49) rfl)) (by decide) (rm_canEnc l Z a0 hw [] pc h0 ) e0 0 (by decide) (by decide) (by decide) (by decide) [(.int pc)] (by rw [hml]; rfl) pd_0 rfl rfl rfl (Nat.le_of_eq rfl) (hb hby d_jdk_43m22_1) (pc' := 4) rfl (fun z1 T1 hz1 X1 e1 => ?_)
  have az1 : ((0 ≤ pc.toInt ∧ pc.toInt ≤ 255) ∧ z1.toInt = 1) ∨ (¬ (0 ≤ pc.toInt ∧ pc.toInt ≤ 255) ∧ z1.toInt = 0) := hz1
  have rz1 := rng32 z1
  refine ow_if_ne X1 hx (z1.toInt) (hb hby d_jdk_43m22_4) rfl (by decide) (pt := 9) (by decide) (pf := 7) rfl (fun c4 => ?_) (fun c4 => ?_)
  · refine ow_iloadN X1 hx (hb hby d_jdk_43m22_9) rfl (pc' := 10) rfl ?_
    refine ow_iconst X1 hx (z := (0 : Int32)) (hb hby d_jdk_43m22_10) rfl (pc' := 11) rfl ?_
    refine ow_callPI X1 hx hZ hown (hw _ (List.mem_of_getElem? (i := 50) rfl)) (hw _ (List.mem_of_getElem? (i := 51) rfl)) (hw _ (List.mem_of_getElem? (i := 52) rfl)) (hw _ (List.mem_of_getElem? (i := 53) rfl)) (by decide) (rm_maxI l Z a0 hw [] pf (0 : Int32) h0 ) e1 0 (by decide) (by decide) (by decide) (by decide) [(.int pf), (.int (0 : Int32))] (by rw [hml]; rfl) pd_1 rfl rfl rfl (Nat.le_of_eq rfl) (hb hby d_jdk_43m22_11) (pc' := 14) rfl (fun z2 T2 hz2 X2 e2 => ?_)
    have az2 : (pf.toInt ≥ (0 : Int) → z2.toInt = pf.toInt) ∧ ((0 : Int) ≥ pf.toInt → z2.toInt = (0 : Int)) := hz2
    have rz2 := rng32 z2
    refine ow_istoreN X2 hx (Ls' := #[.val (.ref oa), .val (.int pc), .val (.int z2), .val (.int pm)]) (hb hby d_jdk_43m22_14) rfl (pc' := 15) rfl ?_
    refine ow_iloadN X2 hx (hb hby d_jdk_43m22_15) rfl (pc' := 16) rfl ?_
    refine ow_aloadN X2 hx (hb hby d_jdk_43m22_16) rfl rfl (pc' := 17) rfl ?_
    refine ow_len X2 hx hZ e2 V_a (hb hby d_jdk_43m22_17) (pc' := 18) rfl ?_
    refine ow_callPI X2 hx hZ hown (hw _ (List.mem_of_getElem? (i := 54) rfl)) (hw _ (List.mem_of_getElem? (i := 55) rfl)) (hw _ (List.mem_of_getElem? (i := 52) rfl)) (hw _ (List.mem_of_getElem? (i := 56) rfl)) (by decide) (rm_minI l Z a0 hw [] pm (15 : Int32) h0 ) e2 0 (by decide) (by decide) (by decide) (by decide) [(.int pm), (.int (15 : Int32))] (by rw [hml]; rfl) pd_1 rfl rfl rfl (Nat.le_of_eq rfl) (hb hby d_jdk_43m22_18) (pc' := 21) rfl (fun z3 T3 hz3 X3 e3 => ?_)
    have az3 : (pm.toInt ≤ (15 : Int) → z3.toInt = pm.toInt) ∧ ((15 : Int) ≤ pm.toInt → z3.toInt = (15 : Int)) := hz3
    have rz3 := rng32 z3
    refine ow_istoreN X3 hx (Ls' := #[.val (.ref oa), .val (.int pc), .val (.int z2), .val (.int z3)]) (hb hby d_jdk_43m22_21) rfl (pc' := 22) rfl ?_
    refine ow_iloadN X3 hx (hb hby d_jdk_43m22_22) rfl (pc' := 23) rfl ?_
    refine ow_iloadN X3 hx (hb hby d_jdk_43m22_23) rfl (pc' := 24) rfl ?_
    refine ow_icmp_lt X3 hx (z2.toInt) (z3.toInt) (hb hby d_jdk_43m22_24) rfl rfl (by decide) (pt := 29) (by decide) (pf := 27) rfl (fun c24 => ?_) (fun c24 => absurd c24 (by omega))
    refine ow_aloadN X3 hx (hb hby d_jdk_43m22_29) rfl rfl (pc' := 30) rfl ?_
    refine ow_iloadN X3 hx (hb hby d_jdk_43m22_30) rfl (pc' := 31) rfl ?_
    refine ow_iloadN X3 hx (hb hby d_jdk_43m22_31) rfl (pc' := 32) rfl ?_
    refine ow_iloadN X3 hx (hb hby d_jdk_43m22_32) rfl (pc' := 33) rfl ?_
    refine ow_callPI X3 hx hZ hown (hw _ (List.mem_of_getElem? (i := 57) rfl)) (hw _ (List.mem_of_getElem? (i := 58) rfl)) (hw _ (List.mem_of_getElem? (i := 45) rfl)) (hw _ (List.mem_of_getElem? (i := 59) rfl)) (by decide) (rm_ixChar l Z a0 hw [] oa pc z2 z3 ka h0 V_a (by first | assumption | decide | omega) (by first | assumption | decide | omega) (by first | assumption | decide | omega) (by first | assumption | decide | omega)) e3 0 (by decide) (by decide) (by decide) (by decide) [(.ref oa), (.int pc), (.int z2), (.int z3)] (by rw [hml]; rfl) pd_2 rfl rfl rfl (Nat.le_of_eq rfl) (hb hby d_jdk_43m22_33) (pc' := 36) rfl (fun z4 T4 hz4 X4 e4 => ?_)
    have az4 : ((pc.toInt = 33 ∨ pc.toInt = 35 ∨ pc.toInt = 36 ∨ pc.toInt = 37 ∨ pc.toInt = 38 ∨ pc.toInt = 39 ∨ pc.toInt = 42 ∨ pc.toInt = 43 ∨ pc.toInt = 45 ∨ pc.toInt = 46 ∨ pc.toInt = 94 ∨ pc.toInt = 95 ∨ pc.toInt = 96 ∨ pc.toInt = 124 ∨ pc.toInt = 126) ∧ 0 ≤ z4.toInt) ∨ (¬ (pc.toInt = 33 ∨ pc.toInt = 35 ∨ pc.toInt = 36 ∨ pc.toInt = 37 ∨ pc.toInt = 38 ∨ pc.toInt = 39 ∨ pc.toInt = 42 ∨ pc.toInt = 43 ∨ pc.toInt = 45 ∨ pc.toInt = 46 ∨ pc.toInt = 94 ∨ pc.toInt = 95 ∨ pc.toInt = 96 ∨ pc.toInt = 124 ∨ pc.toInt = 126) ∧ z4.toInt = -1) := hz4
    have rz4 := rng32 z4
    exact ow_retI X4 hx hret hlk (hb hby d_jdk_43m22_36) (by decide) (by decide) ⟨z4, rfl, (show ((pc.toInt = 33 ∨ pc.toInt = 35 ∨ pc.toInt = 36 ∨ pc.toInt = 37 ∨ pc.toInt = 38 ∨ pc.toInt = 39 ∨ pc.toInt = 42 ∨ pc.toInt = 43 ∨ pc.toInt = 45 ∨ pc.toInt = 46 ∨ pc.toInt = 94 ∨ pc.toInt = 95 ∨ pc.toInt = 96 ∨ pc.toInt = 124 ∨ pc.toInt = 126) ∧ 0 ≤ z4.toInt) ∨ (¬ (pc.toInt = 33 ∨ pc.toInt = 35 ∨ pc.toInt = 36 ∨ pc.toInt = 37 ∨ pc.toInt = 38 ∨ pc.toInt = 39 ∨ pc.toInt = 42 ∨ pc.toInt = 43 ∨ pc.toInt = 45 ∨ pc.toInt = 46 ∨ pc.toInt = 94 ∨ pc.toInt = 95 ∨ pc.toInt = 96 ∨ pc.toInt = 124 ∨ pc.toInt = 126) ∧ z4.toInt = -1) from by omega), rfl, e4⟩
  · refine ow_iconst X1 hx (z := (-1 : Int32)) (hb hby d_jdk_43m22_7) rfl (pc' := 8) rfl ?_
    exact ow_retI X1 hx hret hlk (hb hby d_jdk_43m22_8) (by decide) (by decide) ⟨(-1 : Int32), rfl, (show ((pc.toInt = 33 ∨ pc.toInt = 35 ∨ pc.toInt = 36 ∨ pc.toInt = 37 ∨ pc.toInt = 38 ∨ pc.toInt = 39 ∨ pc.toInt = 42 ∨ pc.toInt = 43 ∨ pc.toInt = 45 ∨ pc.toInt = 46 ∨ pc.toInt = 94 ∨ pc.toInt = 95 ∨ pc.toInt = 96 ∨ pc.toInt = 124 ∨ pc.toInt = 126) ∧ 0 ≤ (-1 : Int)) ∨ (¬ (pc.toInt = 33 ∨ pc.toInt = 35 ∨ pc.toInt = 36 ∨ pc.toInt = 37 ∨ pc.toInt = 38 ∨ pc.toInt = 39 ∨ pc.toInt = 42 ∨ pc.toInt = 43 ∨ pc.toInt = 45 ∨ pc.toInt = 46 ∨ pc.toInt = 94 ∨ pc.toInt = 95 ∨ pc.toInt = 96 ∨ pc.toInt = 124 ∨ pc.toInt = 126) ∧ (-1 : Int) = -1) from by omega), rfl, e1⟩
theorem d_jdk_42m152_0 : decode jdk_42_method_152_code 0 = .ok (.getstatic 38, 3) := by decide +kernel
theorem d_jdk_42m152_3 : decode jdk_42_method_152_code 3 = .ok (.ifCond .eq 10, 3) := by decide +kernel
theorem d_jdk_42m152_6 : decode jdk_42_method_152_code 6 = .ok (.aload_n 0, 1) := by decide +kernel
theorem d_jdk_42m152_7 : decode jdk_42_method_152_code 7 = .ok (.getfield 15, 3) := by decide +kernel
theorem d_jdk_42m152_10 : decode jdk_42_method_152_code 10 = .ok (.goto 4, 3) := by decide +kernel
theorem d_jdk_42m152_14 : decode jdk_42_method_152_code 14 = .ok (.ireturn, 1) := by decide +kernel
theorem ef_coder (m : MethodId) (x0 : Addr) : entryFrame m #[(.ref x0)] 1 = mkF m 0 #[.val (.ref x0)] [] := by first | (simp [entryFrame, mkF, argsToLocals, Value.category]; done) | rfl
theorem pn_1 : plainName "java/lang/String" = true := by first | (simp [plainName, overriddenIn]; done) | decide +kernel
set_option maxRecDepth 65536 in
set_option maxHeartbeats 40000000 in
theorem rm_coder (l : Launch) (Z : State) (a0 : Array Value) (hw : ∀ d ∈ tables_1, d.before a0 Z = true) (ws : List Jvm.Cond) (o : Addr) (zc : Int32) (h0 : Heap) (S_cs : Sta Z h0 "java/lang/String" "COMPACT_STRINGS" "Z" (.int zc)) (F_c : Fld Z h0 o "java/lang/String" "coder" "B" (.int (0 : Int32))) (hz0 : ¬ zc.toInt = 0) :
    MetFree l (⟨"java/lang/String", "coder", "()B"⟩ : MethodName) (head1 (Jvm.Cond.code (⟨"java/lang/String", "coder", "()B"⟩ : MethodName) jdk_42_method_152_code 1 (some .byte) :: ws) ({ frames := 0, cells := 0, slots := 0, locals := 0 } : Room)) (fun a_ U_ => a_ = #[(.ref o)] ∧ Z.Warmed39 U_.vm ∧ U_.heap = h0) (fun _ _ _ _ _ => True) (fun _ U_ o_ U_' => ∃ v_ L_, o_ = .returned v_ ∧ (QI (fun z => z.toInt = 0) h0) v_ U_'.heap L_ ∧ FrameEnd U_ o_ U_' L_ 0 0) := by
  refine ow_body (plainFor_of_name pn_1) ?_
  intro p e s m below meth c T0 X0 hx hZ hby hml hown hnm hret hlk e0
  refine Ends.cast (ef_coder m o) ?_
  refine ow_getS X0 hx hZ hown (host := "") (Or.inl (hw _ (List.mem_of_getElem? (i := 30) rfl))) Via.refl e0 S_cs (hb hby d_jdk_42m152_0) (pc' := 3) rfl (fun T1 X1 e1 => ?_)
  refine ow_if_eq X1 hx (zc.toInt) (hb hby d_jdk_42m152_3) rfl (by decide) (pt := 13) (by decide) (pf := 6) rfl (fun c3 => absurd c3 (by omega)) (fun c3 => ?_)
  refine ow_aloadN X1 hx (hb hby d_jdk_42m152_6) rfl rfl (pc' := 7) rfl ?_
  refine ow_getF X1 hx hZ hown (host := "") (Or.inl (hw _ (List.mem_of_getElem? (i := 31) rfl))) Via.refl e1 F_c (hb hby d_jdk_42m152_7) (pc' := 10) rfl (fun T2 X2 e2 => ?_)
  refine ow_goto X2 hx (hb hby d_jdk_42m152_10) (by decide) (pc' := 14) (by decide) ?_
  exact ow_retY X2 hx hret hlk (hb hby d_jdk_42m152_14) (by decide) (by decide) (z' := (0 : Int32)) (by decide) ⟨(0 : Int32), rfl, (show (0 : Int) = 0 from by omega), rfl, e2⟩
theorem d_jdk_42m154_0 : decode jdk_42_method_154_code 0 = .ok (.getstatic 38, 3) := by decide +kernel
theorem d_jdk_42m154_3 : decode jdk_42_method_154_code 3 = .ok (.ifCond .eq 14, 3) := by decide +kernel
theorem d_jdk_42m154_6 : decode jdk_42_method_154_code 6 = .ok (.aload_n 0, 1) := by decide +kernel
theorem d_jdk_42m154_7 : decode jdk_42_method_154_code 7 = .ok (.getfield 15, 3) := by decide +kernel
theorem d_jdk_42m154_10 : decode jdk_42_method_154_code 10 = .ok (.ifCond .ne 7, 3) := by decide +kernel
theorem d_jdk_42m154_13 : decode jdk_42_method_154_code 13 = .ok (.iconst 1, 1) := by decide +kernel
theorem d_jdk_42m154_14 : decode jdk_42_method_154_code 14 = .ok (.goto 4, 3) := by decide +kernel
theorem d_jdk_42m154_18 : decode jdk_42_method_154_code 18 = .ok (.ireturn, 1) := by decide +kernel
theorem ef_isLatin1 (m : MethodId) (x0 : Addr) : entryFrame m #[(.ref x0)] 1 = mkF m 0 #[.val (.ref x0)] [] := by first | (simp [entryFrame, mkF, argsToLocals, Value.category]; done) | rfl
set_option maxRecDepth 65536 in
set_option maxHeartbeats 40000000 in
theorem rm_isLatin1 (l : Launch) (Z : State) (a0 : Array Value) (hw : ∀ d ∈ tables_1, d.before a0 Z = true) (ws : List Jvm.Cond) (o : Addr) (zc : Int32) (h0 : Heap) (S_cs : Sta Z h0 "java/lang/String" "COMPACT_STRINGS" "Z" (.int zc)) (F_c : Fld Z h0 o "java/lang/String" "coder" "B" (.int (0 : Int32))) (hz0 : ¬ zc.toInt = 0) :
    MetFree l (⟨"java/lang/String", "isLatin1", "()Z"⟩ : MethodName) (head1 (Jvm.Cond.code (⟨"java/lang/String", "isLatin1", "()Z"⟩ : MethodName) jdk_42_method_154_code 1 (some .boolean) :: ws) ({ frames := 0, cells := 0, slots := 0, locals := 0 } : Room)) (fun a_ U_ => a_ = #[(.ref o)] ∧ Z.Warmed39 U_.vm ∧ U_.heap = h0) (fun _ _ _ _ _ => True) (fun _ U_ o_ U_' => ∃ v_ L_, o_ = .returned v_ ∧ (QI (fun z => z.toInt = 1) h0) v_ U_'.heap L_ ∧ FrameEnd U_ o_ U_' L_ 0 0) := by
  refine ow_body (plainFor_of_name pn_1) ?_
  intro p e s m below meth c T0 X0 hx hZ hby hml hown hnm hret hlk e0
  refine Ends.cast (ef_isLatin1 m o) ?_
  refine ow_getS X0 hx hZ hown (host := "") (Or.inl (hw _ (List.mem_of_getElem? (i := 30) rfl))) Via.refl e0 S_cs (hb hby d_jdk_42m154_0) (pc' := 3) rfl (fun T1 X1 e1 => ?_)
  refine ow_if_eq X1 hx (zc.toInt) (hb hby d_jdk_42m154_3) rfl (by decide) (pt := 17) (by decide) (pf := 6) rfl (fun c3 => absurd c3 (by omega)) (fun c3 => ?_)
  refine ow_aloadN X1 hx (hb hby d_jdk_42m154_6) rfl rfl (pc' := 7) rfl ?_
  refine ow_getF X1 hx hZ hown (host := "") (Or.inl (hw _ (List.mem_of_getElem? (i := 31) rfl))) Via.refl e1 F_c (hb hby d_jdk_42m154_7) (pc' := 10) rfl (fun T2 X2 e2 => ?_)
  refine ow_ifN X2 hx (hb hby d_jdk_42m154_10) (by decide) (pc' := 13) rfl ?_
  refine ow_iconst X2 hx (z := (1 : Int32)) (hb hby d_jdk_42m154_13) rfl (pc' := 14) rfl ?_
  refine ow_goto X2 hx (hb hby d_jdk_42m154_14) (by decide) (pc' := 18) (by decide) ?_
  exact ow_retB X2 hx hret hlk (hb hby d_jdk_42m154_18) (by decide) (by decide) (z' := (1 : Int32)) rfl ⟨(1 : Int32), rfl, (show (1 : Int) = 1 from by omega), rfl, e2⟩
theorem pd_3 : parseMethodDescriptor "()B" = some ⟨[], some .byte⟩ := by decide +kernel
theorem d_jdk_42m54_0 : decode jdk_42_method_54_code 0 = .ok (.aload_n 0, 1) := by decide +kernel
theorem d_jdk_42m54_1 : decode jdk_42_method_54_code 1 = .ok (.getfield 9, 3) := by decide +kernel
theorem d_jdk_42m54_4 : decode jdk_42_method_54_code 4 = .ok (.arraylength, 1) := by decide +kernel
theorem d_jdk_42m54_5 : decode jdk_42_method_54_code 5 = .ok (.aload_n 0, 1) := by decide +kernel
theorem d_jdk_42m54_6 : decode jdk_42_method_54_code 6 = .ok (.invokevirtual 335, 3) := by decide +kernel
theorem d_jdk_42m54_9 : decode jdk_42_method_54_code 9 = .ok (.ishr, 1) := by decide +kernel
theorem d_jdk_42m54_10 : decode jdk_42_method_54_code 10 = .ok (.ireturn, 1) := by decide +kernel
theorem ef_strLen (m : MethodId) (x0 : Addr) : entryFrame m #[(.ref x0)] 1 = mkF m 0 #[.val (.ref x0)] [] := by first | (simp [entryFrame, mkF, argsToLocals, Value.category]; done) | rfl
set_option maxRecDepth 65536 in
set_option maxHeartbeats 40000000 in
theorem rm_strLen (l : Launch) (Z : State) (a0 : Array Value) (hw : ∀ d ∈ tables_1, d.before a0 Z = true) (ws : List Jvm.Cond) (o : Addr) (zc : Int32) (oa : Addr) (ka : ClassId) (h0 : Heap) (S_cs : Sta Z h0 "java/lang/String" "COMPACT_STRINGS" "Z" (.int zc)) (E_o : Exa Z h0 o "java/lang/String") (F_c : Fld Z h0 o "java/lang/String" "coder" "B" (.int (0 : Int32))) (F_v : Fld Z h0 o "java/lang/String" "value" "[B" (.ref oa)) (V_a : Arv Z h0 oa ka (.byte) (15 : Int32) [(.int (33 : Int32)), (.int (35 : Int32)), (.int (36 : Int32)), (.int (37 : Int32)), (.int (38 : Int32)), (.int (39 : Int32)), (.int (42 : Int32)), (.int (43 : Int32)), (.int (45 : Int32)), (.int (46 : Int32)), (.int (94 : Int32)), (.int (95 : Int32)), (.int (96 : Int32)), (.int (124 : Int32)), (.int (126 : Int32))] (.int (0 : Int32))) (hz0 : ¬ zc.toInt = 0) :
    MetFree l (⟨"java/lang/String", "length", "()I"⟩ : MethodName) (head1 (Jvm.Cond.code (⟨"java/lang/String", "length", "()I"⟩ : MethodName) jdk_42_method_54_code 1 (some .int) :: ws) ({ frames := 1, cells := 0, slots := 0, locals := 13 } : Room)) (fun a_ U_ => a_ = #[(.ref o)] ∧ Z.Warmed39 U_.vm ∧ U_.heap = h0) (fun _ _ _ _ _ => True) (fun _ U_ o_ U_' => ∃ v_ L_, o_ = .returned v_ ∧ (QI (fun z => z.toInt = 15) h0) v_ U_'.heap L_ ∧ FrameEnd U_ o_ U_' L_ 0 0) := by
  refine ow_body (plainFor_of_name pn_1) ?_
  intro p e s m below meth c T0 X0 hx hZ hby hml hown hnm hret hlk e0
  refine Ends.cast (ef_strLen m o) ?_
  refine ow_aloadN X0 hx (hb hby d_jdk_42m54_0) rfl rfl (pc' := 1) rfl ?_
  refine ow_getF X0 hx hZ hown (host := "") (Or.inl (hw _ (List.mem_of_getElem? (i := 32) rfl))) Via.refl e0 F_v (hb hby d_jdk_42m54_1) (pc' := 4) rfl (fun T1 X1 e1 => ?_)
  refine ow_len X1 hx hZ e1 V_a (hb hby d_jdk_42m54_4) (pc' := 5) rfl ?_
  refine ow_aloadN X1 hx (hb hby d_jdk_42m54_5) rfl rfl (pc' := 6) rfl ?_
  refine ow_callVPI X1 hx hZ rfl hown (hw _ (List.mem_of_getElem? (i := 38) rfl)) (hw _ (List.mem_of_getElem? (i := 39) rfl)) (hw _ (List.mem_of_getElem? (i := 41) rfl)) (hw _ (List.mem_of_getElem? (i := 40) rfl)) (hw _ (List.mem_of_getElem? (i := 8) rfl)) (hw _ (List.mem_of_getElem? (i := 42) rfl)) (by decide) (rm_coder l Z a0 hw [] o zc h0 S_cs F_c (by first | assumption | decide | omega)) e1 1 (by decide) (by decide) (by decide) (by decide) [] (by rw [hml]; rfl) pd_3 rfl E_o rfl rfl (Nat.le_of_eq rfl) (hb hby d_jdk_42m54_6) (pc' := 9) rfl (fun z2 T2 hz2 X2 e2 => ?_)
  have az2 : z2.toInt = 0 := hz2
  have rz2 := rng32 z2
  obtain rfl : z2 = (0 : Int32) := ow_eq (show z2.toInt = 0 from by omega)
  refine ow_ishr X2 hx (hb hby d_jdk_42m54_9) (pc' := 10) rfl (fun z3 hz3 => ?_)
  obtain rfl : z3 = (15 : Int32) := hz3.trans (by decide)
  exact ow_retI X2 hx hret hlk (hb hby d_jdk_42m54_10) (by decide) (by decide) ⟨(15 : Int32), rfl, (show (15 : Int) = 15 from by omega), rfl, e2⟩
theorem pd_4 : parseMethodDescriptor "()Z" = some ⟨[], some .boolean⟩ := by decide +kernel
theorem pd_5 : parseMethodDescriptor "()I" = some ⟨[], some .int⟩ := by decide +kernel
theorem d_jdk_42m80_0 : decode jdk_42_method_80_code 0 = .ok (.aload_n 0, 1) := by decide +kernel
theorem d_jdk_42m80_1 : decode jdk_42_method_80_code 1 = .ok (.invokevirtual 492, 3) := by decide +kernel
theorem d_jdk_42m80_4 : decode jdk_42_method_80_code 4 = .ok (.ifCond .eq 19, 3) := by decide +kernel
theorem d_jdk_42m80_7 : decode jdk_42_method_80_code 7 = .ok (.aload_n 0, 1) := by decide +kernel
theorem d_jdk_42m80_8 : decode jdk_42_method_80_code 8 = .ok (.getfield 9, 3) := by decide +kernel
theorem d_jdk_42m80_11 : decode jdk_42_method_80_code 11 = .ok (.iload_n 1, 1) := by decide +kernel
theorem d_jdk_42m80_12 : decode jdk_42_method_80_code 12 = .ok (.iload_n 2, 1) := by decide +kernel
theorem d_jdk_42m80_13 : decode jdk_42_method_80_code 13 = .ok (.aload_n 0, 1) := by decide +kernel
theorem d_jdk_42m80_14 : decode jdk_42_method_80_code 14 = .ok (.invokevirtual 505, 3) := by decide +kernel
theorem d_jdk_42m80_17 : decode jdk_42_method_80_code 17 = .ok (.invokestatic 637, 3) := by decide +kernel
theorem d_jdk_42m80_20 : decode jdk_42_method_80_code 20 = .ok (.goto 16, 3) := by decide +kernel
theorem d_jdk_42m80_36 : decode jdk_42_method_80_code 36 = .ok (.ireturn, 1) := by decide +kernel
theorem ef_ixII (m : MethodId) (x0 : Addr) (x1 : Int32) (x2 : Int32) : entryFrame m #[(.ref x0), (.int x1), (.int x2)] 3 = mkF m 0 #[.val (.ref x0), .val (.int x1), .val (.int x2)] [] := by first | (simp [entryFrame, mkF, argsToLocals, Value.category]; done) | rfl
set_option maxRecDepth 65536 in
set_option maxHeartbeats 40000000 in
theorem rm_ixII (l : Launch) (Z : State) (a0 : Array Value) (hw : ∀ d ∈ tables_1, d.before a0 Z = true) (ws : List Jvm.Cond) (o : Addr) (pc : Int32) (pf : Int32) (zc : Int32) (oa : Addr) (ka : ClassId) (h0 : Heap) (S_cs : Sta Z h0 "java/lang/String" "COMPACT_STRINGS" "Z" (.int zc)) (E_o : Exa Z h0 o "java/lang/String") (F_c : Fld Z h0 o "java/lang/String" "coder" "B" (.int (0 : Int32))) (F_v : Fld Z h0 o "java/lang/String" "value" "[B" (.ref oa)) (V_a : Arv Z h0 oa ka (.byte) (15 : Int32) [(.int (33 : Int32)), (.int (35 : Int32)), (.int (36 : Int32)), (.int (37 : Int32)), (.int (38 : Int32)), (.int (39 : Int32)), (.int (42 : Int32)), (.int (43 : Int32)), (.int (45 : Int32)), (.int (46 : Int32)), (.int (94 : Int32)), (.int (95 : Int32)), (.int (96 : Int32)), (.int (124 : Int32)), (.int (126 : Int32))] (.int (0 : Int32))) (hz0 : ¬ zc.toInt = 0) (hc0 : 0 ≤ pc.toInt) (hpf : pf.toInt = 0) :
    MetFree l (⟨"java/lang/String", "indexOf", "(II)I"⟩ : MethodName) (head1 (Jvm.Cond.code (⟨"java/lang/String", "indexOf", "(II)I"⟩ : MethodName) jdk_42_method_80_code 3 (some .int) :: ws) ({ frames := 2, cells := 0, slots := 0, locals := 32 } : Room)) (fun a_ U_ => a_ = #[(.ref o), (.int pc), (.int pf)] ∧ Z.Warmed39 U_.vm ∧ U_.heap = h0) (fun _ _ _ _ _ => True) (fun _ U_ o_ U_' => ∃ v_ L_, o_ = .returned v_ ∧ (QI (fun z => ((pc.toInt = 33 ∨ pc.toInt = 35 ∨ pc.toInt = 36 ∨ pc.toInt = 37 ∨ pc.toInt = 38 ∨ pc.toInt = 39 ∨ pc.toInt = 42 ∨ pc.toInt = 43 ∨ pc.toInt = 45 ∨ pc.toInt = 46 ∨ pc.toInt = 94 ∨ pc.toInt = 95 ∨ pc.toInt = 96 ∨ pc.toInt = 124 ∨ pc.toInt = 126) ∧ 0 ≤ z.toInt) ∨ (¬ (pc.toInt = 33 ∨ pc.toInt = 35 ∨ pc.toInt = 36 ∨ pc.toInt = 37 ∨ pc.toInt = 38 ∨ pc.toInt = 39 ∨ pc.toInt = 42 ∨ pc.toInt = 43 ∨ pc.toInt = 45 ∨ pc.toInt = 46 ∨ pc.toInt = 94 ∨ pc.toInt = 95 ∨ pc.toInt = 96 ∨ pc.toInt = 124 ∨ pc.toInt = 126) ∧ z.toInt = -1)) h0) v_ U_'.heap L_ ∧ FrameEnd U_ o_ U_' L_ 0 0) := by
  refine ow_body (plainFor_of_name pn_1) ?_
  intro p e s m below meth c T0 X0 hx hZ hby hml hown hnm hret hlk e0
  refine Ends.cast (ef_ixII m o pc pf) ?_
  have r_pc := rng32 pc
  have r_pf := rng32 pf
  refine ow_aloadN X0 hx (hb hby d_jdk_42m80_0) rfl rfl (pc' := 1) rfl ?_
  refine ow_callVPI X0 hx hZ rfl hown (hw _ (List.mem_of_getElem? (i := 25) rfl)) (hw _ (List.mem_of_getElem? (i := 26) rfl)) (hw _ (List.mem_of_getElem? (i := 28) rfl)) (hw _ (List.mem_of_getElem? (i := 27) rfl)) (hw _ (List.mem_of_getElem? (i := 8) rfl)) (hw _ (List.mem_of_getElem? (i := 29) rfl)) (by decide) (rm_isLatin1 l Z a0 hw [] o zc h0 S_cs F_c (by first | assumption | decide | omega)) e0 0 (by decide) (by decide) (by decide) (by decide) [] (by rw [hml]; rfl) pd_4 rfl E_o rfl rfl (Nat.le_of_eq rfl) (hb hby d_jdk_42m80_1) (pc' := 4) rfl (fun z1 T1 hz1 X1 e1 => ?_)
  have az1 : z1.toInt = 1 := hz1
  have rz1 := rng32 z1
  refine ow_if_eq X1 hx (z1.toInt) (hb hby d_jdk_42m80_4) rfl (by decide) (pt := 23) (by decide) (pf := 7) rfl (fun c4 => absurd c4 (by omega)) (fun c4 => ?_)
  refine ow_aloadN X1 hx (hb hby d_jdk_42m80_7) rfl rfl (pc' := 8) rfl ?_
  refine ow_getF X1 hx hZ hown (host := "") (Or.inl (hw _ (List.mem_of_getElem? (i := 32) rfl))) Via.refl e1 F_v (hb hby d_jdk_42m80_8) (pc' := 11) rfl (fun T2 X2 e2 => ?_)
  refine ow_iloadN X2 hx (hb hby d_jdk_42m80_11) rfl (pc' := 12) rfl ?_
  refine ow_iloadN X2 hx (hb hby d_jdk_42m80_12) rfl (pc' := 13) rfl ?_
  refine ow_aloadN X2 hx (hb hby d_jdk_42m80_13) rfl rfl (pc' := 14) rfl ?_
  refine ow_callVPI X2 hx hZ rfl hown (hw _ (List.mem_of_getElem? (i := 33) rfl)) (hw _ (List.mem_of_getElem? (i := 34) rfl)) (hw _ (List.mem_of_getElem? (i := 36) rfl)) (hw _ (List.mem_of_getElem? (i := 35) rfl)) (hw _ (List.mem_of_getElem? (i := 8) rfl)) (hw _ (List.mem_of_getElem? (i := 37) rfl)) (by decide) (rm_strLen l Z a0 hw [] o zc oa ka h0 S_cs E_o F_c F_v V_a (by first | assumption | decide | omega)) e2 3 (by decide) (by decide) (by decide) (by decide) [] (by rw [hml]; rfl) pd_5 rfl E_o rfl rfl (Nat.le_of_eq rfl) (hb hby d_jdk_42m80_14) (pc' := 17) rfl (fun z3 T3 hz3 X3 e3 => ?_)
  have az3 : z3.toInt = 15 := hz3
  have rz3 := rng32 z3
  refine ow_callPI X3 hx hZ hown (hw _ (List.mem_of_getElem? (i := 43) rfl)) (hw _ (List.mem_of_getElem? (i := 44) rfl)) (hw _ (List.mem_of_getElem? (i := 45) rfl)) (hw _ (List.mem_of_getElem? (i := 46) rfl)) (by decide) (rm_ixLat l Z a0 hw [] oa pc pf z3 ka h0 V_a (by first | assumption | decide | omega) (by first | assumption | decide | omega) (by first | assumption | decide | omega)) e3 0 (by decide) (by decide) (by decide) (by decide) [(.ref oa), (.int pc), (.int pf), (.int z3)] (by rw [hml]; rfl) pd_2 rfl rfl rfl (Nat.le_of_eq rfl) (hb hby d_jdk_42m80_17) (pc' := 20) rfl (fun z4 T4 hz4 X4 e4 => ?_)
  have az4 : ((pc.toInt = 33 ∨ pc.toInt = 35 ∨ pc.toInt = 36 ∨ pc.toInt = 37 ∨ pc.toInt = 38 ∨ pc.toInt = 39 ∨ pc.toInt = 42 ∨ pc.toInt = 43 ∨ pc.toInt = 45 ∨ pc.toInt = 46 ∨ pc.toInt = 94 ∨ pc.toInt = 95 ∨ pc.toInt = 96 ∨ pc.toInt = 124 ∨ pc.toInt = 126) ∧ 0 ≤ z4.toInt) ∨ (¬ (pc.toInt = 33 ∨ pc.toInt = 35 ∨ pc.toInt = 36 ∨ pc.toInt = 37 ∨ pc.toInt = 38 ∨ pc.toInt = 39 ∨ pc.toInt = 42 ∨ pc.toInt = 43 ∨ pc.toInt = 45 ∨ pc.toInt = 46 ∨ pc.toInt = 94 ∨ pc.toInt = 95 ∨ pc.toInt = 96 ∨ pc.toInt = 124 ∨ pc.toInt = 126) ∧ z4.toInt = -1) := hz4
  have rz4 := rng32 z4
  refine ow_goto X4 hx (hb hby d_jdk_42m80_20) (by decide) (pc' := 36) (by decide) ?_
  exact ow_retI X4 hx hret hlk (hb hby d_jdk_42m80_36) (by decide) (by decide) ⟨z4, rfl, (show ((pc.toInt = 33 ∨ pc.toInt = 35 ∨ pc.toInt = 36 ∨ pc.toInt = 37 ∨ pc.toInt = 38 ∨ pc.toInt = 39 ∨ pc.toInt = 42 ∨ pc.toInt = 43 ∨ pc.toInt = 45 ∨ pc.toInt = 46 ∨ pc.toInt = 94 ∨ pc.toInt = 95 ∨ pc.toInt = 96 ∨ pc.toInt = 124 ∨ pc.toInt = 126) ∧ 0 ≤ z4.toInt) ∨ (¬ (pc.toInt = 33 ∨ pc.toInt = 35 ∨ pc.toInt = 36 ∨ pc.toInt = 37 ∨ pc.toInt = 38 ∨ pc.toInt = 39 ∨ pc.toInt = 42 ∨ pc.toInt = 43 ∨ pc.toInt = 45 ∨ pc.toInt = 46 ∨ pc.toInt = 94 ∨ pc.toInt = 95 ∨ pc.toInt = 96 ∨ pc.toInt = 124 ∨ pc.toInt = 126) ∧ z4.toInt = -1) from by omega), rfl, e4⟩
theorem d_jdk_42m79_0 : decode jdk_42_method_79_code 0 = .ok (.aload_n 0, 1) := by decide +kernel
theorem d_jdk_42m79_1 : decode jdk_42_method_79_code 1 = .ok (.iload_n 1, 1) := by decide +kernel
theorem d_jdk_42m79_2 : decode jdk_42_method_79_code 2 = .ok (.iconst 0, 1) := by decide +kernel
theorem d_jdk_42m79_3 : decode jdk_42_method_79_code 3 = .ok (.invokevirtual 633, 3) := by decide +kernel
theorem d_jdk_42m79_6 : decode jdk_42_method_79_code 6 = .ok (.ireturn, 1) := by decide +kernel
theorem ef_ixI (m : MethodId) (x0 : Addr) (x1 : Int32) : entryFrame m #[(.ref x0), (.int x1)] 2 = mkF m 0 #[.val (.ref x0), .val (.int x1)] [] := by first | (simp [entryFrame, mkF, argsToLocals, Value.category]; done) | rfl
set_option maxRecDepth 65536 in
set_option maxHeartbeats 40000000 in
theorem rm_ixI (l : Launch) (Z : State) (a0 : Array Value) (hw : ∀ d ∈ tables_1, d.before a0 Z = true) (ws : List Jvm.Cond) (o : Addr) (pc : Int32) (zc : Int32) (oa : Addr) (ka : ClassId) (h0 : Heap) (S_cs : Sta Z h0 "java/lang/String" "COMPACT_STRINGS" "Z" (.int zc)) (E_o : Exa Z h0 o "java/lang/String") (F_c : Fld Z h0 o "java/lang/String" "coder" "B" (.int (0 : Int32))) (F_v : Fld Z h0 o "java/lang/String" "value" "[B" (.ref oa)) (V_a : Arv Z h0 oa ka (.byte) (15 : Int32) [(.int (33 : Int32)), (.int (35 : Int32)), (.int (36 : Int32)), (.int (37 : Int32)), (.int (38 : Int32)), (.int (39 : Int32)), (.int (42 : Int32)), (.int (43 : Int32)), (.int (45 : Int32)), (.int (46 : Int32)), (.int (94 : Int32)), (.int (95 : Int32)), (.int (96 : Int32)), (.int (124 : Int32)), (.int (126 : Int32))] (.int (0 : Int32))) (hz0 : ¬ zc.toInt = 0) (hc0 : 0 ≤ pc.toInt) :
    MetFree l (⟨"java/lang/String", "indexOf", "(I)I"⟩ : MethodName) (head1 (Jvm.Cond.code (⟨"java/lang/String", "indexOf", "(I)I"⟩ : MethodName) jdk_42_method_79_code 2 (some .int) :: ws) ({ frames := 3, cells := 0, slots := 0, locals := 46 } : Room)) (fun a_ U_ => a_ = #[(.ref o), (.int pc)] ∧ Z.Warmed39 U_.vm ∧ U_.heap = h0) (fun _ _ _ _ _ => True) (fun _ U_ o_ U_' => ∃ v_ L_, o_ = .returned v_ ∧ (QI (fun z => ((pc.toInt = 33 ∨ pc.toInt = 35 ∨ pc.toInt = 36 ∨ pc.toInt = 37 ∨ pc.toInt = 38 ∨ pc.toInt = 39 ∨ pc.toInt = 42 ∨ pc.toInt = 43 ∨ pc.toInt = 45 ∨ pc.toInt = 46 ∨ pc.toInt = 94 ∨ pc.toInt = 95 ∨ pc.toInt = 96 ∨ pc.toInt = 124 ∨ pc.toInt = 126) ∧ 0 ≤ z.toInt) ∨ (¬ (pc.toInt = 33 ∨ pc.toInt = 35 ∨ pc.toInt = 36 ∨ pc.toInt = 37 ∨ pc.toInt = 38 ∨ pc.toInt = 39 ∨ pc.toInt = 42 ∨ pc.toInt = 43 ∨ pc.toInt = 45 ∨ pc.toInt = 46 ∨ pc.toInt = 94 ∨ pc.toInt = 95 ∨ pc.toInt = 96 ∨ pc.toInt = 124 ∨ pc.toInt = 126) ∧ z.toInt = -1)) h0) v_ U_'.heap L_ ∧ FrameEnd U_ o_ U_' L_ 0 0) := by
  refine ow_body (plainFor_of_name pn_1) ?_
  intro p e s m below meth c T0 X0 hx hZ hby hml hown hnm hret hlk e0
  refine Ends.cast (ef_ixI m o pc) ?_
  have r_pc := rng32 pc
  refine ow_aloadN X0 hx (hb hby d_jdk_42m79_0) rfl rfl (pc' := 1) rfl ?_
  refine ow_iloadN X0 hx (hb hby d_jdk_42m79_1) rfl (pc' := 2) rfl ?_
  refine ow_iconst X0 hx (z := (0 : Int32)) (hb hby d_jdk_42m79_2) rfl (pc' := 3) rfl ?_
  refine ow_callVPI X0 hx hZ rfl hown (hw _ (List.mem_of_getElem? (i := 20) rfl)) (hw _ (List.mem_of_getElem? (i := 21) rfl)) (hw _ (List.mem_of_getElem? (i := 23) rfl)) (hw _ (List.mem_of_getElem? (i := 22) rfl)) (hw _ (List.mem_of_getElem? (i := 8) rfl)) (hw _ (List.mem_of_getElem? (i := 24) rfl)) (by decide) (rm_ixII l Z a0 hw [] o pc (0 : Int32) zc oa ka h0 S_cs E_o F_c F_v V_a (by first | assumption | decide | omega | (have q0_ : (0 : Int32).toInt = 0 := (by decide); omega)) (by first | assumption | decide | omega | (have q0_ : (0 : Int32).toInt = 0 := (by decide); omega)) (by first | assumption | decide | omega | (have q0_ : (0 : Int32).toInt = 0 := (by decide); omega))) e0 0 (by decide) (by decide) (by decide) (by decide) [(.int pc), (.int (0 : Int32))] (by rw [hml]; rfl) pd_1 rfl E_o rfl rfl (Nat.le_of_eq rfl) (hb hby d_jdk_42m79_3) (pc' := 6) rfl (fun z1 T1 hz1 X1 e1 => ?_)
  have az1 : ((pc.toInt = 33 ∨ pc.toInt = 35 ∨ pc.toInt = 36 ∨ pc.toInt = 37 ∨ pc.toInt = 38 ∨ pc.toInt = 39 ∨ pc.toInt = 42 ∨ pc.toInt = 43 ∨ pc.toInt = 45 ∨ pc.toInt = 46 ∨ pc.toInt = 94 ∨ pc.toInt = 95 ∨ pc.toInt = 96 ∨ pc.toInt = 124 ∨ pc.toInt = 126) ∧ 0 ≤ z1.toInt) ∨ (¬ (pc.toInt = 33 ∨ pc.toInt = 35 ∨ pc.toInt = 36 ∨ pc.toInt = 37 ∨ pc.toInt = 38 ∨ pc.toInt = 39 ∨ pc.toInt = 42 ∨ pc.toInt = 43 ∨ pc.toInt = 45 ∨ pc.toInt = 46 ∨ pc.toInt = 94 ∨ pc.toInt = 95 ∨ pc.toInt = 96 ∨ pc.toInt = 124 ∨ pc.toInt = 126) ∧ z1.toInt = -1) := hz1
  have rz1 := rng32 z1
  exact ow_retI X1 hx hret hlk (hb hby d_jdk_42m79_6) (by decide) (by decide) ⟨z1, rfl, (show ((pc.toInt = 33 ∨ pc.toInt = 35 ∨ pc.toInt = 36 ∨ pc.toInt = 37 ∨ pc.toInt = 38 ∨ pc.toInt = 39 ∨ pc.toInt = 42 ∨ pc.toInt = 43 ∨ pc.toInt = 45 ∨ pc.toInt = 46 ∨ pc.toInt = 94 ∨ pc.toInt = 95 ∨ pc.toInt = 96 ∨ pc.toInt = 124 ∨ pc.toInt = 126) ∧ 0 ≤ z1.toInt) ∨ (¬ (pc.toInt = 33 ∨ pc.toInt = 35 ∨ pc.toInt = 36 ∨ pc.toInt = 37 ∨ pc.toInt = 38 ∨ pc.toInt = 39 ∨ pc.toInt = 42 ∨ pc.toInt = 43 ∨ pc.toInt = 45 ∨ pc.toInt = 46 ∨ pc.toInt = 94 ∨ pc.toInt = 95 ∨ pc.toInt = 96 ∨ pc.toInt = 124 ∨ pc.toInt = 126) ∧ z1.toInt = -1) from by omega), rfl, e1⟩
theorem d_prog_41m7_0 : decode prog_41_method_7_code 0 = .ok (.iload_n 0, 1) := by decide +kernel
theorem d_prog_41m7_1 : decode prog_41_method_7_code 1 = .ok (.bipush 97, 2) := by decide +kernel
theorem d_prog_41m7_3 : decode prog_41_method_7_code 3 = .ok (.if_icmp .lt 9, 3) := by decide +kernel
theorem d_prog_41m7_6 : decode prog_41_method_7_code 6 = .ok (.iload_n 0, 1) := by decide +kernel
theorem d_prog_41m7_7 : decode prog_41_method_7_code 7 = .ok (.bipush 122, 2) := by decide +kernel
theorem d_prog_41m7_9 : decode prog_41_method_7_code 9 = .ok (.if_icmp .le 27, 3) := by decide +kernel
theorem d_prog_41m7_12 : decode prog_41_method_7_code 12 = .ok (.iload_n 0, 1) := by decide +kernel
theorem d_prog_41m7_13 : decode prog_41_method_7_code 13 = .ok (.bipush 65, 2) := by decide +kernel
theorem d_prog_41m7_15 : decode prog_41_method_7_code 15 = .ok (.if_icmp .lt 9, 3) := by decide +kernel
theorem d_prog_41m7_18 : decode prog_41_method_7_code 18 = .ok (.iload_n 0, 1) := by decide +kernel
theorem d_prog_41m7_19 : decode prog_41_method_7_code 19 = .ok (.bipush 90, 2) := by decide +kernel
theorem d_prog_41m7_21 : decode prog_41_method_7_code 21 = .ok (.if_icmp .le 15, 3) := by decide +kernel
theorem d_prog_41m7_24 : decode prog_41_method_7_code 24 = .ok (.iload_n 0, 1) := by decide +kernel
theorem d_prog_41m7_25 : decode prog_41_method_7_code 25 = .ok (.bipush 48, 2) := by decide +kernel
theorem d_prog_41m7_27 : decode prog_41_method_7_code 27 = .ok (.if_icmp .lt 13, 3) := by decide +kernel
theorem d_prog_41m7_30 : decode prog_41_method_7_code 30 = .ok (.iload_n 0, 1) := by decide +kernel
theorem d_prog_41m7_31 : decode prog_41_method_7_code 31 = .ok (.bipush 57, 2) := by decide +kernel
theorem d_prog_41m7_33 : decode prog_41_method_7_code 33 = .ok (.if_icmp .gt 7, 3) := by decide +kernel
theorem d_prog_41m7_36 : decode prog_41_method_7_code 36 = .ok (.iconst 1, 1) := by decide +kernel
theorem d_prog_41m7_37 : decode prog_41_method_7_code 37 = .ok (.goto 4, 3) := by decide +kernel
theorem d_prog_41m7_40 : decode prog_41_method_7_code 40 = .ok (.iconst 0, 1) := by decide +kernel
theorem d_prog_41m7_41 : decode prog_41_method_7_code 41 = .ok (.ireturn, 1) := by decide +kernel
theorem ef_alnum (m : MethodId) (x0 : Int32) : entryFrame m #[(.int x0)] 1 = mkF m 0 #[.val (.int x0)] [] := by first | (simp [entryFrame, mkF, argsToLocals, Value.category]; done) | rfl
theorem pn_2 : plainName "com/example/inchworm/inchworm/store/HttpSyntax" = true := by first | (simp [plainName, overriddenIn]; done) | decide +kernel
set_option maxRecDepth 65536 in
set_option maxHeartbeats 40000000 in
theorem rm_alnum (l : Launch) (Z : State) (a0 : Array Value) (hw : ∀ d ∈ tables_1, d.before a0 Z = true) (ws : List Jvm.Cond) (pc : Int32) (h0 : Heap) :
    MetFree l (⟨"com/example/inchworm/inchworm/store/HttpSyntax", "isAlphanumeric", "(C)Z"⟩ : MethodName) (head1 (Jvm.Cond.code (⟨"com/example/inchworm/inchworm/store/HttpSyntax", "isAlphanumeric", "(C)Z"⟩ : MethodName) prog_41_method_7_code 1 (some .boolean) :: ws) ({ frames := 0, cells := 0, slots := 0, locals := 0 } : Room)) (fun a_ U_ => a_ = #[(.int pc)] ∧ Z.Warmed39 U_.vm ∧ U_.heap = h0) (fun _ _ _ _ _ => True) (fun _ U_ o_ U_' => ∃ v_ L_, o_ = .returned v_ ∧ (QI (fun z => (((97 ≤ pc.toInt ∧ pc.toInt ≤ 122) ∨ (65 ≤ pc.toInt ∧ pc.toInt ≤ 90) ∨ (48 ≤ pc.toInt ∧ pc.toInt ≤ 57)) ∧ z.toInt = 1) ∨ (¬ ((97 ≤ pc.toInt ∧ pc.toInt ≤ 122) ∨ (65 ≤ pc.toInt ∧ pc.toInt ≤ 90) ∨ (48 ≤ pc.toInt ∧ pc.toInt ≤ 57)) ∧ z.toInt = 0)) h0) v_ U_'.heap L_ ∧ FrameEnd U_ o_ U_' L_ 0 0) := by
  refine ow_body (plainFor_of_name pn_2) ?_
  intro p e s m below meth c T0 X0 hx hZ hby hml hown hnm hret hlk e0
  refine Ends.cast (ef_alnum m pc) ?_
  have r_pc := rng32 pc
  refine ow_iloadN X0 hx (hb hby d_prog_41m7_0) rfl (pc' := 1) rfl ?_
  refine ow_bipush X0 hx (z := (97 : Int32)) (hb hby d_prog_41m7_1) rfl (pc' := 3) rfl ?_
  refine ow_icmp_lt X0 hx (pc.toInt) ((97 : Int)) (hb hby d_prog_41m7_3) rfl rfl (by decide) (pt := 12) (by decide) (pf := 6) rfl (fun c3 => ?_) (fun c3 => ?_)
  · refine ow_iloadN X0 hx (hb hby d_prog_41m7_12) rfl (pc' := 13) rfl ?_
    refine ow_bipush X0 hx (z := (65 : Int32)) (hb hby d_prog_41m7_13) rfl (pc' := 15) rfl ?_
    refine ow_icmp_lt X0 hx (pc.toInt) ((65 : Int)) (hb hby d_prog_41m7_15) rfl rfl (by decide) (pt := 24) (by decide) (pf := 18) rfl (fun c15 => ?_) (fun c15 => ?_)
    · refine ow_iloadN X0 hx (hb hby d_prog_41m7_24) rfl (pc' := 25) rfl ?_
      refine ow_bipush X0 hx (z := (48 : Int32)) (hb hby d_prog_41m7_25) rfl (pc' := 27) rfl ?_
      refine ow_icmp_lt X0 hx (pc.toInt) ((48 : Int)) (hb hby d_prog_41m7_27) rfl rfl (by decide) (pt := 40) (by decide) (pf := 30) rfl (fun c27 => ?_) (fun c27 => ?_)
      · refine ow_iconst X0 hx (z := (0 : Int32)) (hb hby d_prog_41m7_40) rfl (pc' := 41) rfl ?_
        exact ow_retB X0 hx hret hlk (hb hby d_prog_41m7_41) (by decide) (by decide) (z' := (0 : Int32)) rfl ⟨(0 : Int32), rfl, (show (((97 ≤ pc.toInt ∧ pc.toInt ≤ 122) ∨ (65 ≤ pc.toInt ∧ pc.toInt ≤ 90) ∨ (48 ≤ pc.toInt ∧ pc.toInt ≤ 57)) ∧ (0 : Int) = 1) ∨ (¬ ((97 ≤ pc.toInt ∧ pc.toInt ≤ 122) ∨ (65 ≤ pc.toInt ∧ pc.toInt ≤ 90) ∨ (48 ≤ pc.toInt ∧ pc.toInt ≤ 57)) ∧ (0 : Int) = 0) from by omega), rfl, e0⟩
      · refine ow_iloadN X0 hx (hb hby d_prog_41m7_30) rfl (pc' := 31) rfl ?_
        refine ow_bipush X0 hx (z := (57 : Int32)) (hb hby d_prog_41m7_31) rfl (pc' := 33) rfl ?_
        refine ow_icmp_gt X0 hx (pc.toInt) ((57 : Int)) (hb hby d_prog_41m7_33) rfl rfl (by decide) (pt := 40) (by decide) (pf := 36) rfl (fun c33 => ?_) (fun c33 => ?_)
        · refine ow_iconst X0 hx (z := (0 : Int32)) (hb hby d_prog_41m7_40) rfl (pc' := 41) rfl ?_
          exact ow_retB X0 hx hret hlk (hb hby d_prog_41m7_41) (by decide) (by decide) (z' := (0 : Int32)) rfl ⟨(0 : Int32), rfl, (show (((97 ≤ pc.toInt ∧ pc.toInt ≤ 122) ∨ (65 ≤ pc.toInt ∧ pc.toInt ≤ 90) ∨ (48 ≤ pc.toInt ∧ pc.toInt ≤ 57)) ∧ (0 : Int) = 1) ∨ (¬ ((97 ≤ pc.toInt ∧ pc.toInt ≤ 122) ∨ (65 ≤ pc.toInt ∧ pc.toInt ≤ 90) ∨ (48 ≤ pc.toInt ∧ pc.toInt ≤ 57)) ∧ (0 : Int) = 0) from by omega), rfl, e0⟩
        · refine ow_iconst X0 hx (z := (1 : Int32)) (hb hby d_prog_41m7_36) rfl (pc' := 37) rfl ?_
          refine ow_goto X0 hx (hb hby d_prog_41m7_37) (by decide) (pc' := 41) (by decide) ?_
          exact ow_retB X0 hx hret hlk (hb hby d_prog_41m7_41) (by decide) (by decide) (z' := (1 : Int32)) rfl ⟨(1 : Int32), rfl, (show (((97 ≤ pc.toInt ∧ pc.toInt ≤ 122) ∨ (65 ≤ pc.toInt ∧ pc.toInt ≤ 90) ∨ (48 ≤ pc.toInt ∧ pc.toInt ≤ 57)) ∧ (1 : Int) = 1) ∨ (¬ ((97 ≤ pc.toInt ∧ pc.toInt ≤ 122) ∨ (65 ≤ pc.toInt ∧ pc.toInt ≤ 90) ∨ (48 ≤ pc.toInt ∧ pc.toInt ≤ 57)) ∧ (1 : Int) = 0) from by omega), rfl, e0⟩
    · refine ow_iloadN X0 hx (hb hby d_prog_41m7_18) rfl (pc' := 19) rfl ?_
      refine ow_bipush X0 hx (z := (90 : Int32)) (hb hby d_prog_41m7_19) rfl (pc' := 21) rfl ?_
      refine ow_icmp_le X0 hx (pc.toInt) ((90 : Int)) (hb hby d_prog_41m7_21) rfl rfl (by decide) (pt := 36) (by decide) (pf := 24) rfl (fun c21 => ?_) (fun c21 => ?_)
      · refine ow_iconst X0 hx (z := (1 : Int32)) (hb hby d_prog_41m7_36) rfl (pc' := 37) rfl ?_
        refine ow_goto X0 hx (hb hby d_prog_41m7_37) (by decide) (pc' := 41) (by decide) ?_
        exact ow_retB X0 hx hret hlk (hb hby d_prog_41m7_41) (by decide) (by decide) (z' := (1 : Int32)) rfl ⟨(1 : Int32), rfl, (show (((97 ≤ pc.toInt ∧ pc.toInt ≤ 122) ∨ (65 ≤ pc.toInt ∧ pc.toInt ≤ 90) ∨ (48 ≤ pc.toInt ∧ pc.toInt ≤ 57)) ∧ (1 : Int) = 1) ∨ (¬ ((97 ≤ pc.toInt ∧ pc.toInt ≤ 122) ∨ (65 ≤ pc.toInt ∧ pc.toInt ≤ 90) ∨ (48 ≤ pc.toInt ∧ pc.toInt ≤ 57)) ∧ (1 : Int) = 0) from by omega), rfl, e0⟩
      · refine ow_iloadN X0 hx (hb hby d_prog_41m7_24) rfl (pc' := 25) rfl ?_
        refine ow_bipush X0 hx (z := (48 : Int32)) (hb hby d_prog_41m7_25) rfl (pc' := 27) rfl ?_
        refine ow_icmp_lt X0 hx (pc.toInt) ((48 : Int)) (hb hby d_prog_41m7_27) rfl rfl (by decide) (pt := 40) (by decide) (pf := 30) rfl (fun c27 => ?_) (fun c27 => ?_)
        · refine ow_iconst X0 hx (z := (0 : Int32)) (hb hby d_prog_41m7_40) rfl (pc' := 41) rfl ?_
          exact ow_retB X0 hx hret hlk (hb hby d_prog_41m7_41) (by decide) (by decide) (z' := (0 : Int32)) rfl ⟨(0 : Int32), rfl, (show (((97 ≤ pc.toInt ∧ pc.toInt ≤ 122) ∨ (65 ≤ pc.toInt ∧ pc.toInt ≤ 90) ∨ (48 ≤ pc.toInt ∧ pc.toInt ≤ 57)) ∧ (0 : Int) = 1) ∨ (¬ ((97 ≤ pc.toInt ∧ pc.toInt ≤ 122) ∨ (65 ≤ pc.toInt ∧ pc.toInt ≤ 90) ∨ (48 ≤ pc.toInt ∧ pc.toInt ≤ 57)) ∧ (0 : Int) = 0) from by omega), rfl, e0⟩
        · refine ow_iloadN X0 hx (hb hby d_prog_41m7_30) rfl (pc' := 31) rfl ?_
          refine ow_bipush X0 hx (z := (57 : Int32)) (hb hby d_prog_41m7_31) rfl (pc' := 33) rfl ?_
          refine ow_icmp_gt X0 hx (pc.toInt) ((57 : Int)) (hb hby d_prog_41m7_33) rfl rfl (by decide) (pt := 40) (by decide) (pf := 36) rfl (fun c33 => ?_) (fun c33 => ?_)
          · refine ow_iconst X0 hx (z := (0 : Int32)) (hb hby d_prog_41m7_40) rfl (pc' := 41) rfl ?_
            exact ow_retB X0 hx hret hlk (hb hby d_prog_41m7_41) (by decide) (by decide) (z' := (0 : Int32)) rfl ⟨(0 : Int32), rfl, (show (((97 ≤ pc.toInt ∧ pc.toInt ≤ 122) ∨ (65 ≤ pc.toInt ∧ pc.toInt ≤ 90) ∨ (48 ≤ pc.toInt ∧ pc.toInt ≤ 57)) ∧ (0 : Int) = 1) ∨ (¬ ((97 ≤ pc.toInt ∧ pc.toInt ≤ 122) ∨ (65 ≤ pc.toInt ∧ pc.toInt ≤ 90) ∨ (48 ≤ pc.toInt ∧ pc.toInt ≤ 57)) ∧ (0 : Int) = 0) from by omega), rfl, e0⟩
          · refine ow_iconst X0 hx (z := (1 : Int32)) (hb hby d_prog_41m7_36) rfl (pc' := 37) rfl ?_
            refine ow_goto X0 hx (hb hby d_prog_41m7_37) (by decide) (pc' := 41) (by decide) ?_
            exact ow_retB X0 hx hret hlk (hb hby d_prog_41m7_41) (by decide) (by decide) (z' := (1 : Int32)) rfl ⟨(1 : Int32), rfl, (show (((97 ≤ pc.toInt ∧ pc.toInt ≤ 122) ∨ (65 ≤ pc.toInt ∧ pc.toInt ≤ 90) ∨ (48 ≤ pc.toInt ∧ pc.toInt ≤ 57)) ∧ (1 : Int) = 1) ∨ (¬ ((97 ≤ pc.toInt ∧ pc.toInt ≤ 122) ∨ (65 ≤ pc.toInt ∧ pc.toInt ≤ 90) ∨ (48 ≤ pc.toInt ∧ pc.toInt ≤ 57)) ∧ (1 : Int) = 0) from by omega), rfl, e0⟩
  · refine ow_iloadN X0 hx (hb hby d_prog_41m7_6) rfl (pc' := 7) rfl ?_
    refine ow_bipush X0 hx (z := (122 : Int32)) (hb hby d_prog_41m7_7) rfl (pc' := 9) rfl ?_
    refine ow_icmp_le X0 hx (pc.toInt) ((122 : Int)) (hb hby d_prog_41m7_9) rfl rfl (by decide) (pt := 36) (by decide) (pf := 12) rfl (fun c9 => ?_) (fun c9 => ?_)
    · refine ow_iconst X0 hx (z := (1 : Int32)) (hb hby d_prog_41m7_36) rfl (pc' := 37) rfl ?_
      refine ow_goto X0 hx (hb hby d_prog_41m7_37) (by decide) (pc' := 41) (by decide) ?_
      exact ow_retB X0 hx hret hlk (hb hby d_prog_41m7_41) (by decide) (by decide) (z' := (1 : Int32)) rfl ⟨(1 : Int32), rfl, (show (((97 ≤ pc.toInt ∧ pc.toInt ≤ 122) ∨ (65 ≤ pc.toInt ∧ pc.toInt ≤ 90) ∨ (48 ≤ pc.toInt ∧ pc.toInt ≤ 57)) ∧ (1 : Int) = 1) ∨ (¬ ((97 ≤ pc.toInt ∧ pc.toInt ≤ 122) ∨ (65 ≤ pc.toInt ∧ pc.toInt ≤ 90) ∨ (48 ≤ pc.toInt ∧ pc.toInt ≤ 57)) ∧ (1 : Int) = 0) from by omega), rfl, e0⟩
    · refine ow_iloadN X0 hx (hb hby d_prog_41m7_12) rfl (pc' := 13) rfl ?_
      refine ow_bipush X0 hx (z := (65 : Int32)) (hb hby d_prog_41m7_13) rfl (pc' := 15) rfl ?_
      refine ow_icmp_lt X0 hx (pc.toInt) ((65 : Int)) (hb hby d_prog_41m7_15) rfl rfl (by decide) (pt := 24) (by decide) (pf := 18) rfl (fun c15 => ?_) (fun c15 => ?_)
      · refine ow_iloadN X0 hx (hb hby d_prog_41m7_24) rfl (pc' := 25) rfl ?_
        refine ow_bipush X0 hx (z := (48 : Int32)) (hb hby d_prog_41m7_25) rfl (pc' := 27) rfl ?_
        refine ow_icmp_lt X0 hx (pc.toInt) ((48 : Int)) (hb hby d_prog_41m7_27) rfl rfl (by decide) (pt := 40) (by decide) (pf := 30) rfl (fun c27 => ?_) (fun c27 => ?_)
        · refine ow_iconst X0 hx (z := (0 : Int32)) (hb hby d_prog_41m7_40) rfl (pc' := 41) rfl ?_
          exact ow_retB X0 hx hret hlk (hb hby d_prog_41m7_41) (by decide) (by decide) (z' := (0 : Int32)) rfl ⟨(0 : Int32), rfl, (show (((97 ≤ pc.toInt ∧ pc.toInt ≤ 122) ∨ (65 ≤ pc.toInt ∧ pc.toInt ≤ 90) ∨ (48 ≤ pc.toInt ∧ pc.toInt ≤ 57)) ∧ (0 : Int) = 1) ∨ (¬ ((97 ≤ pc.toInt ∧ pc.toInt ≤ 122) ∨ (65 ≤ pc.toInt ∧ pc.toInt ≤ 90) ∨ (48 ≤ pc.toInt ∧ pc.toInt ≤ 57)) ∧ (0 : Int) = 0) from by omega), rfl, e0⟩
        · refine ow_iloadN X0 hx (hb hby d_prog_41m7_30) rfl (pc' := 31) rfl ?_
          refine ow_bipush X0 hx (z := (57 : Int32)) (hb hby d_prog_41m7_31) rfl (pc' := 33) rfl ?_
          refine ow_icmp_gt X0 hx (pc.toInt) ((57 : Int)) (hb hby d_prog_41m7_33) rfl rfl (by decide) (pt := 40) (by decide) (pf := 36) rfl (fun c33 => ?_) (fun c33 => ?_)
          · refine ow_iconst X0 hx (z := (0 : Int32)) (hb hby d_prog_41m7_40) rfl (pc' := 41) rfl ?_
            exact ow_retB X0 hx hret hlk (hb hby d_prog_41m7_41) (by decide) (by decide) (z' := (0 : Int32)) rfl ⟨(0 : Int32), rfl, (show (((97 ≤ pc.toInt ∧ pc.toInt ≤ 122) ∨ (65 ≤ pc.toInt ∧ pc.toInt ≤ 90) ∨ (48 ≤ pc.toInt ∧ pc.toInt ≤ 57)) ∧ (0 : Int) = 1) ∨ (¬ ((97 ≤ pc.toInt ∧ pc.toInt ≤ 122) ∨ (65 ≤ pc.toInt ∧ pc.toInt ≤ 90) ∨ (48 ≤ pc.toInt ∧ pc.toInt ≤ 57)) ∧ (0 : Int) = 0) from by omega), rfl, e0⟩
          · refine ow_iconst X0 hx (z := (1 : Int32)) (hb hby d_prog_41m7_36) rfl (pc' := 37) rfl ?_
            refine ow_goto X0 hx (hb hby d_prog_41m7_37) (by decide) (pc' := 41) (by decide) ?_
            exact ow_retB X0 hx hret hlk (hb hby d_prog_41m7_41) (by decide) (by decide) (z' := (1 : Int32)) rfl ⟨(1 : Int32), rfl, (show (((97 ≤ pc.toInt ∧ pc.toInt ≤ 122) ∨ (65 ≤ pc.toInt ∧ pc.toInt ≤ 90) ∨ (48 ≤ pc.toInt ∧ pc.toInt ≤ 57)) ∧ (1 : Int) = 1) ∨ (¬ ((97 ≤ pc.toInt ∧ pc.toInt ≤ 122) ∨ (65 ≤ pc.toInt ∧ pc.toInt ≤ 90) ∨ (48 ≤ pc.toInt ∧ pc.toInt ≤ 57)) ∧ (1 : Int) = 0) from by omega), rfl, e0⟩
      · refine ow_iloadN X0 hx (hb hby d_prog_41m7_18) rfl (pc' := 19) rfl ?_
        refine ow_bipush X0 hx (z := (90 : Int32)) (hb hby d_prog_41m7_19) rfl (pc' := 21) rfl ?_
        refine ow_icmp_le X0 hx (pc.toInt) ((90 : Int)) (hb hby d_prog_41m7_21) rfl rfl (by decide) (pt := 36) (by decide) (pf := 24) rfl (fun c21 => ?_) (fun c21 => ?_)
        · refine ow_iconst X0 hx (z := (1 : Int32)) (hb hby d_prog_41m7_36) rfl (pc' := 37) rfl ?_
          refine ow_goto X0 hx (hb hby d_prog_41m7_37) (by decide) (pc' := 41) (by decide) ?_
          exact ow_retB X0 hx hret hlk (hb hby d_prog_41m7_41) (by decide) (by decide) (z' := (1 : Int32)) rfl ⟨(1 : Int32), rfl, (show (((97 ≤ pc.toInt ∧ pc.toInt ≤ 122) ∨ (65 ≤ pc.toInt ∧ pc.toInt ≤ 90) ∨ (48 ≤ pc.toInt ∧ pc.toInt ≤ 57)) ∧ (1 : Int) = 1) ∨ (¬ ((97 ≤ pc.toInt ∧ pc.toInt ≤ 122) ∨ (65 ≤ pc.toInt ∧ pc.toInt ≤ 90) ∨ (48 ≤ pc.toInt ∧ pc.toInt ≤ 57)) ∧ (1 : Int) = 0) from by omega), rfl, e0⟩
        · refine ow_iloadN X0 hx (hb hby d_prog_41m7_24) rfl (pc' := 25) rfl ?_
          refine ow_bipush X0 hx (z := (48 : Int32)) (hb hby d_prog_41m7_25) rfl (pc' := 27) rfl ?_
          refine ow_icmp_lt X0 hx (pc.toInt) ((48 : Int)) (hb hby d_prog_41m7_27) rfl rfl (by decide) (pt := 40) (by decide) (pf := 30) rfl (fun c27 => ?_) (fun c27 => ?_)
          · refine ow_iconst X0 hx (z := (0 : Int32)) (hb hby d_prog_41m7_40) rfl (pc' := 41) rfl ?_
            exact ow_retB X0 hx hret hlk (hb hby d_prog_41m7_41) (by decide) (by decide) (z' := (0 : Int32)) rfl ⟨(0 : Int32), rfl, (show (((97 ≤ pc.toInt ∧ pc.toInt ≤ 122) ∨ (65 ≤ pc.toInt ∧ pc.toInt ≤ 90) ∨ (48 ≤ pc.toInt ∧ pc.toInt ≤ 57)) ∧ (0 : Int) = 1) ∨ (¬ ((97 ≤ pc.toInt ∧ pc.toInt ≤ 122) ∨ (65 ≤ pc.toInt ∧ pc.toInt ≤ 90) ∨ (48 ≤ pc.toInt ∧ pc.toInt ≤ 57)) ∧ (0 : Int) = 0) from by omega), rfl, e0⟩
          · refine ow_iloadN X0 hx (hb hby d_prog_41m7_30) rfl (pc' := 31) rfl ?_
            refine ow_bipush X0 hx (z := (57 : Int32)) (hb hby d_prog_41m7_31) rfl (pc' := 33) rfl ?_
            refine ow_icmp_gt X0 hx (pc.toInt) ((57 : Int)) (hb hby d_prog_41m7_33) rfl rfl (by decide) (pt := 40) (by decide) (pf := 36) rfl (fun c33 => ?_) (fun c33 => ?_)
            · refine ow_iconst X0 hx (z := (0 : Int32)) (hb hby d_prog_41m7_40) rfl (pc' := 41) rfl ?_
              exact ow_retB X0 hx hret hlk (hb hby d_prog_41m7_41) (by decide) (by decide) (z' := (0 : Int32)) rfl ⟨(0 : Int32), rfl, (show (((97 ≤ pc.toInt ∧ pc.toInt ≤ 122) ∨ (65 ≤ pc.toInt ∧ pc.toInt ≤ 90) ∨ (48 ≤ pc.toInt ∧ pc.toInt ≤ 57)) ∧ (0 : Int) = 1) ∨ (¬ ((97 ≤ pc.toInt ∧ pc.toInt ≤ 122) ∨ (65 ≤ pc.toInt ∧ pc.toInt ≤ 90) ∨ (48 ≤ pc.toInt ∧ pc.toInt ≤ 57)) ∧ (0 : Int) = 0) from by omega), rfl, e0⟩
            · refine ow_iconst X0 hx (z := (1 : Int32)) (hb hby d_prog_41m7_36) rfl (pc' := 37) rfl ?_
              refine ow_goto X0 hx (hb hby d_prog_41m7_37) (by decide) (pc' := 41) (by decide) ?_
              exact ow_retB X0 hx hret hlk (hb hby d_prog_41m7_41) (by decide) (by decide) (z' := (1 : Int32)) rfl ⟨(1 : Int32), rfl, (show (((97 ≤ pc.toInt ∧ pc.toInt ≤ 122) ∨ (65 ≤ pc.toInt ∧ pc.toInt ≤ 90) ∨ (48 ≤ pc.toInt ∧ pc.toInt ≤ 57)) ∧ (1 : Int) = 1) ∨ (¬ ((97 ≤ pc.toInt ∧ pc.toInt ≤ 122) ∨ (65 ≤ pc.toInt ∧ pc.toInt ≤ 90) ∨ (48 ≤ pc.toInt ∧ pc.toInt ≤ 57)) ∧ (1 : Int) = 0) from by omega), rfl, e0⟩
theorem d_m2_0 : decode method_2_code 0 = .ok (.iload_n 0, 1) := by decide +kernel
theorem d_m2_1 : decode method_2_code 1 = .ok (.bipush 34, 2) := by decide +kernel
theorem d_m2_3 : decode method_2_code 3 = .ok (.if_icmp .eq 99, 3) := by decide +kernel
theorem d_m2_6 : decode method_2_code 6 = .ok (.iload_n 0, 1) := by decide +kernel
theorem d_m2_7 : decode method_2_code 7 = .ok (.bipush 40, 2) := by decide +kernel
theorem d_m2_9 : decode method_2_code 9 = .ok (.if_icmp .eq 93, 3) := by decide +kernel
theorem d_m2_12 : decode method_2_code 12 = .ok (.iload_n 0, 1) := by decide +kernel
theorem d_m2_13 : decode method_2_code 13 = .ok (.bipush 41, 2) := by decide +kernel
theorem d_m2_15 : decode method_2_code 15 = .ok (.if_icmp .eq 87, 3) := by decide +kernel
theorem d_m2_18 : decode method_2_code 18 = .ok (.iload_n 0, 1) := by decide +kernel
theorem d_m2_19 : decode method_2_code 19 = .ok (.bipush 44, 2) := by decide +kernel
theorem d_m2_21 : decode method_2_code 21 = .ok (.if_icmp .eq 81, 3) := by decide +kernel
theorem d_m2_24 : decode method_2_code 24 = .ok (.iload_n 0, 1) := by decide +kernel
theorem d_m2_25 : decode method_2_code 25 = .ok (.bipush 47, 2) := by decide +kernel
theorem d_m2_27 : decode method_2_code 27 = .ok (.if_icmp .eq 75, 3) := by decide +kernel
theorem d_m2_30 : decode method_2_code 30 = .ok (.iload_n 0, 1) := by decide +kernel
theorem d_m2_31 : decode method_2_code 31 = .ok (.bipush 58, 2) := by decide +kernel
theorem d_m2_33 : decode method_2_code 33 = .ok (.if_icmp .eq 69, 3) := by decide +kernel
theorem d_m2_36 : decode method_2_code 36 = .ok (.iload_n 0, 1) := by decide +kernel
theorem d_m2_37 : decode method_2_code 37 = .ok (.bipush 59, 2) := by decide +kernel
theorem d_m2_39 : decode method_2_code 39 = .ok (.if_icmp .eq 63, 3) := by decide +kernel
theorem d_m2_42 : decode method_2_code 42 = .ok (.iload_n 0, 1) := by decide +kernel
theorem d_m2_43 : decode method_2_code 43 = .ok (.bipush 60, 2) := by decide +kernel
theorem d_m2_45 : decode method_2_code 45 = .ok (.if_icmp .eq 57, 3) := by decide +kernel
theorem d_m2_48 : decode method_2_code 48 = .ok (.iload_n 0, 1) := by decide +kernel
theorem d_m2_49 : decode method_2_code 49 = .ok (.bipush 61, 2) := by decide +kernel
theorem d_m2_51 : decode method_2_code 51 = .ok (.if_icmp .eq 51, 3) := by decide +kernel
theorem d_m2_54 : decode method_2_code 54 = .ok (.iload_n 0, 1) := by decide +kernel
theorem d_m2_55 : decode method_2_code 55 = .ok (.bipush 62, 2) := by decide +kernel
theorem d_m2_57 : decode method_2_code 57 = .ok (.if_icmp .eq 45, 3) := by decide +kernel
theorem d_m2_60 : decode method_2_code 60 = .ok (.iload_n 0, 1) := by decide +kernel
theorem d_m2_61 : decode method_2_code 61 = .ok (.bipush 63, 2) := by decide +kernel
theorem d_m2_63 : decode method_2_code 63 = .ok (.if_icmp .eq 39, 3) := by decide +kernel
theorem d_m2_66 : decode method_2_code 66 = .ok (.iload_n 0, 1) := by decide +kernel
theorem d_m2_67 : decode method_2_code 67 = .ok (.bipush 64, 2) := by decide +kernel
theorem d_m2_69 : decode method_2_code 69 = .ok (.if_icmp .eq 33, 3) := by decide +kernel
theorem d_m2_72 : decode method_2_code 72 = .ok (.iload_n 0, 1) := by decide +kernel
theorem d_m2_73 : decode method_2_code 73 = .ok (.bipush 91, 2) := by decide +kernel
theorem d_m2_75 : decode method_2_code 75 = .ok (.if_icmp .eq 27, 3) := by decide +kernel
theorem d_m2_78 : decode method_2_code 78 = .ok (.iload_n 0, 1) := by decide +kernel
theorem d_m2_79 : decode method_2_code 79 = .ok (.bipush 92, 2) := by decide +kernel
theorem d_m2_81 : decode method_2_code 81 = .ok (.if_icmp .eq 21, 3) := by decide +kernel
theorem d_m2_84 : decode method_2_code 84 = .ok (.iload_n 0, 1) := by decide +kernel
theorem d_m2_85 : decode method_2_code 85 = .ok (.bipush 93, 2) := by decide +kernel
theorem d_m2_87 : decode method_2_code 87 = .ok (.if_icmp .eq 15, 3) := by decide +kernel
theorem d_m2_90 : decode method_2_code 90 = .ok (.iload_n 0, 1) := by decide +kernel
theorem d_m2_91 : decode method_2_code 91 = .ok (.bipush 123, 2) := by decide +kernel
theorem d_m2_93 : decode method_2_code 93 = .ok (.if_icmp .eq 9, 3) := by decide +kernel
theorem d_m2_96 : decode method_2_code 96 = .ok (.iload_n 0, 1) := by decide +kernel
theorem d_m2_97 : decode method_2_code 97 = .ok (.bipush 125, 2) := by decide +kernel
theorem d_m2_99 : decode method_2_code 99 = .ok (.if_icmp .ne 7, 3) := by decide +kernel
theorem d_m2_102 : decode method_2_code 102 = .ok (.iconst 1, 1) := by decide +kernel
theorem d_m2_103 : decode method_2_code 103 = .ok (.goto 4, 3) := by decide +kernel
theorem d_m2_106 : decode method_2_code 106 = .ok (.iconst 0, 1) := by decide +kernel
theorem d_m2_107 : decode method_2_code 107 = .ok (.ireturn, 1) := by decide +kernel
theorem ef_delim (m : MethodId) (x0 : Int32) : entryFrame m #[(.int x0)] 1 = mkF m 0 #[.val (.int x0)] [] := by first | (simp [entryFrame, mkF, argsToLocals, Value.category]; done) | rfl
theorem pn_3 : plainName "com/example/inchworm/inchworm/store/HttpSyntaxIsTokenCharPinLaw" = true := by first | (simp [plainName, overriddenIn]; done) | decide +kernel
set_option maxRecDepth 65536 in
set_option maxHeartbeats 40000000 in
theorem rm_delim (l : Launch) (Z : State) (a0 : Array Value) (hw : ∀ d ∈ tables_1, d.before a0 Z = true) (ws : List Jvm.Cond) (pc : Int32) (h0 : Heap) :
    MetFree l (⟨"com/example/inchworm/inchworm/store/HttpSyntaxIsTokenCharPinLaw", "isDelimiter", "(C)Z"⟩ : MethodName) (head1 (Jvm.Cond.code (⟨"com/example/inchworm/inchworm/store/HttpSyntaxIsTokenCharPinLaw", "isDelimiter", "(C)Z"⟩ : MethodName) method_2_code 1 (some .boolean) :: ws) ({ frames := 0, cells := 0, slots := 0, locals := 0 } : Room)) (fun a_ U_ => a_ = #[(.int pc)] ∧ Z.Warmed39 U_.vm ∧ U_.heap = h0) (fun _ _ _ _ _ => True) (fun _ U_ o_ U_' => ∃ v_ L_, o_ = .returned v_ ∧ (QI (fun z => ((pc.toInt = 34 ∨ pc.toInt = 40 ∨ pc.toInt = 41 ∨ pc.toInt = 44 ∨ pc.toInt = 47 ∨ pc.toInt = 58 ∨ pc.toInt = 59 ∨ pc.toInt = 60 ∨ pc.toInt = 61 ∨ pc.toInt = 62 ∨ pc.toInt = 63 ∨ pc.toInt = 64 ∨ pc.toInt = 91 ∨ pc.toInt = 92 ∨ pc.toInt = 93 ∨ pc.toInt = 123 ∨ pc.toInt = 125) ∧ z.toInt = 1) ∨ (¬ (pc.toInt = 34 ∨ pc.toInt = 40 ∨ pc.toInt = 41 ∨ pc.toInt = 44 ∨ pc.toInt = 47 ∨ pc.toInt = 58 ∨ pc.toInt = 59 ∨ pc.toInt = 60 ∨ pc.toInt = 61 ∨ pc.toInt = 62 ∨ pc.toInt = 63 ∨ pc.toInt = 64 ∨ pc.toInt = 91 ∨ pc.toInt = 92 ∨ pc.toInt = 93 ∨ pc.toInt = 123 ∨ pc.toInt = 125) ∧ z.toInt = 0)) h0) v_ U_'.heap L_ ∧ FrameEnd U_ o_ U_' L_ 0 0) := by
  refine ow_body (plainFor_of_name pn_3) ?_
  intro p e s m below meth c T0 X0 hx hZ hby hml hown hnm hret hlk e0
  refine Ends.cast (ef_delim m pc) ?_
  have r_pc := rng32 pc
  refine ow_iloadN X0 hx (hb hby d_m2_0) rfl (pc' := 1) rfl ?_
  refine ow_bipush X0 hx (z := (34 : Int32)) (hb hby d_m2_1) rfl (pc' := 3) rfl ?_
  refine ow_icmp_eq X0 hx (pc.toInt) ((34 : Int)) (hb hby d_m2_3) rfl rfl (by decide) (pt := 102) (by decide) (pf := 6) rfl (fun c3 => ?_) (fun c3 => ?_)
  · refine ow_iconst X0 hx (z := (1 : Int32)) (hb hby d_m2_102) rfl (pc' := 103) rfl ?_
    refine ow_goto X0 hx (hb hby d_m2_103) (by decide) (pc' := 107) (by decide) ?_
    exact ow_retB X0 hx hret hlk (hb hby d_m2_107) (by decide) (by decide) (z' := (1 : Int32)) rfl ⟨(1 : Int32), rfl, (show ((pc.toInt = 34 ∨ pc.toInt = 40 ∨ pc.toInt = 41 ∨ pc.toInt = 44 ∨ pc.toInt = 47 ∨ pc.toInt = 58 ∨ pc.toInt = 59 ∨ pc.toInt = 60 ∨ pc.toInt = 61 ∨ pc.toInt = 62 ∨ pc.toInt = 63 ∨ pc.toInt = 64 ∨ pc.toInt = 91 ∨ pc.toInt = 92 ∨ pc.toInt = 93 ∨ pc.toInt = 123 ∨ pc.toInt = 125) ∧ (1 : Int) = 1) ∨ (¬ (pc.toInt = 34 ∨ pc.toInt = 40 ∨ pc.toInt = 41 ∨ pc.toInt = 44 ∨ pc.toInt = 47 ∨ pc.toInt = 58 ∨ pc.toInt = 59 ∨ pc.toInt = 60 ∨ pc.toInt = 61 ∨ pc.toInt = 62 ∨ pc.toInt = 63 ∨ pc.toInt = 64 ∨ pc.toInt = 91 ∨ pc.toInt = 92 ∨ pc.toInt = 93 ∨ pc.toInt = 123 ∨ pc.toInt = 125) ∧ (1 : Int) = 0) from by omega), rfl, e0⟩
  · refine ow_iloadN X0 hx (hb hby d_m2_6) rfl (pc' := 7) rfl ?_
    refine ow_bipush X0 hx (z := (40 : Int32)) (hb hby d_m2_7) rfl (pc' := 9) rfl ?_
    refine ow_icmp_eq X0 hx (pc.toInt) ((40 : Int)) (hb hby d_m2_9) rfl rfl (by decide) (pt := 102) (by decide) (pf := 12) rfl (fun c9 => ?_) (fun c9 => ?_)
    · refine ow_iconst X0 hx (z := (1 : Int32)) (hb hby d_m2_102) rfl (pc' := 103) rfl ?_
      refine ow_goto X0 hx (hb hby d_m2_103) (by decide) (pc' := 107) (by decide) ?_
      exact ow_retB X0 hx hret hlk (hb hby d_m2_107) (by decide) (by decide) (z' := (1 : Int32)) rfl ⟨(1 : Int32), rfl, (show ((pc.toInt = 34 ∨ pc.toInt = 40 ∨ pc.toInt = 41 ∨ pc.toInt = 44 ∨ pc.toInt = 47 ∨ pc.toInt = 58 ∨ pc.toInt = 59 ∨ pc.toInt = 60 ∨ pc.toInt = 61 ∨ pc.toInt = 62 ∨ pc.toInt = 63 ∨ pc.toInt = 64 ∨ pc.toInt = 91 ∨ pc.toInt = 92 ∨ pc.toInt = 93 ∨ pc.toInt = 123 ∨ pc.toInt = 125) ∧ (1 : Int) = 1) ∨ (¬ (pc.toInt = 34 ∨ pc.toInt = 40 ∨ pc.toInt = 41 ∨ pc.toInt = 44 ∨ pc.toInt = 47 ∨ pc.toInt = 58 ∨ pc.toInt = 59 ∨ pc.toInt = 60 ∨ pc.toInt = 61 ∨ pc.toInt = 62 ∨ pc.toInt = 63 ∨ pc.toInt = 64 ∨ pc.toInt = 91 ∨ pc.toInt = 92 ∨ pc.toInt = 93 ∨ pc.toInt = 123 ∨ pc.toInt = 125) ∧ (1 : Int) = 0) from by omega), rfl, e0⟩
    · refine ow_iloadN X0 hx (hb hby d_m2_12) rfl (pc' := 13) rfl ?_
      refine ow_bipush X0 hx (z := (41 : Int32)) (hb hby d_m2_13) rfl (pc' := 15) rfl ?_
      refine ow_icmp_eq X0 hx (pc.toInt) ((41 : Int)) (hb hby d_m2_15) rfl rfl (by decide) (pt := 102) (by decide) (pf := 18) rfl (fun c15 => ?_) (fun c15 => ?_)
      · refine ow_iconst X0 hx (z := (1 : Int32)) (hb hby d_m2_102) rfl (pc' := 103) rfl ?_
        refine ow_goto X0 hx (hb hby d_m2_103) (by decide) (pc' := 107) (by decide) ?_
        exact ow_retB X0 hx hret hlk (hb hby d_m2_107) (by decide) (by decide) (z' := (1 : Int32)) rfl ⟨(1 : Int32), rfl, (show ((pc.toInt = 34 ∨ pc.toInt = 40 ∨ pc.toInt = 41 ∨ pc.toInt = 44 ∨ pc.toInt = 47 ∨ pc.toInt = 58 ∨ pc.toInt = 59 ∨ pc.toInt = 60 ∨ pc.toInt = 61 ∨ pc.toInt = 62 ∨ pc.toInt = 63 ∨ pc.toInt = 64 ∨ pc.toInt = 91 ∨ pc.toInt = 92 ∨ pc.toInt = 93 ∨ pc.toInt = 123 ∨ pc.toInt = 125) ∧ (1 : Int) = 1) ∨ (¬ (pc.toInt = 34 ∨ pc.toInt = 40 ∨ pc.toInt = 41 ∨ pc.toInt = 44 ∨ pc.toInt = 47 ∨ pc.toInt = 58 ∨ pc.toInt = 59 ∨ pc.toInt = 60 ∨ pc.toInt = 61 ∨ pc.toInt = 62 ∨ pc.toInt = 63 ∨ pc.toInt = 64 ∨ pc.toInt = 91 ∨ pc.toInt = 92 ∨ pc.toInt = 93 ∨ pc.toInt = 123 ∨ pc.toInt = 125) ∧ (1 : Int) = 0) from by omega), rfl, e0⟩
      · refine ow_iloadN X0 hx (hb hby d_m2_18) rfl (pc' := 19) rfl ?_
        refine ow_bipush X0 hx (z := (44 : Int32)) (hb hby d_m2_19) rfl (pc' := 21) rfl ?_
        refine ow_icmp_eq X0 hx (pc.toInt) ((44 : Int)) (hb hby d_m2_21) rfl rfl (by decide) (pt := 102) (by decide) (pf := 24) rfl (fun c21 => ?_) (fun c21 => ?_)
        · refine ow_iconst X0 hx (z := (1 : Int32)) (hb hby d_m2_102) rfl (pc' := 103) rfl ?_
          refine ow_goto X0 hx (hb hby d_m2_103) (by decide) (pc' := 107) (by decide) ?_
          exact ow_retB X0 hx hret hlk (hb hby d_m2_107) (by decide) (by decide) (z' := (1 : Int32)) rfl ⟨(1 : Int32), rfl, (show ((pc.toInt = 34 ∨ pc.toInt = 40 ∨ pc.toInt = 41 ∨ pc.toInt = 44 ∨ pc.toInt = 47 ∨ pc.toInt = 58 ∨ pc.toInt = 59 ∨ pc.toInt = 60 ∨ pc.toInt = 61 ∨ pc.toInt = 62 ∨ pc.toInt = 63 ∨ pc.toInt = 64 ∨ pc.toInt = 91 ∨ pc.toInt = 92 ∨ pc.toInt = 93 ∨ pc.toInt = 123 ∨ pc.toInt = 125) ∧ (1 : Int) = 1) ∨ (¬ (pc.toInt = 34 ∨ pc.toInt = 40 ∨ pc.toInt = 41 ∨ pc.toInt = 44 ∨ pc.toInt = 47 ∨ pc.toInt = 58 ∨ pc.toInt = 59 ∨ pc.toInt = 60 ∨ pc.toInt = 61 ∨ pc.toInt = 62 ∨ pc.toInt = 63 ∨ pc.toInt = 64 ∨ pc.toInt = 91 ∨ pc.toInt = 92 ∨ pc.toInt = 93 ∨ pc.toInt = 123 ∨ pc.toInt = 125) ∧ (1 : Int) = 0) from by omega), rfl, e0⟩
        · refine ow_iloadN X0 hx (hb hby d_m2_24) rfl (pc' := 25) rfl ?_
          refine ow_bipush X0 hx (z := (47 : Int32)) (hb hby d_m2_25) rfl (pc' := 27) rfl ?_
          refine ow_icmp_eq X0 hx (pc.toInt) ((47 : Int)) (hb hby d_m2_27) rfl rfl (by decide) (pt := 102) (by decide) (pf := 30) rfl (fun c27 => ?_) (fun c27 => ?_)
          · refine ow_iconst X0 hx (z := (1 : Int32)) (hb hby d_m2_102) rfl (pc' := 103) rfl ?_
            refine ow_goto X0 hx (hb hby d_m2_103) (by decide) (pc' := 107) (by decide) ?_
            exact ow_retB X0 hx hret hlk (hb hby d_m2_107) (by decide) (by decide) (z' := (1 : Int32)) rfl ⟨(1 : Int32), rfl, (show ((pc.toInt = 34 ∨ pc.toInt = 40 ∨ pc.toInt = 41 ∨ pc.toInt = 44 ∨ pc.toInt = 47 ∨ pc.toInt = 58 ∨ pc.toInt = 59 ∨ pc.toInt = 60 ∨ pc.toInt = 61 ∨ pc.toInt = 62 ∨ pc.toInt = 63 ∨ pc.toInt = 64 ∨ pc.toInt = 91 ∨ pc.toInt = 92 ∨ pc.toInt = 93 ∨ pc.toInt = 123 ∨ pc.toInt = 125) ∧ (1 : Int) = 1) ∨ (¬ (pc.toInt = 34 ∨ pc.toInt = 40 ∨ pc.toInt = 41 ∨ pc.toInt = 44 ∨ pc.toInt = 47 ∨ pc.toInt = 58 ∨ pc.toInt = 59 ∨ pc.toInt = 60 ∨ pc.toInt = 61 ∨ pc.toInt = 62 ∨ pc.toInt = 63 ∨ pc.toInt = 64 ∨ pc.toInt = 91 ∨ pc.toInt = 92 ∨ pc.toInt = 93 ∨ pc.toInt = 123 ∨ pc.toInt = 125) ∧ (1 : Int) = 0) from by omega), rfl, e0⟩
          · refine ow_iloadN X0 hx (hb hby d_m2_30) rfl (pc' := 31) rfl ?_
            refine ow_bipush X0 hx (z := (58 : Int32)) (hb hby d_m2_31) rfl (pc' := 33) rfl ?_
            refine ow_icmp_eq X0 hx (pc.toInt) ((58 : Int)) (hb hby d_m2_33) rfl rfl (by decide) (pt := 102) (by decide) (pf := 36) rfl (fun c33 => ?_) (fun c33 => ?_)
            · refine ow_iconst X0 hx (z := (1 : Int32)) (hb hby d_m2_102) rfl (pc' := 103) rfl ?_
              refine ow_goto X0 hx (hb hby d_m2_103) (by decide) (pc' := 107) (by decide) ?_
              exact ow_retB X0 hx hret hlk (hb hby d_m2_107) (by decide) (by decide) (z' := (1 : Int32)) rfl ⟨(1 : Int32), rfl, (show ((pc.toInt = 34 ∨ pc.toInt = 40 ∨ pc.toInt = 41 ∨ pc.toInt = 44 ∨ pc.toInt = 47 ∨ pc.toInt = 58 ∨ pc.toInt = 59 ∨ pc.toInt = 60 ∨ pc.toInt = 61 ∨ pc.toInt = 62 ∨ pc.toInt = 63 ∨ pc.toInt = 64 ∨ pc.toInt = 91 ∨ pc.toInt = 92 ∨ pc.toInt = 93 ∨ pc.toInt = 123 ∨ pc.toInt = 125) ∧ (1 : Int) = 1) ∨ (¬ (pc.toInt = 34 ∨ pc.toInt = 40 ∨ pc.toInt = 41 ∨ pc.toInt = 44 ∨ pc.toInt = 47 ∨ pc.toInt = 58 ∨ pc.toInt = 59 ∨ pc.toInt = 60 ∨ pc.toInt = 61 ∨ pc.toInt = 62 ∨ pc.toInt = 63 ∨ pc.toInt = 64 ∨ pc.toInt = 91 ∨ pc.toInt = 92 ∨ pc.toInt = 93 ∨ pc.toInt = 123 ∨ pc.toInt = 125) ∧ (1 : Int) = 0) from by omega), rfl, e0⟩
            · refine ow_iloadN X0 hx (hb hby d_m2_36) rfl (pc' := 37) rfl ?_
              refine ow_bipush X0 hx (z := (59 : Int32)) (hb hby d_m2_37) rfl (pc' := 39) rfl ?_
              refine ow_icmp_eq X0 hx (pc.toInt) ((59 : Int)) (hb hby d_m2_39) rfl rfl (by decide) (pt := 102) (by decide) (pf := 42) rfl (fun c39 => ?_) (fun c39 => ?_)
              · refine ow_iconst X0 hx (z := (1 : Int32)) (hb hby d_m2_102) rfl (pc' := 103) rfl ?_
                refine ow_goto X0 hx (hb hby d_m2_103) (by decide) (pc' := 107) (by decide) ?_
                exact ow_retB X0 hx hret hlk (hb hby d_m2_107) (by decide) (by decide) (z' := (1 : Int32)) rfl ⟨(1 : Int32), rfl, (show ((pc.toInt = 34 ∨ pc.toInt = 40 ∨ pc.toInt = 41 ∨ pc.toInt = 44 ∨ pc.toInt = 47 ∨ pc.toInt = 58 ∨ pc.toInt = 59 ∨ pc.toInt = 60 ∨ pc.toInt = 61 ∨ pc.toInt = 62 ∨ pc.toInt = 63 ∨ pc.toInt = 64 ∨ pc.toInt = 91 ∨ pc.toInt = 92 ∨ pc.toInt = 93 ∨ pc.toInt = 123 ∨ pc.toInt = 125) ∧ (1 : Int) = 1) ∨ (¬ (pc.toInt = 34 ∨ pc.toInt = 40 ∨ pc.toInt = 41 ∨ pc.toInt = 44 ∨ pc.toInt = 47 ∨ pc.toInt = 58 ∨ pc.toInt = 59 ∨ pc.toInt = 60 ∨ pc.toInt = 61 ∨ pc.toInt = 62 ∨ pc.toInt = 63 ∨ pc.toInt = 64 ∨ pc.toInt = 91 ∨ pc.toInt = 92 ∨ pc.toInt = 93 ∨ pc.toInt = 123 ∨ pc.toInt = 125) ∧ (1 : Int) = 0) from by omega), rfl, e0⟩
              · refine ow_iloadN X0 hx (hb hby d_m2_42) rfl (pc' := 43) rfl ?_
                refine ow_bipush X0 hx (z := (60 : Int32)) (hb hby d_m2_43) rfl (pc' := 45) rfl ?_
                refine ow_icmp_eq X0 hx (pc.toInt) ((60 : Int)) (hb hby d_m2_45) rfl rfl (by decide) (pt := 102) (by decide) (pf := 48) rfl (fun c45 => ?_) (fun c45 => ?_)
                · refine ow_iconst X0 hx (z := (1 : Int32)) (hb hby d_m2_102) rfl (pc' := 103) rfl ?_
                  refine ow_goto X0 hx (hb hby d_m2_103) (by decide) (pc' := 107) (by decide) ?_
                  exact ow_retB X0 hx hret hlk (hb hby d_m2_107) (by decide) (by decide) (z' := (1 : Int32)) rfl ⟨(1 : Int32), rfl, (show ((pc.toInt = 34 ∨ pc.toInt = 40 ∨ pc.toInt = 41 ∨ pc.toInt = 44 ∨ pc.toInt = 47 ∨ pc.toInt = 58 ∨ pc.toInt = 59 ∨ pc.toInt = 60 ∨ pc.toInt = 61 ∨ pc.toInt = 62 ∨ pc.toInt = 63 ∨ pc.toInt = 64 ∨ pc.toInt = 91 ∨ pc.toInt = 92 ∨ pc.toInt = 93 ∨ pc.toInt = 123 ∨ pc.toInt = 125) ∧ (1 : Int) = 1) ∨ (¬ (pc.toInt = 34 ∨ pc.toInt = 40 ∨ pc.toInt = 41 ∨ pc.toInt = 44 ∨ pc.toInt = 47 ∨ pc.toInt = 58 ∨ pc.toInt = 59 ∨ pc.toInt = 60 ∨ pc.toInt = 61 ∨ pc.toInt = 62 ∨ pc.toInt = 63 ∨ pc.toInt = 64 ∨ pc.toInt = 91 ∨ pc.toInt = 92 ∨ pc.toInt = 93 ∨ pc.toInt = 123 ∨ pc.toInt = 125) ∧ (1 : Int) = 0) from by omega), rfl, e0⟩
                · refine ow_iloadN X0 hx (hb hby d_m2_48) rfl (pc' := 49) rfl ?_
                  refine ow_bipush X0 hx (z := (61 : Int32)) (hb hby d_m2_49) rfl (pc' := 51) rfl ?_
                  refine ow_icmp_eq X0 hx (pc.toInt) ((61 : Int)) (hb hby d_m2_51) rfl rfl (by decide) (pt := 102) (by decide) (pf := 54) rfl (fun c51 => ?_) (fun c51 => ?_)
                  · refine ow_iconst X0 hx (z := (1 : Int32)) (hb hby d_m2_102) rfl (pc' := 103) rfl ?_
                    refine ow_goto X0 hx (hb hby d_m2_103) (by decide) (pc' := 107) (by decide) ?_
                    exact ow_retB X0 hx hret hlk (hb hby d_m2_107) (by decide) (by decide) (z' := (1 : Int32)) rfl ⟨(1 : Int32), rfl, (show ((pc.toInt = 34 ∨ pc.toInt = 40 ∨ pc.toInt = 41 ∨ pc.toInt = 44 ∨ pc.toInt = 47 ∨ pc.toInt = 58 ∨ pc.toInt = 59 ∨ pc.toInt = 60 ∨ pc.toInt = 61 ∨ pc.toInt = 62 ∨ pc.toInt = 63 ∨ pc.toInt = 64 ∨ pc.toInt = 91 ∨ pc.toInt = 92 ∨ pc.toInt = 93 ∨ pc.toInt = 123 ∨ pc.toInt = 125) ∧ (1 : Int) = 1) ∨ (¬ (pc.toInt = 34 ∨ pc.toInt = 40 ∨ pc.toInt = 41 ∨ pc.toInt = 44 ∨ pc.toInt = 47 ∨ pc.toInt = 58 ∨ pc.toInt = 59 ∨ pc.toInt = 60 ∨ pc.toInt = 61 ∨ pc.toInt = 62 ∨ pc.toInt = 63 ∨ pc.toInt = 64 ∨ pc.toInt = 91 ∨ pc.toInt = 92 ∨ pc.toInt = 93 ∨ pc.toInt = 123 ∨ pc.toInt = 125) ∧ (1 : Int) = 0) from by omega), rfl, e0⟩
                  · refine ow_iloadN X0 hx (hb hby d_m2_54) rfl (pc' := 55) rfl ?_
                    refine ow_bipush X0 hx (z := (62 : Int32)) (hb hby d_m2_55) rfl (pc' := 57) rfl ?_
                    refine ow_icmp_eq X0 hx (pc.toInt) ((62 : Int)) (hb hby d_m2_57) rfl rfl (by decide) (pt := 102) (by decide) (pf := 60) rfl (fun c57 => ?_) (fun c57 => ?_)
                    · refine ow_iconst X0 hx (z := (1 : Int32)) (hb hby d_m2_102) rfl (pc' := 103) rfl ?_
                      refine ow_goto X0 hx (hb hby d_m2_103) (by decide) (pc' := 107) (by decide) ?_
                      exact ow_retB X0 hx hret hlk (hb hby d_m2_107) (by decide) (by decide) (z' := (1 : Int32)) rfl ⟨(1 : Int32), rfl, (show ((pc.toInt = 34 ∨ pc.toInt = 40 ∨ pc.toInt = 41 ∨ pc.toInt = 44 ∨ pc.toInt = 47 ∨ pc.toInt = 58 ∨ pc.toInt = 59 ∨ pc.toInt = 60 ∨ pc.toInt = 61 ∨ pc.toInt = 62 ∨ pc.toInt = 63 ∨ pc.toInt = 64 ∨ pc.toInt = 91 ∨ pc.toInt = 92 ∨ pc.toInt = 93 ∨ pc.toInt = 123 ∨ pc.toInt = 125) ∧ (1 : Int) = 1) ∨ (¬ (pc.toInt = 34 ∨ pc.toInt = 40 ∨ pc.toInt = 41 ∨ pc.toInt = 44 ∨ pc.toInt = 47 ∨ pc.toInt = 58 ∨ pc.toInt = 59 ∨ pc.toInt = 60 ∨ pc.toInt = 61 ∨ pc.toInt = 62 ∨ pc.toInt = 63 ∨ pc.toInt = 64 ∨ pc.toInt = 91 ∨ pc.toInt = 92 ∨ pc.toInt = 93 ∨ pc.toInt = 123 ∨ pc.toInt = 125) ∧ (1 : Int) = 0) from by omega), rfl, e0⟩
                    · refine ow_iloadN X0 hx (hb hby d_m2_60) rfl (pc' := 61) rfl ?_
                      refine ow_bipush X0 hx (z := (63 : Int32)) (hb hby d_m2_61) rfl (pc' := 63) rfl ?_
                      refine ow_icmp_eq X0 hx (pc.toInt) ((63 : Int)) (hb hby d_m2_63) rfl rfl (by decide) (pt := 102) (by decide) (pf := 66) rfl (fun c63 => ?_) (fun c63 => ?_)
                      · refine ow_iconst X0 hx (z := (1 : Int32)) (hb hby d_m2_102) rfl (pc' := 103) rfl ?_
                        refine ow_goto X0 hx (hb hby d_m2_103) (by decide) (pc' := 107) (by decide) ?_
                        exact ow_retB X0 hx hret hlk (hb hby d_m2_107) (by decide) (by decide) (z' := (1 : Int32)) rfl ⟨(1 : Int32), rfl, (show ((pc.toInt = 34 ∨ pc.toInt = 40 ∨ pc.toInt = 41 ∨ pc.toInt = 44 ∨ pc.toInt = 47 ∨ pc.toInt = 58 ∨ pc.toInt = 59 ∨ pc.toInt = 60 ∨ pc.toInt = 61 ∨ pc.toInt = 62 ∨ pc.toInt = 63 ∨ pc.toInt = 64 ∨ pc.toInt = 91 ∨ pc.toInt = 92 ∨ pc.toInt = 93 ∨ pc.toInt = 123 ∨ pc.toInt = 125) ∧ (1 : Int) = 1) ∨ (¬ (pc.toInt = 34 ∨ pc.toInt = 40 ∨ pc.toInt = 41 ∨ pc.toInt = 44 ∨ pc.toInt = 47 ∨ pc.toInt = 58 ∨ pc.toInt = 59 ∨ pc.toInt = 60 ∨ pc.toInt = 61 ∨ pc.toInt = 62 ∨ pc.toInt = 63 ∨ pc.toInt = 64 ∨ pc.toInt = 91 ∨ pc.toInt = 92 ∨ pc.toInt = 93 ∨ pc.toInt = 123 ∨ pc.toInt = 125) ∧ (1 : Int) = 0) from by omega), rfl, e0⟩
                      · refine ow_iloadN X0 hx (hb hby d_m2_66) rfl (pc' := 67) rfl ?_
                        refine ow_bipush X0 hx (z := (64 : Int32)) (hb hby d_m2_67) rfl (pc' := 69) rfl ?_
                        refine ow_icmp_eq X0 hx (pc.toInt) ((64 : Int)) (hb hby d_m2_69) rfl rfl (by decide) (pt := 102) (by decide) (pf := 72) rfl (fun c69 => ?_) (fun c69 => ?_)
                        · refine ow_iconst X0 hx (z := (1 : Int32)) (hb hby d_m2_102) rfl (pc' := 103) rfl ?_
                          refine ow_goto X0 hx (hb hby d_m2_103) (by decide) (pc' := 107) (by decide) ?_
                          exact ow_retB X0 hx hret hlk (hb hby d_m2_107) (by decide) (by decide) (z' := (1 : Int32)) rfl ⟨(1 : Int32), rfl, (show ((pc.toInt = 34 ∨ pc.toInt = 40 ∨ pc.toInt = 41 ∨ pc.toInt = 44 ∨ pc.toInt = 47 ∨ pc.toInt = 58 ∨ pc.toInt = 59 ∨ pc.toInt = 60 ∨ pc.toInt = 61 ∨ pc.toInt = 62 ∨ pc.toInt = 63 ∨ pc.toInt = 64 ∨ pc.toInt = 91 ∨ pc.toInt = 92 ∨ pc.toInt = 93 ∨ pc.toInt = 123 ∨ pc.toInt = 125) ∧ (1 : Int) = 1) ∨ (¬ (pc.toInt = 34 ∨ pc.toInt = 40 ∨ pc.toInt = 41 ∨ pc.toInt = 44 ∨ pc.toInt = 47 ∨ pc.toInt = 58 ∨ pc.toInt = 59 ∨ pc.toInt = 60 ∨ pc.toInt = 61 ∨ pc.toInt = 62 ∨ pc.toInt = 63 ∨ pc.toInt = 64 ∨ pc.toInt = 91 ∨ pc.toInt = 92 ∨ pc.toInt = 93 ∨ pc.toInt = 123 ∨ pc.toInt = 125) ∧ (1 : Int) = 0) from by omega), rfl, e0⟩
                        · refine ow_iloadN X0 hx (hb hby d_m2_72) rfl (pc' := 73) rfl ?_
                          refine ow_bipush X0 hx (z := (91 : Int32)) (hb hby d_m2_73) rfl (pc' := 75) rfl ?_
                          refine ow_icmp_eq X0 hx (pc.toInt) ((91 : Int)) (hb hby d_m2_75) rfl rfl (by decide) (pt := 102) (by decide) (pf := 78) rfl (fun c75 => ?_) (fun c75 => ?_)
                          · refine ow_iconst X0 hx (z := (1 : Int32)) (hb hby d_m2_102) rfl (pc' := 103) rfl ?_
                            refine ow_goto X0 hx (hb hby d_m2_103) (by decide) (pc' := 107) (by decide) ?_
                            exact ow_retB X0 hx hret hlk (hb hby d_m2_107) (by decide) (by decide) (z' := (1 : Int32)) rfl ⟨(1 : Int32), rfl, (show ((pc.toInt = 34 ∨ pc.toInt = 40 ∨ pc.toInt = 41 ∨ pc.toInt = 44 ∨ pc.toInt = 47 ∨ pc.toInt = 58 ∨ pc.toInt = 59 ∨ pc.toInt = 60 ∨ pc.toInt = 61 ∨ pc.toInt = 62 ∨ pc.toInt = 63 ∨ pc.toInt = 64 ∨ pc.toInt = 91 ∨ pc.toInt = 92 ∨ pc.toInt = 93 ∨ pc.toInt = 123 ∨ pc.toInt = 125) ∧ (1 : Int) = 1) ∨ (¬ (pc.toInt = 34 ∨ pc.toInt = 40 ∨ pc.toInt = 41 ∨ pc.toInt = 44 ∨ pc.toInt = 47 ∨ pc.toInt = 58 ∨ pc.toInt = 59 ∨ pc.toInt = 60 ∨ pc.toInt = 61 ∨ pc.toInt = 62 ∨ pc.toInt = 63 ∨ pc.toInt = 64 ∨ pc.toInt = 91 ∨ pc.toInt = 92 ∨ pc.toInt = 93 ∨ pc.toInt = 123 ∨ pc.toInt = 125) ∧ (1 : Int) = 0) from by omega), rfl, e0⟩
                          · refine ow_iloadN X0 hx (hb hby d_m2_78) rfl (pc' := 79) rfl ?_
                            refine ow_bipush X0 hx (z := (92 : Int32)) (hb hby d_m2_79) rfl (pc' := 81) rfl ?_
                            refine ow_icmp_eq X0 hx (pc.toInt) ((92 : Int)) (hb hby d_m2_81) rfl rfl (by decide) (pt := 102) (by decide) (pf := 84) rfl (fun c81 => ?_) (fun c81 => ?_)
                            · refine ow_iconst X0 hx (z := (1 : Int32)) (hb hby d_m2_102) rfl (pc' := 103) rfl ?_
                              refine ow_goto X0 hx (hb hby d_m2_103) (by decide) (pc' := 107) (by decide) ?_
                              exact ow_retB X0 hx hret hlk (hb hby d_m2_107) (by decide) (by decide) (z' := (1 : Int32)) rfl ⟨(1 : Int32), rfl, (show ((pc.toInt = 34 ∨ pc.toInt = 40 ∨ pc.toInt = 41 ∨ pc.toInt = 44 ∨ pc.toInt = 47 ∨ pc.toInt = 58 ∨ pc.toInt = 59 ∨ pc.toInt = 60 ∨ pc.toInt = 61 ∨ pc.toInt = 62 ∨ pc.toInt = 63 ∨ pc.toInt = 64 ∨ pc.toInt = 91 ∨ pc.toInt = 92 ∨ pc.toInt = 93 ∨ pc.toInt = 123 ∨ pc.toInt = 125) ∧ (1 : Int) = 1) ∨ (¬ (pc.toInt = 34 ∨ pc.toInt = 40 ∨ pc.toInt = 41 ∨ pc.toInt = 44 ∨ pc.toInt = 47 ∨ pc.toInt = 58 ∨ pc.toInt = 59 ∨ pc.toInt = 60 ∨ pc.toInt = 61 ∨ pc.toInt = 62 ∨ pc.toInt = 63 ∨ pc.toInt = 64 ∨ pc.toInt = 91 ∨ pc.toInt = 92 ∨ pc.toInt = 93 ∨ pc.toInt = 123 ∨ pc.toInt = 125) ∧ (1 : Int) = 0) from by omega), rfl, e0⟩
                            · refine ow_iloadN X0 hx (hb hby d_m2_84) rfl (pc' := 85) rfl ?_
                              refine ow_bipush X0 hx (z := (93 : Int32)) (hb hby d_m2_85) rfl (pc' := 87) rfl ?_
                              refine ow_icmp_eq X0 hx (pc.toInt) ((93 : Int)) (hb hby d_m2_87) rfl rfl (by decide) (pt := 102) (by decide) (pf := 90) rfl (fun c87 => ?_) (fun c87 => ?_)
                              · refine ow_iconst X0 hx (z := (1 : Int32)) (hb hby d_m2_102) rfl (pc' := 103) rfl ?_
                                refine ow_goto X0 hx (hb hby d_m2_103) (by decide) (pc' := 107) (by decide) ?_
                                exact ow_retB X0 hx hret hlk (hb hby d_m2_107) (by decide) (by decide) (z' := (1 : Int32)) rfl ⟨(1 : Int32), rfl, (show ((pc.toInt = 34 ∨ pc.toInt = 40 ∨ pc.toInt = 41 ∨ pc.toInt = 44 ∨ pc.toInt = 47 ∨ pc.toInt = 58 ∨ pc.toInt = 59 ∨ pc.toInt = 60 ∨ pc.toInt = 61 ∨ pc.toInt = 62 ∨ pc.toInt = 63 ∨ pc.toInt = 64 ∨ pc.toInt = 91 ∨ pc.toInt = 92 ∨ pc.toInt = 93 ∨ pc.toInt = 123 ∨ pc.toInt = 125) ∧ (1 : Int) = 1) ∨ (¬ (pc.toInt = 34 ∨ pc.toInt = 40 ∨ pc.toInt = 41 ∨ pc.toInt = 44 ∨ pc.toInt = 47 ∨ pc.toInt = 58 ∨ pc.toInt = 59 ∨ pc.toInt = 60 ∨ pc.toInt = 61 ∨ pc.toInt = 62 ∨ pc.toInt = 63 ∨ pc.toInt = 64 ∨ pc.toInt = 91 ∨ pc.toInt = 92 ∨ pc.toInt = 93 ∨ pc.toInt = 123 ∨ pc.toInt = 125) ∧ (1 : Int) = 0) from by omega), rfl, e0⟩
                              · refine ow_iloadN X0 hx (hb hby d_m2_90) rfl (pc' := 91) rfl ?_
                                refine ow_bipush X0 hx (z := (123 : Int32)) (hb hby d_m2_91) rfl (pc' := 93) rfl ?_
                                refine ow_icmp_eq X0 hx (pc.toInt) ((123 : Int)) (hb hby d_m2_93) rfl rfl (by decide) (pt := 102) (by decide) (pf := 96) rfl (fun c93 => ?_) (fun c93 => ?_)
                                · refine ow_iconst X0 hx (z := (1 : Int32)) (hb hby d_m2_102) rfl (pc' := 103) rfl ?_
                                  refine ow_goto X0 hx (hb hby d_m2_103) (by decide) (pc' := 107) (by decide) ?_
                                  exact ow_retB X0 hx hret hlk (hb hby d_m2_107) (by decide) (by decide) (z' := (1 : Int32)) rfl ⟨(1 : Int32), rfl, (show ((pc.toInt = 34 ∨ pc.toInt = 40 ∨ pc.toInt = 41 ∨ pc.toInt = 44 ∨ pc.toInt = 47 ∨ pc.toInt = 58 ∨ pc.toInt = 59 ∨ pc.toInt = 60 ∨ pc.toInt = 61 ∨ pc.toInt = 62 ∨ pc.toInt = 63 ∨ pc.toInt = 64 ∨ pc.toInt = 91 ∨ pc.toInt = 92 ∨ pc.toInt = 93 ∨ pc.toInt = 123 ∨ pc.toInt = 125) ∧ (1 : Int) = 1) ∨ (¬ (pc.toInt = 34 ∨ pc.toInt = 40 ∨ pc.toInt = 41 ∨ pc.toInt = 44 ∨ pc.toInt = 47 ∨ pc.toInt = 58 ∨ pc.toInt = 59 ∨ pc.toInt = 60 ∨ pc.toInt = 61 ∨ pc.toInt = 62 ∨ pc.toInt = 63 ∨ pc.toInt = 64 ∨ pc.toInt = 91 ∨ pc.toInt = 92 ∨ pc.toInt = 93 ∨ pc.toInt = 123 ∨ pc.toInt = 125) ∧ (1 : Int) = 0) from by omega), rfl, e0⟩
                                · refine ow_iloadN X0 hx (hb hby d_m2_96) rfl (pc' := 97) rfl ?_
                                  refine ow_bipush X0 hx (z := (125 : Int32)) (hb hby d_m2_97) rfl (pc' := 99) rfl ?_
                                  refine ow_icmp_ne X0 hx (pc.toInt) ((125 : Int)) (hb hby d_m2_99) rfl rfl (by decide) (pt := 106) (by decide) (pf := 102) rfl (fun c99 => ?_) (fun c99 => ?_)
                                  · refine ow_iconst X0 hx (z := (0 : Int32)) (hb hby d_m2_106) rfl (pc' := 107) rfl ?_
                                    exact ow_retB X0 hx hret hlk (hb hby d_m2_107) (by decide) (by decide) (z' := (0 : Int32)) rfl ⟨(0 : Int32), rfl, (show ((pc.toInt = 34 ∨ pc.toInt = 40 ∨ pc.toInt = 41 ∨ pc.toInt = 44 ∨ pc.toInt = 47 ∨ pc.toInt = 58 ∨ pc.toInt = 59 ∨ pc.toInt = 60 ∨ pc.toInt = 61 ∨ pc.toInt = 62 ∨ pc.toInt = 63 ∨ pc.toInt = 64 ∨ pc.toInt = 91 ∨ pc.toInt = 92 ∨ pc.toInt = 93 ∨ pc.toInt = 123 ∨ pc.toInt = 125) ∧ (0 : Int) = 1) ∨ (¬ (pc.toInt = 34 ∨ pc.toInt = 40 ∨ pc.toInt = 41 ∨ pc.toInt = 44 ∨ pc.toInt = 47 ∨ pc.toInt = 58 ∨ pc.toInt = 59 ∨ pc.toInt = 60 ∨ pc.toInt = 61 ∨ pc.toInt = 62 ∨ pc.toInt = 63 ∨ pc.toInt = 64 ∨ pc.toInt = 91 ∨ pc.toInt = 92 ∨ pc.toInt = 93 ∨ pc.toInt = 123 ∨ pc.toInt = 125) ∧ (0 : Int) = 0) from by omega), rfl, e0⟩
                                  · refine ow_iconst X0 hx (z := (1 : Int32)) (hb hby d_m2_102) rfl (pc' := 103) rfl ?_
                                    refine ow_goto X0 hx (hb hby d_m2_103) (by decide) (pc' := 107) (by decide) ?_
                                    exact ow_retB X0 hx hret hlk (hb hby d_m2_107) (by decide) (by decide) (z' := (1 : Int32)) rfl ⟨(1 : Int32), rfl, (show ((pc.toInt = 34 ∨ pc.toInt = 40 ∨ pc.toInt = 41 ∨ pc.toInt = 44 ∨ pc.toInt = 47 ∨ pc.toInt = 58 ∨ pc.toInt = 59 ∨ pc.toInt = 60 ∨ pc.toInt = 61 ∨ pc.toInt = 62 ∨ pc.toInt = 63 ∨ pc.toInt = 64 ∨ pc.toInt = 91 ∨ pc.toInt = 92 ∨ pc.toInt = 93 ∨ pc.toInt = 123 ∨ pc.toInt = 125) ∧ (1 : Int) = 1) ∨ (¬ (pc.toInt = 34 ∨ pc.toInt = 40 ∨ pc.toInt = 41 ∨ pc.toInt = 44 ∨ pc.toInt = 47 ∨ pc.toInt = 58 ∨ pc.toInt = 59 ∨ pc.toInt = 60 ∨ pc.toInt = 61 ∨ pc.toInt = 62 ∨ pc.toInt = 63 ∨ pc.toInt = 64 ∨ pc.toInt = 91 ∨ pc.toInt = 92 ∨ pc.toInt = 93 ∨ pc.toInt = 123 ∨ pc.toInt = 125) ∧ (1 : Int) = 0) from by omega), rfl, e0⟩
theorem pd_6 : parseMethodDescriptor "(C)Z" = some ⟨[.char], some .boolean⟩ := by decide +kernel
theorem pd_7 : parseMethodDescriptor "(I)I" = some ⟨[.int], some .int⟩ := by decide +kernel
theorem d_prog_41m5_0 : decode prog_41_method_5_code 0 = .ok (.iload_n 0, 1) := by decide +kernel
theorem d_prog_41m5_1 : decode prog_41_method_5_code 1 = .ok (.invokestatic 18, 3) := by decide +kernel
theorem d_prog_41m5_4 : decode prog_41_method_5_code 4 = .ok (.ifCond .ne 12, 3) := by decide +kernel
theorem d_prog_41m5_7 : decode prog_41_method_5_code 7 = .ok (.ldc 30, 2) := by decide +kernel
theorem d_prog_41m5_9 : decode prog_41_method_5_code 9 = .ok (.iload_n 0, 1) := by decide +kernel
theorem d_prog_41m5_10 : decode prog_41_method_5_code 10 = .ok (.invokevirtual 24, 3) := by decide +kernel
theorem d_prog_41m5_13 : decode prog_41_method_5_code 13 = .ok (.ifCond .lt 7, 3) := by decide +kernel
theorem d_prog_41m5_16 : decode prog_41_method_5_code 16 = .ok (.iconst 1, 1) := by decide +kernel
theorem d_prog_41m5_17 : decode prog_41_method_5_code 17 = .ok (.goto 4, 3) := by decide +kernel
theorem d_prog_41m5_20 : decode prog_41_method_5_code 20 = .ok (.iconst 0, 1) := by decide +kernel
theorem d_prog_41m5_21 : decode prog_41_method_5_code 21 = .ok (.ireturn, 1) := by decide +kernel
theorem ef_tok (m : MethodId) (x0 : Int32) : entryFrame m #[(.int x0)] 1 = mkF m 0 #[.val (.int x0)] [] := by first | (simp [entryFrame, mkF, argsToLocals, Value.category]; done) | rfl
def Q_tok (Z : State) (pc : Int32) (zc : Int32) (h0 : Heap) (n0 : Nat) (v : Option Value) (h : Heap) (L : List Loc) (vm : Vm) : Prop := ∃ (z : Int32), (v = some (.int z)) ∧ (Fr n0 L) ∧ (Keep h0 h []) ∧ ((((97 ≤ pc.toInt ∧ pc.toInt ≤ 122) ∨ (65 ≤ pc.toInt ∧ pc.toInt ≤ 90) ∨ (48 ≤ pc.toInt ∧ pc.toInt ≤ 57) ∨ pc.toInt = 33 ∨ pc.toInt = 35 ∨ pc.toInt = 36 ∨ pc.toInt = 37 ∨ pc.toInt = 38 ∨ pc.toInt = 39 ∨ pc.toInt = 42 ∨ pc.toInt = 43 ∨ pc.toInt = 45 ∨ pc.toInt = 46 ∨ pc.toInt = 94 ∨ pc.toInt = 95 ∨ pc.toInt = 96 ∨ pc.toInt = 124 ∨ pc.toInt = 126) ∧ z.toInt = 1) ∨ (¬ ((97 ≤ pc.toInt ∧ pc.toInt ≤ 122) ∨ (65 ≤ pc.toInt ∧ pc.toInt ≤ 90) ∨ (48 ≤ pc.toInt ∧ pc.toInt ≤ 57) ∨ pc.toInt = 33 ∨ pc.toInt = 35 ∨ pc.toInt = 36 ∨ pc.toInt = 37 ∨ pc.toInt = 38 ∨ pc.toInt = 39 ∨ pc.toInt = 42 ∨ pc.toInt = 43 ∨ pc.toInt = 45 ∨ pc.toInt = 46 ∨ pc.toInt = 94 ∨ pc.toInt = 95 ∨ pc.toInt = 96 ∨ pc.toInt = 124 ∨ pc.toInt = 126) ∧ z.toInt = 0))
set_option maxRecDepth 65536 in
set_option maxHeartbeats 40000000 in
theorem rm_tok (l : Launch) (Z : State) (a0 : Array Value) (hw : ∀ d ∈ tables_1, d.before a0 Z = true) (ws : List Jvm.Cond) (hcw : Jvm.Lit.compactW.before a0 Z = true) (hch : ∀ q ∈ consts_1, Jvm.Lit.constHeld Z q.1 q.2) (pc : Int32) (zc : Int32) (h0 : Heap) (n0 : Nat) (Z0 : n0 ≤ h0.size) (hzk : ∀ (b : Addr) (cl : Cell), Z.heap[b]? = some cl → h0[b]? = some cl) (hzn : Z.heap.size ≤ n0) (S_cs : Sta Z h0 "java/lang/String" "COMPACT_STRINGS" "Z" (.int zc)) (hz0 : ¬ zc.toInt = 0) (hc0 : 0 ≤ pc.toInt) (hc1 : pc.toInt ≤ 65535) :
    MetFree l (⟨"com/example/inchworm/inchworm/store/HttpSyntax", "isTokenChar", "(C)Z"⟩ : MethodName) (head1 (Jvm.Cond.code (⟨"com/example/inchworm/inchworm/store/HttpSyntax", "isTokenChar", "(C)Z"⟩ : MethodName) prog_41_method_5_code 1 (some .boolean) :: ws) ({ frames := 4, cells := 2, slots := 1028, locals := 59 } : Room)) (fun a_ U_ => a_ = #[(.int pc)] ∧ Z.Warmed39 U_.vm ∧ U_.heap = h0 ∧ LT Z [] [] U_.vm) (fun _ _ _ _ _ => True) (fun _ U_ o_ U_' => ∃ v_ L_, o_ = .returned v_ ∧ (Q_tok Z pc zc h0 n0) v_ U_'.heap L_ U_'.vm ∧ ReturnedEndW U_ o_ U_' L_ 2 1028) := by
  refine ow_bodyI (plainFor_of_name pn_2) ?_
  intro p e s m below meth c T0 X0 hx hZ hby hml hown hnm hret hlk e0 es hS0 hI0
  have N0 := Fr.nil n0
  refine Ends.cast (ef_tok m pc) ?_
  have r_pc := rng32 pc
  refine ow_iloadN X0 hx (hb hby d_prog_41m5_0) rfl (pc' := 1) rfl ?_
  refine ow_callPI X0 hx hZ hown (hw _ (List.mem_of_getElem? (i := 4) rfl)) (hw _ (List.mem_of_getElem? (i := 5) rfl)) (hw _ (List.mem_of_getElem? (i := 2) rfl)) (hw _ (List.mem_of_getElem? (i := 6) rfl)) (by decide) (rm_alnum l Z a0 hw [] pc h0 ) e0 0 (by decide) (by decide) (by decide) (by decide) [(.int pc)] (by rw [hml]; rfl) pd_6 rfl rfl rfl (Nat.le_of_eq rfl) (hb hby d_prog_41m5_1) (pc' := 4) rfl (fun z1 T1 hz1 X1 e1 => ?_)
  have az1 : (((97 ≤ pc.toInt ∧ pc.toInt ≤ 122) ∨ (65 ≤ pc.toInt ∧ pc.toInt ≤ 90) ∨ (48 ≤ pc.toInt ∧ pc.toInt ≤ 57)) ∧ z1.toInt = 1) ∨ (¬ ((97 ≤ pc.toInt ∧ pc.toInt ≤ 122) ∨ (65 ≤ pc.toInt ∧ pc.toInt ≤ 90) ∨ (48 ≤ pc.toInt ∧ pc.toInt ≤ 57)) ∧ z1.toInt = 0) := hz1
  have rz1 := rng32 z1
  refine ow_if_ne X1 hx (z1.toInt) (hb hby d_prog_41m5_4) rfl (by decide) (pt := 16) (by decide) (pf := 7) rfl (fun c4 => ?_) (fun c4 => ?_)
  · refine ow_iconst X1 hx (z := (1 : Int32)) (hb hby d_prog_41m5_16) rfl (pc' := 17) rfl ?_
    refine ow_goto X1 hx (hb hby d_prog_41m5_17) (by decide) (pc' := 21) (by decide) ?_
    exact ow_retBI X1 hx hret hlk (hb hby d_prog_41m5_21) hS0 (by rw [e1]; exact (Nat.zero_le _)) (by decide) (by decide) (z' := (1 : Int32)) rfl (show Q_tok Z pc zc h0 n0 _ T1.heap _ _ from by rw [e1]; exact ⟨(1 : Int32), rfl, N0, (Keep.refl h0 []), (show (((97 ≤ pc.toInt ∧ pc.toInt ≤ 122) ∨ (65 ≤ pc.toInt ∧ pc.toInt ≤ 90) ∨ (48 ≤ pc.toInt ∧ pc.toInt ≤ 57) ∨ pc.toInt = 33 ∨ pc.toInt = 35 ∨ pc.toInt = 36 ∨ pc.toInt = 37 ∨ pc.toInt = 38 ∨ pc.toInt = 39 ∨ pc.toInt = 42 ∨ pc.toInt = 43 ∨ pc.toInt = 45 ∨ pc.toInt = 46 ∨ pc.toInt = 94 ∨ pc.toInt = 95 ∨ pc.toInt = 96 ∨ pc.toInt = 124 ∨ pc.toInt = 126) ∧ (1 : Int) = 1) ∨ (¬ ((97 ≤ pc.toInt ∧ pc.toInt ≤ 122) ∨ (65 ≤ pc.toInt ∧ pc.toInt ≤ 90) ∨ (48 ≤ pc.toInt ∧ pc.toInt ≤ 57) ∨ pc.toInt = 33 ∨ pc.toInt = 35 ∨ pc.toInt = 36 ∨ pc.toInt = 37 ∨ pc.toInt = 38 ∨ pc.toInt = 39 ∨ pc.toInt = 42 ∨ pc.toInt = 43 ∨ pc.toInt = 45 ∨ pc.toInt = 46 ∨ pc.toInt = 94 ∨ pc.toInt = 95 ∨ pc.toInt = 96 ∨ pc.toInt = 124 ∨ pc.toInt = 126) ∧ (1 : Int) = 0) from by omega)⟩)
  · have wS2 : ∀ a ∈ Bundle.stringAtoms, a.before a0 Z = true := fun a ha => by
      simp only [Bundle.stringAtoms, Bundle.sN, List.mem_cons, List.not_mem_nil, or_false] at ha
      rcases ha with rfl | rfl | rfl | rfl | rfl | rfl | rfl
      · exact (hw _ (List.mem_of_getElem? (i := 8) rfl))
      · exact (hw _ (List.mem_of_getElem? (i := 9) rfl))
      · exact (hw _ (List.mem_of_getElem? (i := 10) rfl))
      · exact (hw _ (List.mem_of_getElem? (i := 11) rfl))
      · exact (hw _ (List.mem_of_getElem? (i := 12) rfl))
      · exact (hw _ (List.mem_of_getElem? (i := 13) rfl))
      · exact (hw _ (List.mem_of_getElem? (i := 14) rfl))
    refine ow_ldcI X1 hx hZ hown (hw _ (List.mem_of_getElem? (i := 7) rfl)) wS2 e1 hS0 (Nat.zero_le _) (Fr.nil _) (by rw [es]; exact hzk) hI0 (by decide) (hch _ (List.mem_of_getElem? (i := 0) rfl)) hcw (vs := [(.int (33 : Int32)), (.int (35 : Int32)), (.int (36 : Int32)), (.int (37 : Int32)), (.int (38 : Int32)), (.int (39 : Int32)), (.int (42 : Int32)), (.int (43 : Int32)), (.int (45 : Int32)), (.int (46 : Int32)), (.int (94 : Int32)), (.int (95 : Int32)), (.int (96 : Int32)), (.int (124 : Int32)), (.int (126 : Int32))]) (z := (15 : Int32)) ⟨by decide, by decide⟩ (by decide) (by decide) (hb hby d_prog_41m5_7) 1024 (by decide) (by decide) (by decide) (by decide) (pc' := 9) rfl (fun a2 T2 h2 k2 t2 kt2 X2 e2 E2 hS2 hk2 hZ hown Ea2 Fc2 Fv2 Va2 hI2 => ?_)
    have Zs2 : n0 ≤ h2.size := Nat.le_trans Z0 E2.1
    have K2 := (Keep.refl h0 []).ext E2
    refine ow_iloadN X2 hx (hb hby d_prog_41m5_9) rfl (pc' := 10) rfl ?_
    refine ow_callVPI X2 hx hZ rfl hown (hw _ (List.mem_of_getElem? (i := 15) rfl)) (hw _ (List.mem_of_getElem? (i := 16) rfl)) (hw _ (List.mem_of_getElem? (i := 18) rfl)) (hw _ (List.mem_of_getElem? (i := 17) rfl)) (hw _ (List.mem_of_getElem? (i := 8) rfl)) (hw _ (List.mem_of_getElem? (i := 19) rfl)) (by decide) (rm_ixI l Z a0 hw [] a2 pc zc t2 kt2 h2 (ow_staKeep S_cs K2 all0) Ea2 Fc2 Fv2 Va2 (by first | assumption | decide | omega) (by first | assumption | decide | omega)) e2 0 (by decide) (by decide) (by decide) (by decide) [(.int pc)] (by rw [hml]; rfl) pd_7 rfl Ea2 rfl rfl (Nat.le_of_eq rfl) (hb hby d_prog_41m5_10) (pc' := 13) rfl (fun z3 T3 hz3 X3 e3 => ?_)
    have az3 : ((pc.toInt = 33 ∨ pc.toInt = 35 ∨ pc.toInt = 36 ∨ pc.toInt = 37 ∨ pc.toInt = 38 ∨ pc.toInt = 39 ∨ pc.toInt = 42 ∨ pc.toInt = 43 ∨ pc.toInt = 45 ∨ pc.toInt = 46 ∨ pc.toInt = 94 ∨ pc.toInt = 95 ∨ pc.toInt = 96 ∨ pc.toInt = 124 ∨ pc.toInt = 126) ∧ 0 ≤ z3.toInt) ∨ (¬ (pc.toInt = 33 ∨ pc.toInt = 35 ∨ pc.toInt = 36 ∨ pc.toInt = 37 ∨ pc.toInt = 38 ∨ pc.toInt = 39 ∨ pc.toInt = 42 ∨ pc.toInt = 43 ∨ pc.toInt = 45 ∨ pc.toInt = 46 ∨ pc.toInt = 94 ∨ pc.toInt = 95 ∨ pc.toInt = 96 ∨ pc.toInt = 124 ∨ pc.toInt = 126) ∧ z3.toInt = -1) := hz3
    have rz3 := rng32 z3
    refine ow_if_lt X3 hx (z3.toInt) (hb hby d_prog_41m5_13) rfl (by decide) (pt := 20) (by decide) (pf := 16) rfl (fun c13 => ?_) (fun c13 => ?_)
    · refine ow_iconst X3 hx (z := (0 : Int32)) (hb hby d_prog_41m5_20) rfl (pc' := 21) rfl ?_
      exact ow_retBI X3 hx hret hlk (hb hby d_prog_41m5_21) hS2 (by rw [e3]; exact hk2) (by decide) (by decide) (z' := (0 : Int32)) rfl (show Q_tok Z pc zc h0 n0 _ T3.heap _ _ from by rw [e3]; exact ⟨(0 : Int32), rfl, N0, K2, (show (((97 ≤ pc.toInt ∧ pc.toInt ≤ 122) ∨ (65 ≤ pc.toInt ∧ pc.toInt ≤ 90) ∨ (48 ≤ pc.toInt ∧ pc.toInt ≤ 57) ∨ pc.toInt = 33 ∨ pc.toInt = 35 ∨ pc.toInt = 36 ∨ pc.toInt = 37 ∨ pc.toInt = 38 ∨ pc.toInt = 39 ∨ pc.toInt = 42 ∨ pc.toInt = 43 ∨ pc.toInt = 45 ∨ pc.toInt = 46 ∨ pc.toInt = 94 ∨ pc.toInt = 95 ∨ pc.toInt = 96 ∨ pc.toInt = 124 ∨ pc.toInt = 126) ∧ (0 : Int) = 1) ∨ (¬ ((97 ≤ pc.toInt ∧ pc.toInt ≤ 122) ∨ (65 ≤ pc.toInt ∧ pc.toInt ≤ 90) ∨ (48 ≤ pc.toInt ∧ pc.toInt ≤ 57) ∨ pc.toInt = 33 ∨ pc.toInt = 35 ∨ pc.toInt = 36 ∨ pc.toInt = 37 ∨ pc.toInt = 38 ∨ pc.toInt = 39 ∨ pc.toInt = 42 ∨ pc.toInt = 43 ∨ pc.toInt = 45 ∨ pc.toInt = 46 ∨ pc.toInt = 94 ∨ pc.toInt = 95 ∨ pc.toInt = 96 ∨ pc.toInt = 124 ∨ pc.toInt = 126) ∧ (0 : Int) = 0) from by omega)⟩)
    · refine ow_iconst X3 hx (z := (1 : Int32)) (hb hby d_prog_41m5_16) rfl (pc' := 17) rfl ?_
      refine ow_goto X3 hx (hb hby d_prog_41m5_17) (by decide) (pc' := 21) (by decide) ?_
      exact ow_retBI X3 hx hret hlk (hb hby d_prog_41m5_21) hS2 (by rw [e3]; exact hk2) (by decide) (by decide) (z' := (1 : Int32)) rfl (show Q_tok Z pc zc h0 n0 _ T3.heap _ _ from by rw [e3]; exact ⟨(1 : Int32), rfl, N0, K2, (show (((97 ≤ pc.toInt ∧ pc.toInt ≤ 122) ∨ (65 ≤ pc.toInt ∧ pc.toInt ≤ 90) ∨ (48 ≤ pc.toInt ∧ pc.toInt ≤ 57) ∨ pc.toInt = 33 ∨ pc.toInt = 35 ∨ pc.toInt = 36 ∨ pc.toInt = 37 ∨ pc.toInt = 38 ∨ pc.toInt = 39 ∨ pc.toInt = 42 ∨ pc.toInt = 43 ∨ pc.toInt = 45 ∨ pc.toInt = 46 ∨ pc.toInt = 94 ∨ pc.toInt = 95 ∨ pc.toInt = 96 ∨ pc.toInt = 124 ∨ pc.toInt = 126) ∧ (1 : Int) = 1) ∨ (¬ ((97 ≤ pc.toInt ∧ pc.toInt ≤ 122) ∨ (65 ≤ pc.toInt ∧ pc.toInt ≤ 90) ∨ (48 ≤ pc.toInt ∧ pc.toInt ≤ 57) ∨ pc.toInt = 33 ∨ pc.toInt = 35 ∨ pc.toInt = 36 ∨ pc.toInt = 37 ∨ pc.toInt = 38 ∨ pc.toInt = 39 ∨ pc.toInt = 42 ∨ pc.toInt = 43 ∨ pc.toInt = 45 ∨ pc.toInt = 46 ∨ pc.toInt = 94 ∨ pc.toInt = 95 ∨ pc.toInt = 96 ∨ pc.toInt = 124 ∨ pc.toInt = 126) ∧ (1 : Int) = 0) from by omega)⟩)
theorem ef_law (m : MethodId) (x0 : Int32) : entryFrame m #[(.int x0)] maxLocals = mkF m 0 #[.val (.int x0), .unset, .unset, .unset] [] := by first | (simp [entryFrame, mkF, argsToLocals, Value.category, maxLocals]; done) | rfl
def Q_law (px : Int32) (zc : Int32) (h0 : Heap) (n0 : Nat) (v : Option Value) (h : Heap) (L : List Loc) (vm : Vm) : Prop := v = some (.int 1) ∧ Fr n0 L
set_option maxRecDepth 65536 in
set_option maxHeartbeats 40000000 in
theorem rm_law (l : Launch) (Z : State) (a0 : Array Value) (hw : ∀ d ∈ tables_1, d.before a0 Z = true) (ws : List Jvm.Cond) (hcw : Jvm.Lit.compactW.before a0 Z = true) (hch : ∀ q ∈ consts_1, Jvm.Lit.constHeld Z q.1 q.2) (px : Int32) (zc : Int32) (h0 : Heap) (n0 : Nat) (Z0 : n0 ≤ h0.size) (hzk : ∀ (b : Addr) (cl : Cell), Z.heap[b]? = some cl → h0[b]? = some cl) (hzn : Z.heap.size ≤ n0) (hn0 : n0 = h0.size) (S_cs : Sta Z h0 "java/lang/String" "COMPACT_STRINGS" "Z" (.int zc)) (hz0 : ¬ zc.toInt = 0) :
    MetFree l x (head1 (Jvm.Cond.code x code maxLocals ret :: ws) room_1) (fun a_ U_ => a_ = #[(.int px)] ∧ Z.Warmed39 U_.vm ∧ U_.heap = h0 ∧ LT Z [] [] U_.vm) (fun _ _ _ _ _ => True) (fun _ U_ o_ U_' => ∃ v_ L_, o_ = .returned v_ ∧ (Q_law px zc h0 n0) v_ U_'.heap L_ U_'.vm ∧ ReturnedEndW U_ o_ U_' L_ 8 1088) := by
  refine ow_bodyI (plainFor_of_name pn_3) ?_
  intro p e s m below meth c T0 X0 hx hZ hby hml hown hnm hret hlk e0 es hS0 hI0
  have N0 := Fr.nil n0
  have hret : meth.sig.returnType = (some .boolean) := hret
  refine Ends.cast (ef_law m px) ?_
  have r_px := rng32 px
  refine ow_iloadN X0 hx (hb hby at_0) rfl (pc' := 1) rfl ?_
  refine ow_i2c X0 hx (hb hby at_1) (pc' := 2) rfl (fun z1 hz1 => ?_)
  have az1 : (z1.toInt - px.toInt) % 65536 = 0 ∧ 0 ≤ z1.toInt ∧ z1.toInt < 65536 := by rw [hz1]; exact c_i2c px
  have rz1 := rng32 z1
  refine ow_istoreN X0 hx (Ls' := #[.val (.int px), .val (.int z1), .unset, .unset]) (hb hby at_2) rfl (pc' := 3) rfl ?_
  refine ow_iloadN X0 hx (hb hby at_3) rfl (pc' := 4) rfl ?_
  refine ow_bipush X0 hx (z := (33 : Int32)) (hb hby at_4) rfl (pc' := 6) rfl ?_
  refine ow_icmp_lt X0 hx (z1.toInt) ((33 : Int)) (hb hby at_6) rfl rfl (by decide) (pt := 19) (by decide) (pf := 9) rfl (fun c6 => ?_) (fun c6 => ?_)
  · refine ow_iconst X0 hx (z := (0 : Int32)) (hb hby at_19) rfl (pc' := 20) rfl ?_
    refine ow_istoreN X0 hx (Ls' := #[.val (.int px), .val (.int z1), .val (.int (0 : Int32)), .unset]) (hb hby at_20) rfl (pc' := 21) rfl ?_
    refine ow_iloadN X0 hx (hb hby at_21) rfl (pc' := 22) rfl ?_
    refine ow_ifY X0 hx (hb hby at_22) (by decide) (by decide) (pc' := 36) (by decide) ?_
    refine ow_iconst X0 hx (z := (0 : Int32)) (hb hby at_36) rfl (pc' := 37) rfl ?_
    refine ow_istoreN X0 hx (Ls' := #[.val (.int px), .val (.int z1), .val (.int (0 : Int32)), .val (.int (0 : Int32))]) (hb hby at_37) rfl (pc' := 38) rfl ?_
    refine ow_iloadN X0 hx (hb hby at_38) rfl (pc' := 39) rfl ?_
    refine ow_callSI X0 hx hZ hown (hw _ (List.mem_of_getElem? (i := 0) rfl)) (hw _ (List.mem_of_getElem? (i := 1) rfl)) (hw _ (List.mem_of_getElem? (i := 2) rfl)) (hw _ (List.mem_of_getElem? (i := 3) rfl)) (by decide) (rm_tok l Z a0 hw [] hcw hch z1 zc h0 n0 Z0 (ow_zk hzk hzn (Keep.refl h0 []) all0) hzn S_cs (by first | assumption | decide | omega) (by first | assumption | decide | omega) (by first | assumption | decide | omega)) (LT.warm hI0) hS0 (Nat.zero_le _) e0 0 (by decide) (by decide) (by decide) (by decide) [(.int z1)] (by rw [hml]; rfl) pd_6 rfl rfl rfl (Nat.le_of_eq rfl) (hb hby at_39) (pc' := 42) rfl (fun v2 T2 L2 hQ2 X2 hS2 hZ hown => ?_)
    obtain ⟨z_2, rfl, Nc2, Kc2, P2_0⟩ := hQ2
    have P2_0 : (((97 ≤ z1.toInt ∧ z1.toInt ≤ 122) ∨ (65 ≤ z1.toInt ∧ z1.toInt ≤ 90) ∨ (48 ≤ z1.toInt ∧ z1.toInt ≤ 57) ∨ z1.toInt = 33 ∨ z1.toInt = 35 ∨ z1.toInt = 36 ∨ z1.toInt = 37 ∨ z1.toInt = 38 ∨ z1.toInt = 39 ∨ z1.toInt = 42 ∨ z1.toInt = 43 ∨ z1.toInt = 45 ∨ z1.toInt = 46 ∨ z1.toInt = 94 ∨ z1.toInt = 95 ∨ z1.toInt = 96 ∨ z1.toInt = 124 ∨ z1.toInt = 126) ∧ z_2.toInt = 1) ∨ (¬ ((97 ≤ z1.toInt ∧ z1.toInt ≤ 122) ∨ (65 ≤ z1.toInt ∧ z1.toInt ≤ 90) ∨ (48 ≤ z1.toInt ∧ z1.toInt ≤ 57) ∨ z1.toInt = 33 ∨ z1.toInt = 35 ∨ z1.toInt = 36 ∨ z1.toInt = 37 ∨ z1.toInt = 38 ∨ z1.toInt = 39 ∨ z1.toInt = 42 ∨ z1.toInt = 43 ∨ z1.toInt = 45 ∨ z1.toInt = 46 ∨ z1.toInt = 94 ∨ z1.toInt = 95 ∨ z1.toInt = 96 ∨ z1.toInt = 124 ∨ z1.toInt = 126) ∧ z_2.toInt = 0) := P2_0
    have Zs2 : n0 ≤ T2.heap.size := Nat.le_trans Z0 Kc2.1
    have K2 := (Keep.refl h0 []).trans Kc2 all0
    have N2 := Fr.app N0 Nc2
    show Ends _ _ _ _ T2 (mkF m 42 #[.val (.int px), .val (.int z1), .val (.int (0 : Int32)), .val (.int (0 : Int32))] [(.int z_2)])
    refine ow_iloadN X2 hx (hb hby at_42) rfl (pc' := 43) rfl ?_
    refine ow_icmp_ne X2 hx (z_2.toInt) ((0 : Int)) (hb hby at_43) rfl rfl (by decide) (pt := 50) (by decide) (pf := 46) rfl (fun c43 => ?_) (fun c43 => ?_)
    · refine ow_iconst X2 hx (z := (0 : Int32)) (hb hby at_50) rfl (pc' := 51) rfl ?_
      exact absurd (show False from by omega) id
    · refine ow_iconst X2 hx (z := (1 : Int32)) (hb hby at_46) rfl (pc' := 47) rfl ?_
      refine ow_goto X2 hx (hb hby at_47) (by decide) (pc' := 51) (by decide) ?_
      exact ow_retBI X2 hx hret hlk (hb hby at_51) hS2 (Nat.le_refl _) (by decide) (by decide) (z' := (1 : Int32)) rfl ⟨rfl, N2⟩
  · refine ow_iloadN X0 hx (hb hby at_9) rfl (pc' := 10) rfl ?_
    refine ow_bipush X0 hx (z := (126 : Int32)) (hb hby at_10) rfl (pc' := 12) rfl ?_
    refine ow_icmp_gt X0 hx (z1.toInt) ((126 : Int)) (hb hby at_12) rfl rfl (by decide) (pt := 19) (by decide) (pf := 15) rfl (fun c12 => ?_) (fun c12 => ?_)
    · refine ow_iconst X0 hx (z := (0 : Int32)) (hb hby at_19) rfl (pc' := 20) rfl ?_
      refine ow_istoreN X0 hx (Ls' := #[.val (.int px), .val (.int z1), .val (.int (0 : Int32)), .unset]) (hb hby at_20) rfl (pc' := 21) rfl ?_
      refine ow_iloadN X0 hx (hb hby at_21) rfl (pc' := 22) rfl ?_
      refine ow_ifY X0 hx (hb hby at_22) (by decide) (by decide) (pc' := 36) (by decide) ?_
      refine ow_iconst X0 hx (z := (0 : Int32)) (hb hby at_36) rfl (pc' := 37) rfl ?_
      refine ow_istoreN X0 hx (Ls' := #[.val (.int px), .val (.int z1), .val (.int (0 : Int32)), .val (.int (0 : Int32))]) (hb hby at_37) rfl (pc' := 38) rfl ?_
      refine ow_iloadN X0 hx (hb hby at_38) rfl (pc' := 39) rfl ?_
      refine ow_callSI X0 hx hZ hown (hw _ (List.mem_of_getElem? (i := 0) rfl)) (hw _ (List.mem_of_getElem? (i := 1) rfl)) (hw _ (List.mem_of_getElem? (i := 2) rfl)) (hw _ (List.mem_of_getElem? (i := 3) rfl)) (by decide) (rm_tok l Z a0 hw [] hcw hch z1 zc h0 n0 Z0 (ow_zk hzk hzn (Keep.refl h0 []) all0) hzn S_cs (by first | assumption | decide | omega) (by first | assumption | decide | omega) (by first | assumption | decide | omega)) (LT.warm hI0) hS0 (Nat.zero_le _) e0 0 (by decide) (by decide) (by decide) (by decide) [(.int z1)] (by rw [hml]; rfl) pd_6 rfl rfl rfl (Nat.le_of_eq rfl) (hb hby at_39) (pc' := 42) rfl (fun v3 T3 L3 hQ3 X3 hS3 hZ hown => ?_)
      obtain ⟨z_3, rfl, Nc3, Kc3, P3_0⟩ := hQ3
      have P3_0 : (((97 ≤ z1.toInt ∧ z1.toInt ≤ 122) ∨ (65 ≤ z1.toInt ∧ z1.toInt ≤ 90) ∨ (48 ≤ z1.toInt ∧ z1.toInt ≤ 57) ∨ z1.toInt = 33 ∨ z1.toInt = 35 ∨ z1.toInt = 36 ∨ z1.toInt = 37 ∨ z1.toInt = 38 ∨ z1.toInt = 39 ∨ z1.toInt = 42 ∨ z1.toInt = 43 ∨ z1.toInt = 45 ∨ z1.toInt = 46 ∨ z1.toInt = 94 ∨ z1.toInt = 95 ∨ z1.toInt = 96 ∨ z1.toInt = 124 ∨ z1.toInt = 126) ∧ z_3.toInt = 1) ∨ (¬ ((97 ≤ z1.toInt ∧ z1.toInt ≤ 122) ∨ (65 ≤ z1.toInt ∧ z1.toInt ≤ 90) ∨ (48 ≤ z1.toInt ∧ z1.toInt ≤ 57) ∨ z1.toInt = 33 ∨ z1.toInt = 35 ∨ z1.toInt = 36 ∨ z1.toInt = 37 ∨ z1.toInt = 38 ∨ z1.toInt = 39 ∨ z1.toInt = 42 ∨ z1.toInt = 43 ∨ z1.toInt = 45 ∨ z1.toInt = 46 ∨ z1.toInt = 94 ∨ z1.toInt = 95 ∨ z1.toInt = 96 ∨ z1.toInt = 124 ∨ z1.toInt = 126) ∧ z_3.toInt = 0) := P3_0
      have Zs3 : n0 ≤ T3.heap.size := Nat.le_trans Z0 Kc3.1
      have K3 := (Keep.refl h0 []).trans Kc3 all0
      have N3 := Fr.app N0 Nc3
      show Ends _ _ _ _ T3 (mkF m 42 #[.val (.int px), .val (.int z1), .val (.int (0 : Int32)), .val (.int (0 : Int32))] [(.int z_3)])
      refine ow_iloadN X3 hx (hb hby at_42) rfl (pc' := 43) rfl ?_
      refine ow_icmp_ne X3 hx (z_3.toInt) ((0 : Int)) (hb hby at_43) rfl rfl (by decide) (pt := 50) (by decide) (pf := 46) rfl (fun c43 => ?_) (fun c43 => ?_)
      · refine ow_iconst X3 hx (z := (0 : Int32)) (hb hby at_50) rfl (pc' := 51) rfl ?_
        exact absurd (show False from by omega) id
      · refine ow_iconst X3 hx (z := (1 : Int32)) (hb hby at_46) rfl (pc' := 47) rfl ?_
        refine ow_goto X3 hx (hb hby at_47) (by decide) (pc' := 51) (by decide) ?_
        exact ow_retBI X3 hx hret hlk (hb hby at_51) hS3 (Nat.le_refl _) (by decide) (by decide) (z' := (1 : Int32)) rfl ⟨rfl, N3⟩
    · refine ow_iconst X0 hx (z := (1 : Int32)) (hb hby at_15) rfl (pc' := 16) rfl ?_
      refine ow_goto X0 hx (hb hby at_16) (by decide) (pc' := 20) (by decide) ?_
      refine ow_istoreN X0 hx (Ls' := #[.val (.int px), .val (.int z1), .val (.int (1 : Int32)), .unset]) (hb hby at_20) rfl (pc' := 21) rfl ?_
      refine ow_iloadN X0 hx (hb hby at_21) rfl (pc' := 22) rfl ?_
      refine ow_ifN X0 hx (hb hby at_22) (by decide) (pc' := 25) rfl ?_
      refine ow_iloadN X0 hx (hb hby at_25) rfl (pc' := 26) rfl ?_
      refine ow_callPI X0 hx hZ hown (hw _ (List.mem_of_getElem? (i := 60) rfl)) (hw _ (List.mem_of_getElem? (i := 61) rfl)) (hw _ (List.mem_of_getElem? (i := 62) rfl)) (hw _ (List.mem_of_getElem? (i := 63) rfl)) (by decide) (rm_delim l Z a0 hw [] z1 h0 ) e0 0 (by decide) (by decide) (by decide) (by decide) [(.int z1)] (by rw [hml]; rfl) pd_6 rfl rfl rfl (Nat.le_of_eq rfl) (hb hby at_26) (pc' := 29) rfl (fun z4 T4 hz4 X4 e4 => ?_)
      have az4 : ((z1.toInt = 34 ∨ z1.toInt = 40 ∨ z1.toInt = 41 ∨ z1.toInt = 44 ∨ z1.toInt = 47 ∨ z1.toInt = 58 ∨ z1.toInt = 59 ∨ z1.toInt = 60 ∨ z1.toInt = 61 ∨ z1.toInt = 62 ∨ z1.toInt = 63 ∨ z1.toInt = 64 ∨ z1.toInt = 91 ∨ z1.toInt = 92 ∨ z1.toInt = 93 ∨ z1.toInt = 123 ∨ z1.toInt = 125) ∧ z4.toInt = 1) ∨ (¬ (z1.toInt = 34 ∨ z1.toInt = 40 ∨ z1.toInt = 41 ∨ z1.toInt = 44 ∨ z1.toInt = 47 ∨ z1.toInt = 58 ∨ z1.toInt = 59 ∨ z1.toInt = 60 ∨ z1.toInt = 61 ∨ z1.toInt = 62 ∨ z1.toInt = 63 ∨ z1.toInt = 64 ∨ z1.toInt = 91 ∨ z1.toInt = 92 ∨ z1.toInt = 93 ∨ z1.toInt = 123 ∨ z1.toInt = 125) ∧ z4.toInt = 0) := hz4
      have rz4 := rng32 z4
      refine ow_if_ne X4 hx (z4.toInt) (hb hby at_29) rfl (by decide) (pt := 36) (by decide) (pf := 32) rfl (fun c29 => ?_) (fun c29 => ?_)
      · refine ow_iconst X4 hx (z := (0 : Int32)) (hb hby at_36) rfl (pc' := 37) rfl ?_
        refine ow_istoreN X4 hx (Ls' := #[.val (.int px), .val (.int z1), .val (.int (1 : Int32)), .val (.int (0 : Int32))]) (hb hby at_37) rfl (pc' := 38) rfl ?_
        refine ow_iloadN X4 hx (hb hby at_38) rfl (pc' := 39) rfl ?_
        refine ow_callSI X4 hx hZ hown (hw _ (List.mem_of_getElem? (i := 0) rfl)) (hw _ (List.mem_of_getElem? (i := 1) rfl)) (hw _ (List.mem_of_getElem? (i := 2) rfl)) (hw _ (List.mem_of_getElem? (i := 3) rfl)) (by decide) (rm_tok l Z a0 hw [] hcw hch z1 zc h0 n0 Z0 (ow_zk hzk hzn (Keep.refl h0 []) all0) hzn S_cs (by first | assumption | decide | omega) (by first | assumption | decide | omega) (by first | assumption | decide | omega)) (LT.warm hI0) hS0 (Nat.zero_le _) e4 0 (by decide) (by decide) (by decide) (by decide) [(.int z1)] (by rw [hml]; rfl) pd_6 rfl rfl rfl (Nat.le_of_eq rfl) (hb hby at_39) (pc' := 42) rfl (fun v5 T5 L5 hQ5 X5 hS5 hZ hown => ?_)
        obtain ⟨z_5, rfl, Nc5, Kc5, P5_0⟩ := hQ5
        have P5_0 : (((97 ≤ z1.toInt ∧ z1.toInt ≤ 122) ∨ (65 ≤ z1.toInt ∧ z1.toInt ≤ 90) ∨ (48 ≤ z1.toInt ∧ z1.toInt ≤ 57) ∨ z1.toInt = 33 ∨ z1.toInt = 35 ∨ z1.toInt = 36 ∨ z1.toInt = 37 ∨ z1.toInt = 38 ∨ z1.toInt = 39 ∨ z1.toInt = 42 ∨ z1.toInt = 43 ∨ z1.toInt = 45 ∨ z1.toInt = 46 ∨ z1.toInt = 94 ∨ z1.toInt = 95 ∨ z1.toInt = 96 ∨ z1.toInt = 124 ∨ z1.toInt = 126) ∧ z_5.toInt = 1) ∨ (¬ ((97 ≤ z1.toInt ∧ z1.toInt ≤ 122) ∨ (65 ≤ z1.toInt ∧ z1.toInt ≤ 90) ∨ (48 ≤ z1.toInt ∧ z1.toInt ≤ 57) ∨ z1.toInt = 33 ∨ z1.toInt = 35 ∨ z1.toInt = 36 ∨ z1.toInt = 37 ∨ z1.toInt = 38 ∨ z1.toInt = 39 ∨ z1.toInt = 42 ∨ z1.toInt = 43 ∨ z1.toInt = 45 ∨ z1.toInt = 46 ∨ z1.toInt = 94 ∨ z1.toInt = 95 ∨ z1.toInt = 96 ∨ z1.toInt = 124 ∨ z1.toInt = 126) ∧ z_5.toInt = 0) := P5_0
        have Zs5 : n0 ≤ T5.heap.size := Nat.le_trans Z0 Kc5.1
        have K5 := (Keep.refl h0 []).trans Kc5 all0
        have N5 := Fr.app N0 Nc5
        show Ends _ _ _ _ T5 (mkF m 42 #[.val (.int px), .val (.int z1), .val (.int (1 : Int32)), .val (.int (0 : Int32))] [(.int z_5)])
        refine ow_iloadN X5 hx (hb hby at_42) rfl (pc' := 43) rfl ?_
        refine ow_icmp_ne X5 hx (z_5.toInt) ((0 : Int)) (hb hby at_43) rfl rfl (by decide) (pt := 50) (by decide) (pf := 46) rfl (fun c43 => ?_) (fun c43 => ?_)
        · refine ow_iconst X5 hx (z := (0 : Int32)) (hb hby at_50) rfl (pc' := 51) rfl ?_
          exact absurd (show False from by omega) id
        · refine ow_iconst X5 hx (z := (1 : Int32)) (hb hby at_46) rfl (pc' := 47) rfl ?_
          refine ow_goto X5 hx (hb hby at_47) (by decide) (pc' := 51) (by decide) ?_
          exact ow_retBI X5 hx hret hlk (hb hby at_51) hS5 (Nat.le_refl _) (by decide) (by decide) (z' := (1 : Int32)) rfl ⟨rfl, N5⟩
      · refine ow_iconst X4 hx (z := (1 : Int32)) (hb hby at_32) rfl (pc' := 33) rfl ?_
        refine ow_goto X4 hx (hb hby at_33) (by decide) (pc' := 37) (by decide) ?_
        refine ow_istoreN X4 hx (Ls' := #[.val (.int px), .val (.int z1), .val (.int (1 : Int32)), .val (.int (1 : Int32))]) (hb hby at_37) rfl (pc' := 38) rfl ?_
        refine ow_iloadN X4 hx (hb hby at_38) rfl (pc' := 39) rfl ?_
        refine ow_callSI X4 hx hZ hown (hw _ (List.mem_of_getElem? (i := 0) rfl)) (hw _ (List.mem_of_getElem? (i := 1) rfl)) (hw _ (List.mem_of_getElem? (i := 2) rfl)) (hw _ (List.mem_of_getElem? (i := 3) rfl)) (by decide) (rm_tok l Z a0 hw [] hcw hch z1 zc h0 n0 Z0 (ow_zk hzk hzn (Keep.refl h0 []) all0) hzn S_cs (by first | assumption | decide | omega) (by first | assumption | decide | omega) (by first | assumption | decide | omega)) (LT.warm hI0) hS0 (Nat.zero_le _) e4 0 (by decide) (by decide) (by decide) (by decide) [(.int z1)] (by rw [hml]; rfl) pd_6 rfl rfl rfl (Nat.le_of_eq rfl) (hb hby at_39) (pc' := 42) rfl (fun v6 T6 L6 hQ6 X6 hS6 hZ hown => ?_)
        obtain ⟨z_6, rfl, Nc6, Kc6, P6_0⟩ := hQ6
        have P6_0 : (((97 ≤ z1.toInt ∧ z1.toInt ≤ 122) ∨ (65 ≤ z1.toInt ∧ z1.toInt ≤ 90) ∨ (48 ≤ z1.toInt ∧ z1.toInt ≤ 57) ∨ z1.toInt = 33 ∨ z1.toInt = 35 ∨ z1.toInt = 36 ∨ z1.toInt = 37 ∨ z1.toInt = 38 ∨ z1.toInt = 39 ∨ z1.toInt = 42 ∨ z1.toInt = 43 ∨ z1.toInt = 45 ∨ z1.toInt = 46 ∨ z1.toInt = 94 ∨ z1.toInt = 95 ∨ z1.toInt = 96 ∨ z1.toInt = 124 ∨ z1.toInt = 126) ∧ z_6.toInt = 1) ∨ (¬ ((97 ≤ z1.toInt ∧ z1.toInt ≤ 122) ∨ (65 ≤ z1.toInt ∧ z1.toInt ≤ 90) ∨ (48 ≤ z1.toInt ∧ z1.toInt ≤ 57) ∨ z1.toInt = 33 ∨ z1.toInt = 35 ∨ z1.toInt = 36 ∨ z1.toInt = 37 ∨ z1.toInt = 38 ∨ z1.toInt = 39 ∨ z1.toInt = 42 ∨ z1.toInt = 43 ∨ z1.toInt = 45 ∨ z1.toInt = 46 ∨ z1.toInt = 94 ∨ z1.toInt = 95 ∨ z1.toInt = 96 ∨ z1.toInt = 124 ∨ z1.toInt = 126) ∧ z_6.toInt = 0) := P6_0
        have Zs6 : n0 ≤ T6.heap.size := Nat.le_trans Z0 Kc6.1
        have K6 := (Keep.refl h0 []).trans Kc6 all0
        have N6 := Fr.app N0 Nc6
        show Ends _ _ _ _ T6 (mkF m 42 #[.val (.int px), .val (.int z1), .val (.int (1 : Int32)), .val (.int (1 : Int32))] [(.int z_6)])
        refine ow_iloadN X6 hx (hb hby at_42) rfl (pc' := 43) rfl ?_
        refine ow_icmp_ne X6 hx (z_6.toInt) ((1 : Int)) (hb hby at_43) rfl rfl (by decide) (pt := 50) (by decide) (pf := 46) rfl (fun c43 => ?_) (fun c43 => ?_)
        · refine ow_iconst X6 hx (z := (0 : Int32)) (hb hby at_50) rfl (pc' := 51) rfl ?_
          exact absurd (show False from by omega) id
        · refine ow_iconst X6 hx (z := (1 : Int32)) (hb hby at_46) rfl (pc' := 47) rfl ?_
          refine ow_goto X6 hx (hb hby at_47) (by decide) (pc' := 51) (by decide) ?_
          exact ow_retBI X6 hx hret hlk (hb hby at_51) hS6 (Nat.le_refl _) (by decide) (by decide) (z' := (1 : Int32)) rfl ⟨rfl, N6⟩
set_option maxRecDepth 65536 in
set_option maxHeartbeats 40000000 in
theorem comes_1 {Post : Tables → Env → Array Value → State → Outcome → State → Prop} (hpost : ∀ tb e args s v u, (limb_1_1.after args s (.returned v) u = true ∧ limb_1_2.after args s (.returned v) u = true ∧ True) → ReturnedEndW s (.returned v) u (Jvm.fieldLocs frame_1_writes args s ++ Jvm.arrayLocs frame_1_arrays args s ++ Jvm.staticLocs frame_1_statics s) 8 1088 → Post tb e args s (.returned v) u) :
    ArmFor flags0 classFile x code maxLocals ret World_1 tables_1 room_1 Calls_1 rest_1 Pre_1 Post := by
  intro l hfl _ _ p e ha hc hk s m args below hf hA hF happ hP
  obtain ⟨hcalls, hrest, hpre⟩ := hP
  obtain ⟨-, -, -, hnamed, -, -, -, hat⟩ := (Spec.applies_iff hf).mp happ
  obtain ⟨hg, hn⟩ := and_e (Cond.before_iff.mp (show (Jvm.Cond.and given_1 narrow_1).before args s = true from hpre))
  obtain ⟨gc, ga0⟩ := and_e hg
  obtain ⟨w0, rfl⟩ : ∃ w0 : Value, args = #[w0] := by
    have hs : args.size = 1 := by simpa [Cond.value, given_1] using gc
    obtain ⟨L⟩ := args
    match L, hs with
    | [w0], _ => exact ⟨w0, rfl⟩
  have hw := fun d (hd : d ∈ tables_1) => atoms_spec (ws := Jvm.Cond.code x code maxLocals ret :: tables_1) hat d (List.mem_cons_of_mem _ hd)
  have hfit : Fit s := fun {y c} hc i hi => by
    obtain ⟨ha, rfl⟩ := Array.getElem?_eq_some_iff.mp hc
    have q := List.all_eq_true.mp ((Array.all_eq_true_iff_forall_mem.mp hF) _ (Array.getElem_mem ha)) i (List.mem_range.mpr hi)
    simpa [Array.getElem?_eq_getElem hi] using q
  obtain ⟨hsets, hown0⟩ := atoms_of _ (rest_1_c_eq ▸ (show rest_1_c.before _ s = true from hrest))
  have hr0 := Cond.before_iff.mp hown0
  obtain ⟨i0, ei0⟩ := is_v ga0
  obtain rfl : w0 = (.int i0) := Option.some.inj ei0
  have nz := not_v (Cond.before_iff.mp (hsets _ (List.mem_of_getElem? (i := 2) rfl)))
  obtain ⟨zc, ez⟩ := is_v (Cond.before_iff.mp (hsets _ (List.mem_of_getElem? (i := 1) rfl)))
  have Scs : Sta s s.heap "java/lang/String" "COMPACT_STRINGS" "Z" (.int zc) := Sta.start ez (Or.inl (hsets _ (List.mem_of_getElem? (i := 0) rfl)))
  have hzc : ¬ (zc = (0 : Int32)) := gotF (Cond.eq_ints ez (Term.int_eval (0))) nz
  have hcw : Jvm.Lit.compactW.before _ s = true := hsets _ (List.mem_of_getElem? (i := 2) rfl)
  have hz0 : ¬ zc.toInt = 0 := fun q => hzc (ow_eq q)
  obtain ⟨n, o, h1, h2, h3, _, L, rfl, ⟨rfl, N⟩, hq⟩ := rm_law l s _ hw tables_1 hcw hcalls.1 i0 zc s.heap s.heap.size (Nat.le_refl _) (fun _ _ q => q) (Nat.le_refl _) rfl Scs hz0 p e ha hc hk s m _ below hf ((Spec.applies_iff_loose hf).mp happ).1 ⟨rfl, State.Warmed39.refl s, rfl, LT.start⟩ trivial
  refine ⟨n, _, h1, h2, h3, hpost _ _ _ _ _ _ ⟨Cond.after_iff.mpr rfl, Cond.after_iff.mpr (eq_i res_at (Term.int_eval (1)) rfl), trivial⟩ ⟨hq.1, hq.2.1, hq.2.2.1, (hq.2.2.2.sift fun y hy => Or.inr (N y hy)).mono (by decide) (by decide)⟩⟩
theorem main_1_1 : Claimed_1_1 := comes_1 fun _ _ _ _ _ _ h hF => ⟨h.1, hF⟩
theorem main_1_2 : Claimed_1_2 := comes_1 fun _ _ _ _ _ _ h hF => ⟨h.2.1, hF⟩
end Jvm.Pilot.@@N@@
namespace Jvm.Pilot.@@N@@
open Jvm Jvm.ClassFile Sem Op Lib Jvm.Free Jvm.Stand Jvm.Pilot.@@N@@.Jvm.D
/-! MADE BY PROGRAM (witnessworld.py) out of the Statement's table words and the real class files: 16 classes; the members and pool entries that the words name. The judged class is class 1, her method 2. -/
namespace start1
open Jvm.ClassFile
def u (s : String) : CpInfo := .utf8 (stringToUtf16 s)
/-- a pool by its gaps: so many unusable entries, then the entry; so many at the end -/
def gap : Nat → List CpInfo → List CpInfo
  | 0, r => r
  | n + 1, r => .unusable :: gap n r
def poolList (es : List (Nat × CpInfo)) (last : Nat) : List CpInfo := es.foldr (fun e r => gap e.1 (e.2 :: r)) (gap last [])
def pool (es : List (Nat × CpInfo)) (last : Nat) : Array CpInfo := ⟨poolList es last⟩
def fileOf (pool : Array CpInfo) (this : Nat) (attrs : Array Attribute := #[]) (ms : Array MethodInfo := #[]) (fl : Nat := 33) (sup : Nat := 0) (ifs : Array Nat := #[]) (fds : Array FieldInfo := #[]) : ClassFile where
  minorVersion := 0
  majorVersion := 65
  constantPool := pool
  accessFlags := fl
  thisClass := this
  superClass := sup
  interfaces := ifs
  fields := fds
  methods := ms
  attributes := attrs
def plain (name : String) (sup : Option ClassId) : Class where
  name := name
  kind := .ordinary
  loader := none
  accessFlags := 33
  super := sup
  interfaces := #[]
  cf := none
  fields := #[]
  methods := #[]
  instanceTypes := #[]
  staticTypes := #[]
  resolved := #[]
  callSites := []
  init := .initialized
  statics := none
  mirror := none

def pool0 : Array CpInfo := pool [(5, u "<init>"), (0, u "()V"), (1, .class_ 10), (1, u "java/lang/Object")] 113

def k0m0 : Method := { name := "<init>", desc := "()V", sig := { parameters := [], returnType := none }, accessFlags := 1, code := none }
/-- java/lang/Object -/
def k0 : Class := { plain "java/lang/Object" none with
  accessFlags := 33
  interfaces := #[]
  cf := some (fileOf pool0 8 #[] #[{ accessFlags := 1, nameIndex := 5, descriptorIndex := 6, attributes := #[] }] 33 0 #[] #[])
  fields := #[]
  methods := #[k0m0]
  instanceTypes := #[]
  staticTypes := #[]
  resolved := Array.replicate 124 none
  statics := none }

def pool1 : Array CpInfo := pool [(2, .class_ 4), (1, u "java/lang/Object"), (0, u "<init>"), (0, u "()V"), (0, .methodref 8 9), (0, .class_ 10), (0, .nameAndType 11 12), (0, u "com/example/inchworm/inchworm/store/HttpSyntaxIsTokenCharPinLaw"), (0, u "isDelimiter"), (0, u "(C)Z"), (0, .methodref 14 15), (0, .class_ 16), (0, .nameAndType 17 12), (0, u "com/example/inchworm/inchworm/store/HttpSyntax"), (0, u "isTokenChar"), (3, u "law"), (0, u "(I)Z")] 2

def k1m0 : Method := { name := "<init>", desc := "()V", sig := { parameters := [], returnType := none }, accessFlags := 2, code := none }
def k1c1 : Code := { maxStack := 2, maxLocals := 1, code := method_2_code, exceptionTable := #[], attributes := #[] }
def k1m1 : Method := { name := "isDelimiter", desc := "(C)Z", sig := { parameters := [.char], returnType := some .boolean }, accessFlags := 10, code := some k1c1 }
def k1c2 : Code := { maxStack := 2, maxLocals := 4, code := code, exceptionTable := #[], attributes := #[] }
def k1m2 : Method := { name := "law", desc := "(I)Z", sig := { parameters := [.int], returnType := some .boolean }, accessFlags := 9, code := some k1c2 }
/-- com/example/inchworm/inchworm/store/HttpSyntaxIsTokenCharPinLaw -/
def k1 : Class := { plain "com/example/inchworm/inchworm/store/HttpSyntaxIsTokenCharPinLaw" (some 0) with
  accessFlags := 49
  interfaces := #[]
  cf := some (fileOf pool1 8 #[] #[{ accessFlags := 2, nameIndex := 5, descriptorIndex := 6, attributes := #[] }, { accessFlags := 10, nameIndex := 11, descriptorIndex := 12, attributes := #[] }, { accessFlags := 9, nameIndex := 21, descriptorIndex := 22, attributes := #[] }] 49 2 #[] #[])
  fields := #[]
  methods := #[k1m0, k1m1, k1m2]
  instanceTypes := #[]
  staticTypes := #[]
  resolved := Array.replicate 25 none
  statics := none }

def pool2 : Array CpInfo := pool [(2, .class_ 4), (1, u "java/lang/Object"), (0, u "<init>"), (0, u "()V"), (5, .class_ 14), (1, u "com/example/inchworm/inchworm/store/HttpSyntax"), (3, .methodref 12 19), (0, .nameAndType 20 21), (0, u "isAlphanumeric"), (0, u "(C)Z"), (2, .methodref 25 26), (0, .class_ 27), (0, .nameAndType 28 29), (0, u "java/lang/String"), (0, u "indexOf"), (0, u "(I)I"), (0, .string 31), (0, u "!#$%&'*+-.^_`|~"), (13, .class_ 47), (1, u "com/example/inchworm/inchworm/store/HttpSyntax$CharTest"), (0, u "TOKEN_SYMBOLS"), (0, u "Ljava/lang/String;"), (1, u "UNRESERVED_SYMBOLS"), (6, u "isTokenChar")] 25

def k2m0 : Method := { name := "<init>", desc := "()V", sig := { parameters := [], returnType := none }, accessFlags := 2, code := none }
def k2c1 : Code := { maxStack := 2, maxLocals := 1, code := prog_41_method_5_code, exceptionTable := #[], attributes := #[] }
def k2m1 : Method := { name := "isTokenChar", desc := "(C)Z", sig := { parameters := [.char], returnType := some .boolean }, accessFlags := 8, code := some k2c1 }
def k2c2 : Code := { maxStack := 2, maxLocals := 1, code := prog_41_method_7_code, exceptionTable := #[], attributes := #[] }
def k2m2 : Method := { name := "isAlphanumeric", desc := "(C)Z", sig := { parameters := [.char], returnType := some .boolean }, accessFlags := 10, code := some k2c2 }
/-- com/example/inchworm/inchworm/store/HttpSyntax -/
def k2 : Class := { plain "com/example/inchworm/inchworm/store/HttpSyntax" (some 0) with
  accessFlags := 49
  interfaces := #[]
  cf := some (fileOf pool2 12 #[.nestMembers #[45]] #[{ accessFlags := 2, nameIndex := 5, descriptorIndex := 6, attributes := #[] }, { accessFlags := 8, nameIndex := 58, descriptorIndex := 21, attributes := #[] }, { accessFlags := 10, nameIndex := 20, descriptorIndex := 21, attributes := #[] }] 49 2 #[] #[{ accessFlags := 26, nameIndex := 48, descriptorIndex := 49, attributes := #[] }, { accessFlags := 26, nameIndex := 51, descriptorIndex := 49, attributes := #[] }])
  fields := #[{ name := "TOKEN_SYMBOLS", type := (.object "java/lang/String"), accessFlags := 26, slot := 0, constantValue := 0 }, { name := "UNRESERVED_SYMBOLS", type := (.object "java/lang/String"), accessFlags := 26, slot := 1, constantValue := 0 }]
  methods := #[k2m0, k2m1, k2m2]
  instanceTypes := #[]
  staticTypes := #[(.object "java/lang/String"), (.object "java/lang/String")]
  resolved := Array.replicate 84 none
  statics := none }

def pool3 : Array CpInfo := pool [(1, .class_ 2), (0, u "java/io/Serializable"), (0, .class_ 4), (0, u "java/lang/Object")] 2

/-- java/io/Serializable -/
def k3 : Class := { plain "java/io/Serializable" (some 0) with
  accessFlags := 1537
  interfaces := #[]
  cf := some (fileOf pool3 1 #[] #[] 1537 3 #[] #[])
  fields := #[]
  methods := #[]
  instanceTypes := #[]
  staticTypes := #[]
  resolved := Array.replicate 7 none
  statics := none }

def pool4 : Array CpInfo := pool [(1, .class_ 2), (0, u "java/lang/Comparable"), (0, .class_ 4), (0, u "java/lang/Object")] 7

/-- java/lang/Comparable -/
def k4 : Class := { plain "java/lang/Comparable" (some 0) with
  accessFlags := 1537
  interfaces := #[]
  cf := some (fileOf pool4 1 #[] #[] 1537 3 #[] #[])
  fields := #[]
  methods := #[]
  instanceTypes := #[]
  staticTypes := #[]
  resolved := Array.replicate 12 none
  statics := none }

def pool5 : Array CpInfo := pool [(2, .class_ 4), (1, u "java/lang/CharSequence"), (42, .class_ 48), (0, u "java/lang/CharSequence$1CodePointIterator"), (10, .class_ 60), (0, u "java/lang/CharSequence$1CharIterator"), (5, .class_ 67), (0, u "java/lang/Object")] 63

/-- java/lang/CharSequence -/
def k5 : Class := { plain "java/lang/CharSequence" (some 0) with
  accessFlags := 1537
  interfaces := #[]
  cf := some (fileOf pool5 2 #[.nestMembers #[47, 59]] #[] 1537 66 #[] #[])
  fields := #[]
  methods := #[]
  instanceTypes := #[]
  staticTypes := #[]
  resolved := Array.replicate 131 none
  statics := none }

def pool6 : Array CpInfo := pool [(1, .class_ 2), (0, u "java/lang/constant/Constable"), (0, .class_ 4), (0, u "java/lang/Object")] 6

/-- java/lang/constant/Constable -/
def k6 : Class := { plain "java/lang/constant/Constable" (some 0) with
  accessFlags := 1537
  interfaces := #[]
  cf := some (fileOf pool6 1 #[] #[] 1537 3 #[] #[])
  fields := #[]
  methods := #[]
  instanceTypes := #[]
  staticTypes := #[]
  resolved := Array.replicate 11 none
  statics := none }

def pool7 : Array CpInfo := pool [(1, .class_ 2), (0, u "java/lang/constant/ConstantDesc"), (0, .class_ 4), (0, u "java/lang/Object")] 32

/-- java/lang/constant/ConstantDesc -/
def k7 : Class := { plain "java/lang/constant/ConstantDesc" (some 0) with
  accessFlags := 1537
  interfaces := #[]
  cf := some (fileOf pool7 1 #[] #[] 1537 3 #[] #[])
  fields := #[]
  methods := #[]
  instanceTypes := #[]
  staticTypes := #[]
  resolved := Array.replicate 37 none
  statics := none }

def pool8 : Array CpInfo := pool [(2, .class_ 4), (1, u "java/lang/Object"), (0, u "<init>"), (0, u "()V"), (2, .fieldref 10 11), (0, .class_ 12), (0, .nameAndType 13 14), (0, u "java/lang/String"), (0, u "value"), (0, u "[B"), (0, .fieldref 10 16), (0, .nameAndType 17 18), (0, u "coder"), (0, u "B"), (2, u "hash"), (0, u "I"), (2, u "hashIsZero"), (0, u "Z"), (11, .fieldref 10 39), (0, .nameAndType 40 26), (0, u "COMPACT_STRINGS"), (66, .class_ 109), (1, u "java/lang/StringLatin1"), (32, u "()Z"), (191, u "()I"), (0, .methodref 10 336), (0, .nameAndType 17 337), (0, u "()B"), (154, .methodref 10 493), (0, .nameAndType 494 142), (0, u "isLatin1"), (10, .methodref 10 506), (0, .nameAndType 507 334), (0, u "length"), (67, .class_ 576), (0, u "java/lang/CharSequence"), (22, u "CASE_INSENSITIVE_ORDER"), (0, u "Ljava/util/Comparator;"), (32, .methodref 10 634), (0, .nameAndType 635 636), (0, u "indexOf"), (0, u "(II)I"), (0, .methodref 107 638), (0, .nameAndType 635 639), (0, u "([BIII)I"), (125, u "(I)I"), (335, u "serialPersistentFields"), (0, u "[Ljava/io/ObjectStreamField;"), (0, .class_ 1104), (0, u "java/lang/String$CaseInsensitiveComparator"), (1, .class_ 1107), (0, u "java/io/Serializable"), (0, .class_ 1109), (0, u "java/lang/Comparable"), (0, .class_ 1111), (0, u "java/lang/constant/Constable"), (0, .class_ 1113), (0, u "java/lang/constant/ConstantDesc"), (2, u "serialVersionUID"), (0, u "J"), (3, u "REPL"), (0, u "C"), (2, u "LATIN1"), (1, u "UTF16")] 323

def k8m0 : Method := { name := "<init>", desc := "()V", sig := { parameters := [], returnType := none }, accessFlags := 1, code := none }
def k8c1 : Code := { maxStack := 2, maxLocals := 1, code := jdk_42_method_54_code, exceptionTable := #[], attributes := #[] }
def k8m1 : Method := { name := "length", desc := "()I", sig := { parameters := [], returnType := some .int }, accessFlags := 1, code := some k8c1 }
def k8c2 : Code := { maxStack := 3, maxLocals := 2, code := jdk_42_method_79_code, exceptionTable := #[], attributes := #[] }
def k8m2 : Method := { name := "indexOf", desc := "(I)I", sig := { parameters := [.int], returnType := some .int }, accessFlags := 1, code := some k8c2 }
def k8c3 : Code := { maxStack := 4, maxLocals := 3, code := jdk_42_method_80_code, exceptionTable := #[], attributes := #[] }
def k8m3 : Method := { name := "indexOf", desc := "(II)I", sig := { parameters := [.int, .int], returnType := some .int }, accessFlags := 1, code := some k8c3 }
def k8c4 : Code := { maxStack := 1, maxLocals := 1, code := jdk_42_method_152_code, exceptionTable := #[], attributes := #[] }
def k8m4 : Method := { name := "coder", desc := "()B", sig := { parameters := [], returnType := some .byte }, accessFlags := 0, code := some k8c4 }
def k8c5 : Code := { maxStack := 1, maxLocals := 1, code := jdk_42_method_154_code, exceptionTable := #[], attributes := #[] }
def k8m5 : Method := { name := "isLatin1", desc := "()Z", sig := { parameters := [], returnType := some .boolean }, accessFlags := 0, code := some k8c5 }
/-- java/lang/String -/
def k8 : Class := { plain "java/lang/String" (some 0) with
  accessFlags := 49
  interfaces := #[3, 4, 5, 6, 7]
  cf := some (fileOf pool8 10 #[.nestMembers #[1103]] #[{ accessFlags := 1, nameIndex := 5, descriptorIndex := 6, attributes := #[] }, { accessFlags := 1, nameIndex := 507, descriptorIndex := 334, attributes := #[] }, { accessFlags := 1, nameIndex := 635, descriptorIndex := 765, attributes := #[] }, { accessFlags := 1, nameIndex := 635, descriptorIndex := 636, attributes := #[] }, { accessFlags := 0, nameIndex := 17, descriptorIndex := 337, attributes := #[] }, { accessFlags := 0, nameIndex := 494, descriptorIndex := 142, attributes := #[] }] 49 2 #[1106, 1108, 575, 1110, 1112] #[{ accessFlags := 18, nameIndex := 13, descriptorIndex := 14, attributes := #[] }, { accessFlags := 18, nameIndex := 17, descriptorIndex := 18, attributes := #[] }, { accessFlags := 2, nameIndex := 21, descriptorIndex := 22, attributes := #[] }, { accessFlags := 2, nameIndex := 25, descriptorIndex := 26, attributes := #[] }, { accessFlags := 26, nameIndex := 1116, descriptorIndex := 1117, attributes := #[] }, { accessFlags := 24, nameIndex := 40, descriptorIndex := 26, attributes := #[] }, { accessFlags := 26, nameIndex := 1101, descriptorIndex := 1102, attributes := #[] }, { accessFlags := 26, nameIndex := 1121, descriptorIndex := 1122, attributes := #[] }, { accessFlags := 25, nameIndex := 599, descriptorIndex := 600, attributes := #[] }, { accessFlags := 24, nameIndex := 1125, descriptorIndex := 18, attributes := #[] }, { accessFlags := 24, nameIndex := 1127, descriptorIndex := 18, attributes := #[] }])
  fields := #[{ name := "value", type := (.array .byte), accessFlags := 18, slot := 0, constantValue := 0 }, { name := "coder", type := .byte, accessFlags := 18, slot := 1, constantValue := 0 }, { name := "hash", type := .int, accessFlags := 2, slot := 2, constantValue := 0 }, { name := "hashIsZero", type := .boolean, accessFlags := 2, slot := 3, constantValue := 0 }, { name := "serialVersionUID", type := .long, accessFlags := 26, slot := 0, constantValue := 0 }, { name := "COMPACT_STRINGS", type := .boolean, accessFlags := 24, slot := 1, constantValue := 0 }, { name := "serialPersistentFields", type := (.array (.object "java/io/ObjectStreamField")), accessFlags := 26, slot := 2, constantValue := 0 }, { name := "REPL", type := .char, accessFlags := 26, slot := 3, constantValue := 0 }, { name := "CASE_INSENSITIVE_ORDER", type := (.object "java/util/Comparator"), accessFlags := 25, slot := 4, constantValue := 0 }, { name := "LATIN1", type := .byte, accessFlags := 24, slot := 5, constantValue := 0 }, { name := "UTF16", type := .byte, accessFlags := 24, slot := 6, constantValue := 0 }]
  methods := #[k8m0, k8m1, k8m2, k8m3, k8m4, k8m5]
  instanceTypes := #[(.array .byte), .byte, .int, .boolean]
  staticTypes := #[.long, .boolean, (.array (.object "java/io/ObjectStreamField")), .char, (.object "java/util/Comparator"), .byte, .byte]
  resolved := Array.replicate 1451 none
  statics := some 0 }

def pool9 : Array CpInfo := pool [(4, .class_ 6), (1, u "java/lang/Object"), (0, u "<init>"), (0, u "()V"), (5, .class_ 16), (1, u "java/lang/StringLatin1"), (21, .methodref 39 40), (0, .class_ 41), (0, .nameAndType 42 43), (0, u "java/lang/Math"), (0, u "min"), (0, u "(II)I"), (44, .methodref 14 89), (0, .nameAndType 90 91), (0, u "canEncode"), (0, u "(I)Z"), (0, .methodref 39 93), (0, .nameAndType 94 43), (0, u "max"), (0, .methodref 14 96), (0, .nameAndType 97 98), (0, u "indexOfChar"), (0, u "([BIII)I"), (2, u "indexOf"), (19, u "$assertionsDisabled"), (0, u "Z"), (98, .class_ 223), (1, u "java/lang/StringLatin1$LinesSpliterator"), (166, .class_ 391), (0, u "java/lang/StringLatin1$CharsSpliterator")] 3

def k9m0 : Method := { name := "<init>", desc := "()V", sig := { parameters := [], returnType := none }, accessFlags := 0, code := none }
def k9c1 : Code := { maxStack := 2, maxLocals := 1, code := jdk_43_method_4_code, exceptionTable := #[], attributes := #[] }
def k9m1 : Method := { name := "canEncode", desc := "(I)Z", sig := { parameters := [.int], returnType := some .boolean }, accessFlags := 9, code := some k9c1 }
def k9c2 : Code := { maxStack := 4, maxLocals := 4, code := jdk_43_method_22_code, exceptionTable := #[], attributes := #[] }
def k9m2 : Method := { name := "indexOf", desc := "([BIII)I", sig := { parameters := [(.array .byte), .int, .int, .int], returnType := some .int }, accessFlags := 9, code := some k9c2 }
def k9c3 : Code := { maxStack := 2, maxLocals := 6, code := jdk_43_method_23_code, exceptionTable := #[], attributes := #[] }
def k9m3 : Method := { name := "indexOfChar", desc := "([BIII)I", sig := { parameters := [(.array .byte), .int, .int, .int], returnType := some .int }, accessFlags := 10, code := some k9c3 }
/-- java/lang/StringLatin1 -/
def k9 : Class := { plain "java/lang/StringLatin1" (some 0) with
  accessFlags := 48
  interfaces := #[]
  cf := some (fileOf pool9 14 #[.nestMembers #[390, 221]] #[{ accessFlags := 0, nameIndex := 7, descriptorIndex := 8, attributes := #[] }, { accessFlags := 9, nameIndex := 90, descriptorIndex := 91, attributes := #[] }, { accessFlags := 9, nameIndex := 101, descriptorIndex := 98, attributes := #[] }, { accessFlags := 10, nameIndex := 97, descriptorIndex := 98, attributes := #[] }] 48 4 #[] #[{ accessFlags := 4120, nameIndex := 121, descriptorIndex := 122, attributes := #[] }])
  fields := #[{ name := "$assertionsDisabled", type := .boolean, accessFlags := 4120, slot := 0, constantValue := 0 }]
  methods := #[k9m0, k9m1, k9m2, k9m3]
  instanceTypes := #[]
  staticTypes := #[.boolean]
  resolved := Array.replicate 395 none
  statics := none }

def pool10 : Array CpInfo := pool [(1, .class_ 2), (0, u "java/lang/Math"), (1, .class_ 6), (1, u "java/lang/Object"), (0, u "<init>"), (0, u "()V"), (89, .class_ 100), (1, u "java/lang/Math$RandomNumberGeneratorHolder"), (71, u "negativeZeroFloatBits"), (0, u "J"), (2, u "negativeZeroDoubleBits"), (21, u "max"), (2, u "min"), (43, u "$assertionsDisabled"), (0, u "Z"), (88, u "(II)I"), (2, u "twoToTheDoubleScaleDown"), (0, u "D"), (4, u "twoToTheDoubleScaleUp"), (9, u "E"), (3, u "PI"), (2, u "TAU"), (2, u "DEGREES_TO_RADIANS"), (0, u "RADIANS_TO_DEGREES")] 94

def k10m0 : Method := { name := "<init>", desc := "()V", sig := { parameters := [], returnType := none }, accessFlags := 2, code := none }
def k10c1 : Code := { maxStack := 2, maxLocals := 2, code := jdk_29_method_65_code, exceptionTable := #[], attributes := #[] }
def k10m1 : Method := { name := "max", desc := "(II)I", sig := { parameters := [.int, .int], returnType := some .int }, accessFlags := 9, code := some k10c1 }
def k10c2 : Code := { maxStack := 2, maxLocals := 2, code := jdk_29_method_69_code, exceptionTable := #[], attributes := #[] }
def k10m2 : Method := { name := "min", desc := "(II)I", sig := { parameters := [.int, .int], returnType := some .int }, accessFlags := 9, code := some k10c2 }
/-- java/lang/Math -/
def k10 : Class := { plain "java/lang/Math" (some 0) with
  accessFlags := 49
  interfaces := #[]
  cf := some (fileOf pool10 1 #[.nestMembers #[98]] #[{ accessFlags := 2, nameIndex := 7, descriptorIndex := 8, attributes := #[] }, { accessFlags := 9, nameIndex := 198, descriptorIndex := 335, attributes := #[] }, { accessFlags := 9, nameIndex := 201, descriptorIndex := 335, attributes := #[] }] 49 4 #[] #[{ accessFlags := 25, nameIndex := 354, descriptorIndex := 339, attributes := #[] }, { accessFlags := 25, nameIndex := 358, descriptorIndex := 339, attributes := #[] }, { accessFlags := 25, nameIndex := 361, descriptorIndex := 339, attributes := #[] }, { accessFlags := 26, nameIndex := 364, descriptorIndex := 339, attributes := #[] }, { accessFlags := 26, nameIndex := 365, descriptorIndex := 339, attributes := #[] }, { accessFlags := 26, nameIndex := 172, descriptorIndex := 173, attributes := #[] }, { accessFlags := 26, nameIndex := 176, descriptorIndex := 173, attributes := #[] }, { accessFlags := 8, nameIndex := 344, descriptorIndex := 339, attributes := #[] }, { accessFlags := 8, nameIndex := 338, descriptorIndex := 339, attributes := #[] }, { accessFlags := 4120, nameIndex := 245, descriptorIndex := 246, attributes := #[] }])
  fields := #[{ name := "E", type := .double, accessFlags := 25, slot := 0, constantValue := 0 }, { name := "PI", type := .double, accessFlags := 25, slot := 1, constantValue := 0 }, { name := "TAU", type := .double, accessFlags := 25, slot := 2, constantValue := 0 }, { name := "DEGREES_TO_RADIANS", type := .double, accessFlags := 26, slot := 3, constantValue := 0 }, { name := "RADIANS_TO_DEGREES", type := .double, accessFlags := 26, slot := 4, constantValue := 0 }, { name := "negativeZeroFloatBits", type := .long, accessFlags := 26, slot := 5, constantValue := 0 }, { name := "negativeZeroDoubleBits", type := .long, accessFlags := 26, slot := 6, constantValue := 0 }, { name := "twoToTheDoubleScaleUp", type := .double, accessFlags := 8, slot := 7, constantValue := 0 }, { name := "twoToTheDoubleScaleDown", type := .double, accessFlags := 8, slot := 8, constantValue := 0 }, { name := "$assertionsDisabled", type := .boolean, accessFlags := 4120, slot := 9, constantValue := 0 }]
  methods := #[k10m0, k10m1, k10m2]
  instanceTypes := #[]
  staticTypes := #[.double, .double, .double, .double, .double, .long, .long, .double, .double, .boolean]
  resolved := Array.replicate 460 none
  statics := none }

def pool11 : Array CpInfo := pool [(2, .class_ 4), (1, u "java/lang/Object"), (0, u "<init>"), (0, u "()V"), (17, .class_ 26), (1, u "jdk/internal/util/Preconditions"), (28, .class_ 56), (0, u "jdk/internal/util/Preconditions$4"), (57, .class_ 115), (0, u "jdk/internal/util/Preconditions$1"), (7, u "SIOOBE_FORMATTER"), (0, u "Ljava/util/function/BiFunction;"), (0, .class_ 126), (0, u "jdk/internal/util/Preconditions$2"), (3, u "AIOOBE_FORMATTER"), (0, .class_ 132), (0, u "jdk/internal/util/Preconditions$3"), (3, u "IOOBE_FORMATTER")] 57

def k11m0 : Method := { name := "<init>", desc := "()V", sig := { parameters := [], returnType := none }, accessFlags := 1, code := none }
/-- jdk/internal/util/Preconditions -/
def k11 : Class := { plain "jdk/internal/util/Preconditions" (some 0) with
  accessFlags := 33
  interfaces := #[]
  cf := some (fileOf pool11 24 #[.nestMembers #[55, 131, 125, 114]] #[{ accessFlags := 1, nameIndex := 5, descriptorIndex := 6, attributes := #[] }] 33 2 #[] #[{ accessFlags := 25, nameIndex := 123, descriptorIndex := 124, attributes := #[] }, { accessFlags := 25, nameIndex := 130, descriptorIndex := 124, attributes := #[] }, { accessFlags := 25, nameIndex := 136, descriptorIndex := 124, attributes := #[] }])
  fields := #[{ name := "SIOOBE_FORMATTER", type := (.object "java/util/function/BiFunction"), accessFlags := 25, slot := 0, constantValue := 0 }, { name := "AIOOBE_FORMATTER", type := (.object "java/util/function/BiFunction"), accessFlags := 25, slot := 1, constantValue := 0 }, { name := "IOOBE_FORMATTER", type := (.object "java/util/function/BiFunction"), accessFlags := 25, slot := 2, constantValue := 0 }]
  methods := #[k11m0]
  instanceTypes := #[]
  staticTypes := #[(.object "java/util/function/BiFunction"), (.object "java/util/function/BiFunction"), (.object "java/util/function/BiFunction")]
  resolved := Array.replicate 194 none
  statics := some 1 }

def pool12 : Array CpInfo := pool [(9, u "<init>"), (6, .class_ 18), (1, u "java/lang/Object"), (0, u "()V"), (1, .class_ 23), (1, u "jdk/internal/util/ArraysSupport"), (0, u "LOG2_ARRAY_LONG_INDEX_SCALE"), (0, u "I"), (2, u "U"), (0, u "Ljdk/internal/misc/Unsafe;"), (8, u "BIG_ENDIAN"), (0, u "Z"), (8, u "LOG2_BYTE_BIT_SIZE"), (4, u "LOG2_ARRAY_INT_INDEX_SCALE"), (54, u "JLA"), (0, u "Ljdk/internal/access/JavaLangAccess;"), (11, u "LOG2_ARRAY_BOOLEAN_INDEX_SCALE"), (9, u "LOG2_ARRAY_BYTE_INDEX_SCALE"), (5, u "LOG2_ARRAY_CHAR_INDEX_SCALE"), (5, u "LOG2_ARRAY_SHORT_INDEX_SCALE"), (18, u "LOG2_ARRAY_FLOAT_INDEX_SCALE"), (24, u "LOG2_ARRAY_DOUBLE_INDEX_SCALE"), (89, u "T_BOOLEAN"), (2, u "T_CHAR"), (1, u "T_FLOAT"), (1, u "T_DOUBLE"), (1, u "T_BYTE"), (1, u "T_SHORT"), (1, u "T_INT"), (1, u "T_LONG"), (1, u "SOFT_MAX_ARRAY_LENGTH")] 83

def k12m0 : Method := { name := "<init>", desc := "()V", sig := { parameters := [], returnType := none }, accessFlags := 2, code := none }
/-- jdk/internal/util/ArraysSupport -/
def k12 : Class := { plain "jdk/internal/util/ArraysSupport" (some 0) with
  accessFlags := 33
  interfaces := #[]
  cf := some (fileOf pool12 21 #[] #[{ accessFlags := 2, nameIndex := 9, descriptorIndex := 19, attributes := #[] }] 33 16 #[] #[{ accessFlags := 24, nameIndex := 28, descriptorIndex := 29, attributes := #[] }, { accessFlags := 26, nameIndex := 38, descriptorIndex := 39, attributes := #[] }, { accessFlags := 25, nameIndex := 121, descriptorIndex := 25, attributes := #[] }, { accessFlags := 25, nameIndex := 131, descriptorIndex := 25, attributes := #[] }, { accessFlags := 25, nameIndex := 137, descriptorIndex := 25, attributes := #[] }, { accessFlags := 25, nameIndex := 143, descriptorIndex := 25, attributes := #[] }, { accessFlags := 25, nameIndex := 53, descriptorIndex := 25, attributes := #[] }, { accessFlags := 25, nameIndex := 24, descriptorIndex := 25, attributes := #[] }, { accessFlags := 25, nameIndex := 162, descriptorIndex := 25, attributes := #[] }, { accessFlags := 25, nameIndex := 187, descriptorIndex := 25, attributes := #[] }, { accessFlags := 26, nameIndex := 48, descriptorIndex := 25, attributes := #[] }, { accessFlags := 25, nameIndex := 277, descriptorIndex := 25, attributes := #[] }, { accessFlags := 25, nameIndex := 280, descriptorIndex := 25, attributes := #[] }, { accessFlags := 25, nameIndex := 282, descriptorIndex := 25, attributes := #[] }, { accessFlags := 25, nameIndex := 284, descriptorIndex := 25, attributes := #[] }, { accessFlags := 25, nameIndex := 286, descriptorIndex := 25, attributes := #[] }, { accessFlags := 25, nameIndex := 288, descriptorIndex := 25, attributes := #[] }, { accessFlags := 25, nameIndex := 290, descriptorIndex := 25, attributes := #[] }, { accessFlags := 25, nameIndex := 292, descriptorIndex := 25, attributes := #[] }, { accessFlags := 26, nameIndex := 108, descriptorIndex := 109, attributes := #[] }, { accessFlags := 25, nameIndex := 294, descriptorIndex := 25, attributes := #[] }])
  fields := #[{ name := "U", type := (.object "jdk/internal/misc/Unsafe"), accessFlags := 24, slot := 0, constantValue := 0 }, { name := "BIG_ENDIAN", type := .boolean, accessFlags := 26, slot := 1, constantValue := 0 }, { name := "LOG2_ARRAY_BOOLEAN_INDEX_SCALE", type := .int, accessFlags := 25, slot := 2, constantValue := 0 }, { name := "LOG2_ARRAY_BYTE_INDEX_SCALE", type := .int, accessFlags := 25, slot := 3, constantValue := 0 }, { name := "LOG2_ARRAY_CHAR_INDEX_SCALE", type := .int, accessFlags := 25, slot := 4, constantValue := 0 }, { name := "LOG2_ARRAY_SHORT_INDEX_SCALE", type := .int, accessFlags := 25, slot := 5, constantValue := 0 }, { name := "LOG2_ARRAY_INT_INDEX_SCALE", type := .int, accessFlags := 25, slot := 6, constantValue := 0 }, { name := "LOG2_ARRAY_LONG_INDEX_SCALE", type := .int, accessFlags := 25, slot := 7, constantValue := 0 }, { name := "LOG2_ARRAY_FLOAT_INDEX_SCALE", type := .int, accessFlags := 25, slot := 8, constantValue := 0 }, { name := "LOG2_ARRAY_DOUBLE_INDEX_SCALE", type := .int, accessFlags := 25, slot := 9, constantValue := 0 }, { name := "LOG2_BYTE_BIT_SIZE", type := .int, accessFlags := 26, slot := 10, constantValue := 0 }, { name := "T_BOOLEAN", type := .int, accessFlags := 25, slot := 11, constantValue := 0 }, { name := "T_CHAR", type := .int, accessFlags := 25, slot := 12, constantValue := 0 }, { name := "T_FLOAT", type := .int, accessFlags := 25, slot := 13, constantValue := 0 }, { name := "T_DOUBLE", type := .int, accessFlags := 25, slot := 14, constantValue := 0 }, { name := "T_BYTE", type := .int, accessFlags := 25, slot := 15, constantValue := 0 }, { name := "T_SHORT", type := .int, accessFlags := 25, slot := 16, constantValue := 0 }, { name := "T_INT", type := .int, accessFlags := 25, slot := 17, constantValue := 0 }, { name := "T_LONG", type := .int, accessFlags := 25, slot := 18, constantValue := 0 }, { name := "JLA", type := (.object "jdk/internal/access/JavaLangAccess"), accessFlags := 26, slot := 19, constantValue := 0 }, { name := "SOFT_MAX_ARRAY_LENGTH", type := .int, accessFlags := 25, slot := 20, constantValue := 0 }]
  methods := #[k12m0]
  instanceTypes := #[]
  staticTypes := #[(.object "jdk/internal/misc/Unsafe"), .boolean, .int, .int, .int, .int, .int, .int, .int, .int, .int, .int, .int, .int, .int, .int, .int, .int, .int, (.object "jdk/internal/access/JavaLangAccess"), .int]
  resolved := Array.replicate 378 none
  statics := none }

def pool13 : Array CpInfo := pool [(1, u "java/lang/Cloneable"), (0, .class_ 1), (0, u "java/lang/Object"), (0, .class_ 3)] 3

/-- java/lang/Cloneable -/
def k13 : Class := { plain "java/lang/Cloneable" (some 0) with
  accessFlags := 1537
  interfaces := #[]
  cf := some (fileOf pool13 2 #[] #[] 1537 4 #[] #[])
  fields := #[]
  methods := #[]
  instanceTypes := #[]
  staticTypes := #[]
  resolved := Array.replicate 8 none
  statics := none }

/-- the primitive byte -/
def k14 : Class := { plain "byte" none with kind := .primitive 'B', accessFlags := 0x411 }
/-- [B -/
def k15 : Class := { plain "[B" (some 0) with kind := .array 14 .byte, interfaces := #[13, 3], accessFlags := 1041 }

def heap : Heap := #[{ cls := 8, slots := #[.long 0, .int 1, .null, .int 0, .null, .int 0, .int 0], vm := .statics 8 },
  { cls := 11, slots := #[.null, .null, .null], vm := .statics 11 }]
def classes : Array Class := #[k0, k1, k2, k3, k4, k5, k6, k7, k8, k9, k10, k11, k12, k13, k14, k15]
def interned : List (Array UInt16 × Addr) := []
def slotsUsed : Nat := 10
def theMethod : MethodId := ⟨1, 2⟩
def args0 : Array Value := #[.int 65]
def aboutOver (below : List Frame) : State where
  vm := { classes := classes, interned := interned.toArray }
  heap := heap
  slotsUsed := slotsUsed
  threads := #[{ frames := .invoking theMethod args0 :: below }]
def below0 : List Frame := [.native { method := ⟨0, 0⟩, args := #[] }]
def about1 : State := aboutOver below0
def p0 : Program := .bare "" "" ""
def e0 : Env := launch0.env 0 0 0
theorem w_frames : about1.frames = Frame.invoking theMethod args0 :: below0 := rfl
set_option maxRecDepth 65536 in
theorem w_args : argsFit about1.vm theMethod args0 = true := by decide +kernel
set_option maxRecDepth 65536 in
theorem w_heap : heapFits about1 = true := by decide +kernel
set_option maxRecDepth 65536 in
theorem w_runnable : about1.curStatus? = some .runnable := by decide +kernel
set_option maxRecDepth 65536 in
theorem w_alone : about1.alone = true := by decide +kernel
set_option maxRecDepth 65536 in
theorem w_named : about1.methodNamed? x = some theMethod := by decide +kernel
set_option maxRecDepth 65536 in
theorem w_hears : about1.hears theMethod below0 = true := by decide +kernel
set_option maxRecDepth 65536 in
theorem w_ripe : about1.ripe theMethod args0 below0 = true := by decide +kernel
theorem w_running : about1.status = .running := rfl
set_option maxRecDepth 65536 in
theorem w_room : about1.hasRoom e0.platform room_1 = true :=
  launch0.hasRoom_least _ room_1 (by decide +kernel) (by decide +kernel) (by decide +kernel) (by decide +kernel) (by decide +kernel) (by decide +kernel)
theorem allAtoms_all (ts : List Jvm.Cond) (a : Array Jvm.Value) (st : Jvm.State) : (allAtoms ts).before a st = ts.all (fun c => c.before a st) := by
  induction ts with
  | nil => rfl
  | cons c t ih =>
    show (Jvm.Cond.and c (allAtoms t)).before a st = _
    rw [Jvm.Cond.before_and, ih, List.all_cons]
def words1 : List Jvm.Cond := Jvm.Cond.code x code maxLocals ret :: tables_1
/-- a 'code' word, met by the world's own term for the bytes: nothing is compared byte by byte -/
theorem code_word {y : MethodName} {bytes : ByteArray} {mx : Nat} {rt : Option FieldType} {a : Array Value} {s : State} {m : MethodId} {meth : Method} {c : Code} (h1 : s.methodNamed? y = some m) (h2 : s.vm.method? m = some meth) (h3 : meth.code = some c) (h4 : c.code = bytes)
    (h5 : (c.maxLocals == mx && c.exceptionTable.isEmpty && decide (c.maxStack ≤ mostOperands) && decide (meth.sig.returnType = rt) && !meth.locks && decide (parseMethodDescriptor y.desc = some meth.sig)) = true) : (Jvm.Cond.code y bytes mx rt).before a s = true := by
  simp only [Bool.and_eq_true, beq_iff_eq, Bool.not_eq_true', decide_eq_true_eq] at h5
  obtain ⟨⟨⟨⟨⟨g1, g2⟩, g3⟩, g4⟩, g5⟩, g6⟩ := h5
  simp [Cond.before, Cond.holds, Cond.value, h1, h2, h3, h4, g1, g2, g3, g4, g5, g6]
def isCode : Jvm.Cond → Bool
  | .code _ _ _ _ => true
  | _ => false
theorem all_split {L : List Jvm.Cond} {P : Jvm.Cond → Bool} (h1 : L.all (fun c => isCode c || P c) = true) (h2 : ∀ c ∈ L.filter isCode, P c = true) : L.all P = true := by
  refine List.all_eq_true.mpr fun c hc => ?_
  have h := List.all_eq_true.mp h1 c hc
  rcases Bool.eq_false_or_eq_true (isCode c) with hi | hi
  · exact h2 c (List.mem_filter.mpr ⟨hc, hi⟩)
  · simpa [hi] using h
set_option maxRecDepth 65536 in
theorem w_c0 : (Jvm.Cond.code x code maxLocals ret).before args0 about1 = true := code_word (m := ⟨1, 2⟩) (meth := k1m2) (c := k1c2) (by decide +kernel) rfl rfl rfl (by decide +kernel)
set_option maxRecDepth 65536 in
theorem w_c1 : (Jvm.Cond.code ({ cls := "com/example/inchworm/inchworm/store/HttpSyntax", name := "isTokenChar", desc := "(C)Z" } : Jvm.MethodName) prog_41_method_5_code (1 : Nat) (Option.some Jvm.ClassFile.FieldType.boolean)).before args0 about1 = true := code_word (m := ⟨2, 1⟩) (meth := k2m1) (c := k2c1) (by decide +kernel) rfl rfl rfl (by decide +kernel)
set_option maxRecDepth 65536 in
theorem w_c2 : (Jvm.Cond.code ({ cls := "com/example/inchworm/inchworm/store/HttpSyntax", name := "isAlphanumeric", desc := "(C)Z" } : Jvm.MethodName) prog_41_method_7_code (1 : Nat) (Option.some Jvm.ClassFile.FieldType.boolean)).before args0 about1 = true := code_word (m := ⟨2, 2⟩) (meth := k2m2) (c := k2c2) (by decide +kernel) rfl rfl rfl (by decide +kernel)
set_option maxRecDepth 65536 in
theorem w_c3 : (Jvm.Cond.code ({ cls := "java/lang/String", name := "indexOf", desc := "(I)I" } : Jvm.MethodName) jdk_42_method_79_code (2 : Nat) (Option.some Jvm.ClassFile.FieldType.int)).before args0 about1 = true := code_word (m := ⟨8, 2⟩) (meth := k8m2) (c := k8c2) (by decide +kernel) rfl rfl rfl (by decide +kernel)
set_option maxRecDepth 65536 in
theorem w_c4 : (Jvm.Cond.code ({ cls := "java/lang/String", name := "indexOf", desc := "(II)I" } : Jvm.MethodName) jdk_42_method_80_code (3 : Nat) (Option.some Jvm.ClassFile.FieldType.int)).before args0 about1 = true := code_word (m := ⟨8, 3⟩) (meth := k8m3) (c := k8c3) (by decide +kernel) rfl rfl rfl (by decide +kernel)
set_option maxRecDepth 65536 in
theorem w_c5 : (Jvm.Cond.code ({ cls := "java/lang/String", name := "isLatin1", desc := "()Z" } : Jvm.MethodName) jdk_42_method_154_code (1 : Nat) (Option.some Jvm.ClassFile.FieldType.boolean)).before args0 about1 = true := code_word (m := ⟨8, 5⟩) (meth := k8m5) (c := k8c5) (by decide +kernel) rfl rfl rfl (by decide +kernel)
set_option maxRecDepth 65536 in
theorem w_c6 : (Jvm.Cond.code ({ cls := "java/lang/String", name := "length", desc := "()I" } : Jvm.MethodName) jdk_42_method_54_code (1 : Nat) (Option.some Jvm.ClassFile.FieldType.int)).before args0 about1 = true := code_word (m := ⟨8, 1⟩) (meth := k8m1) (c := k8c1) (by decide +kernel) rfl rfl rfl (by decide +kernel)
set_option maxRecDepth 65536 in
theorem w_c7 : (Jvm.Cond.code ({ cls := "java/lang/String", name := "coder", desc := "()B" } : Jvm.MethodName) jdk_42_method_152_code (1 : Nat) (Option.some Jvm.ClassFile.FieldType.byte)).before args0 about1 = true := code_word (m := ⟨8, 4⟩) (meth := k8m4) (c := k8c4) (by decide +kernel) rfl rfl rfl (by decide +kernel)
set_option maxRecDepth 65536 in
theorem w_c8 : (Jvm.Cond.code ({ cls := "java/lang/StringLatin1", name := "indexOf", desc := "([BIII)I" } : Jvm.MethodName) jdk_43_method_22_code (4 : Nat) (Option.some Jvm.ClassFile.FieldType.int)).before args0 about1 = true := code_word (m := ⟨9, 2⟩) (meth := k9m2) (c := k9c2) (by decide +kernel) rfl rfl rfl (by decide +kernel)
set_option maxRecDepth 65536 in
theorem w_c9 : (Jvm.Cond.code ({ cls := "java/lang/StringLatin1", name := "canEncode", desc := "(I)Z" } : Jvm.MethodName) jdk_43_method_4_code (1 : Nat) (Option.some Jvm.ClassFile.FieldType.boolean)).before args0 about1 = true := code_word (m := ⟨9, 1⟩) (meth := k9m1) (c := k9c1) (by decide +kernel) rfl rfl rfl (by decide +kernel)
set_option maxRecDepth 65536 in
theorem w_c10 : (Jvm.Cond.code ({ cls := "java/lang/Math", name := "max", desc := "(II)I" } : Jvm.MethodName) jdk_29_method_65_code (2 : Nat) (Option.some Jvm.ClassFile.FieldType.int)).before args0 about1 = true := code_word (m := ⟨10, 1⟩) (meth := k10m1) (c := k10c1) (by decide +kernel) rfl rfl rfl (by decide +kernel)
set_option maxRecDepth 65536 in
theorem w_c11 : (Jvm.Cond.code ({ cls := "java/lang/Math", name := "min", desc := "(II)I" } : Jvm.MethodName) jdk_29_method_69_code (2 : Nat) (Option.some Jvm.ClassFile.FieldType.int)).before args0 about1 = true := code_word (m := ⟨10, 2⟩) (meth := k10m2) (c := k10c2) (by decide +kernel) rfl rfl rfl (by decide +kernel)
set_option maxRecDepth 65536 in
theorem w_c12 : (Jvm.Cond.code ({ cls := "java/lang/StringLatin1", name := "indexOfChar", desc := "([BIII)I" } : Jvm.MethodName) jdk_43_method_23_code (6 : Nat) (Option.some Jvm.ClassFile.FieldType.int)).before args0 about1 = true := code_word (m := ⟨9, 3⟩) (meth := k9m3) (c := k9c3) (by decide +kernel) rfl rfl rfl (by decide +kernel)
set_option maxRecDepth 65536 in
theorem w_c13 : (Jvm.Cond.code ({ cls := "com/example/inchworm/inchworm/store/HttpSyntaxIsTokenCharPinLaw", name := "isDelimiter", desc := "(C)Z" } : Jvm.MethodName) method_2_code (1 : Nat) (Option.some Jvm.ClassFile.FieldType.boolean)).before args0 about1 = true := code_word (m := ⟨1, 1⟩) (meth := k1m1) (c := k1c1) (by decide +kernel) rfl rfl rfl (by decide +kernel)
def codes1 : List Jvm.Cond := [Jvm.Cond.code x code maxLocals ret, Jvm.Cond.code ({ cls := "com/example/inchworm/inchworm/store/HttpSyntax", name := "isTokenChar", desc := "(C)Z" } : Jvm.MethodName) prog_41_method_5_code (1 : Nat) (Option.some Jvm.ClassFile.FieldType.boolean), Jvm.Cond.code ({ cls := "com/example/inchworm/inchworm/store/HttpSyntax", name := "isAlphanumeric", desc := "(C)Z" } : Jvm.MethodName) prog_41_method_7_code (1 : Nat) (Option.some Jvm.ClassFile.FieldType.boolean), Jvm.Cond.code ({ cls := "java/lang/String", name := "indexOf", desc := "(I)I" } : Jvm.MethodName) jdk_42_method_79_code (2 : Nat) (Option.some Jvm.ClassFile.FieldType.int), Jvm.Cond.code ({ cls := "java/lang/String", name := "indexOf", desc := "(II)I" } : Jvm.MethodName) jdk_42_method_80_code (3 : Nat) (Option.some Jvm.ClassFile.FieldType.int), Jvm.Cond.code ({ cls := "java/lang/String", name := "isLatin1", desc := "()Z" } : Jvm.MethodName) jdk_42_method_154_code (1 : Nat) (Option.some Jvm.ClassFile.FieldType.boolean), Jvm.Cond.code ({ cls := "java/lang/String", name := "length", desc := "()I" } : Jvm.MethodName) jdk_42_method_54_code (1 : Nat) (Option.some Jvm.ClassFile.FieldType.int), Jvm.Cond.code ({ cls := "java/lang/String", name := "coder", desc := "()B" } : Jvm.MethodName) jdk_42_method_152_code (1 : Nat) (Option.some Jvm.ClassFile.FieldType.byte), Jvm.Cond.code ({ cls := "java/lang/StringLatin1", name := "indexOf", desc := "([BIII)I" } : Jvm.MethodName) jdk_43_method_22_code (4 : Nat) (Option.some Jvm.ClassFile.FieldType.int), Jvm.Cond.code ({ cls := "java/lang/StringLatin1", name := "canEncode", desc := "(I)Z" } : Jvm.MethodName) jdk_43_method_4_code (1 : Nat) (Option.some Jvm.ClassFile.FieldType.boolean), Jvm.Cond.code ({ cls := "java/lang/Math", name := "max", desc := "(II)I" } : Jvm.MethodName) jdk_29_method_65_code (2 : Nat) (Option.some Jvm.ClassFile.FieldType.int), Jvm.Cond.code ({ cls := "java/lang/Math", name := "min", desc := "(II)I" } : Jvm.MethodName) jdk_29_method_69_code (2 : Nat) (Option.some Jvm.ClassFile.FieldType.int), Jvm.Cond.code ({ cls := "java/lang/StringLatin1", name := "indexOfChar", desc := "([BIII)I" } : Jvm.MethodName) jdk_43_method_23_code (6 : Nat) (Option.some Jvm.ClassFile.FieldType.int), Jvm.Cond.code ({ cls := "com/example/inchworm/inchworm/store/HttpSyntaxIsTokenCharPinLaw", name := "isDelimiter", desc := "(C)Z" } : Jvm.MethodName) method_2_code (1 : Nat) (Option.some Jvm.ClassFile.FieldType.boolean)]
set_option maxRecDepth 65536 in
theorem codes_eq : words1.filter isCode = codes1 := rfl
theorem w_codes : ∀ c ∈ words1.filter isCode, c.before args0 about1 = true := by
  rw [codes_eq]
  intro c hc
  simp only [codes1, List.mem_cons, List.not_mem_nil, or_false] at hc
  rcases hc with rfl | rfl | rfl | rfl | rfl | rfl | rfl | rfl | rfl | rfl | rfl | rfl | rfl | rfl
  · exact w_c0
  · exact w_c1
  · exact w_c2
  · exact w_c3
  · exact w_c4
  · exact w_c5
  · exact w_c6
  · exact w_c7
  · exact w_c8
  · exact w_c9
  · exact w_c10
  · exact w_c11
  · exact w_c12
  · exact w_c13
set_option maxRecDepth 65536 in
theorem w_t1 : (words1.take 24).all (fun c => isCode c || c.before args0 about1) = true := by decide +kernel
set_option maxRecDepth 65536 in
theorem w_t2 : ((words1.drop 24).take 24).all (fun c => isCode c || c.before args0 about1) = true := by decide +kernel
set_option maxRecDepth 65536 in
theorem w_t3 : ((words1.drop 24).drop 24).all (fun c => isCode c || c.before args0 about1) = true := by decide +kernel
theorem w_tables : (allAtoms (Jvm.Cond.code x code maxLocals ret :: tables_1)).before args0 about1 = true := by
  rw [allAtoms_all]
  show words1.all (fun c => c.before args0 about1) = true
  refine all_split ?_ w_codes
  rw [← List.take_append_drop 24 words1, List.all_append, w_t1, ← List.take_append_drop 24 (words1.drop 24), List.all_append, w_t2, w_t3]
  rfl
set_option maxRecDepth 65536 in
theorem w_rest : rest_1_c.before args0 about1 = true := by decide +kernel
set_option maxRecDepth 65536 in
theorem w_case : (Jvm.Cond.and given_1 narrow_1).before args0 about1 = true := by decide +kernel
set_option maxRecDepth 65536 in
theorem w_consts : constsHeld consts_1 about1 := Jvm.Lit.constsHeldB_iff.mp (by decide +kernel)
theorem w_applies : (headSpec (Jvm.Cond.code x code maxLocals ret :: tables_1) room_1).applies x e0.platform about1 = true :=
  (Spec.applies_iff w_frames).mpr ⟨w_running, w_runnable, w_alone, w_named, w_hears, w_ripe, w_room, w_tables⟩
theorem atStart : AtStart classFile x code maxLocals ret World_1 tables_1 room_1 Calls_1 rest_1 Pre_1 launch0 p0 e0 about1 theMethod args0 below0 :=
  ⟨lists_1, trivial, launch0.admits_env _ _ _, launch0.least_env, fairChoices_fair.cas, fairChoices_fair.clock, w_frames, w_args, w_heap, w_applies, ⟨w_consts, trivial⟩, w_rest, w_case⟩
end start1
theorem witness_1 : WitnessClaimed_1 := ⟨start1.p0, start1.e0, start1.about1, start1.theMethod, start1.args0, start1.below0, start1.atStart⟩
end Jvm.Pilot.@@N@@
