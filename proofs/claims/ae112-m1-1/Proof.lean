import JvmDerived
import JvmDerived.Pilot.@@N@@Statement
import JvmDerived.Pilot.@@N@@Code
set_option linter.unusedVariables false
set_option linter.unusedSimpArgs false
namespace Jvm.Pilot.@@N@@
open Jvm Jvm.ClassFile Sem Op Lib Jvm.Free Jvm.Stand Jvm.LawKit Jvm.RoadKit Bundle Jvm.Pilot.@@N@@.Jvm.D
section Own
variable {p : Program} {l : Launch} {e : Env} {R : Room} {s : State} {m : MethodId} {args : Array Value} {below : List Frame} {meth : Method} {c : Code} {T : State} {locs : List Loc} {cells slots : Nat} {Q : Outcome → State → Prop} {Z : State} {a0 : Array Value} {h : Heap}
/-- from T, with g on top, the run ends as Q says -/
def Ends (p : Program) (e : Env) (below : List Frame) (Q : Outcome → State → Prop) (T : State) (g : JFrame) : Prop :=
  ∃ s₂ o, Steps p.tables e below (T.setTop g) s₂ ∧ s₂.status = .running ∧ Ended s₂ below o ∧ Q o s₂
theorem Ends.go {T' : State} {g g' : JFrame} (st : ∀ t, Steps p.tables e below (T'.setTop g') t → Steps p.tables e below (T.setTop g) t) (k : Ends p e below Q T' g') : Ends p e below Q T g := by
  obtain ⟨s₂, o, h1, r⟩ := k
  exact ⟨s₂, o, st _ h1, r⟩
theorem Ends.thru {T' : State} {g g' : JFrame} (st : Steps p.tables e below (T.setTop g) (T'.setTop g')) (k : Ends p e below Q T' g') : Ends p e below Q T g := by
  obtain ⟨s₂, o, h1, r⟩ := k
  exact ⟨s₂, o, st.trans h1, r⟩
theorem Ends.cast {g g' : JFrame} (q : g = g') (k : Ends p e below Q T g') : Ends p e below Q T g := q ▸ k
/-- what a body that returns leaves -/
def Out (s : State) (ce sl : Nat) (Qv : Option Value → Heap → List Loc → Prop) (o : Outcome) (U : State) : Prop := ∃ v L, o = .returned v ∧ Qv v U.heap L ∧ FrameEnd s o U L ce sl
theorem ow_body {y : MethodName} {bytes : ByteArray} {ml : Nat} {ret : Option FieldType} {ws : List Jvm.Cond} {rm : Room} {as : Array Value} {ce sl : Nat} {Qv : Option Value → Heap → List Loc → Prop} (hp : plainFor y = true)
    (body : ∀ (p : Program) (e : Env) (s : State) (m : MethodId) (below : List Frame) (meth : Method) (c : Code) (T : State), Stand p l e rm s m as below meth c T [] 0 0 → p.tables.exec = Jvm.exec → Z.Warmed39 s.vm → c.code = bytes → c.maxLocals = ml → s.vm.findClass y.cls = some m.cls → meth.name = y.name → meth.sig.returnType = ret → meth.locks = false → T.heap = h → Ends p e below (Out s ce sl Qv) T (entryFrame m as ml)) :
    MetFree l y (head1 (Jvm.Cond.code y bytes ml ret :: ws) rm) (fun a U => a = as ∧ Z.Warmed39 U.vm ∧ U.heap = h) (fun _ _ _ _ _ => True) (fun _ U o U' => ∃ v L, o = .returned v ∧ Qv v U'.heap L ∧ FrameEnd U o U' L ce sl) := by
  refine MetFree.of_bodySF hp hisR ?_
  intro p e s m args below meth c s₁ Bd hml0 hP hK
  obtain ⟨rfl, hZ, hh⟩ := hP
  exact body p e s m below meth c s₁ (Stand.of_body Bd) Bd.exec hZ Bd.bytes hml0 (findClass_of_methodNamed Bd.named) (name_of_methodNamed Bd.named Bd.method).1 Bd.returns Bd.notSynchronized (by rw [← hh, Bd.state]; rfl)
theorem ow_iload (X : Stand p l e R s m args below meth c T locs cells slots) (hx : p.tables.exec = Jvm.exec) {pc pc' : Nat} {Ls : Array Slot} {St : List Value} {k : Nat} {v : Int32} (hd : decode c.code pc = .ok (.iload k, 2)) (hl : Ls[k]? = some (.val (.int v))) (hp : pc + 2 = pc') (kk : Ends p e below Q T (mkF m pc' Ls (.int v :: St))) : Ends p e below Q T (mkF m pc Ls St) := by subst hp; exact Ends.go (fun _ q => XS.iload X.here hx rfl hd hl q) kk
theorem ow_iloadN (X : Stand p l e R s m args below meth c T locs cells slots) (hx : p.tables.exec = Jvm.exec) {pc pc' : Nat} {Ls : Array Slot} {St : List Value} {k : Fin 4} {v : Int32} (hd : decode c.code pc = .ok (.iload_n k, 1)) (hl : Ls[k.val]? = some (.val (.int v))) (hp : pc + 1 = pc') (kk : Ends p e below Q T (mkF m pc' Ls (.int v :: St))) : Ends p e below Q T (mkF m pc Ls St) := by subst hp; exact Ends.go (fun _ q => XS.iloadN X.here hx rfl hd hl q) kk
theorem ow_dload (X : Stand p l e R s m args below meth c T locs cells slots) (hx : p.tables.exec = Jvm.exec) {pc pc' : Nat} {Ls : Array Slot} {St : List Value} {k : Nat} {v : UInt64} (hd : decode c.code pc = .ok (.dload k, 2)) (hl : Ls[k]? = some (.val (.double v))) (hp : pc + 2 = pc') (kk : Ends p e below Q T (mkF m pc' Ls (.double v :: St))) : Ends p e below Q T (mkF m pc Ls St) := by subst hp; exact Ends.go (fun _ q => XS.dload X.here hx rfl hd hl q) kk
theorem ow_dloadN (X : Stand p l e R s m args below meth c T locs cells slots) (hx : p.tables.exec = Jvm.exec) {pc pc' : Nat} {Ls : Array Slot} {St : List Value} {k : Fin 4} {v : UInt64} (hd : decode c.code pc = .ok (.dload_n k, 1)) (hl : Ls[k.val]? = some (.val (.double v))) (hp : pc + 1 = pc') (kk : Ends p e below Q T (mkF m pc' Ls (.double v :: St))) : Ends p e below Q T (mkF m pc Ls St) := by subst hp; exact Ends.go (fun _ q => XS.dloadN X.here hx rfl hd hl q) kk
theorem ow_aload (X : Stand p l e R s m args below meth c T locs cells slots) (hx : p.tables.exec = Jvm.exec) {pc pc' : Nat} {Ls : Array Slot} {St : List Value} {k : Nat} {v : Value} (hd : decode c.code pc = .ok (.aload k, 2)) (hl : Ls[k]? = some (.val v)) (hv : v.isRef = true) (hp : pc + 2 = pc') (kk : Ends p e below Q T (mkF m pc' Ls (v :: St))) : Ends p e below Q T (mkF m pc Ls St) := by subst hp; exact Ends.go (fun _ q => XS.aload X.here hx rfl hd hl hv q) kk
theorem ow_aloadN (X : Stand p l e R s m args below meth c T locs cells slots) (hx : p.tables.exec = Jvm.exec) {pc pc' : Nat} {Ls : Array Slot} {St : List Value} {k : Fin 4} {v : Value} (hd : decode c.code pc = .ok (.aload_n k, 1)) (hl : Ls[k.val]? = some (.val v)) (hv : v.isRef = true) (hp : pc + 1 = pc') (kk : Ends p e below Q T (mkF m pc' Ls (v :: St))) : Ends p e below Q T (mkF m pc Ls St) := by subst hp; exact Ends.go (fun _ q => XS.aloadN X.here hx rfl hd hl hv q) kk
theorem ow_istore (X : Stand p l e R s m args below meth c T locs cells slots) (hx : p.tables.exec = Jvm.exec) {pc pc' : Nat} {Ls : Array Slot} {Ls' : Array Slot} {St : List Value} {k : Nat} {v : Int32} (hd : decode c.code pc = .ok (.istore k, 2)) (hl : storeLocals Ls k (.int v) = some Ls') (hp : pc + 2 = pc') (kk : Ends p e below Q T (mkF m pc' Ls' St)) : Ends p e below Q T (mkF m pc Ls (.int v :: St)) := by subst hp; exact Ends.go (fun _ q => XS.istore X.here hx rfl hd rfl hl q) kk
theorem ow_istoreN (X : Stand p l e R s m args below meth c T locs cells slots) (hx : p.tables.exec = Jvm.exec) {pc pc' : Nat} {Ls : Array Slot} {Ls' : Array Slot} {St : List Value} {k : Fin 4} {v : Int32} (hd : decode c.code pc = .ok (.istore_n k, 1)) (hl : storeLocals Ls k.val (.int v) = some Ls') (hp : pc + 1 = pc') (kk : Ends p e below Q T (mkF m pc' Ls' St)) : Ends p e below Q T (mkF m pc Ls (.int v :: St)) := by subst hp; exact Ends.go (fun _ q => XS.istoreN X.here hx rfl hd rfl hl q) kk
theorem ow_dstore (X : Stand p l e R s m args below meth c T locs cells slots) (hx : p.tables.exec = Jvm.exec) {pc pc' : Nat} {Ls : Array Slot} {Ls' : Array Slot} {St : List Value} {k : Nat} {v : UInt64} (hd : decode c.code pc = .ok (.dstore k, 2)) (hl : storeLocals Ls k (.double v) = some Ls') (hp : pc + 2 = pc') (kk : Ends p e below Q T (mkF m pc' Ls' St)) : Ends p e below Q T (mkF m pc Ls (.double v :: St)) := by subst hp; exact Ends.go (fun _ q => XS.dstore X.here hx rfl hd rfl hl q) kk
theorem ow_astore (X : Stand p l e R s m args below meth c T locs cells slots) (hx : p.tables.exec = Jvm.exec) {pc pc' : Nat} {Ls : Array Slot} {Ls' : Array Slot} {St : List Value} {k : Nat} {v : Value} (hd : decode c.code pc = .ok (.astore k, 2)) (hv : v.isRef = true) (hl : storeLocals Ls k v = some Ls') (hp : pc + 2 = pc') (kk : Ends p e below Q T (mkF m pc' Ls' St)) : Ends p e below Q T (mkF m pc Ls (v :: St)) := by subst hp; exact Ends.go (fun _ q => XS.astore X.here hx rfl hd rfl hv hl q) kk
theorem ow_iconst (X : Stand p l e R s m args below meth c T locs cells slots) (hx : p.tables.exec = Jvm.exec) {pc pc' : Nat} {Ls : Array Slot} {St : List Value} {i : Int} {z : Int32} (hd : decode c.code pc = .ok (.iconst i, 1)) (hz : Int32.ofInt i = z) (hp : pc + 1 = pc') (kk : Ends p e below Q T (mkF m pc' Ls (.int z :: St))) : Ends p e below Q T (mkF m pc Ls St) := by subst hp hz; exact Ends.go (fun _ q => XS.iconst X.here hx rfl hd q) kk
theorem ow_iand (X : Stand p l e R s m args below meth c T locs cells slots) (hx : p.tables.exec = Jvm.exec) {pc pc' : Nat} {Ls : Array Slot} {St : List Value} {x : Int32} {y : Int32} (hd : decode c.code pc = .ok (.iand, 1)) (hp : pc + 1 = pc') (kk : ∀ z : Int32, z = x &&& y → Ends p e below Q T (mkF m pc' Ls (.int z :: St))) : Ends p e below Q T (mkF m pc Ls (.int y :: .int x :: St)) := by subst hp; exact Ends.go (fun _ q => XS.iand X.here hx rfl hd rfl q) (kk _ rfl)
theorem ow_i2d (X : Stand p l e R s m args below meth c T locs cells slots) (hx : p.tables.exec = Jvm.exec) {pc pc' : Nat} {Ls : Array Slot} {St : List Value} {x : Int32} (hd : decode c.code pc = .ok (.i2d, 1)) (hp : pc + 1 = pc') (kk : Ends p e below Q T (mkF m pc' Ls (.double (FP.i2d x) :: St))) : Ends p e below Q T (mkF m pc Ls (.int x :: St)) := by subst hp; exact Ends.go (fun _ q => XS.i2dS X.here hx rfl hd rfl rfl q) kk
theorem ow_dcmp (X : Stand p l e R s m args below meth c T locs cells slots) (hx : p.tables.exec = Jvm.exec) {pc pc' : Nat} {Ls : Array Slot} {St : List Value} {x y : UInt64} {o : CmpOp} (hd : decode c.code pc = .ok (.dcmp o, 1)) (hp : pc + 1 = pc') (kk : ∀ z : Int32, z = cmpValue (FP.dcmp x y) o → Ends p e below Q T (mkF m pc' Ls (.int z :: St))) : Ends p e below Q T (mkF m pc Ls (.double y :: .double x :: St)) := by subst hp; exact Ends.go (fun _ q => XS.dcmpS X.here hx rfl hd rfl rfl q) (kk _ rfl)
theorem ow_dconst0 (X : Stand p l e R s m args below meth c T locs cells slots) (hx : p.tables.exec = Jvm.exec) {pc pc' : Nat} {Ls : Array Slot} {St : List Value} (hd : decode c.code pc = .ok (.dconst 0, 1)) (hp : pc + 1 = pc') (kk : Ends p e below Q T (mkF m pc' Ls (.double FP.dconst0 :: St))) : Ends p e below Q T (mkF m pc Ls St) := by subst hp; exact Ends.go (fun _ q => XS.dconst0 X.here hx rfl hd rfl q) kk
theorem ow_ldc2Double (X : Stand p l e R s m args below meth c T locs cells slots) (hx : p.tables.exec = Jvm.exec) (hZ : Z.Warmed39 s.vm) {own : String} {i : Nat} {z : UInt64} (hown : s.vm.findClass own = some m.cls) (w : (Jvm.Cond.constantDouble own i z).before a0 Z = true) {pc pc' : Nat} {Ls : Array Slot} {St : List Value} (hd : decode c.code pc = .ok (.ldc2_w i, 3)) (hp : pc + 3 = pc') (kk : Ends p e below Q T (mkF m pc' Ls (.double z :: St))) : Ends p e below Q T (mkF m pc Ls St) := by subst hp; exact Ends.go (X.ldc2DoubleC hx hown (mvT hZ w) (g := mkF m pc Ls St) rfl hd) kk
theorem ow_i2dcmp (a b : Int32) (o : CmpOp) : (a.toInt < b.toInt → (cmpValue (FP.dcmp (FP.i2d a) (FP.i2d b)) o).toInt = -1) ∧ (a.toInt = b.toInt → (cmpValue (FP.dcmp (FP.i2d a) (FP.i2d b)) o).toInt = 0) ∧ (b.toInt < a.toInt → (cmpValue (FP.dcmp (FP.i2d a) (FP.i2d b)) o).toInt = 1) := by
  have ra := rng32 a
  have rb := rng32 b
  have qa : B53 a.toInt64 := by unfold B53; rw [c_i2l]; omega
  have qb : B53 b.toInt64 := by unfold B53; rw [c_i2l]; omega
  rw [i2d_w, i2d_w, dcmpV_w qa qb]
  have q := c_lcmp a.toInt64 b.toInt64
  rw [c_i2l, c_i2l] at q
  exact q
theorem ow_goto (X : Stand p l e R s m args below meth c T locs cells slots) (hx : p.tables.exec = Jvm.exec) {pc pc' : Nat} {Ls : Array Slot} {St : List Value} {o : Int} (hd : decode c.code pc = .ok (.goto o, 3)) (ho : 0 ≤ (pc : Int) + o) (hp : ((pc : Int) + o).toNat = pc') (kk : Ends p e below Q T (mkF m pc' Ls St)) : Ends p e below Q T (mkF m pc Ls St) := Ends.go (fun _ q => XS.goto X.here hx rfl (pc0 := pc) (pc' := pc') rfl hd ho hp q) kk
theorem ow_icmpY (X : Stand p l e R s m args below meth c T locs cells slots) (hx : p.tables.exec = Jvm.exec) {pc pc' : Nat} {Ls : Array Slot} {St : List Value} {cd : ClassFile.Cond} {x y : Int32} {o : Int} (hd : decode c.code pc = .ok (.if_icmp cd o, 3)) (hc : if_icmp.holds cd x y = true) (ho : 0 ≤ (pc : Int) + o) (hp : ((pc : Int) + o).toNat = pc') (kk : Ends p e below Q T (mkF m pc' Ls St)) : Ends p e below Q T (mkF m pc Ls (.int y :: .int x :: St)) := Ends.go (fun _ q => XS.icmpYes X.here hx rfl (pc0 := pc) (pc' := pc') rfl hd rfl hc ho hp q) kk
theorem ow_icmpN (X : Stand p l e R s m args below meth c T locs cells slots) (hx : p.tables.exec = Jvm.exec) {pc pc' : Nat} {Ls : Array Slot} {St : List Value} {cd : ClassFile.Cond} {x y : Int32} {o : Int} (hd : decode c.code pc = .ok (.if_icmp cd o, 3)) (hc : if_icmp.holds cd x y = false) (hp : pc + 3 = pc') (kk : Ends p e below Q T (mkF m pc' Ls St)) : Ends p e below Q T (mkF m pc Ls (.int y :: .int x :: St)) := by subst hp; exact Ends.go (fun _ q => XS.icmpNo X.here hx rfl hd rfl hc q) kk
theorem ow_ifY (X : Stand p l e R s m args below meth c T locs cells slots) (hx : p.tables.exec = Jvm.exec) {pc pc' : Nat} {Ls : Array Slot} {St : List Value} {cd : ClassFile.Cond} {x : Int32} {o : Int} (hd : decode c.code pc = .ok (.ifCond cd o, 3)) (hc : if_icmp.holds cd x 0 = true) (ho : 0 ≤ (pc : Int) + o) (hp : ((pc : Int) + o).toNat = pc') (kk : Ends p e below Q T (mkF m pc' Ls St)) : Ends p e below Q T (mkF m pc Ls (.int x :: St)) := Ends.go (fun _ q => XS.ifYes X.here hx rfl (pc0 := pc) (pc' := pc') rfl hd rfl ((if0 _ _).trans hc) ho hp q) kk
theorem ow_ifN (X : Stand p l e R s m args below meth c T locs cells slots) (hx : p.tables.exec = Jvm.exec) {pc pc' : Nat} {Ls : Array Slot} {St : List Value} {cd : ClassFile.Cond} {x : Int32} {o : Int} (hd : decode c.code pc = .ok (.ifCond cd o, 3)) (hc : if_icmp.holds cd x 0 = false) (hp : pc + 3 = pc') (kk : Ends p e below Q T (mkF m pc' Ls St)) : Ends p e below Q T (mkF m pc Ls (.int x :: St)) := by subst hp; exact Ends.go (fun _ q => XS.ifNo X.here hx rfl hd rfl ((if0 _ _).trans hc) q) kk
/-- the six comparisons, said of the signed worth -/
def cmpI : ClassFile.Cond → Int → Int → Prop
  | .eq, a, b => a = b
  | .ne, a, b => ¬ a = b
  | .lt, a, b => a < b
  | .ge, a, b => ¬ a < b
  | .gt, a, b => b < a
  | .le, a, b => ¬ b < a
theorem cmpI_y {cd : ClassFile.Cond} {x y : Int32} (q : cmpI cd x.toInt y.toInt) : if_icmp.holds cd x y = true := by
  cases cd <;> simp only [cmpI] at q <;> simp [if_icmp.holds, ← Int32.toInt_inj, Int32.lt_iff_toInt_lt, Int32.le_iff_toInt_le] <;> omega
theorem cmpI_n {cd : ClassFile.Cond} {x y : Int32} (q : ¬ cmpI cd x.toInt y.toInt) : if_icmp.holds cd x y = false := by
  cases cd <;> simp only [cmpI] at q <;> simp [if_icmp.holds, ← Int32.toInt_inj, Int32.lt_iff_toInt_lt, Int32.le_iff_toInt_le] <;> omega
theorem ow_if_eq (X : Stand p l e R s m args below meth c T locs cells slots) (hx : p.tables.exec = Jvm.exec) {pc pt pf : Nat} {Ls : Array Slot} {St : List Value} {x : Int32} {o : Int} (xi : Int) (hd : decode c.code pc = .ok (.ifCond .eq o, 3)) (hxi : x.toInt = xi) (ho : 0 ≤ (pc : Int) + o) (hp : ((pc : Int) + o).toNat = pt) (hq : pc + 3 = pf) (kt : xi = 0 → Ends p e below Q T (mkF m pt Ls St)) (kf : ¬ xi = 0 → Ends p e below Q T (mkF m pf Ls St)) : Ends p e below Q T (mkF m pc Ls (.int x :: St)) := by
  subst hxi
  have z0 : (0 : Int32).toInt = 0 := rfl
  rcases Classical.em (cmpI .eq x.toInt (0 : Int32).toInt) with w | w
  · exact ow_ifY X hx hd (cmpI_y w) ho hp (kt (by simp only [cmpI, z0] at w; omega))
  · exact ow_ifN X hx hd (cmpI_n w) hq (kf (by simp only [cmpI, z0] at w; omega))
theorem ow_icmp_ne (X : Stand p l e R s m args below meth c T locs cells slots) (hx : p.tables.exec = Jvm.exec) {pc pt pf : Nat} {Ls : Array Slot} {St : List Value} {x y : Int32} {o : Int} (xi yi : Int) (hd : decode c.code pc = .ok (.if_icmp .ne o, 3)) (hxi : x.toInt = xi) (hyi : y.toInt = yi) (ho : 0 ≤ (pc : Int) + o) (hp : ((pc : Int) + o).toNat = pt) (hq : pc + 3 = pf) (kt : ¬ xi = yi → Ends p e below Q T (mkF m pt Ls St)) (kf : xi = yi → Ends p e below Q T (mkF m pf Ls St)) : Ends p e below Q T (mkF m pc Ls (.int y :: .int x :: St)) := by
  subst hxi hyi
  rcases Classical.em (cmpI .ne x.toInt y.toInt) with w | w
  · exact ow_icmpY X hx hd (cmpI_y w) ho hp (kt w)
  · exact ow_icmpN X hx hd (cmpI_n w) hq (kf (by simp only [cmpI] at w; omega))
theorem ow_if_ne (X : Stand p l e R s m args below meth c T locs cells slots) (hx : p.tables.exec = Jvm.exec) {pc pt pf : Nat} {Ls : Array Slot} {St : List Value} {x : Int32} {o : Int} (xi : Int) (hd : decode c.code pc = .ok (.ifCond .ne o, 3)) (hxi : x.toInt = xi) (ho : 0 ≤ (pc : Int) + o) (hp : ((pc : Int) + o).toNat = pt) (hq : pc + 3 = pf) (kt : ¬ xi = 0 → Ends p e below Q T (mkF m pt Ls St)) (kf : xi = 0 → Ends p e below Q T (mkF m pf Ls St)) : Ends p e below Q T (mkF m pc Ls (.int x :: St)) := by
  subst hxi
  have z0 : (0 : Int32).toInt = 0 := rfl
  rcases Classical.em (cmpI .ne x.toInt (0 : Int32).toInt) with w | w
  · exact ow_ifY X hx hd (cmpI_y w) ho hp (kt (by simp only [cmpI, z0] at w; omega))
  · exact ow_ifN X hx hd (cmpI_n w) hq (kf (by simp only [cmpI, z0] at w; omega))
theorem ow_icmp_ge (X : Stand p l e R s m args below meth c T locs cells slots) (hx : p.tables.exec = Jvm.exec) {pc pt pf : Nat} {Ls : Array Slot} {St : List Value} {x y : Int32} {o : Int} (xi yi : Int) (hd : decode c.code pc = .ok (.if_icmp .ge o, 3)) (hxi : x.toInt = xi) (hyi : y.toInt = yi) (ho : 0 ≤ (pc : Int) + o) (hp : ((pc : Int) + o).toNat = pt) (hq : pc + 3 = pf) (kt : ¬ xi < yi → Ends p e below Q T (mkF m pt Ls St)) (kf : xi < yi → Ends p e below Q T (mkF m pf Ls St)) : Ends p e below Q T (mkF m pc Ls (.int y :: .int x :: St)) := by
  subst hxi hyi
  rcases Classical.em (cmpI .ge x.toInt y.toInt) with w | w
  · exact ow_icmpY X hx hd (cmpI_y w) ho hp (kt w)
  · exact ow_icmpN X hx hd (cmpI_n w) hq (kf (by simp only [cmpI] at w; omega))
theorem ow_if_ge (X : Stand p l e R s m args below meth c T locs cells slots) (hx : p.tables.exec = Jvm.exec) {pc pt pf : Nat} {Ls : Array Slot} {St : List Value} {x : Int32} {o : Int} (xi : Int) (hd : decode c.code pc = .ok (.ifCond .ge o, 3)) (hxi : x.toInt = xi) (ho : 0 ≤ (pc : Int) + o) (hp : ((pc : Int) + o).toNat = pt) (hq : pc + 3 = pf) (kt : ¬ xi < 0 → Ends p e below Q T (mkF m pt Ls St)) (kf : xi < 0 → Ends p e below Q T (mkF m pf Ls St)) : Ends p e below Q T (mkF m pc Ls (.int x :: St)) := by
  subst hxi
  have z0 : (0 : Int32).toInt = 0 := rfl
  rcases Classical.em (cmpI .ge x.toInt (0 : Int32).toInt) with w | w
  · exact ow_ifY X hx hd (cmpI_y w) ho hp (kt (by simp only [cmpI, z0] at w; omega))
  · exact ow_ifN X hx hd (cmpI_n w) hq (kf (by simp only [cmpI, z0] at w; omega))
theorem ow_icmp_le (X : Stand p l e R s m args below meth c T locs cells slots) (hx : p.tables.exec = Jvm.exec) {pc pt pf : Nat} {Ls : Array Slot} {St : List Value} {x y : Int32} {o : Int} (xi yi : Int) (hd : decode c.code pc = .ok (.if_icmp .le o, 3)) (hxi : x.toInt = xi) (hyi : y.toInt = yi) (ho : 0 ≤ (pc : Int) + o) (hp : ((pc : Int) + o).toNat = pt) (hq : pc + 3 = pf) (kt : ¬ yi < xi → Ends p e below Q T (mkF m pt Ls St)) (kf : yi < xi → Ends p e below Q T (mkF m pf Ls St)) : Ends p e below Q T (mkF m pc Ls (.int y :: .int x :: St)) := by
  subst hxi hyi
  rcases Classical.em (cmpI .le x.toInt y.toInt) with w | w
  · exact ow_icmpY X hx hd (cmpI_y w) ho hp (kt w)
  · exact ow_icmpN X hx hd (cmpI_n w) hq (kf (by simp only [cmpI] at w; omega))
theorem ow_if_le (X : Stand p l e R s m args below meth c T locs cells slots) (hx : p.tables.exec = Jvm.exec) {pc pt pf : Nat} {Ls : Array Slot} {St : List Value} {x : Int32} {o : Int} (xi : Int) (hd : decode c.code pc = .ok (.ifCond .le o, 3)) (hxi : x.toInt = xi) (ho : 0 ≤ (pc : Int) + o) (hp : ((pc : Int) + o).toNat = pt) (hq : pc + 3 = pf) (kt : ¬ 0 < xi → Ends p e below Q T (mkF m pt Ls St)) (kf : 0 < xi → Ends p e below Q T (mkF m pf Ls St)) : Ends p e below Q T (mkF m pc Ls (.int x :: St)) := by
  subst hxi
  have z0 : (0 : Int32).toInt = 0 := rfl
  rcases Classical.em (cmpI .le x.toInt (0 : Int32).toInt) with w | w
  · exact ow_ifY X hx hd (cmpI_y w) ho hp (kt (by simp only [cmpI, z0] at w; omega))
  · exact ow_ifN X hx hd (cmpI_n w) hq (kf (by simp only [cmpI, z0] at w; omega))
theorem ow_acmp (X : Stand p l e R s m args below meth c T locs cells slots) (hx : p.tables.exec = Jvm.exec) {pc pc' : Nat} {Ls : Array Slot} {St : List Value} {cd : ACond} {x y : Value} (h1 : x.isRef = true) (h2 : y.isRef = true) {o : Int} {same : Bool} (hd : decode c.code pc = .ok (.if_acmp cd o, 3)) (hs : decide (x = y) = same) (ho : 0 ≤ (pc : Int) + o) (hp : (if acV cd same = true then ((pc : Int) + o).toNat else pc + 3) = pc') (kk : Ends p e below Q T (mkF m pc' Ls St)) : Ends p e below Q T (mkF m pc Ls (y :: x :: St)) := Ends.go (fun _ q => Jvm.RoadKit.acmp (g := mkF m pc Ls (y :: x :: St)) X hx rfl h1 h2 (pc0 := pc) (pc' := pc') (same := same) rfl hd rfl hs ho hp.symm q) kk
theorem ow_retB (X : Stand p l e R s m args below meth c T locs cells slots) (hx : p.tables.exec = Jvm.exec) {pc : Nat} {Ls : Array Slot} {rest : List Value} {z z' : Int32} (hret : meth.sig.returnType = some .boolean) (hlk : meth.locks = false) (hd : decode c.code pc = .ok (.ireturn, 1)) {ce sl : Nat} (hc : cells ≤ ce) (hs : slots ≤ sl) {Qv : Option Value → Heap → List Loc → Prop} (hz : nar .boolean z = z') (q : Qv (some (.int z')) T.heap locs) : Ends p e below (Out s ce sl Qv) T (mkF m pc Ls (.int z :: rest)) := by
  subst hz
  obtain ⟨fs, hr, hrun, hended, hW, hsame⟩ := X.leave (v := some (.int (nar .boolean z))) (fun h => by rw [hret] at h; cases h) hlk
  exact ⟨_, _, retN X hx (t := .boolean) hret (by simp) hd hr, hrun, hended, _, _, rfl, q, ⟨_, rfl⟩, hW, hsame.mono hc hs⟩
theorem ow_callV (X : Stand p l e R s m args below meth c T locs cells slots) (hx : p.tables.exec = Jvm.exec) (hZ : Z.Warmed39 s.vm) {own C : String} {index : Nat} {y y' : MethodName} (hyy : y = y') {bytes : ByteArray} {maxL : Nat} {ret : Option FieldType} (hown : s.vm.findClass own = some m.cls)
    (wl : (Jvm.Cond.methodLink own index y).before a0 Z = true) (wd : (Jvm.Cond.declares y).before a0 Z = true) (wsel : (Jvm.Cond.selects C y y').before a0 Z = true) (wst : (Jvm.Cond.instanceMethod y').before a0 Z = true) (wi : (Jvm.Cond.initialized y'.cls).before a0 Z = true) (wc : (Jvm.Cond.code y' bytes maxL ret).before a0 Z = true) (hy : y.cls ≠ "java/lang/invoke/MethodHandle" ∧ y.cls ≠ "java/lang/invoke/VarHandle")
    {rm : Room} {as' : Array Value} {Qc : Option Value → Heap → List Loc → Prop} (hM : MetFree l y' (head1 [Jvm.Cond.code y' bytes maxL ret] rm) (fun a U => a = as' ∧ Z.Warmed39 U.vm ∧ U.heap = h) (fun _ _ _ _ _ => True) (fun _ U o U' => ∃ v L, o = .returned v ∧ Qc v U'.heap L ∧ FrameEnd U o U' L rm.cells rm.slots))
    (eT : T.heap = h) (W : Nat) (hf : rm.frames + 1 ≤ R.frames) (hl : W + (maxL + 11) + rm.locals ≤ R.locals) (hce : cells + rm.cells ≤ R.cells) (hsl : slots + rm.slots ≤ R.slots) {pc pc' : Nat} {Ls : Array Slot} {St rest : List Value} (argsL : List Value) {ps : List FieldType} {rt : Option FieldType} (hsize : Ls.size = c.maxLocals) (hdesc : parseMethodDescriptor y.desc = some ⟨ps, rt⟩) (hlen : argsL.length = ps.length) {a : Addr} (E : Exa Z h a C) (hst : St = argsL.reverse ++ .ref a :: rest) (has : (Value.ref a :: argsL).toArray = as') (hW : (rest.map fun v => v.category).sum ≤ W)
    (hd : decode c.code pc = .ok (.invokevirtual index, 3)) (hp : pc + 3 = pc')
    (kk : ∀ (v : Option Value) (T' : State) (L' : List Loc), Qc v T'.heap L' → Stand p l e R s m args below meth c T' (locs ++ L') (cells + rm.cells) (slots + rm.slots) → Ends p e below Q T' (mkF m pc' Ls (v.toList ++ rest))) : Ends p e below Q T (mkF m pc Ls St) := by
  subst hst has hp hyy
  obtain ⟨cq, kq, qa, qb, qc⟩ := isOf hZ eT E
  obtain ⟨v, vm₁, ⟨T', L, k2, n2⟩, -, X', ⟨Lc, hQ, l1, y1, z1⟩, st⟩ := X.virtualBack hx hown (mvT hZ wl) (mvT hZ wd) (notFace_of_selects (args := #[]) (mvT hZ wsel)) (mvT hZ wsel) (mvT hZ wst) hy (backOf (W := W) hM hZ wc wi hf hl) qa qc (g := mkF m pc Ls (argsL.reverse ++ .ref a :: rest)) rfl hsize (Steps.refl _) (argsL := argsL) (rest := rest) (lenOf hdesc hlen) rfl (by show 2 * 0 + _ ≤ _; omega) hd (fun _ _ => ⟨rfl, eT, hce, hsl⟩)
  dsimp only [Pt.U, Pt.locs, Pt.cells, Pt.slots] at X' l1 y1 z1 st hQ
  subst l1 y1 z1
  exact Ends.thru st (kk v T' Lc hQ X')
theorem ow_getS (X : Stand p l e R s m args below meth c T locs cells slots) (hx : p.tables.exec = Jvm.exec) (hZ : Z.Warmed39 s.vm) {own R0 O n d host : String} {index : Nat} (hown : s.vm.findClass own = some m.cls) (w : (Jvm.Cond.fieldLink own index R0 n d).before a0 Z = true ∨ (Jvm.Cond.fieldLinkNest own index R0 n d host).before a0 Z = true) (via : Via Z R0 O n d) (eT : T.heap = h) {v : Value} (F : Sta Z h O n d v) {pc pc' : Nat} {Ls : Array Slot} {St : List Value} (hd : decode c.code pc = .ok (.getstatic index, 3)) (hp : pc + 3 = pc')
    (kk : ∀ T' : State, Stand p l e R s m args below meth c T' locs cells slots → T'.heap = h → Ends p e below Q T' (mkF m pc' Ls (v :: St))) : Ends p e below Q T (mkF m pc Ls St) := by
  subst hp
  obtain ⟨T', X', e', st⟩ := getS2 X hx hZ hown w via eT F (g := mkF m pc Ls St) rfl hd
  exact Ends.go st (kk T' X' e')
/-- a body that returns a number and leaves the heap as it is -/
def QI (P : Int32 → Prop) (h0 : Heap) (v : Option Value) (h : Heap) (L : List Loc) : Prop := ∃ z, v = some (.int z) ∧ P z ∧ L = [] ∧ h = h0
theorem ow_callVPI (X : Stand p l e R s m args below meth c T locs cells slots) (hx : p.tables.exec = Jvm.exec) (hZ : Z.Warmed39 s.vm) {own C : String} {index : Nat} {y y' : MethodName} (hyy : y = y') {bytes : ByteArray} {maxL : Nat} {ret : Option FieldType} (hown : s.vm.findClass own = some m.cls)
    (wl : (Jvm.Cond.methodLink own index y).before a0 Z = true) (wd : (Jvm.Cond.declares y).before a0 Z = true) (wsel : (Jvm.Cond.selects C y y').before a0 Z = true) (wst : (Jvm.Cond.instanceMethod y').before a0 Z = true) (wi : (Jvm.Cond.initialized y'.cls).before a0 Z = true) (wc : (Jvm.Cond.code y' bytes maxL ret).before a0 Z = true) (hy : y.cls ≠ "java/lang/invoke/MethodHandle" ∧ y.cls ≠ "java/lang/invoke/VarHandle")
    {fr lo : Nat} {as' : Array Value} {P : Int32 → Prop} (hM : MetFree l y' (head1 [Jvm.Cond.code y' bytes maxL ret] ({ frames := fr, cells := 0, slots := 0, locals := lo } : Room)) (fun a U => a = as' ∧ Z.Warmed39 U.vm ∧ U.heap = h) (fun _ _ _ _ _ => True) (fun _ U o U' => ∃ v L, o = .returned v ∧ QI P h v U'.heap L ∧ FrameEnd U o U' L 0 0))
    (eT : T.heap = h) (W : Nat) (hf : fr + 1 ≤ R.frames) (hl : W + (maxL + 11) + lo ≤ R.locals) (hce : cells ≤ R.cells) (hsl : slots ≤ R.slots) {pc pc' : Nat} {Ls : Array Slot} {St rest : List Value} (argsL : List Value) {ps : List FieldType} {rt : Option FieldType} (hsize : Ls.size = c.maxLocals) (hdesc : parseMethodDescriptor y.desc = some ⟨ps, rt⟩) (hlen : argsL.length = ps.length) {a : Addr} (E : Exa Z h a C) (hst : St = argsL.reverse ++ .ref a :: rest) (has : (Value.ref a :: argsL).toArray = as') (hW : (rest.map fun v => v.category).sum ≤ W)
    (hd : decode c.code pc = .ok (.invokevirtual index, 3)) (hp : pc + 3 = pc')
    (kk : ∀ (z : Int32) (T' : State), P z → Stand p l e R s m args below meth c T' locs cells slots → T'.heap = h → Ends p e below Q T' (mkF m pc' Ls (.int z :: rest))) : Ends p e below Q T (mkF m pc Ls St) := by
  refine ow_callV X hx hZ hyy hown wl wd wsel wst wi wc hy hM eT W hf hl hce hsl argsL hsize hdesc hlen E hst has hW hd hp ?_
  rintro v T' L' ⟨z, rfl, hP, rfl, hh⟩ X'
  rw [List.append_nil] at X'
  exact kk z T' hP X' hh
end Own

theorem fld_is {s : State} {args : Array Value} {t : Term} {C n d : String} {z : Int32} {a : Addr} (h : (Jvm.Cond.eq (Jvm.Term.field t C n d) (Jvm.Term.int z)).value args s none s [] = some true) (ht : t.eval args s none [] s = some (.ref a)) : s.fieldOf? a C n d = some (.int z) := by
  obtain ⟨x, y, e1, e2, k1, k2⟩ := cmp_v (Or.inl h)
  cases (Option.some.inj ((Term.int_eval z).symm.trans e2))
  obtain ⟨w, rfl⟩ : ∃ w, x = .int w := k2
  have q := gotT (Cond.eq_ints e1 (Term.int_eval z)) h
  rw [← fld_at ht, e1, q]

theorem d_prefMax_0 : decode prog_10_method_5_code 0 = .ok (.aload_n 0, 1) := by decide +kernel
theorem d_prefMax_1 : decode prog_10_method_5_code 1 = .ok (.getstatic 3, 3) := by decide +kernel
theorem d_prefMax_4 : decode prog_10_method_5_code 4 = .ok (.if_acmp .ne 17, 3) := by decide +kernel
theorem d_prefMax_7 : decode prog_10_method_5_code 7 = .ok (.dload_n 1, 1) := by decide +kernel
theorem d_prefMax_8 : decode prog_10_method_5_code 8 = .ok (.dload_n 3, 1) := by decide +kernel
theorem d_prefMax_9 : decode prog_10_method_5_code 9 = .ok (.dcmp .l, 1) := by decide +kernel
theorem d_prefMax_10 : decode prog_10_method_5_code 10 = .ok (.ifCond .le 7, 3) := by decide +kernel
theorem d_prefMax_13 : decode prog_10_method_5_code 13 = .ok (.iconst 1, 1) := by decide +kernel
theorem d_prefMax_14 : decode prog_10_method_5_code 14 = .ok (.goto 18, 3) := by decide +kernel
theorem d_prefMax_17 : decode prog_10_method_5_code 17 = .ok (.iconst 0, 1) := by decide +kernel
theorem d_prefMax_18 : decode prog_10_method_5_code 18 = .ok (.goto 14, 3) := by decide +kernel
theorem d_prefMax_32 : decode prog_10_method_5_code 32 = .ok (.ireturn, 1) := by decide +kernel
theorem ef_prefMax (m : MethodId) (x0 : Addr) (x1 : UInt64) (x2 : UInt64) : entryFrame m #[(.ref x0), (.double x1), (.double x2)] 5 = mkF m 0 #[.val (.ref x0), .val (.double x1), .second, .val (.double x2), .second] [] := by first | (simp [entryFrame, mkF, argsToLocals, Value.category]; done) | rfl
theorem pn_0 : plainName "com/example/rein/rein/formula/Objective" = true := by first | (simp [plainName, overriddenIn]; done) | decide +kernel
set_option maxRecDepth 65536 in
set_option maxHeartbeats 40000000 in
theorem rm_prefMax (l : Launch) (Z : State) (a0 : Array Value) (hw : ∀ d ∈ tables_1, d.before a0 Z = true) (ws : List Jvm.Cond) (om : Addr) (dx : UInt64) (dy : UInt64) (h0 : Heap) (S_max : Sta Z h0 "com/example/rein/rein/formula/Objective" "MAX" "Lcom/example/rein/rein/formula/Objective;" (.ref om)) :
    MetFree l (⟨"com/example/rein/rein/formula/Objective", "prefers", "(DD)Z"⟩ : MethodName) (head1 (Jvm.Cond.code (⟨"com/example/rein/rein/formula/Objective", "prefers", "(DD)Z"⟩ : MethodName) prog_10_method_5_code 5 (some .boolean) :: ws) ({ frames := 0, cells := 0, slots := 0, locals := 0 } : Room)) (fun a_ U_ => a_ = #[(.ref om), (.double dx), (.double dy)] ∧ Z.Warmed39 U_.vm ∧ U_.heap = h0) (fun _ _ _ _ _ => True) (fun _ U_ o_ U_' => ∃ v_ L_, o_ = .returned v_ ∧ (QI (fun z => (0 < (cmpValue (FP.dcmp dx dy) .l).toInt ∧ z.toInt = 1) ∨ (¬ 0 < (cmpValue (FP.dcmp dx dy) .l).toInt ∧ z.toInt = 0)) h0) v_ U_'.heap L_ ∧ FrameEnd U_ o_ U_' L_ 0 0) := by
  refine ow_body (plainFor_of_name pn_0) ?_
  intro p e s m below meth c T0 X0 hx hZ hby hml hown hnm hret hlk e0
  refine Ends.cast (ef_prefMax m om dx dy) ?_
  refine ow_aloadN X0 hx (hb hby d_prefMax_0) rfl rfl (pc' := 1) rfl ?_
  refine ow_getS X0 hx hZ hown (host := "") (Or.inl (hw _ (List.mem_of_getElem? (i := 8) rfl))) Via.refl e0 S_max (hb hby d_prefMax_1) (pc' := 4) rfl (fun T1 X1 e1 => ?_)
  refine ow_acmp X1 hx rfl rfl (same := true) (hb hby d_prefMax_4) (decide_eq_true rfl) (by decide) (pc' := 7) rfl ?_
  refine ow_dloadN X1 hx (hb hby d_prefMax_7) rfl (pc' := 8) rfl ?_
  refine ow_dloadN X1 hx (hb hby d_prefMax_8) rfl (pc' := 9) rfl ?_
  refine ow_dcmp X1 hx (hb hby d_prefMax_9) (pc' := 10) rfl (fun z2 hz2 => ?_)
  have az2 : z2.toInt = (cmpValue (FP.dcmp dx dy) .l).toInt := by rw [hz2]
  refine ow_if_le X1 hx (z2.toInt) (hb hby d_prefMax_10) rfl (by decide) (pt := 17) (by decide) (pf := 13) rfl (fun c10 => ?_) (fun c10 => ?_)
  · refine ow_iconst X1 hx (z := (0 : Int32)) (hb hby d_prefMax_17) rfl (pc' := 18) rfl ?_
    refine ow_goto X1 hx (hb hby d_prefMax_18) (by decide) (pc' := 32) (by decide) ?_
    exact ow_retB X1 hx hret hlk (hb hby d_prefMax_32) (by decide) (by decide) (z' := (0 : Int32)) rfl ⟨(0 : Int32), rfl, (show (0 < (cmpValue (FP.dcmp dx dy) .l).toInt ∧ (0 : Int) = 1) ∨ (¬ 0 < (cmpValue (FP.dcmp dx dy) .l).toInt ∧ (0 : Int) = 0) from by omega), rfl, e1⟩
  · refine ow_iconst X1 hx (z := (1 : Int32)) (hb hby d_prefMax_13) rfl (pc' := 14) rfl ?_
    refine ow_goto X1 hx (hb hby d_prefMax_14) (by decide) (pc' := 32) (by decide) ?_
    exact ow_retB X1 hx hret hlk (hb hby d_prefMax_32) (by decide) (by decide) (z' := (1 : Int32)) rfl ⟨(1 : Int32), rfl, (show (0 < (cmpValue (FP.dcmp dx dy) .l).toInt ∧ (1 : Int) = 1) ∨ (¬ 0 < (cmpValue (FP.dcmp dx dy) .l).toInt ∧ (1 : Int) = 0) from by omega), rfl, e1⟩
theorem d_prefMin_0 : decode prog_10_method_5_code 0 = .ok (.aload_n 0, 1) := by decide +kernel
theorem d_prefMin_1 : decode prog_10_method_5_code 1 = .ok (.getstatic 3, 3) := by decide +kernel
theorem d_prefMin_4 : decode prog_10_method_5_code 4 = .ok (.if_acmp .ne 17, 3) := by decide +kernel
theorem d_prefMin_21 : decode prog_10_method_5_code 21 = .ok (.dload_n 1, 1) := by decide +kernel
theorem d_prefMin_22 : decode prog_10_method_5_code 22 = .ok (.dload_n 3, 1) := by decide +kernel
theorem d_prefMin_23 : decode prog_10_method_5_code 23 = .ok (.dcmp .g, 1) := by decide +kernel
theorem d_prefMin_24 : decode prog_10_method_5_code 24 = .ok (.ifCond .ge 7, 3) := by decide +kernel
theorem d_prefMin_27 : decode prog_10_method_5_code 27 = .ok (.iconst 1, 1) := by decide +kernel
theorem d_prefMin_28 : decode prog_10_method_5_code 28 = .ok (.goto 4, 3) := by decide +kernel
theorem d_prefMin_31 : decode prog_10_method_5_code 31 = .ok (.iconst 0, 1) := by decide +kernel
theorem d_prefMin_32 : decode prog_10_method_5_code 32 = .ok (.ireturn, 1) := by decide +kernel
theorem ef_prefMin (m : MethodId) (x0 : Addr) (x1 : UInt64) (x2 : UInt64) : entryFrame m #[(.ref x0), (.double x1), (.double x2)] 5 = mkF m 0 #[.val (.ref x0), .val (.double x1), .second, .val (.double x2), .second] [] := by first | (simp [entryFrame, mkF, argsToLocals, Value.category]; done) | rfl
set_option maxRecDepth 65536 in
set_option maxHeartbeats 40000000 in
theorem rm_prefMin (l : Launch) (Z : State) (a0 : Array Value) (hw : ∀ d ∈ tables_1, d.before a0 Z = true) (ws : List Jvm.Cond) (on : Addr) (dx : UInt64) (dy : UInt64) (om : Addr) (h0 : Heap) (S_max : Sta Z h0 "com/example/rein/rein/formula/Objective" "MAX" "Lcom/example/rein/rein/formula/Objective;" (.ref om)) (ne_on_om : on ≠ om) :
    MetFree l (⟨"com/example/rein/rein/formula/Objective", "prefers", "(DD)Z"⟩ : MethodName) (head1 (Jvm.Cond.code (⟨"com/example/rein/rein/formula/Objective", "prefers", "(DD)Z"⟩ : MethodName) prog_10_method_5_code 5 (some .boolean) :: ws) ({ frames := 0, cells := 0, slots := 0, locals := 0 } : Room)) (fun a_ U_ => a_ = #[(.ref on), (.double dx), (.double dy)] ∧ Z.Warmed39 U_.vm ∧ U_.heap = h0) (fun _ _ _ _ _ => True) (fun _ U_ o_ U_' => ∃ v_ L_, o_ = .returned v_ ∧ (QI (fun z => ((cmpValue (FP.dcmp dx dy) .g).toInt < 0 ∧ z.toInt = 1) ∨ (¬ (cmpValue (FP.dcmp dx dy) .g).toInt < 0 ∧ z.toInt = 0)) h0) v_ U_'.heap L_ ∧ FrameEnd U_ o_ U_' L_ 0 0) := by
  refine ow_body (plainFor_of_name pn_0) ?_
  intro p e s m below meth c T0 X0 hx hZ hby hml hown hnm hret hlk e0
  refine Ends.cast (ef_prefMin m on dx dy) ?_
  refine ow_aloadN X0 hx (hb hby d_prefMin_0) rfl rfl (pc' := 1) rfl ?_
  refine ow_getS X0 hx hZ hown (host := "") (Or.inl (hw _ (List.mem_of_getElem? (i := 8) rfl))) Via.refl e0 S_max (hb hby d_prefMin_1) (pc' := 4) rfl (fun T1 X1 e1 => ?_)
  refine ow_acmp X1 hx rfl rfl (same := false) (hb hby d_prefMin_4) (decide_eq_false fun q => ne_on_om (Value.ref.inj q)) (by decide) (pc' := 21) rfl ?_
  refine ow_dloadN X1 hx (hb hby d_prefMin_21) rfl (pc' := 22) rfl ?_
  refine ow_dloadN X1 hx (hb hby d_prefMin_22) rfl (pc' := 23) rfl ?_
  refine ow_dcmp X1 hx (hb hby d_prefMin_23) (pc' := 24) rfl (fun z2 hz2 => ?_)
  have az2 : z2.toInt = (cmpValue (FP.dcmp dx dy) .g).toInt := by rw [hz2]
  refine ow_if_ge X1 hx (z2.toInt) (hb hby d_prefMin_24) rfl (by decide) (pt := 31) (by decide) (pf := 27) rfl (fun c24 => ?_) (fun c24 => ?_)
  · refine ow_iconst X1 hx (z := (0 : Int32)) (hb hby d_prefMin_31) rfl (pc' := 32) rfl ?_
    exact ow_retB X1 hx hret hlk (hb hby d_prefMin_32) (by decide) (by decide) (z' := (0 : Int32)) rfl ⟨(0 : Int32), rfl, (show ((cmpValue (FP.dcmp dx dy) .g).toInt < 0 ∧ (0 : Int) = 1) ∨ (¬ (cmpValue (FP.dcmp dx dy) .g).toInt < 0 ∧ (0 : Int) = 0) from by omega), rfl, e1⟩
  · refine ow_iconst X1 hx (z := (1 : Int32)) (hb hby d_prefMin_27) rfl (pc' := 28) rfl ?_
    refine ow_goto X1 hx (hb hby d_prefMin_28) (by decide) (pc' := 32) (by decide) ?_
    exact ow_retB X1 hx hret hlk (hb hby d_prefMin_32) (by decide) (by decide) (z' := (1 : Int32)) rfl ⟨(1 : Int32), rfl, (show ((cmpValue (FP.dcmp dx dy) .g).toInt < 0 ∧ (1 : Int) = 1) ∨ (¬ (cmpValue (FP.dcmp dx dy) .g).toInt < 0 ∧ (1 : Int) = 0) from by omega), rfl, e1⟩
theorem pd_0 : parseMethodDescriptor "(DD)Z" = some ⟨[.double, .double], some .boolean⟩ := by decide +kernel
theorem ef_law (m : MethodId) (x0 : Int32) (x1 : Int32) (x2 : Int32) : entryFrame m #[(.int x0), (.int x1), (.int x2)] maxLocals = mkF m 0 #[.val (.int x0), .val (.int x1), .val (.int x2), .unset, .unset, .unset, .unset, .unset, .unset, .unset, .unset, .unset, .unset, .unset, .unset, .unset, .unset, .unset, .unset, .unset] [] := by first | (simp [entryFrame, mkF, argsToLocals, Value.category, maxLocals]; done) | rfl
def Q_law (pf : Int32) (pa : Int32) (pb : Int32) (om : Addr) (on : Addr) (h0 : Heap) (n0 : Nat) (v : Option Value) (h : Heap) (L : List Loc) : Prop := v = some (.int 1) ∧ Fr n0 L
theorem pn_1 : plainName "com/example/rein/rein/formula/ObjectivePrefersPinLaw" = true := by first | (simp [plainName, overriddenIn]; done) | decide +kernel
set_option maxRecDepth 65536 in
set_option maxHeartbeats 40000000 in
theorem rm_law (l : Launch) (Z : State) (a0 : Array Value) (hw : ∀ d ∈ tables_1, d.before a0 Z = true) (ws : List Jvm.Cond) (pf : Int32) (pa : Int32) (pb : Int32) (om : Addr) (on : Addr) (h0 : Heap) (n0 : Nat) (Z0 : n0 ≤ h0.size) (S_max : Sta Z h0 "com/example/rein/rein/formula/Objective" "MAX" "Lcom/example/rein/rein/formula/Objective;" (.ref om)) (S_min : Sta Z h0 "com/example/rein/rein/formula/Objective" "MIN" "Lcom/example/rein/rein/formula/Objective;" (.ref on)) (E_om : Exa Z h0 om "com/example/rein/rein/formula/Objective") (E_on : Exa Z h0 on "com/example/rein/rein/formula/Objective") (ne_on_om : on ≠ om) :
    MetFree l x (head1 (Jvm.Cond.code x code maxLocals ret :: ws) room_1) (fun a_ U_ => a_ = #[(.int pf), (.int pa), (.int pb)] ∧ Z.Warmed39 U_.vm ∧ U_.heap = h0) (fun _ _ _ _ _ => True) (fun _ U_ o_ U_' => ∃ v_ L_, o_ = .returned v_ ∧ (Q_law pf pa pb om on h0 n0) v_ U_'.heap L_ ∧ FrameEnd U_ o_ U_' L_ 0 0) := by
  refine ow_body (plainFor_of_name pn_1) ?_
  intro p e s m below meth c T0 X0 hx hZ hby hml hown hnm hret hlk e0
  have N0 := Fr.nil n0
  have hret : meth.sig.returnType = (some .boolean) := hret
  refine Ends.cast (ef_law m pf pa pb) ?_
  have r_pf := rng32 pf
  have r_pa := rng32 pa
  have r_pb := rng32 pb
  refine ow_iloadN X0 hx (hb hby at_0) rfl (pc' := 1) rfl ?_
  refine ow_iconst X0 hx (z := (1 : Int32)) (hb hby at_1) rfl (pc' := 2) rfl ?_
  refine ow_iand X0 hx (hb hby at_2) (pc' := 3) rfl (fun z1 hz1 => ?_)
  have az1 : z1.toInt = pf.toInt % 2 := by rw [hz1]; exact c_mask pf (1 : Int32) 1 (by decide) (by decide)
  have rz1 := rng32 z1
  refine ow_if_eq X0 hx (z1.toInt) (hb hby at_3) rfl (by decide) (pt := 10) (by decide) (pf := 6) rfl (fun c3 => ?_) (fun c3 => ?_)
  · refine ow_iconst X0 hx (z := (0 : Int32)) (hb hby at_10) rfl (pc' := 11) rfl ?_
    refine ow_istoreN X0 hx (Ls' := #[.val (.int pf), .val (.int pa), .val (.int pb), .val (.int (0 : Int32)), .unset, .unset, .unset, .unset, .unset, .unset, .unset, .unset, .unset, .unset, .unset, .unset, .unset, .unset, .unset, .unset]) (hb hby at_11) rfl (pc' := 12) rfl ?_
    refine ow_iloadN X0 hx (hb hby at_12) rfl (pc' := 13) rfl ?_
    refine ow_ifY X0 hx (hb hby at_13) (by decide) (by decide) (pc' := 22) (by decide) ?_
    refine ow_getS X0 hx hZ hown (host := "") (Or.inl (hw _ (List.mem_of_getElem? (i := 0) rfl))) Via.refl e0 S_min (hb hby at_22) (pc' := 25) rfl (fun T2 X2 e2 => ?_)
    refine ow_astore X2 hx (Ls' := #[.val (.int pf), .val (.int pa), .val (.int pb), .val (.int (0 : Int32)), .val (.ref on), .unset, .unset, .unset, .unset, .unset, .unset, .unset, .unset, .unset, .unset, .unset, .unset, .unset, .unset, .unset]) (hb hby at_25) rfl rfl (pc' := 27) rfl ?_
    refine ow_iloadN X2 hx (hb hby at_27) rfl (pc' := 28) rfl ?_
    refine ow_i2d X2 hx (hb hby at_28) (pc' := 29) rfl ?_
    refine ow_dstore X2 hx (Ls' := #[.val (.int pf), .val (.int pa), .val (.int pb), .val (.int (0 : Int32)), .val (.ref on), .val (.double (FP.i2d pa)), .second, .unset, .unset, .unset, .unset, .unset, .unset, .unset, .unset, .unset, .unset, .unset, .unset, .unset]) (hb hby at_29) rfl (pc' := 31) rfl ?_
    refine ow_iloadN X2 hx (hb hby at_31) rfl (pc' := 32) rfl ?_
    refine ow_i2d X2 hx (hb hby at_32) (pc' := 33) rfl ?_
    refine ow_dstore X2 hx (Ls' := #[.val (.int pf), .val (.int pa), .val (.int pb), .val (.int (0 : Int32)), .val (.ref on), .val (.double (FP.i2d pa)), .second, .val (.double (FP.i2d pb)), .second, .unset, .unset, .unset, .unset, .unset, .unset, .unset, .unset, .unset, .unset, .unset]) (hb hby at_33) rfl (pc' := 35) rfl ?_
    have cm_papbl := ow_i2dcmp pa pb .l
    have cm_papbg := ow_i2dcmp pa pb .g
    have cm_pbpal := ow_i2dcmp pb pa .l
    have cm_pbpag := ow_i2dcmp pb pa .g
    have cm_papal := ow_i2dcmp pa pa .l
    have cm_papag := ow_i2dcmp pa pa .g
    have cz1l : (cmpValue (FP.dcmp FP.dconst0 (9223372036854775808 : UInt64)) .l).toInt = 0 := by decide +kernel
    have cz2l : (cmpValue (FP.dcmp (9223372036854775808 : UInt64) FP.dconst0) .l).toInt = 0 := by decide +kernel
    have cz1g : (cmpValue (FP.dcmp FP.dconst0 (9223372036854775808 : UInt64)) .g).toInt = 0 := by decide +kernel
    have cz2g : (cmpValue (FP.dcmp (9223372036854775808 : UInt64) FP.dconst0) .g).toInt = 0 := by decide +kernel
    refine ow_aload X2 hx (hb hby at_35) rfl rfl (pc' := 37) rfl ?_
    refine ow_dload X2 hx (hb hby at_37) rfl (pc' := 39) rfl ?_
    refine ow_dload X2 hx (hb hby at_39) rfl (pc' := 41) rfl ?_
    refine ow_callVPI X2 hx hZ rfl hown (hw _ (List.mem_of_getElem? (i := 3) rfl)) (hw _ (List.mem_of_getElem? (i := 4) rfl)) (hw _ (List.mem_of_getElem? (i := 6) rfl)) (hw _ (List.mem_of_getElem? (i := 5) rfl)) (hw _ (List.mem_of_getElem? (i := 1) rfl)) (hw _ (List.mem_of_getElem? (i := 7) rfl)) (by decide) (rm_prefMin l Z a0 hw [] on (FP.i2d pa) (FP.i2d pb) om h0 S_max ne_on_om) e2 0 (by decide) (by decide) (by decide) (by decide) [(.double (FP.i2d pa)), (.double (FP.i2d pb))] (by rw [hml]; rfl) pd_0 rfl E_on rfl rfl (Nat.le_of_eq rfl) (hb hby at_41) (pc' := 44) rfl (fun z3 T3 hz3 X3 e3 => ?_)
    have az3 : ((cmpValue (FP.dcmp (FP.i2d pa) (FP.i2d pb)) .g).toInt < 0 ∧ z3.toInt = 1) ∨ (¬ (cmpValue (FP.dcmp (FP.i2d pa) (FP.i2d pb)) .g).toInt < 0 ∧ z3.toInt = 0) := hz3
    have rz3 := rng32 z3
    refine ow_istore X3 hx (Ls' := #[.val (.int pf), .val (.int pa), .val (.int pb), .val (.int (0 : Int32)), .val (.ref on), .val (.double (FP.i2d pa)), .second, .val (.double (FP.i2d pb)), .second, .val (.int z3), .unset, .unset, .unset, .unset, .unset, .unset, .unset, .unset, .unset, .unset]) (hb hby at_44) rfl (pc' := 46) rfl ?_
    refine ow_aload X3 hx (hb hby at_46) rfl rfl (pc' := 48) rfl ?_
    refine ow_dload X3 hx (hb hby at_48) rfl (pc' := 50) rfl ?_
    refine ow_dload X3 hx (hb hby at_50) rfl (pc' := 52) rfl ?_
    refine ow_callVPI X3 hx hZ rfl hown (hw _ (List.mem_of_getElem? (i := 3) rfl)) (hw _ (List.mem_of_getElem? (i := 4) rfl)) (hw _ (List.mem_of_getElem? (i := 6) rfl)) (hw _ (List.mem_of_getElem? (i := 5) rfl)) (hw _ (List.mem_of_getElem? (i := 1) rfl)) (hw _ (List.mem_of_getElem? (i := 7) rfl)) (by decide) (rm_prefMin l Z a0 hw [] on (FP.i2d pb) (FP.i2d pa) om h0 S_max ne_on_om) e3 0 (by decide) (by decide) (by decide) (by decide) [(.double (FP.i2d pb)), (.double (FP.i2d pa))] (by rw [hml]; rfl) pd_0 rfl E_on rfl rfl (Nat.le_of_eq rfl) (hb hby at_52) (pc' := 55) rfl (fun z4 T4 hz4 X4 e4 => ?_)
    have az4 : ((cmpValue (FP.dcmp (FP.i2d pb) (FP.i2d pa)) .g).toInt < 0 ∧ z4.toInt = 1) ∨ (¬ (cmpValue (FP.dcmp (FP.i2d pb) (FP.i2d pa)) .g).toInt < 0 ∧ z4.toInt = 0) := hz4
    have rz4 := rng32 z4
    refine ow_istore X4 hx (Ls' := #[.val (.int pf), .val (.int pa), .val (.int pb), .val (.int (0 : Int32)), .val (.ref on), .val (.double (FP.i2d pa)), .second, .val (.double (FP.i2d pb)), .second, .val (.int z3), .val (.int z4), .unset, .unset, .unset, .unset, .unset, .unset, .unset, .unset, .unset]) (hb hby at_55) rfl (pc' := 57) rfl ?_
    refine ow_aload X4 hx (hb hby at_57) rfl rfl (pc' := 59) rfl ?_
    refine ow_dload X4 hx (hb hby at_59) rfl (pc' := 61) rfl ?_
    refine ow_dload X4 hx (hb hby at_61) rfl (pc' := 63) rfl ?_
    refine ow_callVPI X4 hx hZ rfl hown (hw _ (List.mem_of_getElem? (i := 3) rfl)) (hw _ (List.mem_of_getElem? (i := 4) rfl)) (hw _ (List.mem_of_getElem? (i := 6) rfl)) (hw _ (List.mem_of_getElem? (i := 5) rfl)) (hw _ (List.mem_of_getElem? (i := 1) rfl)) (hw _ (List.mem_of_getElem? (i := 7) rfl)) (by decide) (rm_prefMin l Z a0 hw [] on (FP.i2d pa) (FP.i2d pa) om h0 S_max ne_on_om) e4 0 (by decide) (by decide) (by decide) (by decide) [(.double (FP.i2d pa)), (.double (FP.i2d pa))] (by rw [hml]; rfl) pd_0 rfl E_on rfl rfl (Nat.le_of_eq rfl) (hb hby at_63) (pc' := 66) rfl (fun z5 T5 hz5 X5 e5 => ?_)
    have az5 : ((cmpValue (FP.dcmp (FP.i2d pa) (FP.i2d pa)) .g).toInt < 0 ∧ z5.toInt = 1) ∨ (¬ (cmpValue (FP.dcmp (FP.i2d pa) (FP.i2d pa)) .g).toInt < 0 ∧ z5.toInt = 0) := hz5
    have rz5 := rng32 z5
    refine ow_istore X5 hx (Ls' := #[.val (.int pf), .val (.int pa), .val (.int pb), .val (.int (0 : Int32)), .val (.ref on), .val (.double (FP.i2d pa)), .second, .val (.double (FP.i2d pb)), .second, .val (.int z3), .val (.int z4), .val (.int z5), .unset, .unset, .unset, .unset, .unset, .unset, .unset, .unset]) (hb hby at_66) rfl (pc' := 68) rfl ?_
    refine ow_iloadN X5 hx (hb hby at_68) rfl (pc' := 69) rfl ?_
    refine ow_ifY X5 hx (hb hby at_69) (by decide) (by decide) (pc' := 85) (by decide) ?_
    refine ow_iloadN X5 hx (hb hby at_85) rfl (pc' := 86) rfl ?_
    refine ow_iloadN X5 hx (hb hby at_86) rfl (pc' := 87) rfl ?_
    refine ow_icmp_ge X5 hx (pa.toInt) (pb.toInt) (hb hby at_87) rfl rfl (by decide) (pt := 94) (by decide) (pf := 90) rfl (fun c87 => ?_) (fun c87 => ?_)
    · refine ow_iconst X5 hx (z := (0 : Int32)) (hb hby at_94) rfl (pc' := 95) rfl ?_
      refine ow_istore X5 hx (Ls' := #[.val (.int pf), .val (.int pa), .val (.int pb), .val (.int (0 : Int32)), .val (.ref on), .val (.double (FP.i2d pa)), .second, .val (.double (FP.i2d pb)), .second, .val (.int z3), .val (.int z4), .val (.int z5), .val (.int (0 : Int32)), .unset, .unset, .unset, .unset, .unset, .unset, .unset]) (hb hby at_95) rfl (pc' := 97) rfl ?_
      refine ow_iloadN X5 hx (hb hby at_97) rfl (pc' := 98) rfl ?_
      refine ow_ifY X5 hx (hb hby at_98) (by decide) (by decide) (pc' := 114) (by decide) ?_
      refine ow_iloadN X5 hx (hb hby at_114) rfl (pc' := 115) rfl ?_
      refine ow_iloadN X5 hx (hb hby at_115) rfl (pc' := 116) rfl ?_
      refine ow_icmp_ge X5 hx (pb.toInt) (pa.toInt) (hb hby at_116) rfl rfl (by decide) (pt := 123) (by decide) (pf := 119) rfl (fun c116 => ?_) (fun c116 => ?_)
      · refine ow_iconst X5 hx (z := (0 : Int32)) (hb hby at_123) rfl (pc' := 124) rfl ?_
        refine ow_istore X5 hx (Ls' := #[.val (.int pf), .val (.int pa), .val (.int pb), .val (.int (0 : Int32)), .val (.ref on), .val (.double (FP.i2d pa)), .second, .val (.double (FP.i2d pb)), .second, .val (.int z3), .val (.int z4), .val (.int z5), .val (.int (0 : Int32)), .val (.int (0 : Int32)), .unset, .unset, .unset, .unset, .unset, .unset]) (hb hby at_124) rfl (pc' := 126) rfl ?_
        refine ow_dconst0 X5 hx (hb hby at_126) (pc' := 127) rfl ?_
        refine ow_dstore X5 hx (Ls' := #[.val (.int pf), .val (.int pa), .val (.int pb), .val (.int (0 : Int32)), .val (.ref on), .val (.double (FP.i2d pa)), .second, .val (.double (FP.i2d pb)), .second, .val (.int z3), .val (.int z4), .val (.int z5), .val (.int (0 : Int32)), .val (.int (0 : Int32)), .val (.double FP.dconst0), .second, .unset, .unset, .unset, .unset]) (hb hby at_127) rfl (pc' := 129) rfl ?_
        refine ow_ldc2Double X5 hx hZ hown (hw _ (List.mem_of_getElem? (i := 10) rfl)) (hb hby at_129) (pc' := 132) rfl ?_
        refine ow_dstore X5 hx (Ls' := #[.val (.int pf), .val (.int pa), .val (.int pb), .val (.int (0 : Int32)), .val (.ref on), .val (.double (FP.i2d pa)), .second, .val (.double (FP.i2d pb)), .second, .val (.int z3), .val (.int z4), .val (.int z5), .val (.int (0 : Int32)), .val (.int (0 : Int32)), .val (.double FP.dconst0), .second, .val (.double (9223372036854775808 : UInt64)), .second, .unset, .unset]) (hb hby at_132) rfl (pc' := 134) rfl ?_
        refine ow_aload X5 hx (hb hby at_134) rfl rfl (pc' := 136) rfl ?_
        refine ow_dload X5 hx (hb hby at_136) rfl (pc' := 138) rfl ?_
        refine ow_dload X5 hx (hb hby at_138) rfl (pc' := 140) rfl ?_
        refine ow_callVPI X5 hx hZ rfl hown (hw _ (List.mem_of_getElem? (i := 3) rfl)) (hw _ (List.mem_of_getElem? (i := 4) rfl)) (hw _ (List.mem_of_getElem? (i := 6) rfl)) (hw _ (List.mem_of_getElem? (i := 5) rfl)) (hw _ (List.mem_of_getElem? (i := 1) rfl)) (hw _ (List.mem_of_getElem? (i := 7) rfl)) (by decide) (rm_prefMin l Z a0 hw [] on FP.dconst0 (9223372036854775808 : UInt64) om h0 S_max ne_on_om) e5 0 (by decide) (by decide) (by decide) (by decide) [(.double FP.dconst0), (.double (9223372036854775808 : UInt64))] (by rw [hml]; rfl) pd_0 rfl E_on rfl rfl (Nat.le_of_eq rfl) (hb hby at_140) (pc' := 143) rfl (fun z6 T6 hz6 X6 e6 => ?_)
        have az6 : ((cmpValue (FP.dcmp FP.dconst0 (9223372036854775808 : UInt64)) .g).toInt < 0 ∧ z6.toInt = 1) ∨ (¬ (cmpValue (FP.dcmp FP.dconst0 (9223372036854775808 : UInt64)) .g).toInt < 0 ∧ z6.toInt = 0) := hz6
        have rz6 := rng32 z6
        refine ow_istore X6 hx (Ls' := #[.val (.int pf), .val (.int pa), .val (.int pb), .val (.int (0 : Int32)), .val (.ref on), .val (.double (FP.i2d pa)), .second, .val (.double (FP.i2d pb)), .second, .val (.int z3), .val (.int z4), .val (.int z5), .val (.int (0 : Int32)), .val (.int (0 : Int32)), .val (.double FP.dconst0), .second, .val (.double (9223372036854775808 : UInt64)), .second, .val (.int z6), .unset]) (hb hby at_143) rfl (pc' := 145) rfl ?_
        refine ow_aload X6 hx (hb hby at_145) rfl rfl (pc' := 147) rfl ?_
        refine ow_dload X6 hx (hb hby at_147) rfl (pc' := 149) rfl ?_
        refine ow_dload X6 hx (hb hby at_149) rfl (pc' := 151) rfl ?_
        refine ow_callVPI X6 hx hZ rfl hown (hw _ (List.mem_of_getElem? (i := 3) rfl)) (hw _ (List.mem_of_getElem? (i := 4) rfl)) (hw _ (List.mem_of_getElem? (i := 6) rfl)) (hw _ (List.mem_of_getElem? (i := 5) rfl)) (hw _ (List.mem_of_getElem? (i := 1) rfl)) (hw _ (List.mem_of_getElem? (i := 7) rfl)) (by decide) (rm_prefMin l Z a0 hw [] on (9223372036854775808 : UInt64) FP.dconst0 om h0 S_max ne_on_om) e6 0 (by decide) (by decide) (by decide) (by decide) [(.double (9223372036854775808 : UInt64)), (.double FP.dconst0)] (by rw [hml]; rfl) pd_0 rfl E_on rfl rfl (Nat.le_of_eq rfl) (hb hby at_151) (pc' := 154) rfl (fun z7 T7 hz7 X7 e7 => ?_)
        have az7 : ((cmpValue (FP.dcmp (9223372036854775808 : UInt64) FP.dconst0) .g).toInt < 0 ∧ z7.toInt = 1) ∨ (¬ (cmpValue (FP.dcmp (9223372036854775808 : UInt64) FP.dconst0) .g).toInt < 0 ∧ z7.toInt = 0) := hz7
        have rz7 := rng32 z7
        refine ow_istore X7 hx (Ls' := #[.val (.int pf), .val (.int pa), .val (.int pb), .val (.int (0 : Int32)), .val (.ref on), .val (.double (FP.i2d pa)), .second, .val (.double (FP.i2d pb)), .second, .val (.int z3), .val (.int z4), .val (.int z5), .val (.int (0 : Int32)), .val (.int (0 : Int32)), .val (.double FP.dconst0), .second, .val (.double (9223372036854775808 : UInt64)), .second, .val (.int z6), .val (.int z7)]) (hb hby at_154) rfl (pc' := 156) rfl ?_
        refine ow_iload X7 hx (hb hby at_156) rfl (pc' := 158) rfl ?_
        refine ow_iload X7 hx (hb hby at_158) rfl (pc' := 160) rfl ?_
        refine ow_icmp_ne X7 hx (z3.toInt) ((0 : Int)) (hb hby at_160) rfl rfl (by decide) (pt := 189) (by decide) (pf := 163) rfl (fun c160 => ?_) (fun c160 => ?_)
        · refine ow_iconst X7 hx (z := (0 : Int32)) (hb hby at_189) rfl (pc' := 190) rfl ?_
          exact absurd (show False from by omega) id
        · refine ow_iload X7 hx (hb hby at_163) rfl (pc' := 165) rfl ?_
          refine ow_iload X7 hx (hb hby at_165) rfl (pc' := 167) rfl ?_
          refine ow_icmp_ne X7 hx (z4.toInt) ((0 : Int)) (hb hby at_167) rfl rfl (by decide) (pt := 189) (by decide) (pf := 170) rfl (fun c167 => ?_) (fun c167 => ?_)
          · refine ow_iconst X7 hx (z := (0 : Int32)) (hb hby at_189) rfl (pc' := 190) rfl ?_
            exact absurd (show False from by omega) id
          · refine ow_iload X7 hx (hb hby at_170) rfl (pc' := 172) rfl ?_
            refine ow_if_ne X7 hx (z5.toInt) (hb hby at_172) rfl (by decide) (pt := 189) (by decide) (pf := 175) rfl (fun c172 => ?_) (fun c172 => ?_)
            · refine ow_iconst X7 hx (z := (0 : Int32)) (hb hby at_189) rfl (pc' := 190) rfl ?_
              exact absurd (show False from by omega) id
            · refine ow_iload X7 hx (hb hby at_175) rfl (pc' := 177) rfl ?_
              refine ow_if_ne X7 hx (z6.toInt) (hb hby at_177) rfl (by decide) (pt := 189) (by decide) (pf := 180) rfl (fun c177 => ?_) (fun c177 => ?_)
              · refine ow_iconst X7 hx (z := (0 : Int32)) (hb hby at_189) rfl (pc' := 190) rfl ?_
                exact absurd (show False from by omega) id
              · refine ow_iload X7 hx (hb hby at_180) rfl (pc' := 182) rfl ?_
                refine ow_if_ne X7 hx (z7.toInt) (hb hby at_182) rfl (by decide) (pt := 189) (by decide) (pf := 185) rfl (fun c182 => ?_) (fun c182 => ?_)
                · refine ow_iconst X7 hx (z := (0 : Int32)) (hb hby at_189) rfl (pc' := 190) rfl ?_
                  exact absurd (show False from by omega) id
                · refine ow_iconst X7 hx (z := (1 : Int32)) (hb hby at_185) rfl (pc' := 186) rfl ?_
                  refine ow_goto X7 hx (hb hby at_186) (by decide) (pc' := 190) (by decide) ?_
                  exact ow_retB X7 hx hret hlk (hb hby at_190) (by decide) (by decide) (z' := (1 : Int32)) rfl ⟨rfl, N0⟩
      · refine ow_iconst X5 hx (z := (1 : Int32)) (hb hby at_119) rfl (pc' := 120) rfl ?_
        refine ow_goto X5 hx (hb hby at_120) (by decide) (pc' := 124) (by decide) ?_
        refine ow_istore X5 hx (Ls' := #[.val (.int pf), .val (.int pa), .val (.int pb), .val (.int (0 : Int32)), .val (.ref on), .val (.double (FP.i2d pa)), .second, .val (.double (FP.i2d pb)), .second, .val (.int z3), .val (.int z4), .val (.int z5), .val (.int (0 : Int32)), .val (.int (1 : Int32)), .unset, .unset, .unset, .unset, .unset, .unset]) (hb hby at_124) rfl (pc' := 126) rfl ?_
        refine ow_dconst0 X5 hx (hb hby at_126) (pc' := 127) rfl ?_
        refine ow_dstore X5 hx (Ls' := #[.val (.int pf), .val (.int pa), .val (.int pb), .val (.int (0 : Int32)), .val (.ref on), .val (.double (FP.i2d pa)), .second, .val (.double (FP.i2d pb)), .second, .val (.int z3), .val (.int z4), .val (.int z5), .val (.int (0 : Int32)), .val (.int (1 : Int32)), .val (.double FP.dconst0), .second, .unset, .unset, .unset, .unset]) (hb hby at_127) rfl (pc' := 129) rfl ?_
        refine ow_ldc2Double X5 hx hZ hown (hw _ (List.mem_of_getElem? (i := 10) rfl)) (hb hby at_129) (pc' := 132) rfl ?_
        refine ow_dstore X5 hx (Ls' := #[.val (.int pf), .val (.int pa), .val (.int pb), .val (.int (0 : Int32)), .val (.ref on), .val (.double (FP.i2d pa)), .second, .val (.double (FP.i2d pb)), .second, .val (.int z3), .val (.int z4), .val (.int z5), .val (.int (0 : Int32)), .val (.int (1 : Int32)), .val (.double FP.dconst0), .second, .val (.double (9223372036854775808 : UInt64)), .second, .unset, .unset]) (hb hby at_132) rfl (pc' := 134) rfl ?_
        refine ow_aload X5 hx (hb hby at_134) rfl rfl (pc' := 136) rfl ?_
        refine ow_dload X5 hx (hb hby at_136) rfl (pc' := 138) rfl ?_
        refine ow_dload X5 hx (hb hby at_138) rfl (pc' := 140) rfl ?_
        refine ow_callVPI X5 hx hZ rfl hown (hw _ (List.mem_of_getElem? (i := 3) rfl)) (hw _ (List.mem_of_getElem? (i := 4) rfl)) (hw _ (List.mem_of_getElem? (i := 6) rfl)) (hw _ (List.mem_of_getElem? (i := 5) rfl)) (hw _ (List.mem_of_getElem? (i := 1) rfl)) (hw _ (List.mem_of_getElem? (i := 7) rfl)) (by decide) (rm_prefMin l Z a0 hw [] on FP.dconst0 (9223372036854775808 : UInt64) om h0 S_max ne_on_om) e5 0 (by decide) (by decide) (by decide) (by decide) [(.double FP.dconst0), (.double (9223372036854775808 : UInt64))] (by rw [hml]; rfl) pd_0 rfl E_on rfl rfl (Nat.le_of_eq rfl) (hb hby at_140) (pc' := 143) rfl (fun z8 T8 hz8 X8 e8 => ?_)
        have az8 : ((cmpValue (FP.dcmp FP.dconst0 (9223372036854775808 : UInt64)) .g).toInt < 0 ∧ z8.toInt = 1) ∨ (¬ (cmpValue (FP.dcmp FP.dconst0 (9223372036854775808 : UInt64)) .g).toInt < 0 ∧ z8.toInt = 0) := hz8
        have rz8 := rng32 z8
        refine ow_istore X8 hx (Ls' := #[.val (.int pf), .val (.int pa), .val (.int pb), .val (.int (0 : Int32)), .val (.ref on), .val (.double (FP.i2d pa)), .second, .val (.double (FP.i2d pb)), .second, .val (.int z3), .val (.int z4), .val (.int z5), .val (.int (0 : Int32)), .val (.int (1 : Int32)), .val (.double FP.dconst0), .second, .val (.double (9223372036854775808 : UInt64)), .second, .val (.int z8), .unset]) (hb hby at_143) rfl (pc' := 145) rfl ?_
        refine ow_aload X8 hx (hb hby at_145) rfl rfl (pc' := 147) rfl ?_
        refine ow_dload X8 hx (hb hby at_147) rfl (pc' := 149) rfl ?_
        refine ow_dload X8 hx (hb hby at_149) rfl (pc' := 151) rfl ?_
        refine ow_callVPI X8 hx hZ rfl hown (hw _ (List.mem_of_getElem? (i := 3) rfl)) (hw _ (List.mem_of_getElem? (i := 4) rfl)) (hw _ (List.mem_of_getElem? (i := 6) rfl)) (hw _ (List.mem_of_getElem? (i := 5) rfl)) (hw _ (List.mem_of_getElem? (i := 1) rfl)) (hw _ (List.mem_of_getElem? (i := 7) rfl)) (by decide) (rm_prefMin l Z a0 hw [] on (9223372036854775808 : UInt64) FP.dconst0 om h0 S_max ne_on_om) e8 0 (by decide) (by decide) (by decide) (by decide) [(.double (9223372036854775808 : UInt64)), (.double FP.dconst0)] (by rw [hml]; rfl) pd_0 rfl E_on rfl rfl (Nat.le_of_eq rfl) (hb hby at_151) (pc' := 154) rfl (fun z9 T9 hz9 X9 e9 => ?_)
        have az9 : ((cmpValue (FP.dcmp (9223372036854775808 : UInt64) FP.dconst0) .g).toInt < 0 ∧ z9.toInt = 1) ∨ (¬ (cmpValue (FP.dcmp (9223372036854775808 : UInt64) FP.dconst0) .g).toInt < 0 ∧ z9.toInt = 0) := hz9
        have rz9 := rng32 z9
        refine ow_istore X9 hx (Ls' := #[.val (.int pf), .val (.int pa), .val (.int pb), .val (.int (0 : Int32)), .val (.ref on), .val (.double (FP.i2d pa)), .second, .val (.double (FP.i2d pb)), .second, .val (.int z3), .val (.int z4), .val (.int z5), .val (.int (0 : Int32)), .val (.int (1 : Int32)), .val (.double FP.dconst0), .second, .val (.double (9223372036854775808 : UInt64)), .second, .val (.int z8), .val (.int z9)]) (hb hby at_154) rfl (pc' := 156) rfl ?_
        refine ow_iload X9 hx (hb hby at_156) rfl (pc' := 158) rfl ?_
        refine ow_iload X9 hx (hb hby at_158) rfl (pc' := 160) rfl ?_
        refine ow_icmp_ne X9 hx (z3.toInt) ((0 : Int)) (hb hby at_160) rfl rfl (by decide) (pt := 189) (by decide) (pf := 163) rfl (fun c160 => ?_) (fun c160 => ?_)
        · refine ow_iconst X9 hx (z := (0 : Int32)) (hb hby at_189) rfl (pc' := 190) rfl ?_
          exact absurd (show False from by omega) id
        · refine ow_iload X9 hx (hb hby at_163) rfl (pc' := 165) rfl ?_
          refine ow_iload X9 hx (hb hby at_165) rfl (pc' := 167) rfl ?_
          refine ow_icmp_ne X9 hx (z4.toInt) ((1 : Int)) (hb hby at_167) rfl rfl (by decide) (pt := 189) (by decide) (pf := 170) rfl (fun c167 => ?_) (fun c167 => ?_)
          · refine ow_iconst X9 hx (z := (0 : Int32)) (hb hby at_189) rfl (pc' := 190) rfl ?_
            exact absurd (show False from by omega) id
          · refine ow_iload X9 hx (hb hby at_170) rfl (pc' := 172) rfl ?_
            refine ow_if_ne X9 hx (z5.toInt) (hb hby at_172) rfl (by decide) (pt := 189) (by decide) (pf := 175) rfl (fun c172 => ?_) (fun c172 => ?_)
            · refine ow_iconst X9 hx (z := (0 : Int32)) (hb hby at_189) rfl (pc' := 190) rfl ?_
              exact absurd (show False from by omega) id
            · refine ow_iload X9 hx (hb hby at_175) rfl (pc' := 177) rfl ?_
              refine ow_if_ne X9 hx (z8.toInt) (hb hby at_177) rfl (by decide) (pt := 189) (by decide) (pf := 180) rfl (fun c177 => ?_) (fun c177 => ?_)
              · refine ow_iconst X9 hx (z := (0 : Int32)) (hb hby at_189) rfl (pc' := 190) rfl ?_
                exact absurd (show False from by omega) id
              · refine ow_iload X9 hx (hb hby at_180) rfl (pc' := 182) rfl ?_
                refine ow_if_ne X9 hx (z9.toInt) (hb hby at_182) rfl (by decide) (pt := 189) (by decide) (pf := 185) rfl (fun c182 => ?_) (fun c182 => ?_)
                · refine ow_iconst X9 hx (z := (0 : Int32)) (hb hby at_189) rfl (pc' := 190) rfl ?_
                  exact absurd (show False from by omega) id
                · refine ow_iconst X9 hx (z := (1 : Int32)) (hb hby at_185) rfl (pc' := 186) rfl ?_
                  refine ow_goto X9 hx (hb hby at_186) (by decide) (pc' := 190) (by decide) ?_
                  exact ow_retB X9 hx hret hlk (hb hby at_190) (by decide) (by decide) (z' := (1 : Int32)) rfl ⟨rfl, N0⟩
    · refine ow_iconst X5 hx (z := (1 : Int32)) (hb hby at_90) rfl (pc' := 91) rfl ?_
      refine ow_goto X5 hx (hb hby at_91) (by decide) (pc' := 95) (by decide) ?_
      refine ow_istore X5 hx (Ls' := #[.val (.int pf), .val (.int pa), .val (.int pb), .val (.int (0 : Int32)), .val (.ref on), .val (.double (FP.i2d pa)), .second, .val (.double (FP.i2d pb)), .second, .val (.int z3), .val (.int z4), .val (.int z5), .val (.int (1 : Int32)), .unset, .unset, .unset, .unset, .unset, .unset, .unset]) (hb hby at_95) rfl (pc' := 97) rfl ?_
      refine ow_iloadN X5 hx (hb hby at_97) rfl (pc' := 98) rfl ?_
      refine ow_ifY X5 hx (hb hby at_98) (by decide) (by decide) (pc' := 114) (by decide) ?_
      refine ow_iloadN X5 hx (hb hby at_114) rfl (pc' := 115) rfl ?_
      refine ow_iloadN X5 hx (hb hby at_115) rfl (pc' := 116) rfl ?_
      refine ow_icmp_ge X5 hx (pb.toInt) (pa.toInt) (hb hby at_116) rfl rfl (by decide) (pt := 123) (by decide) (pf := 119) rfl (fun c116 => ?_) (fun c116 => ?_)
      · refine ow_iconst X5 hx (z := (0 : Int32)) (hb hby at_123) rfl (pc' := 124) rfl ?_
        refine ow_istore X5 hx (Ls' := #[.val (.int pf), .val (.int pa), .val (.int pb), .val (.int (0 : Int32)), .val (.ref on), .val (.double (FP.i2d pa)), .second, .val (.double (FP.i2d pb)), .second, .val (.int z3), .val (.int z4), .val (.int z5), .val (.int (1 : Int32)), .val (.int (0 : Int32)), .unset, .unset, .unset, .unset, .unset, .unset]) (hb hby at_124) rfl (pc' := 126) rfl ?_
        refine ow_dconst0 X5 hx (hb hby at_126) (pc' := 127) rfl ?_
        refine ow_dstore X5 hx (Ls' := #[.val (.int pf), .val (.int pa), .val (.int pb), .val (.int (0 : Int32)), .val (.ref on), .val (.double (FP.i2d pa)), .second, .val (.double (FP.i2d pb)), .second, .val (.int z3), .val (.int z4), .val (.int z5), .val (.int (1 : Int32)), .val (.int (0 : Int32)), .val (.double FP.dconst0), .second, .unset, .unset, .unset, .unset]) (hb hby at_127) rfl (pc' := 129) rfl ?_
        refine ow_ldc2Double X5 hx hZ hown (hw _ (List.mem_of_getElem? (i := 10) rfl)) (hb hby at_129) (pc' := 132) rfl ?_
        refine ow_dstore X5 hx (Ls' := #[.val (.int pf), .val (.int pa), .val (.int pb), .val (.int (0 : Int32)), .val (.ref on), .val (.double (FP.i2d pa)), .second, .val (.double (FP.i2d pb)), .second, .val (.int z3), .val (.int z4), .val (.int z5), .val (.int (1 : Int32)), .val (.int (0 : Int32)), .val (.double FP.dconst0), .second, .val (.double (9223372036854775808 : UInt64)), .second, .unset, .unset]) (hb hby at_132) rfl (pc' := 134) rfl ?_
        refine ow_aload X5 hx (hb hby at_134) rfl rfl (pc' := 136) rfl ?_
        refine ow_dload X5 hx (hb hby at_136) rfl (pc' := 138) rfl ?_
        refine ow_dload X5 hx (hb hby at_138) rfl (pc' := 140) rfl ?_
        refine ow_callVPI X5 hx hZ rfl hown (hw _ (List.mem_of_getElem? (i := 3) rfl)) (hw _ (List.mem_of_getElem? (i := 4) rfl)) (hw _ (List.mem_of_getElem? (i := 6) rfl)) (hw _ (List.mem_of_getElem? (i := 5) rfl)) (hw _ (List.mem_of_getElem? (i := 1) rfl)) (hw _ (List.mem_of_getElem? (i := 7) rfl)) (by decide) (rm_prefMin l Z a0 hw [] on FP.dconst0 (9223372036854775808 : UInt64) om h0 S_max ne_on_om) e5 0 (by decide) (by decide) (by decide) (by decide) [(.double FP.dconst0), (.double (9223372036854775808 : UInt64))] (by rw [hml]; rfl) pd_0 rfl E_on rfl rfl (Nat.le_of_eq rfl) (hb hby at_140) (pc' := 143) rfl (fun z10 T10 hz10 X10 e10 => ?_)
        have az10 : ((cmpValue (FP.dcmp FP.dconst0 (9223372036854775808 : UInt64)) .g).toInt < 0 ∧ z10.toInt = 1) ∨ (¬ (cmpValue (FP.dcmp FP.dconst0 (9223372036854775808 : UInt64)) .g).toInt < 0 ∧ z10.toInt = 0) := hz10
        have rz10 := rng32 z10
        refine ow_istore X10 hx (Ls' := #[.val (.int pf), .val (.int pa), .val (.int pb), .val (.int (0 : Int32)), .val (.ref on), .val (.double (FP.i2d pa)), .second, .val (.double (FP.i2d pb)), .second, .val (.int z3), .val (.int z4), .val (.int z5), .val (.int (1 : Int32)), .val (.int (0 : Int32)), .val (.double FP.dconst0), .second, .val (.double (9223372036854775808 : UInt64)), .second, .val (.int z10), .unset]) (hb hby at_143) rfl (pc' := 145) rfl ?_
        refine ow_aload X10 hx (hb hby at_145) rfl rfl (pc' := 147) rfl ?_
        refine ow_dload X10 hx (hb hby at_147) rfl (pc' := 149) rfl ?_
        refine ow_dload X10 hx (hb hby at_149) rfl (pc' := 151) rfl ?_
        refine ow_callVPI X10 hx hZ rfl hown (hw _ (List.mem_of_getElem? (i := 3) rfl)) (hw _ (List.mem_of_getElem? (i := 4) rfl)) (hw _ (List.mem_of_getElem? (i := 6) rfl)) (hw _ (List.mem_of_getElem? (i := 5) rfl)) (hw _ (List.mem_of_getElem? (i := 1) rfl)) (hw _ (List.mem_of_getElem? (i := 7) rfl)) (by decide) (rm_prefMin l Z a0 hw [] on (9223372036854775808 : UInt64) FP.dconst0 om h0 S_max ne_on_om) e10 0 (by decide) (by decide) (by decide) (by decide) [(.double (9223372036854775808 : UInt64)), (.double FP.dconst0)] (by rw [hml]; rfl) pd_0 rfl E_on rfl rfl (Nat.le_of_eq rfl) (hb hby at_151) (pc' := 154) rfl (fun z11 T11 hz11 X11 e11 => ?_)
        have az11 : ((cmpValue (FP.dcmp (9223372036854775808 : UInt64) FP.dconst0) .g).toInt < 0 ∧ z11.toInt = 1) ∨ (¬ (cmpValue (FP.dcmp (9223372036854775808 : UInt64) FP.dconst0) .g).toInt < 0 ∧ z11.toInt = 0) := hz11
        have rz11 := rng32 z11
        refine ow_istore X11 hx (Ls' := #[.val (.int pf), .val (.int pa), .val (.int pb), .val (.int (0 : Int32)), .val (.ref on), .val (.double (FP.i2d pa)), .second, .val (.double (FP.i2d pb)), .second, .val (.int z3), .val (.int z4), .val (.int z5), .val (.int (1 : Int32)), .val (.int (0 : Int32)), .val (.double FP.dconst0), .second, .val (.double (9223372036854775808 : UInt64)), .second, .val (.int z10), .val (.int z11)]) (hb hby at_154) rfl (pc' := 156) rfl ?_
        refine ow_iload X11 hx (hb hby at_156) rfl (pc' := 158) rfl ?_
        refine ow_iload X11 hx (hb hby at_158) rfl (pc' := 160) rfl ?_
        refine ow_icmp_ne X11 hx (z3.toInt) ((1 : Int)) (hb hby at_160) rfl rfl (by decide) (pt := 189) (by decide) (pf := 163) rfl (fun c160 => ?_) (fun c160 => ?_)
        · refine ow_iconst X11 hx (z := (0 : Int32)) (hb hby at_189) rfl (pc' := 190) rfl ?_
          exact absurd (show False from by omega) id
        · refine ow_iload X11 hx (hb hby at_163) rfl (pc' := 165) rfl ?_
          refine ow_iload X11 hx (hb hby at_165) rfl (pc' := 167) rfl ?_
          refine ow_icmp_ne X11 hx (z4.toInt) ((0 : Int)) (hb hby at_167) rfl rfl (by decide) (pt := 189) (by decide) (pf := 170) rfl (fun c167 => ?_) (fun c167 => ?_)
          · refine ow_iconst X11 hx (z := (0 : Int32)) (hb hby at_189) rfl (pc' := 190) rfl ?_
            exact absurd (show False from by omega) id
          · refine ow_iload X11 hx (hb hby at_170) rfl (pc' := 172) rfl ?_
            refine ow_if_ne X11 hx (z5.toInt) (hb hby at_172) rfl (by decide) (pt := 189) (by decide) (pf := 175) rfl (fun c172 => ?_) (fun c172 => ?_)
            · refine ow_iconst X11 hx (z := (0 : Int32)) (hb hby at_189) rfl (pc' := 190) rfl ?_
              exact absurd (show False from by omega) id
            · refine ow_iload X11 hx (hb hby at_175) rfl (pc' := 177) rfl ?_
              refine ow_if_ne X11 hx (z10.toInt) (hb hby at_177) rfl (by decide) (pt := 189) (by decide) (pf := 180) rfl (fun c177 => ?_) (fun c177 => ?_)
              · refine ow_iconst X11 hx (z := (0 : Int32)) (hb hby at_189) rfl (pc' := 190) rfl ?_
                exact absurd (show False from by omega) id
              · refine ow_iload X11 hx (hb hby at_180) rfl (pc' := 182) rfl ?_
                refine ow_if_ne X11 hx (z11.toInt) (hb hby at_182) rfl (by decide) (pt := 189) (by decide) (pf := 185) rfl (fun c182 => ?_) (fun c182 => ?_)
                · refine ow_iconst X11 hx (z := (0 : Int32)) (hb hby at_189) rfl (pc' := 190) rfl ?_
                  exact absurd (show False from by omega) id
                · refine ow_iconst X11 hx (z := (1 : Int32)) (hb hby at_185) rfl (pc' := 186) rfl ?_
                  refine ow_goto X11 hx (hb hby at_186) (by decide) (pc' := 190) (by decide) ?_
                  exact ow_retB X11 hx hret hlk (hb hby at_190) (by decide) (by decide) (z' := (1 : Int32)) rfl ⟨rfl, N0⟩
      · refine ow_iconst X5 hx (z := (1 : Int32)) (hb hby at_119) rfl (pc' := 120) rfl ?_
        refine ow_goto X5 hx (hb hby at_120) (by decide) (pc' := 124) (by decide) ?_
        refine ow_istore X5 hx (Ls' := #[.val (.int pf), .val (.int pa), .val (.int pb), .val (.int (0 : Int32)), .val (.ref on), .val (.double (FP.i2d pa)), .second, .val (.double (FP.i2d pb)), .second, .val (.int z3), .val (.int z4), .val (.int z5), .val (.int (1 : Int32)), .val (.int (1 : Int32)), .unset, .unset, .unset, .unset, .unset, .unset]) (hb hby at_124) rfl (pc' := 126) rfl ?_
        refine ow_dconst0 X5 hx (hb hby at_126) (pc' := 127) rfl ?_
        refine ow_dstore X5 hx (Ls' := #[.val (.int pf), .val (.int pa), .val (.int pb), .val (.int (0 : Int32)), .val (.ref on), .val (.double (FP.i2d pa)), .second, .val (.double (FP.i2d pb)), .second, .val (.int z3), .val (.int z4), .val (.int z5), .val (.int (1 : Int32)), .val (.int (1 : Int32)), .val (.double FP.dconst0), .second, .unset, .unset, .unset, .unset]) (hb hby at_127) rfl (pc' := 129) rfl ?_
        refine ow_ldc2Double X5 hx hZ hown (hw _ (List.mem_of_getElem? (i := 10) rfl)) (hb hby at_129) (pc' := 132) rfl ?_
        refine ow_dstore X5 hx (Ls' := #[.val (.int pf), .val (.int pa), .val (.int pb), .val (.int (0 : Int32)), .val (.ref on), .val (.double (FP.i2d pa)), .second, .val (.double (FP.i2d pb)), .second, .val (.int z3), .val (.int z4), .val (.int z5), .val (.int (1 : Int32)), .val (.int (1 : Int32)), .val (.double FP.dconst0), .second, .val (.double (9223372036854775808 : UInt64)), .second, .unset, .unset]) (hb hby at_132) rfl (pc' := 134) rfl ?_
        refine ow_aload X5 hx (hb hby at_134) rfl rfl (pc' := 136) rfl ?_
        refine ow_dload X5 hx (hb hby at_136) rfl (pc' := 138) rfl ?_
        refine ow_dload X5 hx (hb hby at_138) rfl (pc' := 140) rfl ?_
        refine ow_callVPI X5 hx hZ rfl hown (hw _ (List.mem_of_getElem? (i := 3) rfl)) (hw _ (List.mem_of_getElem? (i := 4) rfl)) (hw _ (List.mem_of_getElem? (i := 6) rfl)) (hw _ (List.mem_of_getElem? (i := 5) rfl)) (hw _ (List.mem_of_getElem? (i := 1) rfl)) (hw _ (List.mem_of_getElem? (i := 7) rfl)) (by decide) (rm_prefMin l Z a0 hw [] on FP.dconst0 (9223372036854775808 : UInt64) om h0 S_max ne_on_om) e5 0 (by decide) (by decide) (by decide) (by decide) [(.double FP.dconst0), (.double (9223372036854775808 : UInt64))] (by rw [hml]; rfl) pd_0 rfl E_on rfl rfl (Nat.le_of_eq rfl) (hb hby at_140) (pc' := 143) rfl (fun z12 T12 hz12 X12 e12 => ?_)
        have az12 : ((cmpValue (FP.dcmp FP.dconst0 (9223372036854775808 : UInt64)) .g).toInt < 0 ∧ z12.toInt = 1) ∨ (¬ (cmpValue (FP.dcmp FP.dconst0 (9223372036854775808 : UInt64)) .g).toInt < 0 ∧ z12.toInt = 0) := hz12
        have rz12 := rng32 z12
        refine ow_istore X12 hx (Ls' := #[.val (.int pf), .val (.int pa), .val (.int pb), .val (.int (0 : Int32)), .val (.ref on), .val (.double (FP.i2d pa)), .second, .val (.double (FP.i2d pb)), .second, .val (.int z3), .val (.int z4), .val (.int z5), .val (.int (1 : Int32)), .val (.int (1 : Int32)), .val (.double FP.dconst0), .second, .val (.double (9223372036854775808 : UInt64)), .second, .val (.int z12), .unset]) (hb hby at_143) rfl (pc' := 145) rfl ?_
        refine ow_aload X12 hx (hb hby at_145) rfl rfl (pc' := 147) rfl ?_
        refine ow_dload X12 hx (hb hby at_147) rfl (pc' := 149) rfl ?_
        refine ow_dload X12 hx (hb hby at_149) rfl (pc' := 151) rfl ?_
        refine ow_callVPI X12 hx hZ rfl hown (hw _ (List.mem_of_getElem? (i := 3) rfl)) (hw _ (List.mem_of_getElem? (i := 4) rfl)) (hw _ (List.mem_of_getElem? (i := 6) rfl)) (hw _ (List.mem_of_getElem? (i := 5) rfl)) (hw _ (List.mem_of_getElem? (i := 1) rfl)) (hw _ (List.mem_of_getElem? (i := 7) rfl)) (by decide) (rm_prefMin l Z a0 hw [] on (9223372036854775808 : UInt64) FP.dconst0 om h0 S_max ne_on_om) e12 0 (by decide) (by decide) (by decide) (by decide) [(.double (9223372036854775808 : UInt64)), (.double FP.dconst0)] (by rw [hml]; rfl) pd_0 rfl E_on rfl rfl (Nat.le_of_eq rfl) (hb hby at_151) (pc' := 154) rfl (fun z13 T13 hz13 X13 e13 => ?_)
        have az13 : ((cmpValue (FP.dcmp (9223372036854775808 : UInt64) FP.dconst0) .g).toInt < 0 ∧ z13.toInt = 1) ∨ (¬ (cmpValue (FP.dcmp (9223372036854775808 : UInt64) FP.dconst0) .g).toInt < 0 ∧ z13.toInt = 0) := hz13
        have rz13 := rng32 z13
        refine ow_istore X13 hx (Ls' := #[.val (.int pf), .val (.int pa), .val (.int pb), .val (.int (0 : Int32)), .val (.ref on), .val (.double (FP.i2d pa)), .second, .val (.double (FP.i2d pb)), .second, .val (.int z3), .val (.int z4), .val (.int z5), .val (.int (1 : Int32)), .val (.int (1 : Int32)), .val (.double FP.dconst0), .second, .val (.double (9223372036854775808 : UInt64)), .second, .val (.int z12), .val (.int z13)]) (hb hby at_154) rfl (pc' := 156) rfl ?_
        refine ow_iload X13 hx (hb hby at_156) rfl (pc' := 158) rfl ?_
        refine ow_iload X13 hx (hb hby at_158) rfl (pc' := 160) rfl ?_
        refine ow_icmp_ne X13 hx (z3.toInt) ((1 : Int)) (hb hby at_160) rfl rfl (by decide) (pt := 189) (by decide) (pf := 163) rfl (fun c160 => ?_) (fun c160 => ?_)
        · refine ow_iconst X13 hx (z := (0 : Int32)) (hb hby at_189) rfl (pc' := 190) rfl ?_
          exact absurd (show False from by omega) id
        · refine ow_iload X13 hx (hb hby at_163) rfl (pc' := 165) rfl ?_
          refine ow_iload X13 hx (hb hby at_165) rfl (pc' := 167) rfl ?_
          refine ow_icmp_ne X13 hx (z4.toInt) ((1 : Int)) (hb hby at_167) rfl rfl (by decide) (pt := 189) (by decide) (pf := 170) rfl (fun c167 => ?_) (fun c167 => ?_)
          · refine ow_iconst X13 hx (z := (0 : Int32)) (hb hby at_189) rfl (pc' := 190) rfl ?_
            exact absurd (show False from by omega) id
          · refine ow_iload X13 hx (hb hby at_170) rfl (pc' := 172) rfl ?_
            refine ow_if_ne X13 hx (z5.toInt) (hb hby at_172) rfl (by decide) (pt := 189) (by decide) (pf := 175) rfl (fun c172 => ?_) (fun c172 => ?_)
            · refine ow_iconst X13 hx (z := (0 : Int32)) (hb hby at_189) rfl (pc' := 190) rfl ?_
              exact absurd (show False from by omega) id
            · refine ow_iload X13 hx (hb hby at_175) rfl (pc' := 177) rfl ?_
              refine ow_if_ne X13 hx (z12.toInt) (hb hby at_177) rfl (by decide) (pt := 189) (by decide) (pf := 180) rfl (fun c177 => ?_) (fun c177 => ?_)
              · refine ow_iconst X13 hx (z := (0 : Int32)) (hb hby at_189) rfl (pc' := 190) rfl ?_
                exact absurd (show False from by omega) id
              · refine ow_iload X13 hx (hb hby at_180) rfl (pc' := 182) rfl ?_
                refine ow_if_ne X13 hx (z13.toInt) (hb hby at_182) rfl (by decide) (pt := 189) (by decide) (pf := 185) rfl (fun c182 => ?_) (fun c182 => ?_)
                · refine ow_iconst X13 hx (z := (0 : Int32)) (hb hby at_189) rfl (pc' := 190) rfl ?_
                  exact absurd (show False from by omega) id
                · refine ow_iconst X13 hx (z := (1 : Int32)) (hb hby at_185) rfl (pc' := 186) rfl ?_
                  refine ow_goto X13 hx (hb hby at_186) (by decide) (pc' := 190) (by decide) ?_
                  exact ow_retB X13 hx hret hlk (hb hby at_190) (by decide) (by decide) (z' := (1 : Int32)) rfl ⟨rfl, N0⟩
  · refine ow_iconst X0 hx (z := (1 : Int32)) (hb hby at_6) rfl (pc' := 7) rfl ?_
    refine ow_goto X0 hx (hb hby at_7) (by decide) (pc' := 11) (by decide) ?_
    refine ow_istoreN X0 hx (Ls' := #[.val (.int pf), .val (.int pa), .val (.int pb), .val (.int (1 : Int32)), .unset, .unset, .unset, .unset, .unset, .unset, .unset, .unset, .unset, .unset, .unset, .unset, .unset, .unset, .unset, .unset]) (hb hby at_11) rfl (pc' := 12) rfl ?_
    refine ow_iloadN X0 hx (hb hby at_12) rfl (pc' := 13) rfl ?_
    refine ow_ifN X0 hx (hb hby at_13) (by decide) (pc' := 16) rfl ?_
    refine ow_getS X0 hx hZ hown (host := "") (Or.inl (hw _ (List.mem_of_getElem? (i := 11) rfl))) Via.refl e0 S_max (hb hby at_16) (pc' := 19) rfl (fun T14 X14 e14 => ?_)
    refine ow_goto X14 hx (hb hby at_19) (by decide) (pc' := 25) (by decide) ?_
    refine ow_astore X14 hx (Ls' := #[.val (.int pf), .val (.int pa), .val (.int pb), .val (.int (1 : Int32)), .val (.ref om), .unset, .unset, .unset, .unset, .unset, .unset, .unset, .unset, .unset, .unset, .unset, .unset, .unset, .unset, .unset]) (hb hby at_25) rfl rfl (pc' := 27) rfl ?_
    refine ow_iloadN X14 hx (hb hby at_27) rfl (pc' := 28) rfl ?_
    refine ow_i2d X14 hx (hb hby at_28) (pc' := 29) rfl ?_
    refine ow_dstore X14 hx (Ls' := #[.val (.int pf), .val (.int pa), .val (.int pb), .val (.int (1 : Int32)), .val (.ref om), .val (.double (FP.i2d pa)), .second, .unset, .unset, .unset, .unset, .unset, .unset, .unset, .unset, .unset, .unset, .unset, .unset, .unset]) (hb hby at_29) rfl (pc' := 31) rfl ?_
    refine ow_iloadN X14 hx (hb hby at_31) rfl (pc' := 32) rfl ?_
    refine ow_i2d X14 hx (hb hby at_32) (pc' := 33) rfl ?_
    refine ow_dstore X14 hx (Ls' := #[.val (.int pf), .val (.int pa), .val (.int pb), .val (.int (1 : Int32)), .val (.ref om), .val (.double (FP.i2d pa)), .second, .val (.double (FP.i2d pb)), .second, .unset, .unset, .unset, .unset, .unset, .unset, .unset, .unset, .unset, .unset, .unset]) (hb hby at_33) rfl (pc' := 35) rfl ?_
    have cm_papbl := ow_i2dcmp pa pb .l
    have cm_papbg := ow_i2dcmp pa pb .g
    have cm_pbpal := ow_i2dcmp pb pa .l
    have cm_pbpag := ow_i2dcmp pb pa .g
    have cm_papal := ow_i2dcmp pa pa .l
    have cm_papag := ow_i2dcmp pa pa .g
    have cz1l : (cmpValue (FP.dcmp FP.dconst0 (9223372036854775808 : UInt64)) .l).toInt = 0 := by decide +kernel
    have cz2l : (cmpValue (FP.dcmp (9223372036854775808 : UInt64) FP.dconst0) .l).toInt = 0 := by decide +kernel
    have cz1g : (cmpValue (FP.dcmp FP.dconst0 (9223372036854775808 : UInt64)) .g).toInt = 0 := by decide +kernel
    have cz2g : (cmpValue (FP.dcmp (9223372036854775808 : UInt64) FP.dconst0) .g).toInt = 0 := by decide +kernel
    refine ow_aload X14 hx (hb hby at_35) rfl rfl (pc' := 37) rfl ?_
    refine ow_dload X14 hx (hb hby at_37) rfl (pc' := 39) rfl ?_
    refine ow_dload X14 hx (hb hby at_39) rfl (pc' := 41) rfl ?_
    refine ow_callVPI X14 hx hZ rfl hown (hw _ (List.mem_of_getElem? (i := 3) rfl)) (hw _ (List.mem_of_getElem? (i := 4) rfl)) (hw _ (List.mem_of_getElem? (i := 6) rfl)) (hw _ (List.mem_of_getElem? (i := 5) rfl)) (hw _ (List.mem_of_getElem? (i := 1) rfl)) (hw _ (List.mem_of_getElem? (i := 7) rfl)) (by decide) (rm_prefMax l Z a0 hw [] om (FP.i2d pa) (FP.i2d pb) h0 S_max) e14 0 (by decide) (by decide) (by decide) (by decide) [(.double (FP.i2d pa)), (.double (FP.i2d pb))] (by rw [hml]; rfl) pd_0 rfl E_om rfl rfl (Nat.le_of_eq rfl) (hb hby at_41) (pc' := 44) rfl (fun z15 T15 hz15 X15 e15 => ?_)
    have az15 : (0 < (cmpValue (FP.dcmp (FP.i2d pa) (FP.i2d pb)) .l).toInt ∧ z15.toInt = 1) ∨ (¬ 0 < (cmpValue (FP.dcmp (FP.i2d pa) (FP.i2d pb)) .l).toInt ∧ z15.toInt = 0) := hz15
    have rz15 := rng32 z15
    refine ow_istore X15 hx (Ls' := #[.val (.int pf), .val (.int pa), .val (.int pb), .val (.int (1 : Int32)), .val (.ref om), .val (.double (FP.i2d pa)), .second, .val (.double (FP.i2d pb)), .second, .val (.int z15), .unset, .unset, .unset, .unset, .unset, .unset, .unset, .unset, .unset, .unset]) (hb hby at_44) rfl (pc' := 46) rfl ?_
    refine ow_aload X15 hx (hb hby at_46) rfl rfl (pc' := 48) rfl ?_
    refine ow_dload X15 hx (hb hby at_48) rfl (pc' := 50) rfl ?_
    refine ow_dload X15 hx (hb hby at_50) rfl (pc' := 52) rfl ?_
    refine ow_callVPI X15 hx hZ rfl hown (hw _ (List.mem_of_getElem? (i := 3) rfl)) (hw _ (List.mem_of_getElem? (i := 4) rfl)) (hw _ (List.mem_of_getElem? (i := 6) rfl)) (hw _ (List.mem_of_getElem? (i := 5) rfl)) (hw _ (List.mem_of_getElem? (i := 1) rfl)) (hw _ (List.mem_of_getElem? (i := 7) rfl)) (by decide) (rm_prefMax l Z a0 hw [] om (FP.i2d pb) (FP.i2d pa) h0 S_max) e15 0 (by decide) (by decide) (by decide) (by decide) [(.double (FP.i2d pb)), (.double (FP.i2d pa))] (by rw [hml]; rfl) pd_0 rfl E_om rfl rfl (Nat.le_of_eq rfl) (hb hby at_52) (pc' := 55) rfl (fun z16 T16 hz16 X16 e16 => ?_)
    have az16 : (0 < (cmpValue (FP.dcmp (FP.i2d pb) (FP.i2d pa)) .l).toInt ∧ z16.toInt = 1) ∨ (¬ 0 < (cmpValue (FP.dcmp (FP.i2d pb) (FP.i2d pa)) .l).toInt ∧ z16.toInt = 0) := hz16
    have rz16 := rng32 z16
    refine ow_istore X16 hx (Ls' := #[.val (.int pf), .val (.int pa), .val (.int pb), .val (.int (1 : Int32)), .val (.ref om), .val (.double (FP.i2d pa)), .second, .val (.double (FP.i2d pb)), .second, .val (.int z15), .val (.int z16), .unset, .unset, .unset, .unset, .unset, .unset, .unset, .unset, .unset]) (hb hby at_55) rfl (pc' := 57) rfl ?_
    refine ow_aload X16 hx (hb hby at_57) rfl rfl (pc' := 59) rfl ?_
    refine ow_dload X16 hx (hb hby at_59) rfl (pc' := 61) rfl ?_
    refine ow_dload X16 hx (hb hby at_61) rfl (pc' := 63) rfl ?_
    refine ow_callVPI X16 hx hZ rfl hown (hw _ (List.mem_of_getElem? (i := 3) rfl)) (hw _ (List.mem_of_getElem? (i := 4) rfl)) (hw _ (List.mem_of_getElem? (i := 6) rfl)) (hw _ (List.mem_of_getElem? (i := 5) rfl)) (hw _ (List.mem_of_getElem? (i := 1) rfl)) (hw _ (List.mem_of_getElem? (i := 7) rfl)) (by decide) (rm_prefMax l Z a0 hw [] om (FP.i2d pa) (FP.i2d pa) h0 S_max) e16 0 (by decide) (by decide) (by decide) (by decide) [(.double (FP.i2d pa)), (.double (FP.i2d pa))] (by rw [hml]; rfl) pd_0 rfl E_om rfl rfl (Nat.le_of_eq rfl) (hb hby at_63) (pc' := 66) rfl (fun z17 T17 hz17 X17 e17 => ?_)
    have az17 : (0 < (cmpValue (FP.dcmp (FP.i2d pa) (FP.i2d pa)) .l).toInt ∧ z17.toInt = 1) ∨ (¬ 0 < (cmpValue (FP.dcmp (FP.i2d pa) (FP.i2d pa)) .l).toInt ∧ z17.toInt = 0) := hz17
    have rz17 := rng32 z17
    refine ow_istore X17 hx (Ls' := #[.val (.int pf), .val (.int pa), .val (.int pb), .val (.int (1 : Int32)), .val (.ref om), .val (.double (FP.i2d pa)), .second, .val (.double (FP.i2d pb)), .second, .val (.int z15), .val (.int z16), .val (.int z17), .unset, .unset, .unset, .unset, .unset, .unset, .unset, .unset]) (hb hby at_66) rfl (pc' := 68) rfl ?_
    refine ow_iloadN X17 hx (hb hby at_68) rfl (pc' := 69) rfl ?_
    refine ow_ifN X17 hx (hb hby at_69) (by decide) (pc' := 72) rfl ?_
    refine ow_iloadN X17 hx (hb hby at_72) rfl (pc' := 73) rfl ?_
    refine ow_iloadN X17 hx (hb hby at_73) rfl (pc' := 74) rfl ?_
    refine ow_icmp_le X17 hx (pa.toInt) (pb.toInt) (hb hby at_74) rfl rfl (by decide) (pt := 81) (by decide) (pf := 77) rfl (fun c74 => ?_) (fun c74 => ?_)
    · refine ow_iconst X17 hx (z := (0 : Int32)) (hb hby at_81) rfl (pc' := 82) rfl ?_
      refine ow_goto X17 hx (hb hby at_82) (by decide) (pc' := 95) (by decide) ?_
      refine ow_istore X17 hx (Ls' := #[.val (.int pf), .val (.int pa), .val (.int pb), .val (.int (1 : Int32)), .val (.ref om), .val (.double (FP.i2d pa)), .second, .val (.double (FP.i2d pb)), .second, .val (.int z15), .val (.int z16), .val (.int z17), .val (.int (0 : Int32)), .unset, .unset, .unset, .unset, .unset, .unset, .unset]) (hb hby at_95) rfl (pc' := 97) rfl ?_
      refine ow_iloadN X17 hx (hb hby at_97) rfl (pc' := 98) rfl ?_
      refine ow_ifN X17 hx (hb hby at_98) (by decide) (pc' := 101) rfl ?_
      refine ow_iloadN X17 hx (hb hby at_101) rfl (pc' := 102) rfl ?_
      refine ow_iloadN X17 hx (hb hby at_102) rfl (pc' := 103) rfl ?_
      refine ow_icmp_le X17 hx (pb.toInt) (pa.toInt) (hb hby at_103) rfl rfl (by decide) (pt := 110) (by decide) (pf := 106) rfl (fun c103 => ?_) (fun c103 => ?_)
      · refine ow_iconst X17 hx (z := (0 : Int32)) (hb hby at_110) rfl (pc' := 111) rfl ?_
        refine ow_goto X17 hx (hb hby at_111) (by decide) (pc' := 124) (by decide) ?_
        refine ow_istore X17 hx (Ls' := #[.val (.int pf), .val (.int pa), .val (.int pb), .val (.int (1 : Int32)), .val (.ref om), .val (.double (FP.i2d pa)), .second, .val (.double (FP.i2d pb)), .second, .val (.int z15), .val (.int z16), .val (.int z17), .val (.int (0 : Int32)), .val (.int (0 : Int32)), .unset, .unset, .unset, .unset, .unset, .unset]) (hb hby at_124) rfl (pc' := 126) rfl ?_
        refine ow_dconst0 X17 hx (hb hby at_126) (pc' := 127) rfl ?_
        refine ow_dstore X17 hx (Ls' := #[.val (.int pf), .val (.int pa), .val (.int pb), .val (.int (1 : Int32)), .val (.ref om), .val (.double (FP.i2d pa)), .second, .val (.double (FP.i2d pb)), .second, .val (.int z15), .val (.int z16), .val (.int z17), .val (.int (0 : Int32)), .val (.int (0 : Int32)), .val (.double FP.dconst0), .second, .unset, .unset, .unset, .unset]) (hb hby at_127) rfl (pc' := 129) rfl ?_
        refine ow_ldc2Double X17 hx hZ hown (hw _ (List.mem_of_getElem? (i := 10) rfl)) (hb hby at_129) (pc' := 132) rfl ?_
        refine ow_dstore X17 hx (Ls' := #[.val (.int pf), .val (.int pa), .val (.int pb), .val (.int (1 : Int32)), .val (.ref om), .val (.double (FP.i2d pa)), .second, .val (.double (FP.i2d pb)), .second, .val (.int z15), .val (.int z16), .val (.int z17), .val (.int (0 : Int32)), .val (.int (0 : Int32)), .val (.double FP.dconst0), .second, .val (.double (9223372036854775808 : UInt64)), .second, .unset, .unset]) (hb hby at_132) rfl (pc' := 134) rfl ?_
        refine ow_aload X17 hx (hb hby at_134) rfl rfl (pc' := 136) rfl ?_
        refine ow_dload X17 hx (hb hby at_136) rfl (pc' := 138) rfl ?_
        refine ow_dload X17 hx (hb hby at_138) rfl (pc' := 140) rfl ?_
        refine ow_callVPI X17 hx hZ rfl hown (hw _ (List.mem_of_getElem? (i := 3) rfl)) (hw _ (List.mem_of_getElem? (i := 4) rfl)) (hw _ (List.mem_of_getElem? (i := 6) rfl)) (hw _ (List.mem_of_getElem? (i := 5) rfl)) (hw _ (List.mem_of_getElem? (i := 1) rfl)) (hw _ (List.mem_of_getElem? (i := 7) rfl)) (by decide) (rm_prefMax l Z a0 hw [] om FP.dconst0 (9223372036854775808 : UInt64) h0 S_max) e17 0 (by decide) (by decide) (by decide) (by decide) [(.double FP.dconst0), (.double (9223372036854775808 : UInt64))] (by rw [hml]; rfl) pd_0 rfl E_om rfl rfl (Nat.le_of_eq rfl) (hb hby at_140) (pc' := 143) rfl (fun z18 T18 hz18 X18 e18 => ?_)
        have az18 : (0 < (cmpValue (FP.dcmp FP.dconst0 (9223372036854775808 : UInt64)) .l).toInt ∧ z18.toInt = 1) ∨ (¬ 0 < (cmpValue (FP.dcmp FP.dconst0 (9223372036854775808 : UInt64)) .l).toInt ∧ z18.toInt = 0) := hz18
        have rz18 := rng32 z18
        refine ow_istore X18 hx (Ls' := #[.val (.int pf), .val (.int pa), .val (.int pb), .val (.int (1 : Int32)), .val (.ref om), .val (.double (FP.i2d pa)), .second, .val (.double (FP.i2d pb)), .second, .val (.int z15), .val (.int z16), .val (.int z17), .val (.int (0 : Int32)), .val (.int (0 : Int32)), .val (.double FP.dconst0), .second, .val (.double (9223372036854775808 : UInt64)), .second, .val (.int z18), .unset]) (hb hby at_143) rfl (pc' := 145) rfl ?_
        refine ow_aload X18 hx (hb hby at_145) rfl rfl (pc' := 147) rfl ?_
        refine ow_dload X18 hx (hb hby at_147) rfl (pc' := 149) rfl ?_
        refine ow_dload X18 hx (hb hby at_149) rfl (pc' := 151) rfl ?_
        refine ow_callVPI X18 hx hZ rfl hown (hw _ (List.mem_of_getElem? (i := 3) rfl)) (hw _ (List.mem_of_getElem? (i := 4) rfl)) (hw _ (List.mem_of_getElem? (i := 6) rfl)) (hw _ (List.mem_of_getElem? (i := 5) rfl)) (hw _ (List.mem_of_getElem? (i := 1) rfl)) (hw _ (List.mem_of_getElem? (i := 7) rfl)) (by decide) (rm_prefMax l Z a0 hw [] om (9223372036854775808 : UInt64) FP.dconst0 h0 S_max) e18 0 (by decide) (by decide) (by decide) (by decide) [(.double (9223372036854775808 : UInt64)), (.double FP.dconst0)] (by rw [hml]; rfl) pd_0 rfl E_om rfl rfl (Nat.le_of_eq rfl) (hb hby at_151) (pc' := 154) rfl (fun z19 T19 hz19 X19 e19 => ?_)
        have az19 : (0 < (cmpValue (FP.dcmp (9223372036854775808 : UInt64) FP.dconst0) .l).toInt ∧ z19.toInt = 1) ∨ (¬ 0 < (cmpValue (FP.dcmp (9223372036854775808 : UInt64) FP.dconst0) .l).toInt ∧ z19.toInt = 0) := hz19
        have rz19 := rng32 z19
        refine ow_istore X19 hx (Ls' := #[.val (.int pf), .val (.int pa), .val (.int pb), .val (.int (1 : Int32)), .val (.ref om), .val (.double (FP.i2d pa)), .second, .val (.double (FP.i2d pb)), .second, .val (.int z15), .val (.int z16), .val (.int z17), .val (.int (0 : Int32)), .val (.int (0 : Int32)), .val (.double FP.dconst0), .second, .val (.double (9223372036854775808 : UInt64)), .second, .val (.int z18), .val (.int z19)]) (hb hby at_154) rfl (pc' := 156) rfl ?_
        refine ow_iload X19 hx (hb hby at_156) rfl (pc' := 158) rfl ?_
        refine ow_iload X19 hx (hb hby at_158) rfl (pc' := 160) rfl ?_
        refine ow_icmp_ne X19 hx (z15.toInt) ((0 : Int)) (hb hby at_160) rfl rfl (by decide) (pt := 189) (by decide) (pf := 163) rfl (fun c160 => ?_) (fun c160 => ?_)
        · refine ow_iconst X19 hx (z := (0 : Int32)) (hb hby at_189) rfl (pc' := 190) rfl ?_
          exact absurd (show False from by omega) id
        · refine ow_iload X19 hx (hb hby at_163) rfl (pc' := 165) rfl ?_
          refine ow_iload X19 hx (hb hby at_165) rfl (pc' := 167) rfl ?_
          refine ow_icmp_ne X19 hx (z16.toInt) ((0 : Int)) (hb hby at_167) rfl rfl (by decide) (pt := 189) (by decide) (pf := 170) rfl (fun c167 => ?_) (fun c167 => ?_)
          · refine ow_iconst X19 hx (z := (0 : Int32)) (hb hby at_189) rfl (pc' := 190) rfl ?_
            exact absurd (show False from by omega) id
          · refine ow_iload X19 hx (hb hby at_170) rfl (pc' := 172) rfl ?_
            refine ow_if_ne X19 hx (z17.toInt) (hb hby at_172) rfl (by decide) (pt := 189) (by decide) (pf := 175) rfl (fun c172 => ?_) (fun c172 => ?_)
            · refine ow_iconst X19 hx (z := (0 : Int32)) (hb hby at_189) rfl (pc' := 190) rfl ?_
              exact absurd (show False from by omega) id
            · refine ow_iload X19 hx (hb hby at_175) rfl (pc' := 177) rfl ?_
              refine ow_if_ne X19 hx (z18.toInt) (hb hby at_177) rfl (by decide) (pt := 189) (by decide) (pf := 180) rfl (fun c177 => ?_) (fun c177 => ?_)
              · refine ow_iconst X19 hx (z := (0 : Int32)) (hb hby at_189) rfl (pc' := 190) rfl ?_
                exact absurd (show False from by omega) id
              · refine ow_iload X19 hx (hb hby at_180) rfl (pc' := 182) rfl ?_
                refine ow_if_ne X19 hx (z19.toInt) (hb hby at_182) rfl (by decide) (pt := 189) (by decide) (pf := 185) rfl (fun c182 => ?_) (fun c182 => ?_)
                · refine ow_iconst X19 hx (z := (0 : Int32)) (hb hby at_189) rfl (pc' := 190) rfl ?_
                  exact absurd (show False from by omega) id
                · refine ow_iconst X19 hx (z := (1 : Int32)) (hb hby at_185) rfl (pc' := 186) rfl ?_
                  refine ow_goto X19 hx (hb hby at_186) (by decide) (pc' := 190) (by decide) ?_
                  exact ow_retB X19 hx hret hlk (hb hby at_190) (by decide) (by decide) (z' := (1 : Int32)) rfl ⟨rfl, N0⟩
      · refine ow_iconst X17 hx (z := (1 : Int32)) (hb hby at_106) rfl (pc' := 107) rfl ?_
        refine ow_goto X17 hx (hb hby at_107) (by decide) (pc' := 124) (by decide) ?_
        refine ow_istore X17 hx (Ls' := #[.val (.int pf), .val (.int pa), .val (.int pb), .val (.int (1 : Int32)), .val (.ref om), .val (.double (FP.i2d pa)), .second, .val (.double (FP.i2d pb)), .second, .val (.int z15), .val (.int z16), .val (.int z17), .val (.int (0 : Int32)), .val (.int (1 : Int32)), .unset, .unset, .unset, .unset, .unset, .unset]) (hb hby at_124) rfl (pc' := 126) rfl ?_
        refine ow_dconst0 X17 hx (hb hby at_126) (pc' := 127) rfl ?_
        refine ow_dstore X17 hx (Ls' := #[.val (.int pf), .val (.int pa), .val (.int pb), .val (.int (1 : Int32)), .val (.ref om), .val (.double (FP.i2d pa)), .second, .val (.double (FP.i2d pb)), .second, .val (.int z15), .val (.int z16), .val (.int z17), .val (.int (0 : Int32)), .val (.int (1 : Int32)), .val (.double FP.dconst0), .second, .unset, .unset, .unset, .unset]) (hb hby at_127) rfl (pc' := 129) rfl ?_
        refine ow_ldc2Double X17 hx hZ hown (hw _ (List.mem_of_getElem? (i := 10) rfl)) (hb hby at_129) (pc' := 132) rfl ?_
        refine ow_dstore X17 hx (Ls' := #[.val (.int pf), .val (.int pa), .val (.int pb), .val (.int (1 : Int32)), .val (.ref om), .val (.double (FP.i2d pa)), .second, .val (.double (FP.i2d pb)), .second, .val (.int z15), .val (.int z16), .val (.int z17), .val (.int (0 : Int32)), .val (.int (1 : Int32)), .val (.double FP.dconst0), .second, .val (.double (9223372036854775808 : UInt64)), .second, .unset, .unset]) (hb hby at_132) rfl (pc' := 134) rfl ?_
        refine ow_aload X17 hx (hb hby at_134) rfl rfl (pc' := 136) rfl ?_
        refine ow_dload X17 hx (hb hby at_136) rfl (pc' := 138) rfl ?_
        refine ow_dload X17 hx (hb hby at_138) rfl (pc' := 140) rfl ?_
        refine ow_callVPI X17 hx hZ rfl hown (hw _ (List.mem_of_getElem? (i := 3) rfl)) (hw _ (List.mem_of_getElem? (i := 4) rfl)) (hw _ (List.mem_of_getElem? (i := 6) rfl)) (hw _ (List.mem_of_getElem? (i := 5) rfl)) (hw _ (List.mem_of_getElem? (i := 1) rfl)) (hw _ (List.mem_of_getElem? (i := 7) rfl)) (by decide) (rm_prefMax l Z a0 hw [] om FP.dconst0 (9223372036854775808 : UInt64) h0 S_max) e17 0 (by decide) (by decide) (by decide) (by decide) [(.double FP.dconst0), (.double (9223372036854775808 : UInt64))] (by rw [hml]; rfl) pd_0 rfl E_om rfl rfl (Nat.le_of_eq rfl) (hb hby at_140) (pc' := 143) rfl (fun z20 T20 hz20 X20 e20 => ?_)
        have az20 : (0 < (cmpValue (FP.dcmp FP.dconst0 (9223372036854775808 : UInt64)) .l).toInt ∧ z20.toInt = 1) ∨ (¬ 0 < (cmpValue (FP.dcmp FP.dconst0 (9223372036854775808 : UInt64)) .l).toInt ∧ z20.toInt = 0) := hz20
        have rz20 := rng32 z20
        refine ow_istore X20 hx (Ls' := #[.val (.int pf), .val (.int pa), .val (.int pb), .val (.int (1 : Int32)), .val (.ref om), .val (.double (FP.i2d pa)), .second, .val (.double (FP.i2d pb)), .second, .val (.int z15), .val (.int z16), .val (.int z17), .val (.int (0 : Int32)), .val (.int (1 : Int32)), .val (.double FP.dconst0), .second, .val (.double (9223372036854775808 : UInt64)), .second, .val (.int z20), .unset]) (hb hby at_143) rfl (pc' := 145) rfl ?_
        refine ow_aload X20 hx (hb hby at_145) rfl rfl (pc' := 147) rfl ?_
        refine ow_dload X20 hx (hb hby at_147) rfl (pc' := 149) rfl ?_
        refine ow_dload X20 hx (hb hby at_149) rfl (pc' := 151) rfl ?_
        refine ow_callVPI X20 hx hZ rfl hown (hw _ (List.mem_of_getElem? (i := 3) rfl)) (hw _ (List.mem_of_getElem? (i := 4) rfl)) (hw _ (List.mem_of_getElem? (i := 6) rfl)) (hw _ (List.mem_of_getElem? (i := 5) rfl)) (hw _ (List.mem_of_getElem? (i := 1) rfl)) (hw _ (List.mem_of_getElem? (i := 7) rfl)) (by decide) (rm_prefMax l Z a0 hw [] om (9223372036854775808 : UInt64) FP.dconst0 h0 S_max) e20 0 (by decide) (by decide) (by decide) (by decide) [(.double (9223372036854775808 : UInt64)), (.double FP.dconst0)] (by rw [hml]; rfl) pd_0 rfl E_om rfl rfl (Nat.le_of_eq rfl) (hb hby at_151) (pc' := 154) rfl (fun z21 T21 hz21 X21 e21 => ?_)
        have az21 : (0 < (cmpValue (FP.dcmp (9223372036854775808 : UInt64) FP.dconst0) .l).toInt ∧ z21.toInt = 1) ∨ (¬ 0 < (cmpValue (FP.dcmp (9223372036854775808 : UInt64) FP.dconst0) .l).toInt ∧ z21.toInt = 0) := hz21
        have rz21 := rng32 z21
        refine ow_istore X21 hx (Ls' := #[.val (.int pf), .val (.int pa), .val (.int pb), .val (.int (1 : Int32)), .val (.ref om), .val (.double (FP.i2d pa)), .second, .val (.double (FP.i2d pb)), .second, .val (.int z15), .val (.int z16), .val (.int z17), .val (.int (0 : Int32)), .val (.int (1 : Int32)), .val (.double FP.dconst0), .second, .val (.double (9223372036854775808 : UInt64)), .second, .val (.int z20), .val (.int z21)]) (hb hby at_154) rfl (pc' := 156) rfl ?_
        refine ow_iload X21 hx (hb hby at_156) rfl (pc' := 158) rfl ?_
        refine ow_iload X21 hx (hb hby at_158) rfl (pc' := 160) rfl ?_
        refine ow_icmp_ne X21 hx (z15.toInt) ((0 : Int)) (hb hby at_160) rfl rfl (by decide) (pt := 189) (by decide) (pf := 163) rfl (fun c160 => ?_) (fun c160 => ?_)
        · refine ow_iconst X21 hx (z := (0 : Int32)) (hb hby at_189) rfl (pc' := 190) rfl ?_
          exact absurd (show False from by omega) id
        · refine ow_iload X21 hx (hb hby at_163) rfl (pc' := 165) rfl ?_
          refine ow_iload X21 hx (hb hby at_165) rfl (pc' := 167) rfl ?_
          refine ow_icmp_ne X21 hx (z16.toInt) ((1 : Int)) (hb hby at_167) rfl rfl (by decide) (pt := 189) (by decide) (pf := 170) rfl (fun c167 => ?_) (fun c167 => ?_)
          · refine ow_iconst X21 hx (z := (0 : Int32)) (hb hby at_189) rfl (pc' := 190) rfl ?_
            exact absurd (show False from by omega) id
          · refine ow_iload X21 hx (hb hby at_170) rfl (pc' := 172) rfl ?_
            refine ow_if_ne X21 hx (z17.toInt) (hb hby at_172) rfl (by decide) (pt := 189) (by decide) (pf := 175) rfl (fun c172 => ?_) (fun c172 => ?_)
            · refine ow_iconst X21 hx (z := (0 : Int32)) (hb hby at_189) rfl (pc' := 190) rfl ?_
              exact absurd (show False from by omega) id
            · refine ow_iload X21 hx (hb hby at_175) rfl (pc' := 177) rfl ?_
              refine ow_if_ne X21 hx (z20.toInt) (hb hby at_177) rfl (by decide) (pt := 189) (by decide) (pf := 180) rfl (fun c177 => ?_) (fun c177 => ?_)
              · refine ow_iconst X21 hx (z := (0 : Int32)) (hb hby at_189) rfl (pc' := 190) rfl ?_
                exact absurd (show False from by omega) id
              · refine ow_iload X21 hx (hb hby at_180) rfl (pc' := 182) rfl ?_
                refine ow_if_ne X21 hx (z21.toInt) (hb hby at_182) rfl (by decide) (pt := 189) (by decide) (pf := 185) rfl (fun c182 => ?_) (fun c182 => ?_)
                · refine ow_iconst X21 hx (z := (0 : Int32)) (hb hby at_189) rfl (pc' := 190) rfl ?_
                  exact absurd (show False from by omega) id
                · refine ow_iconst X21 hx (z := (1 : Int32)) (hb hby at_185) rfl (pc' := 186) rfl ?_
                  refine ow_goto X21 hx (hb hby at_186) (by decide) (pc' := 190) (by decide) ?_
                  exact ow_retB X21 hx hret hlk (hb hby at_190) (by decide) (by decide) (z' := (1 : Int32)) rfl ⟨rfl, N0⟩
    · refine ow_iconst X17 hx (z := (1 : Int32)) (hb hby at_77) rfl (pc' := 78) rfl ?_
      refine ow_goto X17 hx (hb hby at_78) (by decide) (pc' := 95) (by decide) ?_
      refine ow_istore X17 hx (Ls' := #[.val (.int pf), .val (.int pa), .val (.int pb), .val (.int (1 : Int32)), .val (.ref om), .val (.double (FP.i2d pa)), .second, .val (.double (FP.i2d pb)), .second, .val (.int z15), .val (.int z16), .val (.int z17), .val (.int (1 : Int32)), .unset, .unset, .unset, .unset, .unset, .unset, .unset]) (hb hby at_95) rfl (pc' := 97) rfl ?_
      refine ow_iloadN X17 hx (hb hby at_97) rfl (pc' := 98) rfl ?_
      refine ow_ifN X17 hx (hb hby at_98) (by decide) (pc' := 101) rfl ?_
      refine ow_iloadN X17 hx (hb hby at_101) rfl (pc' := 102) rfl ?_
      refine ow_iloadN X17 hx (hb hby at_102) rfl (pc' := 103) rfl ?_
      refine ow_icmp_le X17 hx (pb.toInt) (pa.toInt) (hb hby at_103) rfl rfl (by decide) (pt := 110) (by decide) (pf := 106) rfl (fun c103 => ?_) (fun c103 => ?_)
      · refine ow_iconst X17 hx (z := (0 : Int32)) (hb hby at_110) rfl (pc' := 111) rfl ?_
        refine ow_goto X17 hx (hb hby at_111) (by decide) (pc' := 124) (by decide) ?_
        refine ow_istore X17 hx (Ls' := #[.val (.int pf), .val (.int pa), .val (.int pb), .val (.int (1 : Int32)), .val (.ref om), .val (.double (FP.i2d pa)), .second, .val (.double (FP.i2d pb)), .second, .val (.int z15), .val (.int z16), .val (.int z17), .val (.int (1 : Int32)), .val (.int (0 : Int32)), .unset, .unset, .unset, .unset, .unset, .unset]) (hb hby at_124) rfl (pc' := 126) rfl ?_
        refine ow_dconst0 X17 hx (hb hby at_126) (pc' := 127) rfl ?_
        refine ow_dstore X17 hx (Ls' := #[.val (.int pf), .val (.int pa), .val (.int pb), .val (.int (1 : Int32)), .val (.ref om), .val (.double (FP.i2d pa)), .second, .val (.double (FP.i2d pb)), .second, .val (.int z15), .val (.int z16), .val (.int z17), .val (.int (1 : Int32)), .val (.int (0 : Int32)), .val (.double FP.dconst0), .second, .unset, .unset, .unset, .unset]) (hb hby at_127) rfl (pc' := 129) rfl ?_
        refine ow_ldc2Double X17 hx hZ hown (hw _ (List.mem_of_getElem? (i := 10) rfl)) (hb hby at_129) (pc' := 132) rfl ?_
        refine ow_dstore X17 hx (Ls' := #[.val (.int pf), .val (.int pa), .val (.int pb), .val (.int (1 : Int32)), .val (.ref om), .val (.double (FP.i2d pa)), .second, .val (.double (FP.i2d pb)), .second, .val (.int z15), .val (.int z16), .val (.int z17), .val (.int (1 : Int32)), .val (.int (0 : Int32)), .val (.double FP.dconst0), .second, .val (.double (9223372036854775808 : UInt64)), .second, .unset, .unset]) (hb hby at_132) rfl (pc' := 134) rfl ?_
        refine ow_aload X17 hx (hb hby at_134) rfl rfl (pc' := 136) rfl ?_
        refine ow_dload X17 hx (hb hby at_136) rfl (pc' := 138) rfl ?_
        refine ow_dload X17 hx (hb hby at_138) rfl (pc' := 140) rfl ?_
        refine ow_callVPI X17 hx hZ rfl hown (hw _ (List.mem_of_getElem? (i := 3) rfl)) (hw _ (List.mem_of_getElem? (i := 4) rfl)) (hw _ (List.mem_of_getElem? (i := 6) rfl)) (hw _ (List.mem_of_getElem? (i := 5) rfl)) (hw _ (List.mem_of_getElem? (i := 1) rfl)) (hw _ (List.mem_of_getElem? (i := 7) rfl)) (by decide) (rm_prefMax l Z a0 hw [] om FP.dconst0 (9223372036854775808 : UInt64) h0 S_max) e17 0 (by decide) (by decide) (by decide) (by decide) [(.double FP.dconst0), (.double (9223372036854775808 : UInt64))] (by rw [hml]; rfl) pd_0 rfl E_om rfl rfl (Nat.le_of_eq rfl) (hb hby at_140) (pc' := 143) rfl (fun z22 T22 hz22 X22 e22 => ?_)
        have az22 : (0 < (cmpValue (FP.dcmp FP.dconst0 (9223372036854775808 : UInt64)) .l).toInt ∧ z22.toInt = 1) ∨ (¬ 0 < (cmpValue (FP.dcmp FP.dconst0 (9223372036854775808 : UInt64)) .l).toInt ∧ z22.toInt = 0) := hz22
        have rz22 := rng32 z22
        refine ow_istore X22 hx (Ls' := #[.val (.int pf), .val (.int pa), .val (.int pb), .val (.int (1 : Int32)), .val (.ref om), .val (.double (FP.i2d pa)), .second, .val (.double (FP.i2d pb)), .second, .val (.int z15), .val (.int z16), .val (.int z17), .val (.int (1 : Int32)), .val (.int (0 : Int32)), .val (.double FP.dconst0), .second, .val (.double (9223372036854775808 : UInt64)), .second, .val (.int z22), .unset]) (hb hby at_143) rfl (pc' := 145) rfl ?_
        refine ow_aload X22 hx (hb hby at_145) rfl rfl (pc' := 147) rfl ?_
        refine ow_dload X22 hx (hb hby at_147) rfl (pc' := 149) rfl ?_
        refine ow_dload X22 hx (hb hby at_149) rfl (pc' := 151) rfl ?_
        refine ow_callVPI X22 hx hZ rfl hown (hw _ (List.mem_of_getElem? (i := 3) rfl)) (hw _ (List.mem_of_getElem? (i := 4) rfl)) (hw _ (List.mem_of_getElem? (i := 6) rfl)) (hw _ (List.mem_of_getElem? (i := 5) rfl)) (hw _ (List.mem_of_getElem? (i := 1) rfl)) (hw _ (List.mem_of_getElem? (i := 7) rfl)) (by decide) (rm_prefMax l Z a0 hw [] om (9223372036854775808 : UInt64) FP.dconst0 h0 S_max) e22 0 (by decide) (by decide) (by decide) (by decide) [(.double (9223372036854775808 : UInt64)), (.double FP.dconst0)] (by rw [hml]; rfl) pd_0 rfl E_om rfl rfl (Nat.le_of_eq rfl) (hb hby at_151) (pc' := 154) rfl (fun z23 T23 hz23 X23 e23 => ?_)
        have az23 : (0 < (cmpValue (FP.dcmp (9223372036854775808 : UInt64) FP.dconst0) .l).toInt ∧ z23.toInt = 1) ∨ (¬ 0 < (cmpValue (FP.dcmp (9223372036854775808 : UInt64) FP.dconst0) .l).toInt ∧ z23.toInt = 0) := hz23
        have rz23 := rng32 z23
        refine ow_istore X23 hx (Ls' := #[.val (.int pf), .val (.int pa), .val (.int pb), .val (.int (1 : Int32)), .val (.ref om), .val (.double (FP.i2d pa)), .second, .val (.double (FP.i2d pb)), .second, .val (.int z15), .val (.int z16), .val (.int z17), .val (.int (1 : Int32)), .val (.int (0 : Int32)), .val (.double FP.dconst0), .second, .val (.double (9223372036854775808 : UInt64)), .second, .val (.int z22), .val (.int z23)]) (hb hby at_154) rfl (pc' := 156) rfl ?_
        refine ow_iload X23 hx (hb hby at_156) rfl (pc' := 158) rfl ?_
        refine ow_iload X23 hx (hb hby at_158) rfl (pc' := 160) rfl ?_
        refine ow_icmp_ne X23 hx (z15.toInt) ((1 : Int)) (hb hby at_160) rfl rfl (by decide) (pt := 189) (by decide) (pf := 163) rfl (fun c160 => ?_) (fun c160 => ?_)
        · refine ow_iconst X23 hx (z := (0 : Int32)) (hb hby at_189) rfl (pc' := 190) rfl ?_
          exact absurd (show False from by omega) id
        · refine ow_iload X23 hx (hb hby at_163) rfl (pc' := 165) rfl ?_
          refine ow_iload X23 hx (hb hby at_165) rfl (pc' := 167) rfl ?_
          refine ow_icmp_ne X23 hx (z16.toInt) ((0 : Int)) (hb hby at_167) rfl rfl (by decide) (pt := 189) (by decide) (pf := 170) rfl (fun c167 => ?_) (fun c167 => ?_)
          · refine ow_iconst X23 hx (z := (0 : Int32)) (hb hby at_189) rfl (pc' := 190) rfl ?_
            exact absurd (show False from by omega) id
          · refine ow_iload X23 hx (hb hby at_170) rfl (pc' := 172) rfl ?_
            refine ow_if_ne X23 hx (z17.toInt) (hb hby at_172) rfl (by decide) (pt := 189) (by decide) (pf := 175) rfl (fun c172 => ?_) (fun c172 => ?_)
            · refine ow_iconst X23 hx (z := (0 : Int32)) (hb hby at_189) rfl (pc' := 190) rfl ?_
              exact absurd (show False from by omega) id
            · refine ow_iload X23 hx (hb hby at_175) rfl (pc' := 177) rfl ?_
              refine ow_if_ne X23 hx (z22.toInt) (hb hby at_177) rfl (by decide) (pt := 189) (by decide) (pf := 180) rfl (fun c177 => ?_) (fun c177 => ?_)
              · refine ow_iconst X23 hx (z := (0 : Int32)) (hb hby at_189) rfl (pc' := 190) rfl ?_
                exact absurd (show False from by omega) id
              · refine ow_iload X23 hx (hb hby at_180) rfl (pc' := 182) rfl ?_
                refine ow_if_ne X23 hx (z23.toInt) (hb hby at_182) rfl (by decide) (pt := 189) (by decide) (pf := 185) rfl (fun c182 => ?_) (fun c182 => ?_)
                · refine ow_iconst X23 hx (z := (0 : Int32)) (hb hby at_189) rfl (pc' := 190) rfl ?_
                  exact absurd (show False from by omega) id
                · refine ow_iconst X23 hx (z := (1 : Int32)) (hb hby at_185) rfl (pc' := 186) rfl ?_
                  refine ow_goto X23 hx (hb hby at_186) (by decide) (pc' := 190) (by decide) ?_
                  exact ow_retB X23 hx hret hlk (hb hby at_190) (by decide) (by decide) (z' := (1 : Int32)) rfl ⟨rfl, N0⟩
      · refine ow_iconst X17 hx (z := (1 : Int32)) (hb hby at_106) rfl (pc' := 107) rfl ?_
        refine ow_goto X17 hx (hb hby at_107) (by decide) (pc' := 124) (by decide) ?_
        refine ow_istore X17 hx (Ls' := #[.val (.int pf), .val (.int pa), .val (.int pb), .val (.int (1 : Int32)), .val (.ref om), .val (.double (FP.i2d pa)), .second, .val (.double (FP.i2d pb)), .second, .val (.int z15), .val (.int z16), .val (.int z17), .val (.int (1 : Int32)), .val (.int (1 : Int32)), .unset, .unset, .unset, .unset, .unset, .unset]) (hb hby at_124) rfl (pc' := 126) rfl ?_
        refine ow_dconst0 X17 hx (hb hby at_126) (pc' := 127) rfl ?_
        refine ow_dstore X17 hx (Ls' := #[.val (.int pf), .val (.int pa), .val (.int pb), .val (.int (1 : Int32)), .val (.ref om), .val (.double (FP.i2d pa)), .second, .val (.double (FP.i2d pb)), .second, .val (.int z15), .val (.int z16), .val (.int z17), .val (.int (1 : Int32)), .val (.int (1 : Int32)), .val (.double FP.dconst0), .second, .unset, .unset, .unset, .unset]) (hb hby at_127) rfl (pc' := 129) rfl ?_
        refine ow_ldc2Double X17 hx hZ hown (hw _ (List.mem_of_getElem? (i := 10) rfl)) (hb hby at_129) (pc' := 132) rfl ?_
        refine ow_dstore X17 hx (Ls' := #[.val (.int pf), .val (.int pa), .val (.int pb), .val (.int (1 : Int32)), .val (.ref om), .val (.double (FP.i2d pa)), .second, .val (.double (FP.i2d pb)), .second, .val (.int z15), .val (.int z16), .val (.int z17), .val (.int (1 : Int32)), .val (.int (1 : Int32)), .val (.double FP.dconst0), .second, .val (.double (9223372036854775808 : UInt64)), .second, .unset, .unset]) (hb hby at_132) rfl (pc' := 134) rfl ?_
        refine ow_aload X17 hx (hb hby at_134) rfl rfl (pc' := 136) rfl ?_
        refine ow_dload X17 hx (hb hby at_136) rfl (pc' := 138) rfl ?_
        refine ow_dload X17 hx (hb hby at_138) rfl (pc' := 140) rfl ?_
        refine ow_callVPI X17 hx hZ rfl hown (hw _ (List.mem_of_getElem? (i := 3) rfl)) (hw _ (List.mem_of_getElem? (i := 4) rfl)) (hw _ (List.mem_of_getElem? (i := 6) rfl)) (hw _ (List.mem_of_getElem? (i := 5) rfl)) (hw _ (List.mem_of_getElem? (i := 1) rfl)) (hw _ (List.mem_of_getElem? (i := 7) rfl)) (by decide) (rm_prefMax l Z a0 hw [] om FP.dconst0 (9223372036854775808 : UInt64) h0 S_max) e17 0 (by decide) (by decide) (by decide) (by decide) [(.double FP.dconst0), (.double (9223372036854775808 : UInt64))] (by rw [hml]; rfl) pd_0 rfl E_om rfl rfl (Nat.le_of_eq rfl) (hb hby at_140) (pc' := 143) rfl (fun z24 T24 hz24 X24 e24 => ?_)
        have az24 : (0 < (cmpValue (FP.dcmp FP.dconst0 (9223372036854775808 : UInt64)) .l).toInt ∧ z24.toInt = 1) ∨ (¬ 0 < (cmpValue (FP.dcmp FP.dconst0 (9223372036854775808 : UInt64)) .l).toInt ∧ z24.toInt = 0) := hz24
        have rz24 := rng32 z24
        refine ow_istore X24 hx (Ls' := #[.val (.int pf), .val (.int pa), .val (.int pb), .val (.int (1 : Int32)), .val (.ref om), .val (.double (FP.i2d pa)), .second, .val (.double (FP.i2d pb)), .second, .val (.int z15), .val (.int z16), .val (.int z17), .val (.int (1 : Int32)), .val (.int (1 : Int32)), .val (.double FP.dconst0), .second, .val (.double (9223372036854775808 : UInt64)), .second, .val (.int z24), .unset]) (hb hby at_143) rfl (pc' := 145) rfl ?_
        refine ow_aload X24 hx (hb hby at_145) rfl rfl (pc' := 147) rfl ?_
        refine ow_dload X24 hx (hb hby at_147) rfl (pc' := 149) rfl ?_
        refine ow_dload X24 hx (hb hby at_149) rfl (pc' := 151) rfl ?_
        refine ow_callVPI X24 hx hZ rfl hown (hw _ (List.mem_of_getElem? (i := 3) rfl)) (hw _ (List.mem_of_getElem? (i := 4) rfl)) (hw _ (List.mem_of_getElem? (i := 6) rfl)) (hw _ (List.mem_of_getElem? (i := 5) rfl)) (hw _ (List.mem_of_getElem? (i := 1) rfl)) (hw _ (List.mem_of_getElem? (i := 7) rfl)) (by decide) (rm_prefMax l Z a0 hw [] om (9223372036854775808 : UInt64) FP.dconst0 h0 S_max) e24 0 (by decide) (by decide) (by decide) (by decide) [(.double (9223372036854775808 : UInt64)), (.double FP.dconst0)] (by rw [hml]; rfl) pd_0 rfl E_om rfl rfl (Nat.le_of_eq rfl) (hb hby at_151) (pc' := 154) rfl (fun z25 T25 hz25 X25 e25 => ?_)
        have az25 : (0 < (cmpValue (FP.dcmp (9223372036854775808 : UInt64) FP.dconst0) .l).toInt ∧ z25.toInt = 1) ∨ (¬ 0 < (cmpValue (FP.dcmp (9223372036854775808 : UInt64) FP.dconst0) .l).toInt ∧ z25.toInt = 0) := hz25
        have rz25 := rng32 z25
        refine ow_istore X25 hx (Ls' := #[.val (.int pf), .val (.int pa), .val (.int pb), .val (.int (1 : Int32)), .val (.ref om), .val (.double (FP.i2d pa)), .second, .val (.double (FP.i2d pb)), .second, .val (.int z15), .val (.int z16), .val (.int z17), .val (.int (1 : Int32)), .val (.int (1 : Int32)), .val (.double FP.dconst0), .second, .val (.double (9223372036854775808 : UInt64)), .second, .val (.int z24), .val (.int z25)]) (hb hby at_154) rfl (pc' := 156) rfl ?_
        refine ow_iload X25 hx (hb hby at_156) rfl (pc' := 158) rfl ?_
        refine ow_iload X25 hx (hb hby at_158) rfl (pc' := 160) rfl ?_
        refine ow_icmp_ne X25 hx (z15.toInt) ((1 : Int)) (hb hby at_160) rfl rfl (by decide) (pt := 189) (by decide) (pf := 163) rfl (fun c160 => ?_) (fun c160 => ?_)
        · refine ow_iconst X25 hx (z := (0 : Int32)) (hb hby at_189) rfl (pc' := 190) rfl ?_
          exact absurd (show False from by omega) id
        · refine ow_iload X25 hx (hb hby at_163) rfl (pc' := 165) rfl ?_
          refine ow_iload X25 hx (hb hby at_165) rfl (pc' := 167) rfl ?_
          refine ow_icmp_ne X25 hx (z16.toInt) ((1 : Int)) (hb hby at_167) rfl rfl (by decide) (pt := 189) (by decide) (pf := 170) rfl (fun c167 => ?_) (fun c167 => ?_)
          · refine ow_iconst X25 hx (z := (0 : Int32)) (hb hby at_189) rfl (pc' := 190) rfl ?_
            exact absurd (show False from by omega) id
          · refine ow_iload X25 hx (hb hby at_170) rfl (pc' := 172) rfl ?_
            refine ow_if_ne X25 hx (z17.toInt) (hb hby at_172) rfl (by decide) (pt := 189) (by decide) (pf := 175) rfl (fun c172 => ?_) (fun c172 => ?_)
            · refine ow_iconst X25 hx (z := (0 : Int32)) (hb hby at_189) rfl (pc' := 190) rfl ?_
              exact absurd (show False from by omega) id
            · refine ow_iload X25 hx (hb hby at_175) rfl (pc' := 177) rfl ?_
              refine ow_if_ne X25 hx (z24.toInt) (hb hby at_177) rfl (by decide) (pt := 189) (by decide) (pf := 180) rfl (fun c177 => ?_) (fun c177 => ?_)
              · refine ow_iconst X25 hx (z := (0 : Int32)) (hb hby at_189) rfl (pc' := 190) rfl ?_
                exact absurd (show False from by omega) id
              · refine ow_iload X25 hx (hb hby at_180) rfl (pc' := 182) rfl ?_
                refine ow_if_ne X25 hx (z25.toInt) (hb hby at_182) rfl (by decide) (pt := 189) (by decide) (pf := 185) rfl (fun c182 => ?_) (fun c182 => ?_)
                · refine ow_iconst X25 hx (z := (0 : Int32)) (hb hby at_189) rfl (pc' := 190) rfl ?_
                  exact absurd (show False from by omega) id
                · refine ow_iconst X25 hx (z := (1 : Int32)) (hb hby at_185) rfl (pc' := 186) rfl ?_
                  refine ow_goto X25 hx (hb hby at_186) (by decide) (pc' := 190) (by decide) ?_
                  exact ow_retB X25 hx hret hlk (hb hby at_190) (by decide) (by decide) (z' := (1 : Int32)) rfl ⟨rfl, N0⟩
theorem obj_start {s : State} {args : Array Value} (hw : ∀ d ∈ tables_1, d.before args s = true) (hn : narrow_1.value args s none s [] = some true) :
    ∃ (om on : Addr), Sta s s.heap "com/example/rein/rein/formula/Objective" "MAX" "Lcom/example/rein/rein/formula/Objective;" (.ref om) ∧ Sta s s.heap "com/example/rein/rein/formula/Objective" "MIN" "Lcom/example/rein/rein/formula/Objective;" (.ref on) ∧ Exa s s.heap om "com/example/rein/rein/formula/Objective" ∧ Exa s s.heap on "com/example/rein/rein/formula/Objective" ∧ on ≠ om := by
  obtain ⟨n0, r0⟩ := and_e hn
  obtain ⟨n1, r1⟩ := and_e r0
  obtain ⟨n2, n3⟩ := and_e r1
  obtain ⟨on, e0⟩ := exa_v n0
  obtain ⟨om, e1⟩ := exa_v n1
  have f2 := fld_is n2 e0
  have f3 := fld_is n3 e1
  refine ⟨om, on, Sta.start e1 (Or.inr ⟨(hw _ (List.mem_of_getElem? (i := 1) rfl)), (hw _ (List.mem_of_getElem? (i := 9) rfl))⟩), Sta.start e0 (Or.inr ⟨(hw _ (List.mem_of_getElem? (i := 1) rfl)), (hw _ (List.mem_of_getElem? (i := 2) rfl))⟩), Exa.start e1 n1, Exa.start e0 n0, fun q => ?_⟩
  rw [q, f3] at f2
  exact absurd (Value.int.inj (Option.some.inj f2)) (by decide)
set_option maxRecDepth 65536 in
set_option maxHeartbeats 40000000 in
theorem comes_1 {Post : Tables → Env → Array Value → State → Outcome → State → Prop} (hpost : ∀ tb e args s v u, (limb_1_1.after args s (.returned v) u = true ∧ limb_1_2.after args s (.returned v) u = true ∧ True) → FrameEnd s (.returned v) u (Jvm.fieldLocs frame_1_writes args s ++ Jvm.arrayLocs frame_1_arrays args s ++ Jvm.staticLocs frame_1_statics s) 0 0 → Post tb e args s (.returned v) u) :
    ArmFor flags0 classFile x code maxLocals ret World_1 tables_1 room_1 Calls_1 rest_1 Pre_1 Post := by
  intro l hfl _ _ p e ha hc hk s m args below hf hA hF happ hP
  obtain ⟨hcalls, hrest, hpre⟩ := hP
  obtain ⟨-, -, -, hnamed, -, -, -, hat⟩ := (Spec.applies_iff hf).mp happ
  obtain ⟨hg, hn⟩ := and_e (Cond.before_iff.mp (show (Jvm.Cond.and given_1 narrow_1).before args s = true from hpre))
  obtain ⟨gc, gr0⟩ := and_e hg
  obtain ⟨ga0, gr1⟩ := and_e gr0
  obtain ⟨ga1, ga2⟩ := and_e gr1
  obtain ⟨w0, w1, w2, rfl⟩ : ∃ w0 w1 w2 : Value, args = #[w0, w1, w2] := by
    have hs : args.size = 3 := by simpa [Cond.value, given_1] using gc
    obtain ⟨L⟩ := args
    match L, hs with
    | [w0, w1, w2], _ => exact ⟨w0, w1, w2, rfl⟩
  have hw := fun d (hd : d ∈ tables_1) => atoms_spec (ws := Jvm.Cond.code x code maxLocals ret :: tables_1) hat d (List.mem_cons_of_mem _ hd)
  have hfit : Fit s := fun {y c} hc i hi => by
    obtain ⟨ha, rfl⟩ := Array.getElem?_eq_some_iff.mp hc
    have q := List.all_eq_true.mp ((Array.all_eq_true_iff_forall_mem.mp hF) _ (Array.getElem_mem ha)) i (List.mem_range.mpr hi)
    simpa [Array.getElem?_eq_getElem hi] using q
  obtain ⟨i0, ei0⟩ := is_v ga0
  obtain rfl : w0 = (.int i0) := Option.some.inj ei0
  obtain ⟨i1, ei1⟩ := is_v ga1
  obtain rfl : w1 = (.int i1) := Option.some.inj ei1
  obtain ⟨i2, ei2⟩ := is_v ga2
  obtain rfl : w2 = (.int i2) := Option.some.inj ei2
  obtain ⟨om, on, S1, S2, E1, E2, Ne1⟩ := obj_start hw hn
  obtain ⟨n, o, h1, h2, h3, _, L, rfl, ⟨rfl, N⟩, hq⟩ := rm_law l s _ hw tables_1 i0 i1 i2 om on s.heap s.heap.size (Nat.le_refl _) S1 S2 E1 E2 Ne1 p e ha hc hk s m _ below hf ((Spec.applies_iff_loose hf).mp happ).1 ⟨rfl, State.Warmed39.refl s, rfl⟩ trivial
  refine ⟨n, _, h1, h2, h3, hpost _ _ _ _ _ _ ⟨Cond.after_iff.mpr rfl, Cond.after_iff.mpr (eq_i res_at (Term.int_eval (1)) rfl), trivial⟩ ⟨hq.1, hq.2.1, (hq.2.2.sift fun y hy => Or.inr (N y hy)).mono (by decide) (by decide)⟩⟩
theorem main_1_1 : Claimed_1_1 := comes_1 fun _ _ _ _ _ _ h hF => ⟨h.1, hF⟩
theorem main_1_2 : Claimed_1_2 := comes_1 fun _ _ _ _ _ _ h hF => ⟨h.2.1, hF⟩
end Jvm.Pilot.@@N@@
namespace Jvm.Pilot.@@N@@
open Jvm Jvm.ClassFile Sem Op Lib Jvm.Free Jvm.Stand Jvm.Pilot.@@N@@.Jvm.D
/-! MADE BY PROGRAM (witnessworld.py) out of the Statement's table words and the real class files: 12 classes; the members and pool entries that the words name. The judged class is class 1, her method 1. -/
namespace start1
open Jvm.ClassFile
def u (s : String) : CpInfo := .utf8 (stringToUtf16 s)
/-- a pool by its gaps: so many unusable entries, then the entry; so many at the end -/
def gap : Nat → List CpInfo → List CpInfo
  | 0, r => r
  | n + 1, r => .unusable :: gap n r
def poolList (es : List (Nat × CpInfo)) (last : Nat) : List CpInfo := es.foldr (fun e r => gap e.1 (e.2 :: r)) (gap last [])
def pool (es : List (Nat × CpInfo)) (last : Nat) : Array CpInfo := ⟨poolList es last⟩
def fileOf (pool : Array CpInfo) (this : Nat) (attrs : Array Attribute := #[]) (ms : Array MethodInfo := #[]) (fl : Nat := 33) (sup : Nat := 0) (ifs : Array Nat := #[]) (fds : Array FieldInfo := #[]) : ClassFile where
  minorVersion := 0
  majorVersion := 65
  constantPool := pool
  accessFlags := fl
  thisClass := this
  superClass := sup
  interfaces := ifs
  fields := fds
  methods := ms
  attributes := attrs
def plain (name : String) (sup : Option ClassId) : Class where
  name := name
  kind := .ordinary
  loader := none
  accessFlags := 33
  super := sup
  interfaces := #[]
  cf := none
  fields := #[]
  methods := #[]
  instanceTypes := #[]
  staticTypes := #[]
  resolved := #[]
  callSites := []
  init := .initialized
  statics := none
  mirror := none

def pool0 : Array CpInfo := pool [(5, u "<init>"), (0, u "()V"), (1, .class_ 10), (1, u "java/lang/Object")] 113

def k0m0 : Method := { name := "<init>", desc := "()V", sig := { parameters := [], returnType := none }, accessFlags := 1, code := none }
/-- java/lang/Object -/
def k0 : Class := { plain "java/lang/Object" none with
  accessFlags := 33
  interfaces := #[]
  cf := some (fileOf pool0 8 #[] #[{ accessFlags := 1, nameIndex := 5, descriptorIndex := 6, attributes := #[] }] 33 0 #[] #[])
  fields := #[]
  methods := #[k0m0]
  instanceTypes := #[]
  staticTypes := #[]
  resolved := Array.replicate 124 none
  statics := none }

def pool1 : Array CpInfo := pool [(2, .class_ 4), (1, u "java/lang/Object"), (0, u "<init>"), (0, u "()V"), (0, .fieldref 8 9), (0, .class_ 10), (0, .nameAndType 11 12), (0, u "com/example/rein/rein/formula/Objective"), (0, u "MAX"), (0, u "Lcom/example/rein/rein/formula/Objective;"), (0, .fieldref 8 14), (0, .nameAndType 15 12), (0, u "MIN"), (0, .methodref 8 17), (0, .nameAndType 18 19), (0, u "prefers"), (0, u "(DD)Z"), (0, .double 9223372036854775808), (1, .class_ 23), (0, u "com/example/rein/rein/formula/ObjectivePrefersPinLaw"), (2, u "law"), (0, u "(III)Z")] 3

def k1m0 : Method := { name := "<init>", desc := "()V", sig := { parameters := [], returnType := none }, accessFlags := 1, code := none }
def k1c1 : Code := { maxStack := 5, maxLocals := 20, code := code, exceptionTable := #[], attributes := #[] }
def k1m1 : Method := { name := "law", desc := "(III)Z", sig := { parameters := [.int, .int, .int], returnType := some .boolean }, accessFlags := 9, code := some k1c1 }
/-- com/example/rein/rein/formula/ObjectivePrefersPinLaw -/
def k1 : Class := { plain "com/example/rein/rein/formula/ObjectivePrefersPinLaw" (some 0) with
  accessFlags := 49
  interfaces := #[]
  cf := some (fileOf pool1 22 #[] #[{ accessFlags := 1, nameIndex := 5, descriptorIndex := 6, attributes := #[] }, { accessFlags := 9, nameIndex := 26, descriptorIndex := 27, attributes := #[] }] 49 2 #[] #[])
  fields := #[]
  methods := #[k1m0, k1m1]
  instanceTypes := #[]
  staticTypes := #[]
  resolved := Array.replicate 31 none
  statics := none }

def pool2 : Array CpInfo := pool [(1, .class_ 2), (0, u "java/lang/constant/Constable"), (0, .class_ 4), (0, u "java/lang/Object")] 6

/-- java/lang/constant/Constable -/
def k2 : Class := { plain "java/lang/constant/Constable" (some 0) with
  accessFlags := 1537
  interfaces := #[]
  cf := some (fileOf pool2 1 #[] #[] 1537 3 #[] #[])
  fields := #[]
  methods := #[]
  instanceTypes := #[]
  staticTypes := #[]
  resolved := Array.replicate 11 none
  statics := none }

def pool3 : Array CpInfo := pool [(1, .class_ 2), (0, u "java/lang/Comparable"), (0, .class_ 4), (0, u "java/lang/Object")] 7

/-- java/lang/Comparable -/
def k3 : Class := { plain "java/lang/Comparable" (some 0) with
  accessFlags := 1537
  interfaces := #[]
  cf := some (fileOf pool3 1 #[] #[] 1537 3 #[] #[])
  fields := #[]
  methods := #[]
  instanceTypes := #[]
  staticTypes := #[]
  resolved := Array.replicate 12 none
  statics := none }

def pool4 : Array CpInfo := pool [(1, .class_ 2), (0, u "java/io/Serializable"), (0, .class_ 4), (0, u "java/lang/Object")] 2

/-- java/io/Serializable -/
def k4 : Class := { plain "java/io/Serializable" (some 0) with
  accessFlags := 1537
  interfaces := #[]
  cf := some (fileOf pool4 1 #[] #[] 1537 3 #[] #[])
  fields := #[]
  methods := #[]
  instanceTypes := #[]
  staticTypes := #[]
  resolved := Array.replicate 7 none
  statics := none }

def pool5 : Array CpInfo := pool [(2, .class_ 4), (1, u "java/lang/Enum"), (0, u "name"), (0, u "Ljava/lang/String;"), (2, u "ordinal"), (0, u "I"), (1, .class_ 14), (1, u "java/lang/Object"), (4, u "hash"), (86, .class_ 108), (1, u "java/lang/Enum$EnumDesc"), (2, .class_ 112), (0, u "java/lang/constant/Constable"), (0, .class_ 114), (0, u "java/lang/Comparable"), (0, .class_ 116), (0, u "java/io/Serializable")] 87

/-- java/lang/Enum -/
def k5 : Class := { plain "java/lang/Enum" (some 0) with
  accessFlags := 1057
  interfaces := #[2, 3, 4]
  cf := some (fileOf pool5 2 #[.nestMembers #[106]] #[] 1057 12 #[111, 113, 115] #[{ accessFlags := 18, nameIndex := 5, descriptorIndex := 6, attributes := #[] }, { accessFlags := 18, nameIndex := 9, descriptorIndex := 10, attributes := #[] }, { accessFlags := 2, nameIndex := 19, descriptorIndex := 10, attributes := #[] }])
  fields := #[{ name := "name", type := (.object "java/lang/String"), accessFlags := 18, slot := 0, constantValue := 0 }, { name := "ordinal", type := .int, accessFlags := 18, slot := 1, constantValue := 0 }, { name := "hash", type := .int, accessFlags := 2, slot := 2, constantValue := 0 }]
  methods := #[]
  instanceTypes := #[(.object "java/lang/String"), .int, .int]
  staticTypes := #[]
  resolved := Array.replicate 204 none
  statics := none }

def pool6 : Array CpInfo := pool [(1, .class_ 2), (0, u "com/example/rein/rein/formula/Objective"), (0, .fieldref 1 4), (0, .nameAndType 5 6), (0, u "MAX"), (0, u "Lcom/example/rein/rein/formula/Objective;"), (2, u "MIN"), (2, u "$VALUES"), (0, u "[Lcom/example/rein/rein/formula/Objective;"), (6, .class_ 22), (1, u "java/lang/Enum"), (23, u "prefers"), (0, u "(DD)Z")] 4

def k6c0 : Code := { maxStack := 4, maxLocals := 5, code := prog_10_method_5_code, exceptionTable := #[], attributes := #[] }
def k6m0 : Method := { name := "prefers", desc := "(DD)Z", sig := { parameters := [.double, .double], returnType := some .boolean }, accessFlags := 1, code := some k6c0 }
/-- com/example/rein/rein/formula/Objective -/
def k6 : Class := { plain "com/example/rein/rein/formula/Objective" (some 5) with
  accessFlags := 16433
  interfaces := #[]
  cf := some (fileOf pool6 1 #[] #[{ accessFlags := 1, nameIndex := 46, descriptorIndex := 47, attributes := #[] }] 16433 20 #[] #[{ accessFlags := 16409, nameIndex := 5, descriptorIndex := 6, attributes := #[] }, { accessFlags := 16409, nameIndex := 9, descriptorIndex := 6, attributes := #[] }, { accessFlags := 4122, nameIndex := 12, descriptorIndex := 13, attributes := #[] }])
  fields := #[{ name := "MAX", type := (.object "com/example/rein/rein/formula/Objective"), accessFlags := 16409, slot := 0, constantValue := 0 }, { name := "MIN", type := (.object "com/example/rein/rein/formula/Objective"), accessFlags := 16409, slot := 1, constantValue := 0 }, { name := "$VALUES", type := (.array (.object "com/example/rein/rein/formula/Objective")), accessFlags := 4122, slot := 2, constantValue := 0 }]
  methods := #[k6m0]
  instanceTypes := #[(.object "java/lang/String"), .int, .int]
  staticTypes := #[(.object "com/example/rein/rein/formula/Objective"), (.object "com/example/rein/rein/formula/Objective"), (.array (.object "com/example/rein/rein/formula/Objective"))]
  resolved := Array.replicate 52 none
  statics := some 0 }

def pool7 : Array CpInfo := pool [(1, u "java/lang/Cloneable"), (0, .class_ 1), (0, u "java/lang/Object"), (0, .class_ 3)] 3

/-- java/lang/Cloneable -/
def k7 : Class := { plain "java/lang/Cloneable" (some 0) with
  accessFlags := 1537
  interfaces := #[]
  cf := some (fileOf pool7 2 #[] #[] 1537 4 #[] #[])
  fields := #[]
  methods := #[]
  instanceTypes := #[]
  staticTypes := #[]
  resolved := Array.replicate 8 none
  statics := none }

/-- the primitive byte -/
def k8 : Class := { plain "byte" none with kind := .primitive 'B', accessFlags := 0x411 }
/-- [B -/
def k9 : Class := { plain "[B" (some 0) with kind := .array 8 .byte, interfaces := #[7, 4], accessFlags := 1041 }

/-- the primitive int -/
def k10 : Class := { plain "int" none with kind := .primitive 'I', accessFlags := 0x411 }
/-- [I -/
def k11 : Class := { plain "[I" (some 0) with kind := .array 10 .int, interfaces := #[7, 4], accessFlags := 1041 }

def heap : Heap := #[{ cls := 6, slots := #[.ref 1, .ref 2, .null], vm := .statics 6 },
  { cls := 6, slots := #[.null, .int 0, .int 0], vm := .none },
  { cls := 6, slots := #[.null, .int 1, .int 0], vm := .none }]
def classes : Array Class := #[k0, k1, k2, k3, k4, k5, k6, k7, k8, k9, k10, k11]
def interned : List (Array UInt16 × Addr) := []
def slotsUsed : Nat := 9
def theMethod : MethodId := ⟨1, 1⟩
def args0 : Array Value := #[.int 5, .int 7, .int 3]
def aboutOver (below : List Frame) : State where
  vm := { classes := classes, interned := interned.toArray }
  heap := heap
  slotsUsed := slotsUsed
  threads := #[{ frames := .invoking theMethod args0 :: below }]
def below0 : List Frame := [.native { method := ⟨0, 0⟩, args := #[] }]
def about1 : State := aboutOver below0
def p0 : Program := .bare "" "" ""
def e0 : Env := launch0.env 0 0 0
theorem w_frames : about1.frames = Frame.invoking theMethod args0 :: below0 := rfl
set_option maxRecDepth 65536 in
theorem w_args : argsFit about1.vm theMethod args0 = true := by decide +kernel
set_option maxRecDepth 65536 in
theorem w_heap : heapFits about1 = true := by decide +kernel
set_option maxRecDepth 65536 in
theorem w_runnable : about1.curStatus? = some .runnable := by decide +kernel
set_option maxRecDepth 65536 in
theorem w_alone : about1.alone = true := by decide +kernel
set_option maxRecDepth 65536 in
theorem w_named : about1.methodNamed? x = some theMethod := by decide +kernel
set_option maxRecDepth 65536 in
theorem w_hears : about1.hears theMethod below0 = true := by decide +kernel
set_option maxRecDepth 65536 in
theorem w_ripe : about1.ripe theMethod args0 below0 = true := by decide +kernel
theorem w_running : about1.status = .running := rfl
set_option maxRecDepth 65536 in
theorem w_room : about1.hasRoom e0.platform room_1 = true :=
  launch0.hasRoom_least _ room_1 (by decide +kernel) (by decide +kernel) (by decide +kernel) (by decide +kernel) (by decide +kernel) (by decide +kernel)
theorem allAtoms_all (ts : List Jvm.Cond) (a : Array Jvm.Value) (st : Jvm.State) : (allAtoms ts).before a st = ts.all (fun c => c.before a st) := by
  induction ts with
  | nil => rfl
  | cons c t ih =>
    show (Jvm.Cond.and c (allAtoms t)).before a st = _
    rw [Jvm.Cond.before_and, ih, List.all_cons]
def words1 : List Jvm.Cond := Jvm.Cond.code x code maxLocals ret :: tables_1
/-- a 'code' word, met by the world's own term for the bytes: nothing is compared byte by byte -/
theorem code_word {y : MethodName} {bytes : ByteArray} {mx : Nat} {rt : Option FieldType} {a : Array Value} {s : State} {m : MethodId} {meth : Method} {c : Code} (h1 : s.methodNamed? y = some m) (h2 : s.vm.method? m = some meth) (h3 : meth.code = some c) (h4 : c.code = bytes)
    (h5 : (c.maxLocals == mx && c.exceptionTable.isEmpty && decide (c.maxStack ≤ mostOperands) && decide (meth.sig.returnType = rt) && !meth.locks && decide (parseMethodDescriptor y.desc = some meth.sig)) = true) : (Jvm.Cond.code y bytes mx rt).before a s = true := by
  simp only [Bool.and_eq_true, beq_iff_eq, Bool.not_eq_true', decide_eq_true_eq] at h5
  obtain ⟨⟨⟨⟨⟨g1, g2⟩, g3⟩, g4⟩, g5⟩, g6⟩ := h5
  simp [Cond.before, Cond.holds, Cond.value, h1, h2, h3, h4, g1, g2, g3, g4, g5, g6]
def isCode : Jvm.Cond → Bool
  | .code _ _ _ _ => true
  | _ => false
theorem all_split {L : List Jvm.Cond} {P : Jvm.Cond → Bool} (h1 : L.all (fun c => isCode c || P c) = true) (h2 : ∀ c ∈ L.filter isCode, P c = true) : L.all P = true := by
  refine List.all_eq_true.mpr fun c hc => ?_
  have h := List.all_eq_true.mp h1 c hc
  rcases Bool.eq_false_or_eq_true (isCode c) with hi | hi
  · exact h2 c (List.mem_filter.mpr ⟨hc, hi⟩)
  · simpa [hi] using h
set_option maxRecDepth 65536 in
theorem w_c0 : (Jvm.Cond.code x code maxLocals ret).before args0 about1 = true := code_word (m := ⟨1, 1⟩) (meth := k1m1) (c := k1c1) (by decide +kernel) rfl rfl rfl (by decide +kernel)
set_option maxRecDepth 65536 in
theorem w_c1 : (Jvm.Cond.code ({ cls := "com/example/rein/rein/formula/Objective", name := "prefers", desc := "(DD)Z" } : Jvm.MethodName) prog_10_method_5_code (5 : Nat) (Option.some Jvm.ClassFile.FieldType.boolean)).before args0 about1 = true := code_word (m := ⟨6, 0⟩) (meth := k6m0) (c := k6c0) (by decide +kernel) rfl rfl rfl (by decide +kernel)
def codes1 : List Jvm.Cond := [Jvm.Cond.code x code maxLocals ret, Jvm.Cond.code ({ cls := "com/example/rein/rein/formula/Objective", name := "prefers", desc := "(DD)Z" } : Jvm.MethodName) prog_10_method_5_code (5 : Nat) (Option.some Jvm.ClassFile.FieldType.boolean)]
set_option maxRecDepth 65536 in
theorem codes_eq : words1.filter isCode = codes1 := rfl
theorem w_codes : ∀ c ∈ words1.filter isCode, c.before args0 about1 = true := by
  rw [codes_eq]
  intro c hc
  simp only [codes1, List.mem_cons, List.not_mem_nil, or_false] at hc
  rcases hc with rfl | rfl
  · exact w_c0
  · exact w_c1
set_option maxRecDepth 65536 in
theorem w_t1 : words1.all (fun c => isCode c || c.before args0 about1) = true := by decide +kernel
theorem w_tables : (allAtoms (Jvm.Cond.code x code maxLocals ret :: tables_1)).before args0 about1 = true := by
  rw [allAtoms_all]
  show words1.all (fun c => c.before args0 about1) = true
  refine all_split ?_ w_codes
  rw [w_t1]
set_option maxRecDepth 65536 in
theorem w_case : (Jvm.Cond.and given_1 narrow_1).before args0 about1 = true := by decide +kernel
theorem w_applies : (headSpec (Jvm.Cond.code x code maxLocals ret :: tables_1) room_1).applies x e0.platform about1 = true :=
  (Spec.applies_iff w_frames).mpr ⟨w_running, w_runnable, w_alone, w_named, w_hears, w_ripe, w_room, w_tables⟩
theorem atStart : AtStart classFile x code maxLocals ret World_1 tables_1 room_1 Calls_1 rest_1 Pre_1 launch0 p0 e0 about1 theMethod args0 below0 :=
  ⟨lists_1, trivial, launch0.admits_env _ _ _, launch0.least_env, fairChoices_fair.cas, fairChoices_fair.clock, w_frames, w_args, w_heap, w_applies, trivial, trivial, w_case⟩
end start1
theorem witness_1 : WitnessClaimed_1 := ⟨start1.p0, start1.e0, start1.about1, start1.theMethod, start1.args0, start1.below0, start1.atStart⟩
end Jvm.Pilot.@@N@@
