import JvmDerived
import JvmDerived.Pilot.@@N@@Statement
import JvmDerived.Pilot.@@N@@Code
set_option linter.unusedVariables false
set_option linter.unusedSimpArgs false
namespace Jvm.Pilot.@@N@@
open Jvm Jvm.ClassFile Sem Op Lib Jvm.Free Jvm.Stand Jvm.LawKit Jvm.RoadKit Bundle Jvm.Pilot.@@N@@.Jvm.D
section Own
variable {p : Program} {l : Launch} {e : Env} {R : Room} {s : State} {m : MethodId} {args : Array Value} {below : List Frame} {meth : Method} {c : Code} {T : State} {locs : List Loc} {cells slots : Nat} {Q : Outcome → State → Prop} {Z : State} {a0 : Array Value} {h : Heap}
/-- from T, with g on top, the run ends as Q says -/
def Ends (p : Program) (e : Env) (below : List Frame) (Q : Outcome → State → Prop) (T : State) (g : JFrame) : Prop :=
  ∃ s₂ o, Steps p.tables e below (T.setTop g) s₂ ∧ s₂.status = .running ∧ Ended s₂ below o ∧ Q o s₂
theorem Ends.go {T' : State} {g g' : JFrame} (st : ∀ t, Steps p.tables e below (T'.setTop g') t → Steps p.tables e below (T.setTop g) t) (k : Ends p e below Q T' g') : Ends p e below Q T g := by
  obtain ⟨s₂, o, h1, r⟩ := k
  exact ⟨s₂, o, st _ h1, r⟩
theorem Ends.thru {T' : State} {g g' : JFrame} (st : Steps p.tables e below (T.setTop g) (T'.setTop g')) (k : Ends p e below Q T' g') : Ends p e below Q T g := by
  obtain ⟨s₂, o, h1, r⟩ := k
  exact ⟨s₂, o, st.trans h1, r⟩
theorem Ends.cast {g g' : JFrame} (q : g = g') (k : Ends p e below Q T g') : Ends p e below Q T g := q ▸ k
/-- what a body that returns leaves -/
def Out (s : State) (ce sl : Nat) (Qv : Option Value → Heap → List Loc → Prop) (o : Outcome) (U : State) : Prop := ∃ v L, o = .returned v ∧ Qv v U.heap L ∧ FrameEnd s o U L ce sl
theorem ow_body {y : MethodName} {bytes : ByteArray} {ml : Nat} {ret : Option FieldType} {ws : List Jvm.Cond} {rm : Room} {as : Array Value} {ce sl : Nat} {Qv : Option Value → Heap → List Loc → Prop} (hp : plainFor y = true)
    (body : ∀ (p : Program) (e : Env) (s : State) (m : MethodId) (below : List Frame) (meth : Method) (c : Code) (T : State), Stand p l e rm s m as below meth c T [] 0 0 → p.tables.exec = Jvm.exec → Z.Warmed39 s.vm → c.code = bytes → c.maxLocals = ml → s.vm.findClass y.cls = some m.cls → meth.name = y.name → meth.sig.returnType = ret → meth.locks = false → T.heap = h → Ends p e below (Out s ce sl Qv) T (entryFrame m as ml)) :
    MetFree l y (head1 (Jvm.Cond.code y bytes ml ret :: ws) rm) (fun a U => a = as ∧ Z.Warmed39 U.vm ∧ U.heap = h) (fun _ _ _ _ _ => True) (fun _ U o U' => ∃ v L, o = .returned v ∧ Qv v U'.heap L ∧ FrameEnd U o U' L ce sl) := by
  refine MetFree.of_bodySF hp hisR ?_
  intro p e s m args below meth c s₁ Bd hml0 hP hK
  obtain ⟨rfl, hZ, hh⟩ := hP
  exact body p e s m below meth c s₁ (Stand.of_body Bd) Bd.exec hZ Bd.bytes hml0 (findClass_of_methodNamed Bd.named) (name_of_methodNamed Bd.named Bd.method).1 Bd.returns Bd.notSynchronized (by rw [← hh, Bd.state]; rfl)
theorem ow_iload (X : Stand p l e R s m args below meth c T locs cells slots) (hx : p.tables.exec = Jvm.exec) {pc pc' : Nat} {Ls : Array Slot} {St : List Value} {k : Nat} {v : Int32} (hd : decode c.code pc = .ok (.iload k, 2)) (hl : Ls[k]? = some (.val (.int v))) (hp : pc + 2 = pc') (kk : Ends p e below Q T (mkF m pc' Ls (.int v :: St))) : Ends p e below Q T (mkF m pc Ls St) := by subst hp; exact Ends.go (fun _ q => XS.iload X.here hx rfl hd hl q) kk
theorem ow_iloadN (X : Stand p l e R s m args below meth c T locs cells slots) (hx : p.tables.exec = Jvm.exec) {pc pc' : Nat} {Ls : Array Slot} {St : List Value} {k : Fin 4} {v : Int32} (hd : decode c.code pc = .ok (.iload_n k, 1)) (hl : Ls[k.val]? = some (.val (.int v))) (hp : pc + 1 = pc') (kk : Ends p e below Q T (mkF m pc' Ls (.int v :: St))) : Ends p e below Q T (mkF m pc Ls St) := by subst hp; exact Ends.go (fun _ q => XS.iloadN X.here hx rfl hd hl q) kk
theorem ow_aload (X : Stand p l e R s m args below meth c T locs cells slots) (hx : p.tables.exec = Jvm.exec) {pc pc' : Nat} {Ls : Array Slot} {St : List Value} {k : Nat} {v : Value} (hd : decode c.code pc = .ok (.aload k, 2)) (hl : Ls[k]? = some (.val v)) (hv : v.isRef = true) (hp : pc + 2 = pc') (kk : Ends p e below Q T (mkF m pc' Ls (v :: St))) : Ends p e below Q T (mkF m pc Ls St) := by subst hp; exact Ends.go (fun _ q => XS.aload X.here hx rfl hd hl hv q) kk
theorem ow_aloadN (X : Stand p l e R s m args below meth c T locs cells slots) (hx : p.tables.exec = Jvm.exec) {pc pc' : Nat} {Ls : Array Slot} {St : List Value} {k : Fin 4} {v : Value} (hd : decode c.code pc = .ok (.aload_n k, 1)) (hl : Ls[k.val]? = some (.val v)) (hv : v.isRef = true) (hp : pc + 1 = pc') (kk : Ends p e below Q T (mkF m pc' Ls (v :: St))) : Ends p e below Q T (mkF m pc Ls St) := by subst hp; exact Ends.go (fun _ q => XS.aloadN X.here hx rfl hd hl hv q) kk
theorem ow_istore (X : Stand p l e R s m args below meth c T locs cells slots) (hx : p.tables.exec = Jvm.exec) {pc pc' : Nat} {Ls : Array Slot} {Ls' : Array Slot} {St : List Value} {k : Nat} {v : Int32} (hd : decode c.code pc = .ok (.istore k, 2)) (hl : storeLocals Ls k (.int v) = some Ls') (hp : pc + 2 = pc') (kk : Ends p e below Q T (mkF m pc' Ls' St)) : Ends p e below Q T (mkF m pc Ls (.int v :: St)) := by subst hp; exact Ends.go (fun _ q => XS.istore X.here hx rfl hd rfl hl q) kk
theorem ow_istoreN (X : Stand p l e R s m args below meth c T locs cells slots) (hx : p.tables.exec = Jvm.exec) {pc pc' : Nat} {Ls : Array Slot} {Ls' : Array Slot} {St : List Value} {k : Fin 4} {v : Int32} (hd : decode c.code pc = .ok (.istore_n k, 1)) (hl : storeLocals Ls k.val (.int v) = some Ls') (hp : pc + 1 = pc') (kk : Ends p e below Q T (mkF m pc' Ls' St)) : Ends p e below Q T (mkF m pc Ls (.int v :: St)) := by subst hp; exact Ends.go (fun _ q => XS.istoreN X.here hx rfl hd rfl hl q) kk
theorem ow_astore (X : Stand p l e R s m args below meth c T locs cells slots) (hx : p.tables.exec = Jvm.exec) {pc pc' : Nat} {Ls : Array Slot} {Ls' : Array Slot} {St : List Value} {k : Nat} {v : Value} (hd : decode c.code pc = .ok (.astore k, 2)) (hv : v.isRef = true) (hl : storeLocals Ls k v = some Ls') (hp : pc + 2 = pc') (kk : Ends p e below Q T (mkF m pc' Ls' St)) : Ends p e below Q T (mkF m pc Ls (v :: St)) := by subst hp; exact Ends.go (fun _ q => XS.astore X.here hx rfl hd rfl hv hl q) kk
theorem ow_iconst (X : Stand p l e R s m args below meth c T locs cells slots) (hx : p.tables.exec = Jvm.exec) {pc pc' : Nat} {Ls : Array Slot} {St : List Value} {i : Int} {z : Int32} (hd : decode c.code pc = .ok (.iconst i, 1)) (hz : Int32.ofInt i = z) (hp : pc + 1 = pc') (kk : Ends p e below Q T (mkF m pc' Ls (.int z :: St))) : Ends p e below Q T (mkF m pc Ls St) := by subst hp hz; exact Ends.go (fun _ q => XS.iconst X.here hx rfl hd q) kk
theorem ow_bipush (X : Stand p l e R s m args below meth c T locs cells slots) (hx : p.tables.exec = Jvm.exec) {pc pc' : Nat} {Ls : Array Slot} {St : List Value} {i : Int} {z : Int32} (hd : decode c.code pc = .ok (.bipush i, 2)) (hz : (Int8.ofInt i).toInt32 = z) (hp : pc + 2 = pc') (kk : Ends p e below Q T (mkF m pc' Ls (.int z :: St))) : Ends p e below Q T (mkF m pc Ls St) := by subst hp hz; exact Ends.go (fun _ q => XS.bipush X.here hx rfl hd q) kk
theorem ow_iand (X : Stand p l e R s m args below meth c T locs cells slots) (hx : p.tables.exec = Jvm.exec) {pc pc' : Nat} {Ls : Array Slot} {St : List Value} {x : Int32} {y : Int32} (hd : decode c.code pc = .ok (.iand, 1)) (hp : pc + 1 = pc') (kk : ∀ z : Int32, z = x &&& y → Ends p e below Q T (mkF m pc' Ls (.int z :: St))) : Ends p e below Q T (mkF m pc Ls (.int y :: .int x :: St)) := by subst hp; exact Ends.go (fun _ q => XS.iand X.here hx rfl hd rfl q) (kk _ rfl)
theorem ow_dup (X : Stand p l e R s m args below meth c T locs cells slots) (hx : p.tables.exec = Jvm.exec) {pc pc' : Nat} {Ls : Array Slot} {St : List Value} {v : Value} (hd : decode c.code pc = .ok (.dup, 1)) (hc : v.category = 1) (hp : pc + 1 = pc') (kk : Ends p e below Q T (mkF m pc' Ls (v :: v :: St))) : Ends p e below Q T (mkF m pc Ls (v :: St)) := by subst hp; exact Ends.go (fun _ q => XS.dup X.here hx rfl hd rfl hc q) kk
theorem ow_goto (X : Stand p l e R s m args below meth c T locs cells slots) (hx : p.tables.exec = Jvm.exec) {pc pc' : Nat} {Ls : Array Slot} {St : List Value} {o : Int} (hd : decode c.code pc = .ok (.goto o, 3)) (ho : 0 ≤ (pc : Int) + o) (hp : ((pc : Int) + o).toNat = pc') (kk : Ends p e below Q T (mkF m pc' Ls St)) : Ends p e below Q T (mkF m pc Ls St) := Ends.go (fun _ q => XS.goto X.here hx rfl (pc0 := pc) (pc' := pc') rfl hd ho hp q) kk
theorem ow_icmpY (X : Stand p l e R s m args below meth c T locs cells slots) (hx : p.tables.exec = Jvm.exec) {pc pc' : Nat} {Ls : Array Slot} {St : List Value} {cd : ClassFile.Cond} {x y : Int32} {o : Int} (hd : decode c.code pc = .ok (.if_icmp cd o, 3)) (hc : if_icmp.holds cd x y = true) (ho : 0 ≤ (pc : Int) + o) (hp : ((pc : Int) + o).toNat = pc') (kk : Ends p e below Q T (mkF m pc' Ls St)) : Ends p e below Q T (mkF m pc Ls (.int y :: .int x :: St)) := Ends.go (fun _ q => XS.icmpYes X.here hx rfl (pc0 := pc) (pc' := pc') rfl hd rfl hc ho hp q) kk
theorem ow_icmpN (X : Stand p l e R s m args below meth c T locs cells slots) (hx : p.tables.exec = Jvm.exec) {pc pc' : Nat} {Ls : Array Slot} {St : List Value} {cd : ClassFile.Cond} {x y : Int32} {o : Int} (hd : decode c.code pc = .ok (.if_icmp cd o, 3)) (hc : if_icmp.holds cd x y = false) (hp : pc + 3 = pc') (kk : Ends p e below Q T (mkF m pc' Ls St)) : Ends p e below Q T (mkF m pc Ls (.int y :: .int x :: St)) := by subst hp; exact Ends.go (fun _ q => XS.icmpNo X.here hx rfl hd rfl hc q) kk
theorem ow_ifY (X : Stand p l e R s m args below meth c T locs cells slots) (hx : p.tables.exec = Jvm.exec) {pc pc' : Nat} {Ls : Array Slot} {St : List Value} {cd : ClassFile.Cond} {x : Int32} {o : Int} (hd : decode c.code pc = .ok (.ifCond cd o, 3)) (hc : if_icmp.holds cd x 0 = true) (ho : 0 ≤ (pc : Int) + o) (hp : ((pc : Int) + o).toNat = pc') (kk : Ends p e below Q T (mkF m pc' Ls St)) : Ends p e below Q T (mkF m pc Ls (.int x :: St)) := Ends.go (fun _ q => XS.ifYes X.here hx rfl (pc0 := pc) (pc' := pc') rfl hd rfl ((if0 _ _).trans hc) ho hp q) kk
theorem ow_ifN (X : Stand p l e R s m args below meth c T locs cells slots) (hx : p.tables.exec = Jvm.exec) {pc pc' : Nat} {Ls : Array Slot} {St : List Value} {cd : ClassFile.Cond} {x : Int32} {o : Int} (hd : decode c.code pc = .ok (.ifCond cd o, 3)) (hc : if_icmp.holds cd x 0 = false) (hp : pc + 3 = pc') (kk : Ends p e below Q T (mkF m pc' Ls St)) : Ends p e below Q T (mkF m pc Ls (.int x :: St)) := by subst hp; exact Ends.go (fun _ q => XS.ifNo X.here hx rfl hd rfl ((if0 _ _).trans hc) q) kk
/-- the six comparisons, said of the signed worth -/
def cmpI : ClassFile.Cond → Int → Int → Prop
  | .eq, a, b => a = b
  | .ne, a, b => ¬ a = b
  | .lt, a, b => a < b
  | .ge, a, b => ¬ a < b
  | .gt, a, b => b < a
  | .le, a, b => ¬ b < a
theorem cmpI_y {cd : ClassFile.Cond} {x y : Int32} (q : cmpI cd x.toInt y.toInt) : if_icmp.holds cd x y = true := by
  cases cd <;> simp only [cmpI] at q <;> simp [if_icmp.holds, ← Int32.toInt_inj, Int32.lt_iff_toInt_lt, Int32.le_iff_toInt_le] <;> omega
theorem cmpI_n {cd : ClassFile.Cond} {x y : Int32} (q : ¬ cmpI cd x.toInt y.toInt) : if_icmp.holds cd x y = false := by
  cases cd <;> simp only [cmpI] at q <;> simp [if_icmp.holds, ← Int32.toInt_inj, Int32.lt_iff_toInt_lt, Int32.le_iff_toInt_le] <;> omega
theorem ow_if_eq (X : Stand p l e R s m args below meth c T locs cells slots) (hx : p.tables.exec = Jvm.exec) {pc pt pf : Nat} {Ls : Array Slot} {St : List Value} {x : Int32} {o : Int} (xi : Int) (hd : decode c.code pc = .ok (.ifCond .eq o, 3)) (hxi : x.toInt = xi) (ho : 0 ≤ (pc : Int) + o) (hp : ((pc : Int) + o).toNat = pt) (hq : pc + 3 = pf) (kt : xi = 0 → Ends p e below Q T (mkF m pt Ls St)) (kf : ¬ xi = 0 → Ends p e below Q T (mkF m pf Ls St)) : Ends p e below Q T (mkF m pc Ls (.int x :: St)) := by
  subst hxi
  have z0 : (0 : Int32).toInt = 0 := rfl
  rcases Classical.em (cmpI .eq x.toInt (0 : Int32).toInt) with w | w
  · exact ow_ifY X hx hd (cmpI_y w) ho hp (kt (by simp only [cmpI, z0] at w; omega))
  · exact ow_ifN X hx hd (cmpI_n w) hq (kf (by simp only [cmpI, z0] at w; omega))
theorem ow_icmp_ne (X : Stand p l e R s m args below meth c T locs cells slots) (hx : p.tables.exec = Jvm.exec) {pc pt pf : Nat} {Ls : Array Slot} {St : List Value} {x y : Int32} {o : Int} (xi yi : Int) (hd : decode c.code pc = .ok (.if_icmp .ne o, 3)) (hxi : x.toInt = xi) (hyi : y.toInt = yi) (ho : 0 ≤ (pc : Int) + o) (hp : ((pc : Int) + o).toNat = pt) (hq : pc + 3 = pf) (kt : ¬ xi = yi → Ends p e below Q T (mkF m pt Ls St)) (kf : xi = yi → Ends p e below Q T (mkF m pf Ls St)) : Ends p e below Q T (mkF m pc Ls (.int y :: .int x :: St)) := by
  subst hxi hyi
  rcases Classical.em (cmpI .ne x.toInt y.toInt) with w | w
  · exact ow_icmpY X hx hd (cmpI_y w) ho hp (kt w)
  · exact ow_icmpN X hx hd (cmpI_n w) hq (kf (by simp only [cmpI] at w; omega))
theorem ow_if_ne (X : Stand p l e R s m args below meth c T locs cells slots) (hx : p.tables.exec = Jvm.exec) {pc pt pf : Nat} {Ls : Array Slot} {St : List Value} {x : Int32} {o : Int} (xi : Int) (hd : decode c.code pc = .ok (.ifCond .ne o, 3)) (hxi : x.toInt = xi) (ho : 0 ≤ (pc : Int) + o) (hp : ((pc : Int) + o).toNat = pt) (hq : pc + 3 = pf) (kt : ¬ xi = 0 → Ends p e below Q T (mkF m pt Ls St)) (kf : xi = 0 → Ends p e below Q T (mkF m pf Ls St)) : Ends p e below Q T (mkF m pc Ls (.int x :: St)) := by
  subst hxi
  have z0 : (0 : Int32).toInt = 0 := rfl
  rcases Classical.em (cmpI .ne x.toInt (0 : Int32).toInt) with w | w
  · exact ow_ifY X hx hd (cmpI_y w) ho hp (kt (by simp only [cmpI, z0] at w; omega))
  · exact ow_ifN X hx hd (cmpI_n w) hq (kf (by simp only [cmpI, z0] at w; omega))
theorem ow_retB (X : Stand p l e R s m args below meth c T locs cells slots) (hx : p.tables.exec = Jvm.exec) {pc : Nat} {Ls : Array Slot} {rest : List Value} {z z' : Int32} (hret : meth.sig.returnType = some .boolean) (hlk : meth.locks = false) (hd : decode c.code pc = .ok (.ireturn, 1)) {ce sl : Nat} (hc : cells ≤ ce) (hs : slots ≤ sl) {Qv : Option Value → Heap → List Loc → Prop} (hz : nar .boolean z = z') (q : Qv (some (.int z')) T.heap locs) : Ends p e below (Out s ce sl Qv) T (mkF m pc Ls (.int z :: rest)) := by
  subst hz
  obtain ⟨fs, hr, hrun, hended, hW, hsame⟩ := X.leave (v := some (.int (nar .boolean z))) (fun h => by rw [hret] at h; cases h) hlk
  exact ⟨_, _, retN X hx (t := .boolean) hret (by simp) hd hr, hrun, hended, _, _, rfl, q, ⟨_, rfl⟩, hW, hsame.mono hc hs⟩
theorem ow_retV (X : Stand p l e R s m args below meth c T locs cells slots) (hx : p.tables.exec = Jvm.exec) {pc : Nat} {Ls : Array Slot} (hret : meth.sig.returnType = none) (hlk : meth.locks = false) (hd : decode c.code pc = .ok (.return_, 1)) {ce sl : Nat} (hc : cells ≤ ce) (hs : slots ≤ sl) {Qv : Option Value → Heap → List Loc → Prop} (q : Qv none T.heap locs) : Ends p e below (Out s ce sl Qv) T (mkF m pc Ls []) := by
  obtain ⟨fs, hr, hrun, hended, hW, hsame⟩ := X.leave (v := none) (fun _ => rfl) hlk
  exact ⟨_, _, X.returnOut hx hret hd hr, hrun, hended, _, _, rfl, q, ⟨_, rfl⟩, hW, hsame.mono hc hs⟩
theorem ow_callI (X : Stand p l e R s m args below meth c T locs cells slots) (hx : p.tables.exec = Jvm.exec) (hZ : Z.Warmed39 s.vm) {own : String} {index : Nat} {y : MethodName} {bytes : ByteArray} {maxL : Nat} {ret : Option FieldType} (hret0 : ret = none) (hy1 : y.name = "<init>") (hown : s.vm.findClass own = some m.cls)
    (wl : (Jvm.Cond.methodLink own index y).before a0 Z = true) (wst : (Jvm.Cond.instanceMethod y).before a0 Z = true) (wi : (Jvm.Cond.initialized y.cls).before a0 Z = true) (wc : (Jvm.Cond.code y bytes maxL ret).before a0 Z = true) (hy : y.cls ≠ "java/lang/invoke/MethodHandle" ∧ y.cls ≠ "java/lang/invoke/VarHandle")
    {rm : Room} {as' : Array Value} {Qc : Option Value → Heap → List Loc → Prop} (hM : MetFree l y (head1 [Jvm.Cond.code y bytes maxL ret] rm) (fun a U => a = as' ∧ Z.Warmed39 U.vm ∧ U.heap = h) (fun _ _ _ _ _ => True) (fun _ U o U' => ∃ v L, o = .returned v ∧ Qc v U'.heap L ∧ FrameEnd U o U' L rm.cells rm.slots))
    (eT : T.heap = h) (W : Nat) (hf : rm.frames + 1 ≤ R.frames) (hl : W + (maxL + 11) + rm.locals ≤ R.locals) (hce : cells + rm.cells ≤ R.cells) (hsl : slots + rm.slots ≤ R.slots) {pc pc' : Nat} {Ls : Array Slot} {St rest : List Value} (argsL : List Value) {ps : List FieldType} {rt : Option FieldType} (hsize : Ls.size = c.maxLocals) (hdesc : parseMethodDescriptor y.desc = some ⟨ps, rt⟩) (hlen : argsL.length = ps.length) {a : Addr} (hst : St = argsL.reverse ++ .ref a :: rest) (has : (Value.ref a :: argsL).toArray = as') (hW : (rest.map fun v => v.category).sum ≤ W)
    (hd : decode c.code pc = .ok (.invokespecial index, 3)) (hp : pc + 3 = pc')
    (kk : ∀ (v : Option Value) (T' : State) (L' : List Loc), Qc v T'.heap L' → Stand p l e R s m args below meth c T' (locs ++ L') (cells + rm.cells) (slots + rm.slots) → Ends p e below Q T' (mkF m pc' Ls (v.toList ++ rest))) : Ends p e below Q T (mkF m pc Ls St) := by
  subst hst has hp hret0
  obtain ⟨v, vm₁, ⟨T', L, k2, n2⟩, -, X', ⟨Lc, hQ, l1, y1, z1⟩, st⟩ := X.specialBack hx hy1 hown (mvT hZ wl) (mvT hZ wst) (mvT hZ wc) hy (backOf (W := W) hM hZ wc wi hf hl) (g := mkF m pc Ls (argsL.reverse ++ .ref a :: rest)) rfl hsize (Steps.refl _) (a := a) (argsL := argsL) (rest := rest) (lenOf hdesc hlen) rfl (by show 2 * 0 + _ ≤ _; omega) hd (fun _ _ => ⟨rfl, eT, hce, hsl⟩)
  dsimp only [Pt.U, Pt.locs, Pt.cells, Pt.slots] at X' l1 y1 z1 st hQ
  subst l1 y1 z1
  exact Ends.thru st (kk v T' Lc hQ X')
theorem ow_callV (X : Stand p l e R s m args below meth c T locs cells slots) (hx : p.tables.exec = Jvm.exec) (hZ : Z.Warmed39 s.vm) {own C : String} {index : Nat} {y y' : MethodName} (hyy : y = y') {bytes : ByteArray} {maxL : Nat} {ret : Option FieldType} (hown : s.vm.findClass own = some m.cls)
    (wl : (Jvm.Cond.methodLink own index y).before a0 Z = true) (wd : (Jvm.Cond.declares y).before a0 Z = true) (wsel : (Jvm.Cond.selects C y y').before a0 Z = true) (wst : (Jvm.Cond.instanceMethod y').before a0 Z = true) (wi : (Jvm.Cond.initialized y'.cls).before a0 Z = true) (wc : (Jvm.Cond.code y' bytes maxL ret).before a0 Z = true) (hy : y.cls ≠ "java/lang/invoke/MethodHandle" ∧ y.cls ≠ "java/lang/invoke/VarHandle")
    {rm : Room} {as' : Array Value} {Qc : Option Value → Heap → List Loc → Prop} (hM : MetFree l y' (head1 [Jvm.Cond.code y' bytes maxL ret] rm) (fun a U => a = as' ∧ Z.Warmed39 U.vm ∧ U.heap = h) (fun _ _ _ _ _ => True) (fun _ U o U' => ∃ v L, o = .returned v ∧ Qc v U'.heap L ∧ FrameEnd U o U' L rm.cells rm.slots))
    (eT : T.heap = h) (W : Nat) (hf : rm.frames + 1 ≤ R.frames) (hl : W + (maxL + 11) + rm.locals ≤ R.locals) (hce : cells + rm.cells ≤ R.cells) (hsl : slots + rm.slots ≤ R.slots) {pc pc' : Nat} {Ls : Array Slot} {St rest : List Value} (argsL : List Value) {ps : List FieldType} {rt : Option FieldType} (hsize : Ls.size = c.maxLocals) (hdesc : parseMethodDescriptor y.desc = some ⟨ps, rt⟩) (hlen : argsL.length = ps.length) {a : Addr} (E : Exa Z h a C) (hst : St = argsL.reverse ++ .ref a :: rest) (has : (Value.ref a :: argsL).toArray = as') (hW : (rest.map fun v => v.category).sum ≤ W)
    (hd : decode c.code pc = .ok (.invokevirtual index, 3)) (hp : pc + 3 = pc')
    (kk : ∀ (v : Option Value) (T' : State) (L' : List Loc), Qc v T'.heap L' → Stand p l e R s m args below meth c T' (locs ++ L') (cells + rm.cells) (slots + rm.slots) → Ends p e below Q T' (mkF m pc' Ls (v.toList ++ rest))) : Ends p e below Q T (mkF m pc Ls St) := by
  subst hst has hp hyy
  obtain ⟨cq, kq, qa, qb, qc⟩ := isOf hZ eT E
  obtain ⟨v, vm₁, ⟨T', L, k2, n2⟩, -, X', ⟨Lc, hQ, l1, y1, z1⟩, st⟩ := X.virtualBack hx hown (mvT hZ wl) (mvT hZ wd) (notFace_of_selects (args := #[]) (mvT hZ wsel)) (mvT hZ wsel) (mvT hZ wst) hy (backOf (W := W) hM hZ wc wi hf hl) qa qc (g := mkF m pc Ls (argsL.reverse ++ .ref a :: rest)) rfl hsize (Steps.refl _) (argsL := argsL) (rest := rest) (lenOf hdesc hlen) rfl (by show 2 * 0 + _ ≤ _; omega) hd (fun _ _ => ⟨rfl, eT, hce, hsl⟩)
  dsimp only [Pt.U, Pt.locs, Pt.cells, Pt.slots] at X' l1 y1 z1 st hQ
  subst l1 y1 z1
  exact Ends.thru st (kk v T' Lc hQ X')
/-- Object's constructor -/
theorem ow_init0 (X : Stand p l e R s m args below meth c T locs cells slots) (hx : p.tables.exec = Jvm.exec) (hZ : Z.Warmed39 s.vm) {own : String} {index : Nat} (hown : s.vm.findClass own = some m.cls) (wl : (Jvm.Cond.methodLink own index Lib.objectInit).before a0 Z = true) (wst : (Jvm.Cond.instanceMethod Lib.objectInit).before a0 Z = true) (wc : (Jvm.Cond.code Lib.objectInit ⟨#[0xb1]⟩ 1 none).before a0 Z = true)
    (eT : T.heap = h) (W : Nat) (hf : 1 ≤ R.frames) (hl : W + 12 ≤ R.locals) {pc pc' : Nat} {Ls : Array Slot} {a : Addr} {St : List Value} (hsize : Ls.size = c.maxLocals) (hW : (St.map fun v => v.category).sum ≤ W) (hd : decode c.code pc = .ok (.invokespecial index, 3)) (hp : pc + 3 = pc')
    (kk : ∀ T' : State, Stand p l e R s m args below meth c T' locs cells slots → T'.heap = h → Ends p e below Q T' (mkF m pc' Ls St)) : Ends p e below Q T (mkF m pc Ls (.ref a :: St)) := by
  subst hp
  obtain ⟨T', X', e', st⟩ := initO X hx hZ hown wl wst wc eT (g := mkF m pc Ls (.ref a :: St)) rfl hsize rfl hd hf (W := W) (by show 2 * 0 + _ ≤ _; omega) hl
  exact Ends.go st (kk T' X' e')
theorem ow_getF (X : Stand p l e R s m args below meth c T locs cells slots) (hx : p.tables.exec = Jvm.exec) (hZ : Z.Warmed39 s.vm) {own R0 O n d host : String} {index : Nat} (hown : s.vm.findClass own = some m.cls) (w : (Jvm.Cond.fieldLink own index R0 n d).before a0 Z = true ∨ (Jvm.Cond.fieldLinkNest own index R0 n d host).before a0 Z = true) (via : Via Z R0 O n d) (eT : T.heap = h) {a : Addr} {v : Value} (F : Fld Z h a O n d v) {pc pc' : Nat} {Ls : Array Slot} {St : List Value} (hd : decode c.code pc = .ok (.getfield index, 3)) (hp : pc + 3 = pc')
    (kk : ∀ T' : State, Stand p l e R s m args below meth c T' locs cells slots → T'.heap = h → Ends p e below Q T' (mkF m pc' Ls (v :: St))) : Ends p e below Q T (mkF m pc Ls (.ref a :: St)) := by
  subst hp
  obtain ⟨T', X', e', st⟩ := getF X hx hZ hown w via eT F (g := mkF m pc Ls (.ref a :: St)) rfl rfl hd
  exact Ends.go st (kk T' X' e')
theorem ow_putF (X : Stand p l e R s m args below meth c T locs cells slots) (hx : p.tables.exec = Jvm.exec) (hZ : Z.Warmed39 s.vm) {own R0 O n d host C : String} {index kn : Nat} {ty : FieldType} (hown : s.vm.findClass own = some m.cls) (w : (Jvm.Cond.fieldLink own index R0 n d).before a0 Z = true ∨ (Jvm.Cond.fieldLinkNest own index R0 n d host).before a0 Z = true) (via : Via Z R0 O n d) (eT : T.heap = h) {a : Addr} {v old : Value} (F : Fld Z h a O n d old) (E : Exa Z h a C)
    (L : (Jvm.Cond.lays C O n d).before a0 Z = true ∨ ((Jvm.Cond.laysFinal C O n d).before a0 Z = true ∧ own = O ∧ meth.name = "<init>")) (wi : (Jvm.Cond.instantiable C kn).before a0 Z = true) (hty : parseFieldDescriptor d = some ty) (hn : narrow ty v = v) (hft : fits ty v = true) {pc pc' : Nat} {Ls : Array Slot} {St : List Value} (hd : decode c.code pc = .ok (.putfield index, 3)) (hp : pc + 3 = pc')
    (kk : ∀ (T' : State) (h' : Heap), Stand p l e R s m args below meth c T' (locs ++ [⟨a, Jvm.RoadKit.slotOf Z O n d⟩]) cells slots → T'.heap = h' → Wr h h' a (Jvm.RoadKit.slotOf Z O n d) v → Ends p e below Q T' (mkF m pc' Ls St)) : Ends p e below Q T (mkF m pc Ls (v :: .ref a :: St)) := by
  subst hp
  obtain ⟨T', h', X', e', W', st⟩ := putF X hx hZ hown w via eT F E L wi hty hn hft (g := mkF m pc Ls (v :: .ref a :: St)) rfl rfl hd
  exact Ends.go st (kk T' h' X' e' W')
theorem ow_putFN (X : Stand p l e R s m args below meth c T locs cells slots) (hx : p.tables.exec = Jvm.exec) (hZ : Z.Warmed39 s.vm) {own R0 O n d C : String} {index kn : Nat} {ty : FieldType} (hown : s.vm.findClass own = some m.cls) (w : (Jvm.Cond.fieldLink own index R0 n d).before a0 Z = true) (via : Via Z R0 O n d) (eT : T.heap = h) {a : Addr} {v v' old : Value} (F : Fld Z h a O n d old) (E : Exa Z h a C)
    (L : (Jvm.Cond.lays C O n d).before a0 Z = true ∨ ((Jvm.Cond.laysFinal C O n d).before a0 Z = true ∧ own = O ∧ meth.name = "<init>")) (wi : (Jvm.Cond.instantiable C kn).before a0 Z = true) (hty : parseFieldDescriptor d = some ty) (hn : narrow ty v = v') (hft : fits ty v' = true) {pc pc' : Nat} {Ls : Array Slot} {St : List Value} (hd : decode c.code pc = .ok (.putfield index, 3)) (hp : pc + 3 = pc')
    (kk : ∀ (T' : State) (h' : Heap), Stand p l e R s m args below meth c T' (locs ++ [⟨a, Jvm.RoadKit.slotOf Z O n d⟩]) cells slots → T'.heap = h' → Wr h h' a (Jvm.RoadKit.slotOf Z O n d) v' → Ends p e below Q T' (mkF m pc' Ls St)) : Ends p e below Q T (mkF m pc Ls (v :: .ref a :: St)) := by
  subst hp
  obtain ⟨T', h', X', e', W', st⟩ := putFN X hx hZ hown w via eT F E L wi hty hn hft (g := mkF m pc Ls (v :: .ref a :: St)) rfl rfl hd
  exact Ends.go st (kk T' h' X' e' W')
theorem ow_new (X : Stand p l e R s m args below meth c T locs cells slots) (hx : p.tables.exec = Jvm.exec) (hZ : Z.Warmed39 s.vm) {own C : String} {index n : Nat} (hown : s.vm.findClass own = some m.cls) (w : (Jvm.Cond.classLink own index C).before a0 Z = true) (wi : (Jvm.Cond.instantiable C n).before a0 Z = true) (wz : (Jvm.Cond.initialized C).before a0 Z = true) (eT : T.heap = h) {pc pc' : Nat} {Ls : Array Slot} {St : List Value} (hd : decode c.code pc = .ok (.new index, 3)) (hc : cells + 1 ≤ R.cells) (hl : slots + n ≤ R.slots) (hp : pc + 3 = pc')
    (kk : ∀ (T' : State) (h' : Heap) (b : Addr), b = h.size → Stand p l e R s m args below meth c T' locs (cells + 1) (slots + n) → T'.heap = h' → Ext h h' → Exa Z h' b C → (∀ {O nm d : String} {ty : FieldType}, Laid Z a0 C O nm d → parseFieldDescriptor d = some ty → Fld Z h' b O nm d (defaultValue ty)) → Ends p e below Q T' (mkF m pc' Ls (.ref b :: St))) : Ends p e below Q T (mkF m pc Ls St) := by
  subst hp
  obtain ⟨T', h', X', e', E', A', D', -, st⟩ := newO X hx hZ hown w wi wz eT (g := mkF m pc Ls St) rfl hd hc hl
  exact Ends.go st (kk T' h' _ rfl X' e' E' A' D')
/-- a body that returns a number and leaves the heap as it is -/
def QI (P : Int32 → Prop) (h0 : Heap) (v : Option Value) (h : Heap) (L : List Loc) : Prop := ∃ z, v = some (.int z) ∧ P z ∧ L = [] ∧ h = h0
theorem ow_callVPI (X : Stand p l e R s m args below meth c T locs cells slots) (hx : p.tables.exec = Jvm.exec) (hZ : Z.Warmed39 s.vm) {own C : String} {index : Nat} {y y' : MethodName} (hyy : y = y') {bytes : ByteArray} {maxL : Nat} {ret : Option FieldType} (hown : s.vm.findClass own = some m.cls)
    (wl : (Jvm.Cond.methodLink own index y).before a0 Z = true) (wd : (Jvm.Cond.declares y).before a0 Z = true) (wsel : (Jvm.Cond.selects C y y').before a0 Z = true) (wst : (Jvm.Cond.instanceMethod y').before a0 Z = true) (wi : (Jvm.Cond.initialized y'.cls).before a0 Z = true) (wc : (Jvm.Cond.code y' bytes maxL ret).before a0 Z = true) (hy : y.cls ≠ "java/lang/invoke/MethodHandle" ∧ y.cls ≠ "java/lang/invoke/VarHandle")
    {fr lo : Nat} {as' : Array Value} {P : Int32 → Prop} (hM : MetFree l y' (head1 [Jvm.Cond.code y' bytes maxL ret] ({ frames := fr, cells := 0, slots := 0, locals := lo } : Room)) (fun a U => a = as' ∧ Z.Warmed39 U.vm ∧ U.heap = h) (fun _ _ _ _ _ => True) (fun _ U o U' => ∃ v L, o = .returned v ∧ QI P h v U'.heap L ∧ FrameEnd U o U' L 0 0))
    (eT : T.heap = h) (W : Nat) (hf : fr + 1 ≤ R.frames) (hl : W + (maxL + 11) + lo ≤ R.locals) (hce : cells ≤ R.cells) (hsl : slots ≤ R.slots) {pc pc' : Nat} {Ls : Array Slot} {St rest : List Value} (argsL : List Value) {ps : List FieldType} {rt : Option FieldType} (hsize : Ls.size = c.maxLocals) (hdesc : parseMethodDescriptor y.desc = some ⟨ps, rt⟩) (hlen : argsL.length = ps.length) {a : Addr} (E : Exa Z h a C) (hst : St = argsL.reverse ++ .ref a :: rest) (has : (Value.ref a :: argsL).toArray = as') (hW : (rest.map fun v => v.category).sum ≤ W)
    (hd : decode c.code pc = .ok (.invokevirtual index, 3)) (hp : pc + 3 = pc')
    (kk : ∀ (z : Int32) (T' : State), P z → Stand p l e R s m args below meth c T' locs cells slots → T'.heap = h → Ends p e below Q T' (mkF m pc' Ls (.int z :: rest))) : Ends p e below Q T (mkF m pc Ls St) := by
  refine ow_callV X hx hZ hyy hown wl wd wsel wst wi wc hy hM eT W hf hl hce hsl argsL hsize hdesc hlen E hst has hW hd hp ?_
  rintro v T' L' ⟨z, rfl, hP, rfl, hh⟩ X'
  rw [List.append_nil] at X'
  exact kk z T' hP X' hh
def QN (h0 : Heap) (v : Option Value) (h : Heap) (L : List Loc) : Prop := v = none ∧ L = [] ∧ h = h0
theorem ow_lowbits (x m : Int32) (f : Nat → Int) (hm : 255 &&& m = m) (hf : ∀ r : Fin 256, (Int32.ofNat r.val &&& m).toInt = f r.val) : (x &&& m).toInt = f (x.toInt % 256).toNat := by
  have h1 : (x &&& 255).toInt = x.toInt % 256 := c_mask x 255 8 (by decide) (by decide)
  have h0 : (x.toInt % 256).toNat < 256 := by omega
  have h2 : x &&& 255 = Int32.ofNat (x.toInt % 256).toNat := by
    apply Int32.toInt_inj.mp
    rw [h1]
    have q : (Int32.ofNat (x.toInt % 256).toNat).toInt = ((x.toInt % 256).toNat : Int) := len_toInt (by omega)
    omega
  have h3 : x &&& m = (x &&& 255) &&& m := by rw [Int32.and_assoc, hm]
  rw [h3, h2]
  exact hf ⟨_, h0⟩
end Own

theorem d_recInit_0 : decode jdk_30_method_1_code 0 = .ok (.aload_n 0, 1) := by decide +kernel
theorem d_recInit_1 : decode jdk_30_method_1_code 1 = .ok (.invokespecial 1, 3) := by decide +kernel
theorem d_recInit_4 : decode jdk_30_method_1_code 4 = .ok (.return_, 1) := by decide +kernel
theorem ef_recInit (m : MethodId) (x0 : Addr) : entryFrame m #[(.ref x0)] 1 = mkF m 0 #[.val (.ref x0)] [] := by first | (simp [entryFrame, mkF, argsToLocals, Value.category]; done) | rfl
theorem pn_0 : plainName "java/lang/Record" = true := by first | (simp [plainName, overriddenIn]; done) | decide +kernel
set_option maxRecDepth 65536 in
set_option maxHeartbeats 40000000 in
theorem rm_recInit (l : Launch) (Z : State) (a0 : Array Value) (hw : ∀ d ∈ tables_1, d.before a0 Z = true) (ws : List Jvm.Cond) (o : Addr) (h0 : Heap) :
    MetFree l (⟨"java/lang/Record", "<init>", "()V"⟩ : MethodName) (head1 (Jvm.Cond.code (⟨"java/lang/Record", "<init>", "()V"⟩ : MethodName) jdk_30_method_1_code 1 none :: ws) ({ frames := 1, cells := 0, slots := 0, locals := 12 } : Room)) (fun a_ U_ => a_ = #[(.ref o)] ∧ Z.Warmed39 U_.vm ∧ U_.heap = h0) (fun _ _ _ _ _ => True) (fun _ U_ o_ U_' => ∃ v_ L_, o_ = .returned v_ ∧ (QN h0) v_ U_'.heap L_ ∧ FrameEnd U_ o_ U_' L_ 0 0) := by
  refine ow_body (plainFor_of_name pn_0) ?_
  intro p e s m below meth c T0 X0 hx hZ hby hml hown hnm hret hlk e0
  refine Ends.cast (ef_recInit m o) ?_
  refine ow_aloadN X0 hx (hb hby d_recInit_0) rfl rfl (pc' := 1) rfl ?_
  refine ow_init0 X0 hx hZ hown (hw _ (List.mem_of_getElem? (i := 11) rfl)) (hw _ (List.mem_of_getElem? (i := 12) rfl)) (hw _ (List.mem_of_getElem? (i := 13) rfl)) e0 0 (by decide) (by decide) (by rw [hml]; rfl) (Nat.le_of_eq rfl) (hb hby d_recInit_1) (pc' := 4) rfl (fun T1 X1 e1 => ?_)
  exact ow_retV X1 hx hret hlk (hb hby d_recInit_4) (by decide) (by decide) ⟨rfl, rfl, e1⟩
theorem pd_0 : parseMethodDescriptor "()V" = some ⟨[], none⟩ := by decide +kernel
theorem d_faInit_0 : decode prog_28_method_1_code 0 = .ok (.aload_n 0, 1) := by decide +kernel
theorem d_faInit_1 : decode prog_28_method_1_code 1 = .ok (.invokespecial 1, 3) := by decide +kernel
theorem d_faInit_4 : decode prog_28_method_1_code 4 = .ok (.aload_n 0, 1) := by decide +kernel
theorem d_faInit_5 : decode prog_28_method_1_code 5 = .ok (.iload_n 1, 1) := by decide +kernel
theorem d_faInit_6 : decode prog_28_method_1_code 6 = .ok (.putfield 7, 3) := by decide +kernel
theorem d_faInit_9 : decode prog_28_method_1_code 9 = .ok (.aload_n 0, 1) := by decide +kernel
theorem d_faInit_10 : decode prog_28_method_1_code 10 = .ok (.iload_n 2, 1) := by decide +kernel
theorem d_faInit_11 : decode prog_28_method_1_code 11 = .ok (.putfield 13, 3) := by decide +kernel
theorem d_faInit_14 : decode prog_28_method_1_code 14 = .ok (.aload_n 0, 1) := by decide +kernel
theorem d_faInit_15 : decode prog_28_method_1_code 15 = .ok (.iload_n 3, 1) := by decide +kernel
theorem d_faInit_16 : decode prog_28_method_1_code 16 = .ok (.putfield 17, 3) := by decide +kernel
theorem d_faInit_19 : decode prog_28_method_1_code 19 = .ok (.return_, 1) := by decide +kernel
theorem ef_faInit (m : MethodId) (x0 : Addr) (x1 : Int32) (x2 : Int32) (x3 : Int32) : entryFrame m #[(.ref x0), (.int x1), (.int x2), (.int x3)] 4 = mkF m 0 #[.val (.ref x0), .val (.int x1), .val (.int x2), .val (.int x3)] [] := by first | (simp [entryFrame, mkF, argsToLocals, Value.category]; done) | rfl
def Q_faInit (Z : State) (o : Addr) (pr : Int32) (pp : Int32) (po : Int32) (h0 : Heap) (n0 : Nat) (v : Option Value) (h : Heap) (L : List Loc) : Prop := (v = none) ∧ (Fr n0 L) ∧ (Keep h0 h [o]) ∧ (Exa Z h o "xlogtap/FileAccess") ∧ (Fld Z h o "xlogtap/FileAccess" "permissions" "I" (.int pp)) ∧ (Fld Z h o "xlogtap/FileAccess" "owner" "I" (.int po))
theorem pn_1 : plainName "xlogtap/FileAccess" = true := by first | (simp [plainName, overriddenIn]; done) | decide +kernel
set_option maxRecDepth 65536 in
set_option maxHeartbeats 40000000 in
theorem rm_faInit (l : Launch) (Z : State) (a0 : Array Value) (hw : ∀ d ∈ tables_1, d.before a0 Z = true) (ws : List Jvm.Cond) (o : Addr) (pr : Int32) (pp : Int32) (po : Int32) (h0 : Heap) (n0 : Nat) (Z0 : n0 ≤ h0.size) (E_o : Exa Z h0 o "xlogtap/FileAccess") (F_regularFile : Fld Z h0 o "xlogtap/FileAccess" "regularFile" "Z" (.int (0 : Int32))) (F_permissions : Fld Z h0 o "xlogtap/FileAccess" "permissions" "I" (.int (0 : Int32))) (F_owner : Fld Z h0 o "xlogtap/FileAccess" "owner" "I" (.int (0 : Int32))) (g_o : n0 ≤ o) :
    MetFree l (⟨"xlogtap/FileAccess", "<init>", "(ZII)V"⟩ : MethodName) (head1 (Jvm.Cond.code (⟨"xlogtap/FileAccess", "<init>", "(ZII)V"⟩ : MethodName) prog_28_method_1_code 4 none :: ws) ({ frames := 2, cells := 0, slots := 0, locals := 24 } : Room)) (fun a_ U_ => a_ = #[(.ref o), (.int pr), (.int pp), (.int po)] ∧ Z.Warmed39 U_.vm ∧ U_.heap = h0) (fun _ _ _ _ _ => True) (fun _ U_ o_ U_' => ∃ v_ L_, o_ = .returned v_ ∧ (Q_faInit Z o pr pp po h0 n0) v_ U_'.heap L_ ∧ FrameEnd U_ o_ U_' L_ 0 0) := by
  refine ow_body (plainFor_of_name pn_1) ?_
  intro p e s m below meth c T0 X0 hx hZ hby hml hown hnm hret hlk e0
  have N0 := Fr.nil n0
  refine Ends.cast (ef_faInit m o pr pp po) ?_
  have r_pr := rng32 pr
  have r_pp := rng32 pp
  have r_po := rng32 po
  refine ow_aloadN X0 hx (hb hby d_faInit_0) rfl rfl (pc' := 1) rfl ?_
  refine ow_callI X0 hx hZ rfl rfl hown (hw _ (List.mem_of_getElem? (i := 6) rfl)) (hw _ (List.mem_of_getElem? (i := 7) rfl)) (hw _ (List.mem_of_getElem? (i := 9) rfl)) (hw _ (List.mem_of_getElem? (i := 10) rfl)) (by decide) (rm_recInit l Z a0 hw [] o h0 ) e0 0 (by decide) (by decide) (by decide) (by decide) [] (by rw [hml]; rfl) pd_0 rfl rfl rfl (Nat.le_of_eq rfl) (hb hby d_faInit_1) (pc' := 4) rfl (fun v1 T1 L1 hQ1 X1 => ?_)
  obtain ⟨rfl, rfl, e1⟩ := hQ1
  rw [List.append_nil] at X1
  show Ends _ _ _ _ T1 (mkF m 4 #[.val (.ref o), .val (.int pr), .val (.int pp), .val (.int po)] [])
  refine ow_aloadN X1 hx (hb hby d_faInit_4) rfl rfl (pc' := 5) rfl ?_
  refine ow_iloadN X1 hx (hb hby d_faInit_5) rfl (pc' := 6) rfl ?_
  refine ow_putFN X1 hx hZ hown (hw _ (List.mem_of_getElem? (i := 14) rfl)) Via.refl e1 F_regularFile E_o (Or.inr ⟨(hw _ (List.mem_of_getElem? (i := 15) rfl)), rfl, hnm⟩) (hw _ (List.mem_of_getElem? (i := 1) rfl)) (ty := .boolean) (v' := .int (nar .boolean pr)) (by decide) rfl (fits_nar_bool _) (hb hby d_faInit_6) (pc' := 9) rfl (fun T2 h2 X2 e2 W2 => ?_)
  have F_o_regularFile_2 := F_regularFile.same W2
  have E_o_2 := E_o.wr W2
  have F_o_permissions_2 := F_permissions.other W2 (Or.inr (slot_ne (Or.inr (hw _ (List.mem_of_getElem? (i := 17) rfl))) (Or.inr (hw _ (List.mem_of_getElem? (i := 15) rfl))) (by decide) (t := .int) (t' := .boolean) (by decide) (by decide)))
  have F_o_owner_2 := F_owner.other W2 (Or.inr (slot_ne (Or.inr (hw _ (List.mem_of_getElem? (i := 19) rfl))) (Or.inr (hw _ (List.mem_of_getElem? (i := 15) rfl))) (by decide) (t := .int) (t' := .boolean) (by decide) (by decide)))
  have Zs2 : n0 ≤ h2.size := Nat.le_trans Z0 (Keep.of_wr W2).1
  have K2 := (Keep.refl h0 [o]).wr W2 (Or.inl (List.mem_of_getElem? (i := 0) rfl))
  have N2 := Fr.snoc X2 N0 g_o
  refine ow_aloadN X2 hx (hb hby d_faInit_9) rfl rfl (pc' := 10) rfl ?_
  refine ow_iloadN X2 hx (hb hby d_faInit_10) rfl (pc' := 11) rfl ?_
  refine ow_putF X2 hx hZ hown (host := "") (Or.inl (hw _ (List.mem_of_getElem? (i := 16) rfl))) Via.refl e2 F_o_permissions_2 E_o_2 (Or.inr ⟨(hw _ (List.mem_of_getElem? (i := 17) rfl)), rfl, hnm⟩) (hw _ (List.mem_of_getElem? (i := 1) rfl)) (ty := .int) (by decide) rfl rfl (hb hby d_faInit_11) (pc' := 14) rfl (fun T3 h3 X3 e3 W3 => ?_)
  have F_o_permissions_3 := F_o_permissions_2.same W3
  have E_o_3 := E_o_2.wr W3
  have F_o_owner_3 := F_o_owner_2.other W3 (Or.inr (slot_ne (Or.inr (hw _ (List.mem_of_getElem? (i := 19) rfl))) (Or.inr (hw _ (List.mem_of_getElem? (i := 17) rfl))) (by decide) (t := .int) (t' := .int) (by decide) (by decide)))
  have F_o_regularFile_3 := F_o_regularFile_2.other W3 (Or.inr (slot_ne (Or.inr (hw _ (List.mem_of_getElem? (i := 15) rfl))) (Or.inr (hw _ (List.mem_of_getElem? (i := 17) rfl))) (by decide) (t := .boolean) (t' := .int) (by decide) (by decide)))
  have Zs3 : n0 ≤ h3.size := Nat.le_trans Zs2 (Keep.of_wr W3).1
  have K3 := K2.wr W3 (Or.inl (List.mem_of_getElem? (i := 0) rfl))
  have N3 := Fr.snoc X3 N2 g_o
  refine ow_aloadN X3 hx (hb hby d_faInit_14) rfl rfl (pc' := 15) rfl ?_
  refine ow_iloadN X3 hx (hb hby d_faInit_15) rfl (pc' := 16) rfl ?_
  refine ow_putF X3 hx hZ hown (host := "") (Or.inl (hw _ (List.mem_of_getElem? (i := 18) rfl))) Via.refl e3 F_o_owner_3 E_o_3 (Or.inr ⟨(hw _ (List.mem_of_getElem? (i := 19) rfl)), rfl, hnm⟩) (hw _ (List.mem_of_getElem? (i := 1) rfl)) (ty := .int) (by decide) rfl rfl (hb hby d_faInit_16) (pc' := 19) rfl (fun T4 h4 X4 e4 W4 => ?_)
  have F_o_owner_4 := F_o_owner_3.same W4
  have E_o_4 := E_o_3.wr W4
  have F_o_regularFile_4 := F_o_regularFile_3.other W4 (Or.inr (slot_ne (Or.inr (hw _ (List.mem_of_getElem? (i := 15) rfl))) (Or.inr (hw _ (List.mem_of_getElem? (i := 19) rfl))) (by decide) (t := .boolean) (t' := .int) (by decide) (by decide)))
  have F_o_permissions_4 := F_o_permissions_3.other W4 (Or.inr (slot_ne (Or.inr (hw _ (List.mem_of_getElem? (i := 17) rfl))) (Or.inr (hw _ (List.mem_of_getElem? (i := 19) rfl))) (by decide) (t := .int) (t' := .int) (by decide) (by decide)))
  have Zs4 : n0 ≤ h4.size := Nat.le_trans Zs3 (Keep.of_wr W4).1
  have K4 := K3.wr W4 (Or.inl (List.mem_of_getElem? (i := 0) rfl))
  have N4 := Fr.snoc X4 N3 g_o
  exact ow_retV X4 hx hret hlk (hb hby d_faInit_19) (by decide) (by decide) (show Q_faInit Z o pr pp po h0 n0 _ T4.heap _ from by rw [e4]; exact ⟨rfl, N4, K4, E_o_4, F_o_permissions_4, F_o_owner_4⟩)
theorem d_kkp_0 : decode prog_28_method_4_code 0 = .ok (.aload_n 0, 1) := by decide +kernel
theorem d_kkp_1 : decode prog_28_method_4_code 1 = .ok (.getfield 13, 3) := by decide +kernel
theorem d_kkp_4 : decode prog_28_method_4_code 4 = .ok (.aload_n 0, 1) := by decide +kernel
theorem d_kkp_5 : decode prog_28_method_4_code 5 = .ok (.getfield 17, 3) := by decide +kernel
theorem d_kkp_8 : decode prog_28_method_4_code 8 = .ok (.ifCond .ne 8, 3) := by decide +kernel
theorem d_kkp_11 : decode prog_28_method_4_code 11 = .ok (.bipush 31, 2) := by decide +kernel
theorem d_kkp_13 : decode prog_28_method_4_code 13 = .ok (.goto 5, 3) := by decide +kernel
theorem d_kkp_16 : decode prog_28_method_4_code 16 = .ok (.bipush 63, 2) := by decide +kernel
theorem d_kkp_18 : decode prog_28_method_4_code 18 = .ok (.iand, 1) := by decide +kernel
theorem d_kkp_19 : decode prog_28_method_4_code 19 = .ok (.ifCond .ne 7, 3) := by decide +kernel
theorem d_kkp_22 : decode prog_28_method_4_code 22 = .ok (.iconst 1, 1) := by decide +kernel
theorem d_kkp_23 : decode prog_28_method_4_code 23 = .ok (.goto 4, 3) := by decide +kernel
theorem d_kkp_26 : decode prog_28_method_4_code 26 = .ok (.iconst 0, 1) := by decide +kernel
theorem d_kkp_27 : decode prog_28_method_4_code 27 = .ok (.ireturn, 1) := by decide +kernel
theorem ef_kkp (m : MethodId) (x0 : Addr) : entryFrame m #[(.ref x0)] 1 = mkF m 0 #[.val (.ref x0)] [] := by first | (simp [entryFrame, mkF, argsToLocals, Value.category]; done) | rfl
set_option maxRecDepth 65536 in
set_option maxHeartbeats 40000000 in
theorem rm_kkp (l : Launch) (Z : State) (a0 : Array Value) (hw : ∀ d ∈ tables_1, d.before a0 Z = true) (ws : List Jvm.Cond) (o : Addr) (pp : Int32) (po : Int32) (h0 : Heap) (F_pp : Fld Z h0 o "xlogtap/FileAccess" "permissions" "I" (.int pp)) (F_po : Fld Z h0 o "xlogtap/FileAccess" "owner" "I" (.int po)) :
    MetFree l (⟨"xlogtap/FileAccess", "keepsKeyPrivate", "()Z"⟩ : MethodName) (head1 (Jvm.Cond.code (⟨"xlogtap/FileAccess", "keepsKeyPrivate", "()Z"⟩ : MethodName) prog_28_method_4_code 1 (some .boolean) :: ws) ({ frames := 0, cells := 0, slots := 0, locals := 0 } : Room)) (fun a_ U_ => a_ = #[(.ref o)] ∧ Z.Warmed39 U_.vm ∧ U_.heap = h0) (fun _ _ _ _ _ => True) (fun _ U_ o_ U_' => ∃ v_ L_, o_ = .returned v_ ∧ (QI (fun z => (((po.toInt = 0 → pp.toInt % 32 = 0) ∧ (¬ po.toInt = 0 → pp.toInt % 64 = 0)) ∧ z.toInt = 1) ∨ (¬ ((po.toInt = 0 → pp.toInt % 32 = 0) ∧ (¬ po.toInt = 0 → pp.toInt % 64 = 0)) ∧ z.toInt = 0)) h0) v_ U_'.heap L_ ∧ FrameEnd U_ o_ U_' L_ 0 0) := by
  refine ow_body (plainFor_of_name pn_1) ?_
  intro p e s m below meth c T0 X0 hx hZ hby hml hown hnm hret hlk e0
  refine Ends.cast (ef_kkp m o) ?_
  refine ow_aloadN X0 hx (hb hby d_kkp_0) rfl rfl (pc' := 1) rfl ?_
  refine ow_getF X0 hx hZ hown (host := "") (Or.inl (hw _ (List.mem_of_getElem? (i := 16) rfl))) Via.refl e0 F_pp (hb hby d_kkp_1) (pc' := 4) rfl (fun T1 X1 e1 => ?_)
  refine ow_aloadN X1 hx (hb hby d_kkp_4) rfl rfl (pc' := 5) rfl ?_
  refine ow_getF X1 hx hZ hown (host := "") (Or.inl (hw _ (List.mem_of_getElem? (i := 18) rfl))) Via.refl e1 F_po (hb hby d_kkp_5) (pc' := 8) rfl (fun T2 X2 e2 => ?_)
  refine ow_if_ne X2 hx (po.toInt) (hb hby d_kkp_8) rfl (by decide) (pt := 16) (by decide) (pf := 11) rfl (fun c8 => ?_) (fun c8 => ?_)
  · refine ow_bipush X2 hx (z := (63 : Int32)) (hb hby d_kkp_16) rfl (pc' := 18) rfl ?_
    refine ow_iand X2 hx (hb hby d_kkp_18) (pc' := 19) rfl (fun z3 hz3 => ?_)
    have az3 : z3.toInt = pp.toInt % 64 := by rw [hz3]; exact c_mask pp (63 : Int32) 6 (by decide) (by decide)
    have rz3 := rng32 z3
    refine ow_if_ne X2 hx (z3.toInt) (hb hby d_kkp_19) rfl (by decide) (pt := 26) (by decide) (pf := 22) rfl (fun c19 => ?_) (fun c19 => ?_)
    · refine ow_iconst X2 hx (z := (0 : Int32)) (hb hby d_kkp_26) rfl (pc' := 27) rfl ?_
      exact ow_retB X2 hx hret hlk (hb hby d_kkp_27) (by decide) (by decide) (z' := (0 : Int32)) rfl ⟨(0 : Int32), rfl, (show (((po.toInt = 0 → pp.toInt % 32 = 0) ∧ (¬ po.toInt = 0 → pp.toInt % 64 = 0)) ∧ (0 : Int) = 1) ∨ (¬ ((po.toInt = 0 → pp.toInt % 32 = 0) ∧ (¬ po.toInt = 0 → pp.toInt % 64 = 0)) ∧ (0 : Int) = 0) from by omega), rfl, e2⟩
    · refine ow_iconst X2 hx (z := (1 : Int32)) (hb hby d_kkp_22) rfl (pc' := 23) rfl ?_
      refine ow_goto X2 hx (hb hby d_kkp_23) (by decide) (pc' := 27) (by decide) ?_
      exact ow_retB X2 hx hret hlk (hb hby d_kkp_27) (by decide) (by decide) (z' := (1 : Int32)) rfl ⟨(1 : Int32), rfl, (show (((po.toInt = 0 → pp.toInt % 32 = 0) ∧ (¬ po.toInt = 0 → pp.toInt % 64 = 0)) ∧ (1 : Int) = 1) ∨ (¬ ((po.toInt = 0 → pp.toInt % 32 = 0) ∧ (¬ po.toInt = 0 → pp.toInt % 64 = 0)) ∧ (1 : Int) = 0) from by omega), rfl, e2⟩
  · refine ow_bipush X2 hx (z := (31 : Int32)) (hb hby d_kkp_11) rfl (pc' := 13) rfl ?_
    refine ow_goto X2 hx (hb hby d_kkp_13) (by decide) (pc' := 18) (by decide) ?_
    refine ow_iand X2 hx (hb hby d_kkp_18) (pc' := 19) rfl (fun z4 hz4 => ?_)
    have az4 : z4.toInt = pp.toInt % 32 := by rw [hz4]; exact c_mask pp (31 : Int32) 5 (by decide) (by decide)
    have rz4 := rng32 z4
    refine ow_if_ne X2 hx (z4.toInt) (hb hby d_kkp_19) rfl (by decide) (pt := 26) (by decide) (pf := 22) rfl (fun c19 => ?_) (fun c19 => ?_)
    · refine ow_iconst X2 hx (z := (0 : Int32)) (hb hby d_kkp_26) rfl (pc' := 27) rfl ?_
      exact ow_retB X2 hx hret hlk (hb hby d_kkp_27) (by decide) (by decide) (z' := (0 : Int32)) rfl ⟨(0 : Int32), rfl, (show (((po.toInt = 0 → pp.toInt % 32 = 0) ∧ (¬ po.toInt = 0 → pp.toInt % 64 = 0)) ∧ (0 : Int) = 1) ∨ (¬ ((po.toInt = 0 → pp.toInt % 32 = 0) ∧ (¬ po.toInt = 0 → pp.toInt % 64 = 0)) ∧ (0 : Int) = 0) from by omega), rfl, e2⟩
    · refine ow_iconst X2 hx (z := (1 : Int32)) (hb hby d_kkp_22) rfl (pc' := 23) rfl ?_
      refine ow_goto X2 hx (hb hby d_kkp_23) (by decide) (pc' := 27) (by decide) ?_
      exact ow_retB X2 hx hret hlk (hb hby d_kkp_27) (by decide) (by decide) (z' := (1 : Int32)) rfl ⟨(1 : Int32), rfl, (show (((po.toInt = 0 → pp.toInt % 32 = 0) ∧ (¬ po.toInt = 0 → pp.toInt % 64 = 0)) ∧ (1 : Int) = 1) ∨ (¬ ((po.toInt = 0 → pp.toInt % 32 = 0) ∧ (¬ po.toInt = 0 → pp.toInt % 64 = 0)) ∧ (1 : Int) = 0) from by omega), rfl, e2⟩
theorem pd_1 : parseMethodDescriptor "(ZII)V" = some ⟨[.boolean, .int, .int], none⟩ := by decide +kernel
theorem pd_2 : parseMethodDescriptor "()Z" = some ⟨[], some .boolean⟩ := by decide +kernel
theorem ef_law (m : MethodId) (x0 : Int32) (x1 : Int32) (x2 : Int32) : entryFrame m #[(.int x0), (.int x1), (.int x2)] maxLocals = mkF m 0 #[.val (.int x0), .val (.int x1), .val (.int x2), .unset, .unset, .unset, .unset, .unset, .unset, .unset, .unset, .unset, .unset] [] := by first | (simp [entryFrame, mkF, argsToLocals, Value.category, maxLocals]; done) | rfl
def Q_law (pp : Int32) (ps : Int32) (pk : Int32) (h0 : Heap) (n0 : Nat) (v : Option Value) (h : Heap) (L : List Loc) : Prop := v = some (.int 1) ∧ Fr n0 L
theorem pn_2 : plainName "xlogtap/FileAccessKeepsKeyPrivatePinLaw" = true := by first | (simp [plainName, overriddenIn]; done) | decide +kernel
set_option maxRecDepth 65536 in
set_option maxHeartbeats 40000000 in
theorem rm_law (l : Launch) (Z : State) (a0 : Array Value) (hw : ∀ d ∈ tables_1, d.before a0 Z = true) (ws : List Jvm.Cond) (pp : Int32) (ps : Int32) (pk : Int32) (h0 : Heap) (n0 : Nat) (Z0 : n0 ≤ h0.size) :
    MetFree l x (head1 (Jvm.Cond.code x code maxLocals ret :: ws) room_1) (fun a_ U_ => a_ = #[(.int pp), (.int ps), (.int pk)] ∧ Z.Warmed39 U_.vm ∧ U_.heap = h0) (fun _ _ _ _ _ => True) (fun _ U_ o_ U_' => ∃ v_ L_, o_ = .returned v_ ∧ (Q_law pp ps pk h0 n0) v_ U_'.heap L_ ∧ FrameEnd U_ o_ U_' L_ 16 128) := by
  refine ow_body (plainFor_of_name pn_2) ?_
  intro p e s m below meth c T0 X0 hx hZ hby hml hown hnm hret hlk e0
  have N0 := Fr.nil n0
  have hret : meth.sig.returnType = (some .boolean) := hret
  refine Ends.cast (ef_law m pp ps pk) ?_
  have r_pp := rng32 pp
  have r_ps := rng32 ps
  have r_pk := rng32 pk
  have J11 : ∀ (io : Int32), Ends p e below (Out s 16 128 (Q_law pp ps pk h0 n0)) T0 (mkF m 11 #[.val (.int pp), .val (.int ps), .val (.int pk), .unset, .unset, .unset, .unset, .unset, .unset, .unset, .unset, .unset, .unset] [(.int io)]) := by
    intro io 
    have r_io := rng32 io
    refine ow_istoreN X0 hx (Ls' := #[.val (.int pp), .val (.int ps), .val (.int pk), .val (.int io), .unset, .unset, .unset, .unset, .unset, .unset, .unset, .unset, .unset]) (hb hby at_11) rfl (pc' := 12) rfl ?_
    have J23 : ∀ (ir : Int32), Ends p e below (Out s 16 128 (Q_law pp ps pk h0 n0)) T0 (mkF m 23 #[.val (.int pp), .val (.int ps), .val (.int pk), .val (.int io), .unset, .unset, .unset, .unset, .unset, .unset, .unset, .unset, .unset] [(.int ir)]) := by
      intro ir 
      have r_ir := rng32 ir
      refine ow_istore X0 hx (Ls' := #[.val (.int pp), .val (.int ps), .val (.int pk), .val (.int io), .val (.int ir), .unset, .unset, .unset, .unset, .unset, .unset, .unset, .unset]) (hb hby at_23) rfl (pc' := 25) rfl ?_
      refine ow_new X0 hx hZ hown (hw _ (List.mem_of_getElem? (i := 0) rfl)) (hw _ (List.mem_of_getElem? (i := 1) rfl)) (hw _ (List.mem_of_getElem? (i := 2) rfl)) e0 (hb hby at_25) (by decide) (by decide) (pc' := 28) rfl (fun T1 h1 b1 g1 X1 e1 E1 A1 D1 => ?_)
      have g_b1 : n0 ≤ b1 := Nat.le_trans Z0 (Nat.le_of_eq g1.symm)
      have sz_b1 : h0.size ≤ b1 := Nat.le_trans (Keep.refl h0 []).1 (Nat.le_of_eq g1.symm)
      have Zs1 : n0 ≤ h1.size := Nat.le_trans Z0 E1.1
      have K1 := (Keep.refl h0 []).ext E1
      have F_b1_regularFile : Fld Z h1 b1 "xlogtap/FileAccess" "regularFile" "Z" (.int (0 : Int32)) := D1 (Or.inr (hw _ (List.mem_of_getElem? (i := 15) rfl))) (ty := .boolean) (by decide)
      have F_b1_permissions : Fld Z h1 b1 "xlogtap/FileAccess" "permissions" "I" (.int (0 : Int32)) := D1 (Or.inr (hw _ (List.mem_of_getElem? (i := 17) rfl))) (ty := .int) (by decide)
      have F_b1_owner : Fld Z h1 b1 "xlogtap/FileAccess" "owner" "I" (.int (0 : Int32)) := D1 (Or.inr (hw _ (List.mem_of_getElem? (i := 19) rfl))) (ty := .int) (by decide)
      refine ow_dup X1 hx (hb hby at_28) rfl (pc' := 29) rfl ?_
      refine ow_iload X1 hx (hb hby at_29) rfl (pc' := 31) rfl ?_
      refine ow_iloadN X1 hx (hb hby at_31) rfl (pc' := 32) rfl ?_
      refine ow_iloadN X1 hx (hb hby at_32) rfl (pc' := 33) rfl ?_
      refine ow_callI X1 hx hZ rfl rfl hown (hw _ (List.mem_of_getElem? (i := 3) rfl)) (hw _ (List.mem_of_getElem? (i := 4) rfl)) (hw _ (List.mem_of_getElem? (i := 2) rfl)) (hw _ (List.mem_of_getElem? (i := 5) rfl)) (by decide) (rm_faInit l Z a0 hw [] b1 ir pp io h1 n0 Zs1 A1 F_b1_regularFile F_b1_permissions F_b1_owner g_b1) e1 1 (by decide) (by decide) (by decide) (by decide) [(.int ir), (.int pp), (.int io)] (by rw [hml]; rfl) pd_1 rfl rfl rfl (Nat.le_of_eq rfl) (hb hby at_33) (pc' := 36) rfl (fun v2 T2 L2 hQ2 X2 => ?_)
      obtain ⟨rfl, Nc2, Kc2, P2_0, P2_1, P2_2⟩ := hQ2
      have Zs2 : n0 ≤ T2.heap.size := Nat.le_trans Zs1 Kc2.1
      have K2 := K1.trans Kc2 (allS (Or.inr sz_b1) all0)
      have N2 := Fr.app N0 Nc2
      show Ends _ _ _ _ T2 (mkF m 36 #[.val (.int pp), .val (.int ps), .val (.int pk), .val (.int io), .val (.int ir), .unset, .unset, .unset, .unset, .unset, .unset, .unset, .unset] [(.ref b1)])
      refine ow_astore X2 hx (Ls' := #[.val (.int pp), .val (.int ps), .val (.int pk), .val (.int io), .val (.int ir), .val (.ref b1), .unset, .unset, .unset, .unset, .unset, .unset, .unset]) (hb hby at_36) rfl rfl (pc' := 38) rfl ?_
      refine ow_aload X2 hx (hb hby at_38) rfl rfl (pc' := 40) rfl ?_
      refine ow_callVPI X2 hx hZ rfl hown (hw _ (List.mem_of_getElem? (i := 20) rfl)) (hw _ (List.mem_of_getElem? (i := 21) rfl)) (hw _ (List.mem_of_getElem? (i := 23) rfl)) (hw _ (List.mem_of_getElem? (i := 22) rfl)) (hw _ (List.mem_of_getElem? (i := 2) rfl)) (hw _ (List.mem_of_getElem? (i := 24) rfl)) (by decide) (rm_kkp l Z a0 hw [] b1 pp io T2.heap P2_1 P2_2) rfl 0 (by decide) (by decide) (by decide) (by decide) [] (by rw [hml]; rfl) pd_2 rfl P2_0 rfl rfl (Nat.le_of_eq rfl) (hb hby at_40) (pc' := 43) rfl (fun z3 T3 hz3 X3 e3 => ?_)
      have az3 : (((io.toInt = 0 → pp.toInt % 32 = 0) ∧ (¬ io.toInt = 0 → pp.toInt % 64 = 0)) ∧ z3.toInt = 1) ∨ (¬ ((io.toInt = 0 → pp.toInt % 32 = 0) ∧ (¬ io.toInt = 0 → pp.toInt % 64 = 0)) ∧ z3.toInt = 0) := hz3
      have rz3 := rng32 z3
      refine ow_istore X3 hx (Ls' := #[.val (.int pp), .val (.int ps), .val (.int pk), .val (.int io), .val (.int ir), .val (.ref b1), .val (.int z3), .unset, .unset, .unset, .unset, .unset, .unset]) (hb hby at_43) rfl (pc' := 45) rfl ?_
      have J57 : ∀ (i7 : Int32), (((¬ (((pp.toInt % 256).toNat / 32 % 2 * 32 : Nat) : Int) = 0) ∧ i7.toInt = 1) ∨ (¬ (¬ (((pp.toInt % 256).toNat / 32 % 2 * 32 : Nat) : Int) = 0) ∧ i7.toInt = 0)) → Ends p e below (Out s 16 128 (Q_law pp ps pk h0 n0)) T3 (mkF m 57 #[.val (.int pp), .val (.int ps), .val (.int pk), .val (.int io), .val (.int ir), .val (.ref b1), .val (.int z3), .unset, .unset, .unset, .unset, .unset, .unset] [(.int i7)]) := by
        intro i7 hi57
        have r_i7 := rng32 i7
        refine ow_istore X3 hx (Ls' := #[.val (.int pp), .val (.int ps), .val (.int pk), .val (.int io), .val (.int ir), .val (.ref b1), .val (.int z3), .val (.int i7), .unset, .unset, .unset, .unset, .unset]) (hb hby at_57) rfl (pc' := 59) rfl ?_
        have J71 : ∀ (i8 : Int32), (((¬ (((pp.toInt % 256).toNat / 16 % 2 * 16 : Nat) : Int) = 0) ∧ i8.toInt = 1) ∨ (¬ (¬ (((pp.toInt % 256).toNat / 16 % 2 * 16 : Nat) : Int) = 0) ∧ i8.toInt = 0)) → Ends p e below (Out s 16 128 (Q_law pp ps pk h0 n0)) T3 (mkF m 71 #[.val (.int pp), .val (.int ps), .val (.int pk), .val (.int io), .val (.int ir), .val (.ref b1), .val (.int z3), .val (.int i7), .unset, .unset, .unset, .unset, .unset] [(.int i8)]) := by
          intro i8 hi71
          have r_i8 := rng32 i8
          refine ow_istore X3 hx (Ls' := #[.val (.int pp), .val (.int ps), .val (.int pk), .val (.int io), .val (.int ir), .val (.ref b1), .val (.int z3), .val (.int i7), .val (.int i8), .unset, .unset, .unset, .unset]) (hb hby at_71) rfl (pc' := 73) rfl ?_
          have J85 : ∀ (i9 : Int32), (((¬ (((pp.toInt % 256).toNat / 8 % 2 * 8 : Nat) : Int) = 0) ∧ i9.toInt = 1) ∨ (¬ (¬ (((pp.toInt % 256).toNat / 8 % 2 * 8 : Nat) : Int) = 0) ∧ i9.toInt = 0)) → Ends p e below (Out s 16 128 (Q_law pp ps pk h0 n0)) T3 (mkF m 85 #[.val (.int pp), .val (.int ps), .val (.int pk), .val (.int io), .val (.int ir), .val (.ref b1), .val (.int z3), .val (.int i7), .val (.int i8), .unset, .unset, .unset, .unset] [(.int i9)]) := by
            intro i9 hi85
            have r_i9 := rng32 i9
            refine ow_istore X3 hx (Ls' := #[.val (.int pp), .val (.int ps), .val (.int pk), .val (.int io), .val (.int ir), .val (.ref b1), .val (.int z3), .val (.int i7), .val (.int i8), .val (.int i9), .unset, .unset, .unset]) (hb hby at_85) rfl (pc' := 87) rfl ?_
            have J99 : ∀ (i10 : Int32), (((¬ pp.toInt % 8 = 0) ∧ i10.toInt = 1) ∨ (¬ (¬ pp.toInt % 8 = 0) ∧ i10.toInt = 0)) → Ends p e below (Out s 16 128 (Q_law pp ps pk h0 n0)) T3 (mkF m 99 #[.val (.int pp), .val (.int ps), .val (.int pk), .val (.int io), .val (.int ir), .val (.ref b1), .val (.int z3), .val (.int i7), .val (.int i8), .val (.int i9), .unset, .unset, .unset] [(.int i10)]) := by
              intro i10 hi99
              have r_i10 := rng32 i10
              refine ow_istore X3 hx (Ls' := #[.val (.int pp), .val (.int ps), .val (.int pk), .val (.int io), .val (.int ir), .val (.ref b1), .val (.int z3), .val (.int i7), .val (.int i8), .val (.int i9), .val (.int i10), .unset, .unset]) (hb hby at_99) rfl (pc' := 101) rfl ?_
              have J110 : ∀ (i11 : Int32), (((io.toInt = 0) ∧ i11.toInt = 1) ∨ (¬ (io.toInt = 0) ∧ i11.toInt = 0)) → Ends p e below (Out s 16 128 (Q_law pp ps pk h0 n0)) T3 (mkF m 110 #[.val (.int pp), .val (.int ps), .val (.int pk), .val (.int io), .val (.int ir), .val (.ref b1), .val (.int z3), .val (.int i7), .val (.int i8), .val (.int i9), .val (.int i10), .unset, .unset] [(.int i11)]) := by
                intro i11 hi110
                have r_i11 := rng32 i11
                refine ow_istore X3 hx (Ls' := #[.val (.int pp), .val (.int ps), .val (.int pk), .val (.int io), .val (.int ir), .val (.ref b1), .val (.int z3), .val (.int i7), .val (.int i8), .val (.int i9), .val (.int i10), .val (.int i11), .unset]) (hb hby at_110) rfl (pc' := 112) rfl ?_
                refine ow_iload X3 hx (hb hby at_112) rfl (pc' := 114) rfl ?_
                refine ow_if_ne X3 hx (i8.toInt) (hb hby at_114) rfl (by decide) (pt := 127) (by decide) (pf := 117) rfl (fun c114 => ?_) (fun c114 => ?_)
                · refine ow_iconst X3 hx (z := (0 : Int32)) (hb hby at_127) rfl (pc' := 128) rfl ?_
                  refine ow_istore X3 hx (Ls' := #[.val (.int pp), .val (.int ps), .val (.int pk), .val (.int io), .val (.int ir), .val (.ref b1), .val (.int z3), .val (.int i7), .val (.int i8), .val (.int i9), .val (.int i10), .val (.int i11), .val (.int (0 : Int32))]) (hb hby at_128) rfl (pc' := 130) rfl ?_
                  refine ow_goto X3 hx (hb hby at_130) (by decide) (pc' := 148) (by decide) ?_
                  refine ow_iload X3 hx (hb hby at_148) rfl (pc' := 150) rfl ?_
                  refine ow_iload X3 hx (hb hby at_150) rfl (pc' := 152) rfl ?_
                  refine ow_icmp_ne X3 hx (z3.toInt) ((0 : Int)) (hb hby at_152) rfl rfl (by decide) (pt := 159) (by decide) (pf := 155) rfl (fun c152 => ?_) (fun c152 => ?_)
                  · refine ow_iconst X3 hx (z := (0 : Int32)) (hb hby at_159) rfl (pc' := 160) rfl ?_
                    exact absurd (show False from by omega) id
                  · refine ow_iconst X3 hx (z := (1 : Int32)) (hb hby at_155) rfl (pc' := 156) rfl ?_
                    refine ow_goto X3 hx (hb hby at_156) (by decide) (pc' := 160) (by decide) ?_
                    exact ow_retB X3 hx hret hlk (hb hby at_160) (by decide) (by decide) (z' := (1 : Int32)) rfl ⟨rfl, N2⟩
                · refine ow_iload X3 hx (hb hby at_117) rfl (pc' := 119) rfl ?_
                  refine ow_if_ne X3 hx (i9.toInt) (hb hby at_119) rfl (by decide) (pt := 127) (by decide) (pf := 122) rfl (fun c119 => ?_) (fun c119 => ?_)
                  · refine ow_iconst X3 hx (z := (0 : Int32)) (hb hby at_127) rfl (pc' := 128) rfl ?_
                    refine ow_istore X3 hx (Ls' := #[.val (.int pp), .val (.int ps), .val (.int pk), .val (.int io), .val (.int ir), .val (.ref b1), .val (.int z3), .val (.int i7), .val (.int i8), .val (.int i9), .val (.int i10), .val (.int i11), .val (.int (0 : Int32))]) (hb hby at_128) rfl (pc' := 130) rfl ?_
                    refine ow_goto X3 hx (hb hby at_130) (by decide) (pc' := 148) (by decide) ?_
                    refine ow_iload X3 hx (hb hby at_148) rfl (pc' := 150) rfl ?_
                    refine ow_iload X3 hx (hb hby at_150) rfl (pc' := 152) rfl ?_
                    refine ow_icmp_ne X3 hx (z3.toInt) ((0 : Int)) (hb hby at_152) rfl rfl (by decide) (pt := 159) (by decide) (pf := 155) rfl (fun c152 => ?_) (fun c152 => ?_)
                    · refine ow_iconst X3 hx (z := (0 : Int32)) (hb hby at_159) rfl (pc' := 160) rfl ?_
                      exact absurd (show False from by omega) id
                    · refine ow_iconst X3 hx (z := (1 : Int32)) (hb hby at_155) rfl (pc' := 156) rfl ?_
                      refine ow_goto X3 hx (hb hby at_156) (by decide) (pc' := 160) (by decide) ?_
                      exact ow_retB X3 hx hret hlk (hb hby at_160) (by decide) (by decide) (z' := (1 : Int32)) rfl ⟨rfl, N2⟩
                  · refine ow_iload X3 hx (hb hby at_122) rfl (pc' := 124) rfl ?_
                    refine ow_if_eq X3 hx (i10.toInt) (hb hby at_124) rfl (by decide) (pt := 133) (by decide) (pf := 127) rfl (fun c124 => ?_) (fun c124 => ?_)
                    · refine ow_iload X3 hx (hb hby at_133) rfl (pc' := 135) rfl ?_
                      refine ow_if_eq X3 hx (i7.toInt) (hb hby at_135) rfl (by decide) (pt := 145) (by decide) (pf := 138) rfl (fun c135 => ?_) (fun c135 => ?_)
                      · refine ow_iconst X3 hx (z := (1 : Int32)) (hb hby at_145) rfl (pc' := 146) rfl ?_
                        refine ow_istore X3 hx (Ls' := #[.val (.int pp), .val (.int ps), .val (.int pk), .val (.int io), .val (.int ir), .val (.ref b1), .val (.int z3), .val (.int i7), .val (.int i8), .val (.int i9), .val (.int i10), .val (.int i11), .val (.int (1 : Int32))]) (hb hby at_146) rfl (pc' := 148) rfl ?_
                        refine ow_iload X3 hx (hb hby at_148) rfl (pc' := 150) rfl ?_
                        refine ow_iload X3 hx (hb hby at_150) rfl (pc' := 152) rfl ?_
                        refine ow_icmp_ne X3 hx (z3.toInt) ((1 : Int)) (hb hby at_152) rfl rfl (by decide) (pt := 159) (by decide) (pf := 155) rfl (fun c152 => ?_) (fun c152 => ?_)
                        · refine ow_iconst X3 hx (z := (0 : Int32)) (hb hby at_159) rfl (pc' := 160) rfl ?_
                          exact absurd (show False from by omega) id
                        · refine ow_iconst X3 hx (z := (1 : Int32)) (hb hby at_155) rfl (pc' := 156) rfl ?_
                          refine ow_goto X3 hx (hb hby at_156) (by decide) (pc' := 160) (by decide) ?_
                          exact ow_retB X3 hx hret hlk (hb hby at_160) (by decide) (by decide) (z' := (1 : Int32)) rfl ⟨rfl, N2⟩
                      · refine ow_iload X3 hx (hb hby at_138) rfl (pc' := 140) rfl ?_
                        refine ow_istore X3 hx (Ls' := #[.val (.int pp), .val (.int ps), .val (.int pk), .val (.int io), .val (.int ir), .val (.ref b1), .val (.int z3), .val (.int i7), .val (.int i8), .val (.int i9), .val (.int i10), .val (.int i11), .val (.int i11)]) (hb hby at_140) rfl (pc' := 142) rfl ?_
                        refine ow_goto X3 hx (hb hby at_142) (by decide) (pc' := 148) (by decide) ?_
                        refine ow_iload X3 hx (hb hby at_148) rfl (pc' := 150) rfl ?_
                        refine ow_iload X3 hx (hb hby at_150) rfl (pc' := 152) rfl ?_
                        refine ow_icmp_ne X3 hx (z3.toInt) (i11.toInt) (hb hby at_152) rfl rfl (by decide) (pt := 159) (by decide) (pf := 155) rfl (fun c152 => ?_) (fun c152 => ?_)
                        · refine ow_iconst X3 hx (z := (0 : Int32)) (hb hby at_159) rfl (pc' := 160) rfl ?_
                          exact absurd (show False from by omega) id
                        · refine ow_iconst X3 hx (z := (1 : Int32)) (hb hby at_155) rfl (pc' := 156) rfl ?_
                          refine ow_goto X3 hx (hb hby at_156) (by decide) (pc' := 160) (by decide) ?_
                          exact ow_retB X3 hx hret hlk (hb hby at_160) (by decide) (by decide) (z' := (1 : Int32)) rfl ⟨rfl, N2⟩
                    · refine ow_iconst X3 hx (z := (0 : Int32)) (hb hby at_127) rfl (pc' := 128) rfl ?_
                      refine ow_istore X3 hx (Ls' := #[.val (.int pp), .val (.int ps), .val (.int pk), .val (.int io), .val (.int ir), .val (.ref b1), .val (.int z3), .val (.int i7), .val (.int i8), .val (.int i9), .val (.int i10), .val (.int i11), .val (.int (0 : Int32))]) (hb hby at_128) rfl (pc' := 130) rfl ?_
                      refine ow_goto X3 hx (hb hby at_130) (by decide) (pc' := 148) (by decide) ?_
                      refine ow_iload X3 hx (hb hby at_148) rfl (pc' := 150) rfl ?_
                      refine ow_iload X3 hx (hb hby at_150) rfl (pc' := 152) rfl ?_
                      refine ow_icmp_ne X3 hx (z3.toInt) ((0 : Int)) (hb hby at_152) rfl rfl (by decide) (pt := 159) (by decide) (pf := 155) rfl (fun c152 => ?_) (fun c152 => ?_)
                      · refine ow_iconst X3 hx (z := (0 : Int32)) (hb hby at_159) rfl (pc' := 160) rfl ?_
                        exact absurd (show False from by omega) id
                      · refine ow_iconst X3 hx (z := (1 : Int32)) (hb hby at_155) rfl (pc' := 156) rfl ?_
                        refine ow_goto X3 hx (hb hby at_156) (by decide) (pc' := 160) (by decide) ?_
                        exact ow_retB X3 hx hret hlk (hb hby at_160) (by decide) (by decide) (z' := (1 : Int32)) rfl ⟨rfl, N2⟩
              refine ow_iloadN X3 hx (hb hby at_101) rfl (pc' := 102) rfl ?_
              refine ow_if_ne X3 hx (io.toInt) (hb hby at_102) rfl (by decide) (pt := 109) (by decide) (pf := 105) rfl (fun c102 => ?_) (fun c102 => ?_)
              · refine ow_iconst X3 hx (z := (0 : Int32)) (hb hby at_109) rfl (pc' := 110) rfl ?_
                exact J110 (0 : Int32) (show ((io.toInt = 0) ∧ (0 : Int) = 1) ∨ (¬ (io.toInt = 0) ∧ (0 : Int) = 0) from by omega)
              · refine ow_iconst X3 hx (z := (1 : Int32)) (hb hby at_105) rfl (pc' := 106) rfl ?_
                refine ow_goto X3 hx (hb hby at_106) (by decide) (pc' := 110) (by decide) ?_
                exact J110 (1 : Int32) (show ((io.toInt = 0) ∧ (1 : Int) = 1) ∨ (¬ (io.toInt = 0) ∧ (1 : Int) = 0) from by omega)
            refine ow_iloadN X3 hx (hb hby at_87) rfl (pc' := 88) rfl ?_
            refine ow_bipush X3 hx (z := (7 : Int32)) (hb hby at_88) rfl (pc' := 90) rfl ?_
            refine ow_iand X3 hx (hb hby at_90) (pc' := 91) rfl (fun z4 hz4 => ?_)
            have az4 : z4.toInt = pp.toInt % 8 := by rw [hz4]; exact c_mask pp (7 : Int32) 3 (by decide) (by decide)
            have rz4 := rng32 z4
            refine ow_if_eq X3 hx (z4.toInt) (hb hby at_91) rfl (by decide) (pt := 98) (by decide) (pf := 94) rfl (fun c91 => ?_) (fun c91 => ?_)
            · refine ow_iconst X3 hx (z := (0 : Int32)) (hb hby at_98) rfl (pc' := 99) rfl ?_
              exact J99 (0 : Int32) (show ((¬ pp.toInt % 8 = 0) ∧ (0 : Int) = 1) ∨ (¬ (¬ pp.toInt % 8 = 0) ∧ (0 : Int) = 0) from by omega)
            · refine ow_iconst X3 hx (z := (1 : Int32)) (hb hby at_94) rfl (pc' := 95) rfl ?_
              refine ow_goto X3 hx (hb hby at_95) (by decide) (pc' := 99) (by decide) ?_
              exact J99 (1 : Int32) (show ((¬ pp.toInt % 8 = 0) ∧ (1 : Int) = 1) ∨ (¬ (¬ pp.toInt % 8 = 0) ∧ (1 : Int) = 0) from by omega)
          refine ow_iloadN X3 hx (hb hby at_73) rfl (pc' := 74) rfl ?_
          refine ow_bipush X3 hx (z := (8 : Int32)) (hb hby at_74) rfl (pc' := 76) rfl ?_
          refine ow_iand X3 hx (hb hby at_76) (pc' := 77) rfl (fun z5 hz5 => ?_)
          have az5 : z5.toInt = (((pp.toInt % 256).toNat / 8 % 2 * 8 : Nat) : Int) := by rw [hz5]; exact ow_lowbits pp (8 : Int32) (fun r => ((r / 8 % 2 * 8 : Nat) : Int)) (by decide) (by decide +kernel)
          have rz5 := rng32 z5
          refine ow_if_eq X3 hx (z5.toInt) (hb hby at_77) rfl (by decide) (pt := 84) (by decide) (pf := 80) rfl (fun c77 => ?_) (fun c77 => ?_)
          · refine ow_iconst X3 hx (z := (0 : Int32)) (hb hby at_84) rfl (pc' := 85) rfl ?_
            exact J85 (0 : Int32) (show ((¬ (((pp.toInt % 256).toNat / 8 % 2 * 8 : Nat) : Int) = 0) ∧ (0 : Int) = 1) ∨ (¬ (¬ (((pp.toInt % 256).toNat / 8 % 2 * 8 : Nat) : Int) = 0) ∧ (0 : Int) = 0) from by omega)
          · refine ow_iconst X3 hx (z := (1 : Int32)) (hb hby at_80) rfl (pc' := 81) rfl ?_
            refine ow_goto X3 hx (hb hby at_81) (by decide) (pc' := 85) (by decide) ?_
            exact J85 (1 : Int32) (show ((¬ (((pp.toInt % 256).toNat / 8 % 2 * 8 : Nat) : Int) = 0) ∧ (1 : Int) = 1) ∨ (¬ (¬ (((pp.toInt % 256).toNat / 8 % 2 * 8 : Nat) : Int) = 0) ∧ (1 : Int) = 0) from by omega)
        refine ow_iloadN X3 hx (hb hby at_59) rfl (pc' := 60) rfl ?_
        refine ow_bipush X3 hx (z := (16 : Int32)) (hb hby at_60) rfl (pc' := 62) rfl ?_
        refine ow_iand X3 hx (hb hby at_62) (pc' := 63) rfl (fun z6 hz6 => ?_)
        have az6 : z6.toInt = (((pp.toInt % 256).toNat / 16 % 2 * 16 : Nat) : Int) := by rw [hz6]; exact ow_lowbits pp (16 : Int32) (fun r => ((r / 16 % 2 * 16 : Nat) : Int)) (by decide) (by decide +kernel)
        have rz6 := rng32 z6
        refine ow_if_eq X3 hx (z6.toInt) (hb hby at_63) rfl (by decide) (pt := 70) (by decide) (pf := 66) rfl (fun c63 => ?_) (fun c63 => ?_)
        · refine ow_iconst X3 hx (z := (0 : Int32)) (hb hby at_70) rfl (pc' := 71) rfl ?_
          exact J71 (0 : Int32) (show ((¬ (((pp.toInt % 256).toNat / 16 % 2 * 16 : Nat) : Int) = 0) ∧ (0 : Int) = 1) ∨ (¬ (¬ (((pp.toInt % 256).toNat / 16 % 2 * 16 : Nat) : Int) = 0) ∧ (0 : Int) = 0) from by omega)
        · refine ow_iconst X3 hx (z := (1 : Int32)) (hb hby at_66) rfl (pc' := 67) rfl ?_
          refine ow_goto X3 hx (hb hby at_67) (by decide) (pc' := 71) (by decide) ?_
          exact J71 (1 : Int32) (show ((¬ (((pp.toInt % 256).toNat / 16 % 2 * 16 : Nat) : Int) = 0) ∧ (1 : Int) = 1) ∨ (¬ (¬ (((pp.toInt % 256).toNat / 16 % 2 * 16 : Nat) : Int) = 0) ∧ (1 : Int) = 0) from by omega)
      refine ow_iloadN X3 hx (hb hby at_45) rfl (pc' := 46) rfl ?_
      refine ow_bipush X3 hx (z := (32 : Int32)) (hb hby at_46) rfl (pc' := 48) rfl ?_
      refine ow_iand X3 hx (hb hby at_48) (pc' := 49) rfl (fun z7 hz7 => ?_)
      have az7 : z7.toInt = (((pp.toInt % 256).toNat / 32 % 2 * 32 : Nat) : Int) := by rw [hz7]; exact ow_lowbits pp (32 : Int32) (fun r => ((r / 32 % 2 * 32 : Nat) : Int)) (by decide) (by decide +kernel)
      have rz7 := rng32 z7
      refine ow_if_eq X3 hx (z7.toInt) (hb hby at_49) rfl (by decide) (pt := 56) (by decide) (pf := 52) rfl (fun c49 => ?_) (fun c49 => ?_)
      · refine ow_iconst X3 hx (z := (0 : Int32)) (hb hby at_56) rfl (pc' := 57) rfl ?_
        exact J57 (0 : Int32) (show ((¬ (((pp.toInt % 256).toNat / 32 % 2 * 32 : Nat) : Int) = 0) ∧ (0 : Int) = 1) ∨ (¬ (¬ (((pp.toInt % 256).toNat / 32 % 2 * 32 : Nat) : Int) = 0) ∧ (0 : Int) = 0) from by omega)
      · refine ow_iconst X3 hx (z := (1 : Int32)) (hb hby at_52) rfl (pc' := 53) rfl ?_
        refine ow_goto X3 hx (hb hby at_53) (by decide) (pc' := 57) (by decide) ?_
        exact J57 (1 : Int32) (show ((¬ (((pp.toInt % 256).toNat / 32 % 2 * 32 : Nat) : Int) = 0) ∧ (1 : Int) = 1) ∨ (¬ (¬ (((pp.toInt % 256).toNat / 32 % 2 * 32 : Nat) : Int) = 0) ∧ (1 : Int) = 0) from by omega)
    refine ow_iloadN X0 hx (hb hby at_12) rfl (pc' := 13) rfl ?_
    refine ow_iconst X0 hx (z := (2 : Int32)) (hb hby at_13) rfl (pc' := 14) rfl ?_
    refine ow_iand X0 hx (hb hby at_14) (pc' := 15) rfl (fun z8 hz8 => ?_)
    have az8 : z8.toInt = (((pk.toInt % 256).toNat / 2 % 2 * 2 : Nat) : Int) := by rw [hz8]; exact ow_lowbits pk (2 : Int32) (fun r => ((r / 2 % 2 * 2 : Nat) : Int)) (by decide) (by decide +kernel)
    have rz8 := rng32 z8
    refine ow_if_eq X0 hx (z8.toInt) (hb hby at_15) rfl (by decide) (pt := 22) (by decide) (pf := 18) rfl (fun c15 => ?_) (fun c15 => ?_)
    · refine ow_iconst X0 hx (z := (0 : Int32)) (hb hby at_22) rfl (pc' := 23) rfl ?_
      exact J23 (0 : Int32)
    · refine ow_iconst X0 hx (z := (1 : Int32)) (hb hby at_18) rfl (pc' := 19) rfl ?_
      refine ow_goto X0 hx (hb hby at_19) (by decide) (pc' := 23) (by decide) ?_
      exact J23 (1 : Int32)
  refine ow_iloadN X0 hx (hb hby at_0) rfl (pc' := 1) rfl ?_
  refine ow_iconst X0 hx (z := (1 : Int32)) (hb hby at_1) rfl (pc' := 2) rfl ?_
  refine ow_iand X0 hx (hb hby at_2) (pc' := 3) rfl (fun z9 hz9 => ?_)
  have az9 : z9.toInt = pk.toInt % 2 := by rw [hz9]; exact c_mask pk (1 : Int32) 1 (by decide) (by decide)
  have rz9 := rng32 z9
  refine ow_if_ne X0 hx (z9.toInt) (hb hby at_3) rfl (by decide) (pt := 10) (by decide) (pf := 6) rfl (fun c3 => ?_) (fun c3 => ?_)
  · refine ow_iloadN X0 hx (hb hby at_10) rfl (pc' := 11) rfl ?_
    exact J11 ps
  · refine ow_iconst X0 hx (z := (0 : Int32)) (hb hby at_6) rfl (pc' := 7) rfl ?_
    refine ow_goto X0 hx (hb hby at_7) (by decide) (pc' := 11) (by decide) ?_
    exact J11 (0 : Int32)
set_option maxRecDepth 65536 in
set_option maxHeartbeats 40000000 in
theorem comes_1 {Post : Tables → Env → Array Value → State → Outcome → State → Prop} (hpost : ∀ tb e args s v u, (limb_1_1.after args s (.returned v) u = true ∧ limb_1_2.after args s (.returned v) u = true ∧ True) → FrameEnd s (.returned v) u (Jvm.fieldLocs frame_1_writes args s ++ Jvm.arrayLocs frame_1_arrays args s ++ Jvm.staticLocs frame_1_statics s) 16 128 → Post tb e args s (.returned v) u) :
    ArmFor flags0 classFile x code maxLocals ret World_1 tables_1 room_1 Calls_1 rest_1 Pre_1 Post := by
  intro l hfl _ _ p e ha hc hk s m args below hf hA hF happ hP
  obtain ⟨hcalls, hrest, hpre⟩ := hP
  obtain ⟨-, -, -, hnamed, -, -, -, hat⟩ := (Spec.applies_iff hf).mp happ
  obtain ⟨hg, hn⟩ := and_e (Cond.before_iff.mp (show (Jvm.Cond.and given_1 narrow_1).before args s = true from hpre))
  obtain ⟨gc, gr0⟩ := and_e hg
  obtain ⟨ga0, gr1⟩ := and_e gr0
  obtain ⟨ga1, ga2⟩ := and_e gr1
  obtain ⟨w0, w1, w2, rfl⟩ : ∃ w0 w1 w2 : Value, args = #[w0, w1, w2] := by
    have hs : args.size = 3 := by simpa [Cond.value, given_1] using gc
    obtain ⟨L⟩ := args
    match L, hs with
    | [w0, w1, w2], _ => exact ⟨w0, w1, w2, rfl⟩
  have hw := fun d (hd : d ∈ tables_1) => atoms_spec (ws := Jvm.Cond.code x code maxLocals ret :: tables_1) hat d (List.mem_cons_of_mem _ hd)
  have hfit : Fit s := fun {y c} hc i hi => by
    obtain ⟨ha, rfl⟩ := Array.getElem?_eq_some_iff.mp hc
    have q := List.all_eq_true.mp ((Array.all_eq_true_iff_forall_mem.mp hF) _ (Array.getElem_mem ha)) i (List.mem_range.mpr hi)
    simpa [Array.getElem?_eq_getElem hi] using q
  obtain ⟨i0, ei0⟩ := is_v ga0
  obtain rfl : w0 = (.int i0) := Option.some.inj ei0
  obtain ⟨i1, ei1⟩ := is_v ga1
  obtain rfl : w1 = (.int i1) := Option.some.inj ei1
  obtain ⟨i2, ei2⟩ := is_v ga2
  obtain rfl : w2 = (.int i2) := Option.some.inj ei2
  obtain ⟨n, o, h1, h2, h3, _, L, rfl, ⟨rfl, N⟩, hq⟩ := rm_law l s _ hw tables_1 i0 i1 i2  s.heap s.heap.size (Nat.le_refl _)  p e ha hc hk s m _ below hf ((Spec.applies_iff_loose hf).mp happ).1 ⟨rfl, State.Warmed39.refl s, rfl⟩ trivial
  refine ⟨n, _, h1, h2, h3, hpost _ _ _ _ _ _ ⟨Cond.after_iff.mpr rfl, Cond.after_iff.mpr (eq_i res_at (Term.int_eval (1)) rfl), trivial⟩ ⟨hq.1, hq.2.1, (hq.2.2.sift fun y hy => Or.inr (N y hy)).mono (by decide) (by decide)⟩⟩
theorem main_1_1 : Claimed_1_1 := comes_1 fun _ _ _ _ _ _ h hF => ⟨h.1, hF⟩
theorem main_1_2 : Claimed_1_2 := comes_1 fun _ _ _ _ _ _ h hF => ⟨h.2.1, hF⟩
end Jvm.Pilot.@@N@@
namespace Jvm.Pilot.@@N@@
open Jvm Jvm.ClassFile Sem Op Lib Jvm.Free Jvm.Stand Jvm.Pilot.@@N@@.Jvm.D
/-! MADE BY PROGRAM (witnessworld.py) out of the Statement's table words and the real class files: 10 classes; the members and pool entries that the words name. The judged class is class 1, her method 1. -/
namespace start1
open Jvm.ClassFile
def u (s : String) : CpInfo := .utf8 (stringToUtf16 s)
/-- a pool by its gaps: so many unusable entries, then the entry; so many at the end -/
def gap : Nat → List CpInfo → List CpInfo
  | 0, r => r
  | n + 1, r => .unusable :: gap n r
def poolList (es : List (Nat × CpInfo)) (last : Nat) : List CpInfo := es.foldr (fun e r => gap e.1 (e.2 :: r)) (gap last [])
def pool (es : List (Nat × CpInfo)) (last : Nat) : Array CpInfo := ⟨poolList es last⟩
def fileOf (pool : Array CpInfo) (this : Nat) (attrs : Array Attribute := #[]) (ms : Array MethodInfo := #[]) (fl : Nat := 33) (sup : Nat := 0) (ifs : Array Nat := #[]) (fds : Array FieldInfo := #[]) : ClassFile where
  minorVersion := 0
  majorVersion := 65
  constantPool := pool
  accessFlags := fl
  thisClass := this
  superClass := sup
  interfaces := ifs
  fields := fds
  methods := ms
  attributes := attrs
def plain (name : String) (sup : Option ClassId) : Class where
  name := name
  kind := .ordinary
  loader := none
  accessFlags := 33
  super := sup
  interfaces := #[]
  cf := none
  fields := #[]
  methods := #[]
  instanceTypes := #[]
  staticTypes := #[]
  resolved := #[]
  callSites := []
  init := .initialized
  statics := none
  mirror := none

def pool0 : Array CpInfo := pool [(5, u "<init>"), (0, u "()V"), (1, .class_ 10), (1, u "java/lang/Object")] 113

def k0c0 : Code := { maxStack := 0, maxLocals := 1, code := object_method_1_code, exceptionTable := #[], attributes := #[] }
def k0m0 : Method := { name := "<init>", desc := "()V", sig := { parameters := [], returnType := none }, accessFlags := 1, code := some k0c0 }
/-- java/lang/Object -/
def k0 : Class := { plain "java/lang/Object" none with
  accessFlags := 33
  interfaces := #[]
  cf := some (fileOf pool0 8 #[] #[{ accessFlags := 1, nameIndex := 5, descriptorIndex := 6, attributes := #[] }] 33 0 #[] #[])
  fields := #[]
  methods := #[k0m0]
  instanceTypes := #[]
  staticTypes := #[]
  resolved := Array.replicate 124 none
  statics := none }

def pool1 : Array CpInfo := pool [(2, .class_ 4), (1, u "java/lang/Object"), (0, u "<init>"), (0, u "()V"), (0, .class_ 8), (0, u "xlogtap/FileAccess"), (0, .methodref 7 10), (0, .nameAndType 5 11), (0, u "(ZII)V"), (0, .methodref 7 13), (0, .nameAndType 14 15), (0, u "keepsKeyPrivate"), (0, u "()Z"), (0, .class_ 17), (0, u "xlogtap/FileAccessKeepsKeyPrivatePinLaw"), (2, u "law"), (0, u "(III)Z")] 3

def k1m0 : Method := { name := "<init>", desc := "()V", sig := { parameters := [], returnType := none }, accessFlags := 1, code := none }
def k1c1 : Code := { maxStack := 5, maxLocals := 13, code := code, exceptionTable := #[], attributes := #[] }
def k1m1 : Method := { name := "law", desc := "(III)Z", sig := { parameters := [.int, .int, .int], returnType := some .boolean }, accessFlags := 9, code := some k1c1 }
/-- xlogtap/FileAccessKeepsKeyPrivatePinLaw -/
def k1 : Class := { plain "xlogtap/FileAccessKeepsKeyPrivatePinLaw" (some 0) with
  accessFlags := 49
  interfaces := #[]
  cf := some (fileOf pool1 16 #[] #[{ accessFlags := 1, nameIndex := 5, descriptorIndex := 6, attributes := #[] }, { accessFlags := 9, nameIndex := 20, descriptorIndex := 21, attributes := #[] }] 49 2 #[] #[])
  fields := #[]
  methods := #[k1m0, k1m1]
  instanceTypes := #[]
  staticTypes := #[]
  resolved := Array.replicate 25 none
  statics := none }

def pool2 : Array CpInfo := pool [(1, .methodref 2 3), (0, .class_ 4), (0, .nameAndType 5 6), (0, u "java/lang/Object"), (0, u "<init>"), (0, u "()V"), (0, .class_ 8), (0, u "java/lang/Record")] 13

def k2c0 : Code := { maxStack := 1, maxLocals := 1, code := jdk_30_method_1_code, exceptionTable := #[], attributes := #[] }
def k2m0 : Method := { name := "<init>", desc := "()V", sig := { parameters := [], returnType := none }, accessFlags := 4, code := some k2c0 }
/-- java/lang/Record -/
def k2 : Class := { plain "java/lang/Record" (some 0) with
  accessFlags := 1057
  interfaces := #[]
  cf := some (fileOf pool2 7 #[] #[{ accessFlags := 4, nameIndex := 5, descriptorIndex := 6, attributes := #[] }] 1057 2 #[] #[])
  fields := #[]
  methods := #[k2m0]
  instanceTypes := #[]
  staticTypes := #[]
  resolved := Array.replicate 22 none
  statics := none }

def pool3 : Array CpInfo := pool [(1, .methodref 2 3), (0, .class_ 4), (0, .nameAndType 5 6), (0, u "java/lang/Record"), (0, u "<init>"), (0, u "()V"), (0, .fieldref 8 9), (0, .class_ 10), (0, .nameAndType 11 12), (0, u "xlogtap/FileAccess"), (0, u "regularFile"), (0, u "Z"), (0, .fieldref 8 14), (0, .nameAndType 15 16), (0, u "permissions"), (0, u "I"), (0, .fieldref 8 18), (0, .nameAndType 19 16), (0, u "owner"), (32, u "(ZII)V"), (62, u "FILE_TYPE"), (1, u "REGULAR_FILE"), (0, u "PERMISSION_BITS"), (1, u "GROUP_OR_OTHERS"), (1, u "BEYOND_GROUP_READ"), (1, u "ROOT"), (1, u "OWNER_READ"), (1, u "OWNER_WRITE"), (9, u "()Z"), (0, u "keepsKeyPrivate")] 35

def k3c0 : Code := { maxStack := 2, maxLocals := 4, code := prog_28_method_1_code, exceptionTable := #[], attributes := #[] }
def k3m0 : Method := { name := "<init>", desc := "(ZII)V", sig := { parameters := [.boolean, .int, .int], returnType := none }, accessFlags := 0, code := some k3c0 }
def k3c1 : Code := { maxStack := 2, maxLocals := 1, code := prog_28_method_4_code, exceptionTable := #[], attributes := #[] }
def k3m1 : Method := { name := "keepsKeyPrivate", desc := "()Z", sig := { parameters := [], returnType := some .boolean }, accessFlags := 0, code := some k3c1 }
/-- xlogtap/FileAccess -/
def k3 : Class := { plain "xlogtap/FileAccess" (some 2) with
  accessFlags := 48
  interfaces := #[]
  cf := some (fileOf pool3 8 #[] #[{ accessFlags := 0, nameIndex := 5, descriptorIndex := 52, attributes := #[] }, { accessFlags := 0, nameIndex := 139, descriptorIndex := 138, attributes := #[] }] 48 2 #[] #[{ accessFlags := 18, nameIndex := 11, descriptorIndex := 12, attributes := #[] }, { accessFlags := 18, nameIndex := 15, descriptorIndex := 16, attributes := #[] }, { accessFlags := 18, nameIndex := 19, descriptorIndex := 16, attributes := #[] }, { accessFlags := 26, nameIndex := 115, descriptorIndex := 16, attributes := #[] }, { accessFlags := 26, nameIndex := 117, descriptorIndex := 16, attributes := #[] }, { accessFlags := 26, nameIndex := 118, descriptorIndex := 16, attributes := #[] }, { accessFlags := 26, nameIndex := 120, descriptorIndex := 16, attributes := #[] }, { accessFlags := 26, nameIndex := 122, descriptorIndex := 16, attributes := #[] }, { accessFlags := 26, nameIndex := 124, descriptorIndex := 16, attributes := #[] }, { accessFlags := 26, nameIndex := 126, descriptorIndex := 16, attributes := #[] }, { accessFlags := 26, nameIndex := 128, descriptorIndex := 16, attributes := #[] }])
  fields := #[{ name := "regularFile", type := .boolean, accessFlags := 18, slot := 0, constantValue := 0 }, { name := "permissions", type := .int, accessFlags := 18, slot := 1, constantValue := 0 }, { name := "owner", type := .int, accessFlags := 18, slot := 2, constantValue := 0 }, { name := "FILE_TYPE", type := .int, accessFlags := 26, slot := 0, constantValue := 0 }, { name := "REGULAR_FILE", type := .int, accessFlags := 26, slot := 1, constantValue := 0 }, { name := "PERMISSION_BITS", type := .int, accessFlags := 26, slot := 2, constantValue := 0 }, { name := "GROUP_OR_OTHERS", type := .int, accessFlags := 26, slot := 3, constantValue := 0 }, { name := "BEYOND_GROUP_READ", type := .int, accessFlags := 26, slot := 4, constantValue := 0 }, { name := "ROOT", type := .int, accessFlags := 26, slot := 5, constantValue := 0 }, { name := "OWNER_READ", type := .int, accessFlags := 26, slot := 6, constantValue := 0 }, { name := "OWNER_WRITE", type := .int, accessFlags := 26, slot := 7, constantValue := 0 }]
  methods := #[k3m0, k3m1]
  instanceTypes := #[.boolean, .int, .int]
  staticTypes := #[.int, .int, .int, .int, .int, .int, .int, .int]
  resolved := Array.replicate 175 none
  statics := none }

def pool4 : Array CpInfo := pool [(1, u "java/lang/Cloneable"), (0, .class_ 1), (0, u "java/lang/Object"), (0, .class_ 3)] 3

/-- java/lang/Cloneable -/
def k4 : Class := { plain "java/lang/Cloneable" (some 0) with
  accessFlags := 1537
  interfaces := #[]
  cf := some (fileOf pool4 2 #[] #[] 1537 4 #[] #[])
  fields := #[]
  methods := #[]
  instanceTypes := #[]
  staticTypes := #[]
  resolved := Array.replicate 8 none
  statics := none }

def pool5 : Array CpInfo := pool [(1, u "java/io/Serializable"), (0, .class_ 1), (0, u "java/lang/Object"), (0, .class_ 3)] 3

/-- java/io/Serializable -/
def k5 : Class := { plain "java/io/Serializable" (some 0) with
  accessFlags := 1537
  interfaces := #[]
  cf := some (fileOf pool5 2 #[] #[] 1537 4 #[] #[])
  fields := #[]
  methods := #[]
  instanceTypes := #[]
  staticTypes := #[]
  resolved := Array.replicate 8 none
  statics := none }

/-- the primitive byte -/
def k6 : Class := { plain "byte" none with kind := .primitive 'B', accessFlags := 0x411 }
/-- [B -/
def k7 : Class := { plain "[B" (some 0) with kind := .array 6 .byte, interfaces := #[4, 5], accessFlags := 1041 }

/-- the primitive int -/
def k8 : Class := { plain "int" none with kind := .primitive 'I', accessFlags := 0x411 }
/-- [I -/
def k9 : Class := { plain "[I" (some 0) with kind := .array 8 .int, interfaces := #[4, 5], accessFlags := 1041 }

def heap : Heap := #[]
def classes : Array Class := #[k0, k1, k2, k3, k4, k5, k6, k7, k8, k9]
def interned : List (Array UInt16 × Addr) := []
def slotsUsed : Nat := 0
def theMethod : MethodId := ⟨1, 1⟩
def args0 : Array Value := #[.int 5, .int 7, .int 3]
def aboutOver (below : List Frame) : State where
  vm := { classes := classes, interned := interned.toArray }
  heap := heap
  slotsUsed := slotsUsed
  threads := #[{ frames := .invoking theMethod args0 :: below }]
def below0 : List Frame := [.native { method := ⟨0, 0⟩, args := #[] }]
def about1 : State := aboutOver below0
def p0 : Program := .bare "" "" ""
def e0 : Env := launch0.env 0 0 0
theorem w_frames : about1.frames = Frame.invoking theMethod args0 :: below0 := rfl
set_option maxRecDepth 65536 in
theorem w_args : argsFit about1.vm theMethod args0 = true := by decide +kernel
set_option maxRecDepth 65536 in
theorem w_heap : heapFits about1 = true := by decide +kernel
set_option maxRecDepth 65536 in
theorem w_runnable : about1.curStatus? = some .runnable := by decide +kernel
set_option maxRecDepth 65536 in
theorem w_alone : about1.alone = true := by decide +kernel
set_option maxRecDepth 65536 in
theorem w_named : about1.methodNamed? x = some theMethod := by decide +kernel
set_option maxRecDepth 65536 in
theorem w_hears : about1.hears theMethod below0 = true := by decide +kernel
set_option maxRecDepth 65536 in
theorem w_ripe : about1.ripe theMethod args0 below0 = true := by decide +kernel
theorem w_running : about1.status = .running := rfl
set_option maxRecDepth 65536 in
theorem w_room : about1.hasRoom e0.platform room_1 = true :=
  launch0.hasRoom_least _ room_1 (by decide +kernel) (by decide +kernel) (by decide +kernel) (by decide +kernel) (by decide +kernel) (by decide +kernel)
theorem allAtoms_all (ts : List Jvm.Cond) (a : Array Jvm.Value) (st : Jvm.State) : (allAtoms ts).before a st = ts.all (fun c => c.before a st) := by
  induction ts with
  | nil => rfl
  | cons c t ih =>
    show (Jvm.Cond.and c (allAtoms t)).before a st = _
    rw [Jvm.Cond.before_and, ih, List.all_cons]
def words1 : List Jvm.Cond := Jvm.Cond.code x code maxLocals ret :: tables_1
/-- a 'code' word, met by the world's own term for the bytes: nothing is compared byte by byte -/
theorem code_word {y : MethodName} {bytes : ByteArray} {mx : Nat} {rt : Option FieldType} {a : Array Value} {s : State} {m : MethodId} {meth : Method} {c : Code} (h1 : s.methodNamed? y = some m) (h2 : s.vm.method? m = some meth) (h3 : meth.code = some c) (h4 : c.code = bytes)
    (h5 : (c.maxLocals == mx && c.exceptionTable.isEmpty && decide (c.maxStack ≤ mostOperands) && decide (meth.sig.returnType = rt) && !meth.locks && decide (parseMethodDescriptor y.desc = some meth.sig)) = true) : (Jvm.Cond.code y bytes mx rt).before a s = true := by
  simp only [Bool.and_eq_true, beq_iff_eq, Bool.not_eq_true', decide_eq_true_eq] at h5
  obtain ⟨⟨⟨⟨⟨g1, g2⟩, g3⟩, g4⟩, g5⟩, g6⟩ := h5
  simp [Cond.before, Cond.holds, Cond.value, h1, h2, h3, h4, g1, g2, g3, g4, g5, g6]
def isCode : Jvm.Cond → Bool
  | .code _ _ _ _ => true
  | _ => false
theorem all_split {L : List Jvm.Cond} {P : Jvm.Cond → Bool} (h1 : L.all (fun c => isCode c || P c) = true) (h2 : ∀ c ∈ L.filter isCode, P c = true) : L.all P = true := by
  refine List.all_eq_true.mpr fun c hc => ?_
  have h := List.all_eq_true.mp h1 c hc
  rcases Bool.eq_false_or_eq_true (isCode c) with hi | hi
  · exact h2 c (List.mem_filter.mpr ⟨hc, hi⟩)
  · simpa [hi] using h
set_option maxRecDepth 65536 in
theorem w_c0 : (Jvm.Cond.code x code maxLocals ret).before args0 about1 = true := code_word (m := ⟨1, 1⟩) (meth := k1m1) (c := k1c1) (by decide +kernel) rfl rfl rfl (by decide +kernel)
set_option maxRecDepth 65536 in
theorem w_c1 : (Jvm.Cond.code ({ cls := "xlogtap/FileAccess", name := "<init>", desc := "(ZII)V" } : Jvm.MethodName) prog_28_method_1_code (4 : Nat) (Option.none : Option Jvm.ClassFile.FieldType)).before args0 about1 = true := code_word (m := ⟨3, 0⟩) (meth := k3m0) (c := k3c0) (by decide +kernel) rfl rfl rfl (by decide +kernel)
set_option maxRecDepth 65536 in
theorem w_c2 : (Jvm.Cond.code ({ cls := "java/lang/Record", name := "<init>", desc := "()V" } : Jvm.MethodName) jdk_30_method_1_code (1 : Nat) (Option.none : Option Jvm.ClassFile.FieldType)).before args0 about1 = true := code_word (m := ⟨2, 0⟩) (meth := k2m0) (c := k2c0) (by decide +kernel) rfl rfl rfl (by decide +kernel)
set_option maxRecDepth 65536 in
theorem w_c3 : (Jvm.Cond.code ({ cls := "java/lang/Object", name := "<init>", desc := "()V" } : Jvm.MethodName) object_method_1_code (1 : Nat) (Option.none : Option Jvm.ClassFile.FieldType)).before args0 about1 = true := code_word (m := ⟨0, 0⟩) (meth := k0m0) (c := k0c0) (by decide +kernel) rfl rfl rfl (by decide +kernel)
set_option maxRecDepth 65536 in
theorem w_c4 : (Jvm.Cond.code ({ cls := "xlogtap/FileAccess", name := "keepsKeyPrivate", desc := "()Z" } : Jvm.MethodName) prog_28_method_4_code (1 : Nat) (Option.some Jvm.ClassFile.FieldType.boolean)).before args0 about1 = true := code_word (m := ⟨3, 1⟩) (meth := k3m1) (c := k3c1) (by decide +kernel) rfl rfl rfl (by decide +kernel)
def codes1 : List Jvm.Cond := [Jvm.Cond.code x code maxLocals ret, Jvm.Cond.code ({ cls := "xlogtap/FileAccess", name := "<init>", desc := "(ZII)V" } : Jvm.MethodName) prog_28_method_1_code (4 : Nat) (Option.none : Option Jvm.ClassFile.FieldType), Jvm.Cond.code ({ cls := "java/lang/Record", name := "<init>", desc := "()V" } : Jvm.MethodName) jdk_30_method_1_code (1 : Nat) (Option.none : Option Jvm.ClassFile.FieldType), Jvm.Cond.code ({ cls := "java/lang/Object", name := "<init>", desc := "()V" } : Jvm.MethodName) object_method_1_code (1 : Nat) (Option.none : Option Jvm.ClassFile.FieldType), Jvm.Cond.code ({ cls := "xlogtap/FileAccess", name := "keepsKeyPrivate", desc := "()Z" } : Jvm.MethodName) prog_28_method_4_code (1 : Nat) (Option.some Jvm.ClassFile.FieldType.boolean)]
set_option maxRecDepth 65536 in
theorem codes_eq : words1.filter isCode = codes1 := rfl
theorem w_codes : ∀ c ∈ words1.filter isCode, c.before args0 about1 = true := by
  rw [codes_eq]
  intro c hc
  simp only [codes1, List.mem_cons, List.not_mem_nil, or_false] at hc
  rcases hc with rfl | rfl | rfl | rfl | rfl
  · exact w_c0
  · exact w_c1
  · exact w_c2
  · exact w_c3
  · exact w_c4
set_option maxRecDepth 65536 in
theorem w_t1 : (words1.take 24).all (fun c => isCode c || c.before args0 about1) = true := by decide +kernel
set_option maxRecDepth 65536 in
theorem w_t2 : (words1.drop 24).all (fun c => isCode c || c.before args0 about1) = true := by decide +kernel
theorem w_tables : (allAtoms (Jvm.Cond.code x code maxLocals ret :: tables_1)).before args0 about1 = true := by
  rw [allAtoms_all]
  show words1.all (fun c => c.before args0 about1) = true
  refine all_split ?_ w_codes
  rw [← List.take_append_drop 24 words1, List.all_append, w_t1, w_t2]
  rfl
set_option maxRecDepth 65536 in
theorem w_case : (Jvm.Cond.and given_1 narrow_1).before args0 about1 = true := by decide +kernel
theorem w_applies : (headSpec (Jvm.Cond.code x code maxLocals ret :: tables_1) room_1).applies x e0.platform about1 = true :=
  (Spec.applies_iff w_frames).mpr ⟨w_running, w_runnable, w_alone, w_named, w_hears, w_ripe, w_room, w_tables⟩
theorem atStart : AtStart classFile x code maxLocals ret World_1 tables_1 room_1 Calls_1 rest_1 Pre_1 launch0 p0 e0 about1 theMethod args0 below0 :=
  ⟨lists_1, trivial, launch0.admits_env _ _ _, launch0.least_env, fairChoices_fair.cas, fairChoices_fair.clock, w_frames, w_args, w_heap, w_applies, trivial, trivial, w_case⟩
end start1
theorem witness_1 : WitnessClaimed_1 := ⟨start1.p0, start1.e0, start1.about1, start1.theMethod, start1.args0, start1.below0, start1.atStart⟩
end Jvm.Pilot.@@N@@
